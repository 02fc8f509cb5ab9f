import PyProof.Rows.All
import Wide.All
import OpenK.AllK
import Wide.FinOn
import PySem.Challenge.RW_kg0002_01
open PySem PySem.W PyProof PyProof.Rows
set_option Elab.async false
namespace Mine

/-- the signs of a text: so many blanks, an x, letters, an x, so many blanks -/
def padded (a : Nat) (js : List Nat) (b : Nat) : List Nat := List.replicate a 32 ++ (120 :: (js ++ [120])) ++ List.replicate b 32

def Shape (S : PySem.Str) (a b : Int) (js : List Nat) : Prop :=
  0 ≤ a ∧ 0 ≤ b ∧ (js.length ≤ 63 ∧ a < 60 ∧ b < 60) ∧ S.cps.toList = padded a.toNat js b.toNat
theorem Shape.a0 {S : PySem.Str} {a b : Int} {js : List Nat} (h : Shape S a b js) : 0 ≤ a := And.left h
theorem Shape.b0 {S : PySem.Str} {a b : Int} {js : List Nat} (h : Shape S a b js) : 0 ≤ b := And.left (And.right h)
theorem Shape.few {S : PySem.Str} {a b : Int} {js : List Nat} (h : Shape S a b js) : js.length ≤ 63 ∧ a < 60 ∧ b < 60 := And.left (And.right (And.right h))
theorem Shape.cps {S : PySem.Str} {a b : Int} {js : List Nat} (h : Shape S a b js) : S.cps.toList = padded a.toNat js b.toNat := And.right (And.right (And.right h))
theorem Shape.intro {S : PySem.Str} {a b : Int} {js : List Nat} (h1 : 0 ≤ a) (h2 : 0 ≤ b) (h3 : js.length ≤ 63 ∧ a < 60 ∧ b < 60) (h4 : S.cps.toList = padded a.toNat js b.toNat) : Shape S a b js := And.intro h1 (And.intro h2 (And.intro h3 h4))

theorem padded_length (a : Nat) (js : List Nat) (b : Nat) : (padded a js b).length = a + (js.length + 2) + b := by
  simp [padded]; omega

theorem padded_left {a : Nat} {js : List Nat} {b i : Nat} (h : i < a) : (padded a js b)[i]? = some 32 := by
  simp [padded, List.getElem?_append, h]

theorem padded_x {a : Nat} {js : List Nat} {b : Nat} : (padded a js b)[a]? = some 120 := by
  simp [padded]

theorem padded_right {a : Nat} {js : List Nat} {b j : Nat} (h : j < b) : (padded a js b)[a + (js.length + 2) + b - 1 - j]? = some 32 := by
  unfold padded
  rw [List.getElem?_append_right (by simp; omega), List.getElem?_replicate]
  rw [if_pos (by simp; omega)]

theorem padded_y {a : Nat} {js : List Nat} {b : Nat} : (padded a js b)[a + (js.length + 1)]? = some 120 := by
  unfold padded
  rw [List.getElem?_append_left (by simp), List.getElem?_append_right (by simp)]
  simp

theorem padded_cut {a : Nat} {js : List Nat} {b l j : Nat} (hl : l ≤ a) (hj : j ≤ b) :
    ((padded a js b).drop l).take (a + (js.length + 2) + b - j - l) = padded (a - l) js (b - j) := by
  apply List.ext_getElem?
  intro i
  unfold padded
  simp only [List.getElem?_take, List.getElem?_drop, List.getElem?_append, List.getElem?_replicate, List.length_append, List.length_replicate, List.length_cons, List.length_nil]
  split
  · by_cases h1 : l + i < a
    · have e1 : l + i < a + (js.length + (0 + 1) + 1) := by omega
      have e2 : i < a - l + (js.length + (0 + 1) + 1) := by omega
      have e3 : i < a - l := by omega
      simp [h1, e1, e2, e3]
    · have e3 : ¬ i < a - l := by omega
      have e4 : l + i - a = i - (a - l) := by omega
      by_cases h2 : l + i < a + (js.length + (0 + 1) + 1)
      · have e2 : i < a - l + (js.length + (0 + 1) + 1) := by omega
        simp [h1, h2, e2, e3, e4]
      · have e2 : ¬ i < a - l + (js.length + (0 + 1) + 1) := by omega
        rw [if_neg h2, if_neg e2]
        have e5 : l + i - (a + (js.length + (0 + 1) + 1)) < b := by omega
        have e6 : i - (a - l + (js.length + (0 + 1) + 1)) < b - j := by omega
        rw [if_pos e5, if_pos e6]
  · rw [if_neg (by omega), if_neg (by omega)]

section
variable {S : PySem.Str} {a b : Int} {js : List Nat}

theorem Shape.len (h : Shape S a b js) : (S.length : Int) = a + (js.length + 2) + b := by
  have e : S.length = S.cps.toList.length := by simp [PySem.Str.length]
  rw [e, h.cps, padded_length]
  have := h.a0
  have := h.b0
  omega

theorem item_at {x : PySem.Str} {i : Int} {c : Nat} (h0 : 0 ≤ i) (h : x.cps.toList[i.toNat]? = some c) : Txt.item x i = ⟨#[c]⟩ := by
  have h' : x.cps[i.toNat]? = some c := by rw [← h]; simp
  unfold Txt.item Txt.charAt
  rw [StrLaws.at_nonneg h0 h']
  rfl

theorem sp_eq : PySem.Str.ofString " " = ⟨#[32]⟩ := by decide +kernel
theorem x_eq : PySem.Str.ofString "x" = ⟨#[120]⟩ := by decide +kernel

theorem Shape.left (h : Shape S a b js) {i : Int} (h0 : 0 ≤ i) (h1 : i < a) : Txt.item S i = PySem.Str.ofString " " := by
  rw [sp_eq]
  refine item_at h0 ?_
  rw [h.cps]
  exact padded_left (by omega)

theorem Shape.x (h : Shape S a b js) : Txt.item S a ≠ PySem.Str.ofString " " := by
  rw [sp_eq, item_at (c := 120) h.a0 (by rw [h.cps]; exact padded_x)]
  decide

theorem Shape.right (h : Shape S a b js) {j : Int} (h0 : 0 ≤ j) (h1 : j < b) : Txt.item S ((S.length : Int) - 1 - j) = PySem.Str.ofString " " := by
  have hl := h.len
  have ha := h.a0
  rw [sp_eq]
  refine item_at (by omega) ?_
  rw [h.cps]
  have e : ((S.length : Int) - 1 - j).toNat = a.toNat + (js.length + 2) + b.toNat - 1 - j.toNat := by omega
  rw [e]
  exact padded_right (by omega)

theorem Shape.y (h : Shape S a b js) : Txt.item S ((S.length : Int) - 1 - b) ≠ PySem.Str.ofString " " := by
  have hl := h.len
  have ha := h.a0
  have hb := h.b0
  rw [sp_eq, item_at (c := 120) (by omega) ?_]
  · decide
  · rw [h.cps]
    have e : ((S.length : Int) - 1 - b).toNat = a.toNat + (js.length + 1) := by omega
    rw [e]
    exact padded_y

theorem Shape.cut (h : Shape S a b js) {l r : Int} (h0 : 0 ≤ l) (h1 : l ≤ a) (h2 : (S.length : Int) - 1 - b ≤ r) (h3 : r ≤ (S.length : Int) - 1) :
    Shape (Txt.slice S (some l) (some (r + 1))) (a - l) (b - ((S.length : Int) - 1 - r)) js := by
  have hl := h.len
  have ha := h.a0
  have hb := h.b0
  have hf := h.few
  refine Shape.intro (by omega) (by omega) ⟨by omega, by omega, by omega⟩ ?_
  rw [eq_of_beq (slice_closesL (x := S) (i := l) (j := r + 1) h0 (by omega) (by omega))]
  show (S.cps.toList.drop l.toNat).take (r + 1 - l).toNat = _
  rw [h.cps]
  have e := padded_cut (a := a.toNat) (js := js) (b := b.toNat) (l := l.toNat) (j := ((S.length : Int) - 1 - r).toNat) (by omega) (by omega)
  have e1 : a.toNat + (js.length + 2) + b.toNat - ((S.length : Int) - 1 - r).toNat - l.toNat = (r + 1 - l).toNat := by omega
  have e2 : a.toNat - l.toNat = (a - l).toNat := by omega
  have e3 : b.toNat - ((S.length : Int) - 1 - r).toNat = (b - ((S.length : Int) - 1 - r)).toNat := by omega
  rw [e1, e2, e3] at e
  exact e

theorem Shape.eq {T : PySem.Str} {a' b' : Int} (h : Shape S a b js) (h' : Shape T a' b' js) (ea : a = a') (eb : b = b') : S = T := by
  subst ea eb
  refine PySem.Str.ext' (Array.toList_inj.mp ?_)
  rw [h.cps, h'.cps]
end

/-- a text of blanks -/
def Blanks (B : PySem.Str) (k : Int) : Prop := 0 ≤ k ∧ k < 60 ∧ B.cps.toList = List.replicate k.toNat 32
theorem Blanks.k0 {B : PySem.Str} {k : Int} (h : Blanks B k) : 0 ≤ k := And.left h
theorem Blanks.k1 {B : PySem.Str} {k : Int} (h : Blanks B k) : k < 60 := And.left (And.right h)
theorem Blanks.cps {B : PySem.Str} {k : Int} (h : Blanks B k) : B.cps.toList = List.replicate k.toNat 32 := And.right (And.right h)
/-- an x and letters -/
def MidA (z : PySem.Str) (js : List Nat) : Prop := js.length ≤ 63 ∧ z.cps.toList = 120 :: js
theorem MidA.few {z : PySem.Str} {js : List Nat} (h : MidA z js) : js.length ≤ 63 := And.left h
theorem MidA.cps {z : PySem.Str} {js : List Nat} (h : MidA z js) : z.cps.toList = 120 :: js := And.right h
/-- what lies between the blanks -/
def Mid (M : PySem.Str) (js : List Nat) : Prop := js.length ≤ 63 ∧ M.cps.toList = 120 :: (js ++ [120])
theorem Mid.few {M : PySem.Str} {js : List Nat} (h : Mid M js) : js.length ≤ 63 := And.left h
theorem Mid.cps {M : PySem.Str} {js : List Nat} (h : Mid M js) : M.cps.toList = 120 :: (js ++ [120]) := And.right h
/-- blanks and what lies between -/
def Half (T : PySem.Str) (a : Int) (js : List Nat) : Prop :=
  0 ≤ a ∧ a < 60 ∧ js.length ≤ 63 ∧ T.cps.toList = List.replicate a.toNat 32 ++ (120 :: (js ++ [120]))
theorem Half.a0 {T : PySem.Str} {a : Int} {js : List Nat} (h : Half T a js) : 0 ≤ a := And.left h
theorem Half.a1 {T : PySem.Str} {a : Int} {js : List Nat} (h : Half T a js) : a < 60 := And.left (And.right h)
theorem Half.few {T : PySem.Str} {a : Int} {js : List Nat} (h : Half T a js) : js.length ≤ 63 := And.left (And.right (And.right h))
theorem Half.cps {T : PySem.Str} {a : Int} {js : List Nat} (h : Half T a js) : T.cps.toList = List.replicate a.toNat 32 ++ (120 :: (js ++ [120])) := And.right (And.right (And.right h))

theorem len_toList (x : PySem.Str) : x.length = x.cps.toList.length := by simp [PySem.Str.length]
theorem Blanks.of {k : Int} (h : 0 ≤ k) (h1 : k < 60) : Blanks (Txt.mul (PySem.Str.ofString " ") k) k :=
  And.intro h (And.intro h1 (by rw [sp_eq, mul_one_list]))
theorem Blanks.len {B : PySem.Str} {k : Int} (h : Blanks B k) : B.length ≤ 60 := by
  have h0 := h.k0
  have h1 := h.k1
  rw [len_toList, h.cps, List.length_replicate]
  omega
theorem MidA.of {J : PySem.Str} (h : J.length ≤ 63) : MidA (PySem.Str.ofString "x" ++ J) J.cps.toList := by
  refine And.intro (by rw [← len_toList]; exact h) ?_
  rw [x_eq, PySem.Str.cps_append]
  simp
theorem MidA.len {z : PySem.Str} {js : List Nat} (h : MidA z js) : z.length ≤ 64 := by
  have h0 := h.few
  rw [len_toList, h.cps, List.length_cons]
  omega
theorem Mid.of {z : PySem.Str} {js : List Nat} (h : MidA z js) : Mid (z ++ PySem.Str.ofString "x") js := by
  refine And.intro h.few ?_
  rw [x_eq, PySem.Str.cps_append, Array.toList_append, h.cps]
  simp
theorem Mid.len {M : PySem.Str} {js : List Nat} (h : Mid M js) : M.length ≤ 65 := by
  have h0 := h.few
  rw [len_toList, h.cps]
  simp only [List.length_cons, List.length_append, List.length_nil]
  omega
theorem Half.of {A M : PySem.Str} {a : Int} {js : List Nat} (hA : Blanks A a) (hM : Mid M js) : Half (A ++ M) a js := by
  refine And.intro hA.k0 (And.intro hA.k1 (And.intro hM.few ?_))
  rw [PySem.Str.cps_append, Array.toList_append, hA.cps, hM.cps]
theorem Half.len {T : PySem.Str} {a : Int} {js : List Nat} (h : Half T a js) : T.length ≤ 125 := by
  have h0 := h.few
  have h1 := h.a1
  rw [len_toList, h.cps]
  simp only [List.length_cons, List.length_append, List.length_nil, List.length_replicate]
  omega
theorem Shape.of {T B : PySem.Str} {a b : Int} {js : List Nat} (hT : Half T a js) (hB : Blanks B b) : Shape (T ++ B) a b js := by
  refine Shape.intro hT.a0 hB.k0 ⟨hT.few, hT.a1, hB.k1⟩ ?_
  rw [PySem.Str.cps_append, Array.toList_append, hT.cps, hB.cps]
  rfl

/-- ahead: what the first loop has taken -/
def Inv1 (S : PySem.Str) (c l m : Int) : Prop :=
  0 ≤ l ∧ 0 ≤ m ∧ l + m = c ∧ ∀ i, 0 ≤ i → i < l → Txt.item S i = PySem.Str.ofString " "
theorem Inv1.l0 {S : PySem.Str} {c l m : Int} (h : Inv1 S c l m) : 0 ≤ l := And.left h
theorem Inv1.m0 {S : PySem.Str} {c l m : Int} (h : Inv1 S c l m) : 0 ≤ m := And.left (And.right h)
theorem Inv1.sum {S : PySem.Str} {c l m : Int} (h : Inv1 S c l m) : l + m = c := And.left (And.right (And.right h))
theorem Inv1.bl {S : PySem.Str} {c l m : Int} (h : Inv1 S c l m) : ∀ i, 0 ≤ i → i < l → Txt.item S i = PySem.Str.ofString " " := And.right (And.right (And.right h))
theorem Inv1.intro {S : PySem.Str} {c l m : Int} (h1 : 0 ≤ l) (h2 : 0 ≤ m) (h3 : l + m = c) (h4 : ∀ i, 0 ≤ i → i < l → Txt.item S i = PySem.Str.ofString " ") : Inv1 S c l m := And.intro h1 (And.intro h2 (And.intro h3 h4))
/-- behind: what the second loop has taken (n: the amount that it began with) -/
def Inv2 (S : PySem.Str) (n r m : Int) : Prop :=
  r ≤ (S.length : Int) - 1 ∧ 0 ≤ m ∧ (S.length : Int) - 1 - r + m = n ∧ ∀ j, 0 ≤ j → (S.length : Int) - 1 - j > r → Txt.item S ((S.length : Int) - 1 - j) = PySem.Str.ofString " "
theorem Inv2.r1 {S : PySem.Str} {n r m : Int} (h : Inv2 S n r m) : r ≤ (S.length : Int) - 1 := And.left h
theorem Inv2.m0 {S : PySem.Str} {n r m : Int} (h : Inv2 S n r m) : 0 ≤ m := And.left (And.right h)
theorem Inv2.sum {S : PySem.Str} {n r m : Int} (h : Inv2 S n r m) : (S.length : Int) - 1 - r + m = n := And.left (And.right (And.right h))
theorem Inv2.bl {S : PySem.Str} {n r m : Int} (h : Inv2 S n r m) : ∀ j, 0 ≤ j → (S.length : Int) - 1 - j > r → Txt.item S ((S.length : Int) - 1 - j) = PySem.Str.ofString " " := And.right (And.right (And.right h))
theorem Inv2.intro {S : PySem.Str} {n r m : Int} (h1 : r ≤ (S.length : Int) - 1) (h2 : 0 ≤ m) (h3 : (S.length : Int) - 1 - r + m = n) (h4 : ∀ j, 0 ≤ j → (S.length : Int) - 1 - j > r → Txt.item S ((S.length : Int) - 1 - j) = PySem.Str.ofString " ") : Inv2 S n r m := And.intro h1 (And.intro h2 (And.intro h3 h4))

theorem Inv1.start {S : PySem.Str} {c : Int} (h : 0 ≤ c) : Inv1 S c 0 c := Inv1.intro (by omega) h (by omega) fun i h0 h1 => absurd h1 (by omega)
theorem Inv1.next {S : PySem.Str} {c l m : Int} (h : Inv1 S c l m) (hm : m ≠ 0) (he : Txt.item S l = PySem.Str.ofString " ") : Inv1 S c (l + 1) (m - 1) := by
  have h0 := h.l0
  have h1 := h.m0
  have h2 := h.sum
  refine Inv1.intro (by omega) (by omega) (by omega) fun i hi hl => ?_
  by_cases e : i = l
  · rw [e]; exact he
  · exact h.bl i hi (by omega)
theorem Inv1.le {S : PySem.Str} {c l m a b : Int} {js : List Nat} (h : Inv1 S c l m) (hS : Shape S a b js) : 0 ≤ l ∧ l ≤ a ∧ 0 ≤ m ∧ l + m = c ∧ 0 ≤ a ∧ 0 ≤ b ∧ (S.length : Int) = a + (js.length + 2) + b := by
  refine ⟨h.l0, ?_, h.m0, h.sum, hS.a0, hS.b0, hS.len⟩
  apply Classical.byContradiction
  intro hn
  exact hS.x (h.bl a hS.a0 (by omega))
theorem Inv1.stop {S : PySem.Str} {c l m a b : Int} {js : List Nat} (h : Inv1 S c l m) (hS : Shape S a b js) (hs : Txt.item S l ≠ PySem.Str.ofString " ") : l = a := by
  have hl := h.le hS
  apply Classical.byContradiction
  intro hn
  exact hs (hS.left hl.1 (by omega))
theorem Inv2.start {S : PySem.Str} {c : Int} (h : 0 ≤ c) : Inv2 S c ((S.length : Int) - 1) c := Inv2.intro (by omega) h (by omega) fun i h0 h1 => absurd h1 (by omega)
theorem Inv2.next {S : PySem.Str} {n r m : Int} (h : Inv2 S n r m) (hm : m ≠ 0) (he : Txt.item S r = PySem.Str.ofString " ") : Inv2 S n (r - 1) (m - 1) := by
  have h0 := h.r1
  have h1 := h.m0
  have h2 := h.sum
  refine Inv2.intro (by omega) (by omega) (by omega) fun j hj hl => ?_
  by_cases e : (S.length : Int) - 1 - j = r
  · rw [e]; exact he
  · exact h.bl j hj (by omega)
theorem Inv2.le {S : PySem.Str} {n r m a b : Int} {js : List Nat} (h : Inv2 S n r m) (hS : Shape S a b js) : r ≤ (S.length : Int) - 1 ∧ (S.length : Int) - 1 - b ≤ r ∧ 0 ≤ m ∧ (S.length : Int) - 1 - r + m = n ∧ 0 ≤ a ∧ 0 ≤ b ∧ (S.length : Int) = a + (js.length + 2) + b := by
  refine ⟨h.r1, ?_, h.m0, h.sum, hS.a0, hS.b0, hS.len⟩
  apply Classical.byContradiction
  intro hn
  exact hS.y (h.bl b hS.b0 (by omega))
theorem Inv2.stop {S : PySem.Str} {n r m a b : Int} {js : List Nat} (h : Inv2 S n r m) (hS : Shape S a b js) (hs : Txt.item S r ≠ PySem.Str.ofString " ") : r = (S.length : Int) - 1 - b := by
  have hl := h.le hS
  apply Classical.byContradiction
  intro hn
  have e := hS.right (j := (S.length : Int) - 1 - r) (by omega) (by omega)
  have e2 : (S.length : Int) - 1 - ((S.length : Int) - 1 - r) = r := by omega
  rw [e2] at e
  exact hs e
end Mine

namespace Mine
theorem three_ints {vs : List Value} {ns : List Int} (h : IntsAre vs (List.take 3 (ns ++ [0, 0, 0]))) :
    ∃ (a b c : Int) (t u v : Tok), vs = [.int a t, .int b u, .int c v] := by
  have hlen : (List.take 3 (ns ++ [0, 0, 0])).length = 3 := by simp
  generalize List.take 3 (ns ++ [0, 0, 0]) = q at h hlen
  match q, hlen with
  | [a, b, c], _ =>
    obtain ⟨t, vs1, rfl, h1⟩ := h.cons_inv
    obtain ⟨u, vs2, rfl, h2⟩ := h1.cons_inv
    obtain ⟨v, vs3, rfl, h3⟩ := h2.cons_inv
    rw [h3.nil_inv]
    exact ⟨a, b, c, t, u, v, rfl⟩
section
variable {prog : Program} {w : World} {A : Around} {E : Value → Shared → Prop} {s : Shared} {t u : Tok} {Q : Value → Shared → Prop} {h₀ : Heap} {L : Addr} {m : PySem.Str → Option Value} {pm : PySem.Str → Option Value} {news : List (Addr × Obj)}
theorem mod_any {a n : Int} (hn : 0 < n) (h : ∀ k, 0 ≤ k → k < n → Q (.int k s.toks) { s with toks := s.toks + 1 }) : wpAny (model prog w) A (binaryOp .Mod (.int a t) (.int n u)) Q E s :=
  mod_int' (by omega) (h _ (Int.fmod_nonneg_of_pos a hn) (Int.fmod_lt_of_pos a hn))
theorem max_any {a b : Int} (hh : A.handled = none) (F : Fr h₀ L s.heap m) (N : News h₀ L s.heap news)
    (h : ∀ h' tk r t', Fr h₀ L h' m → News h₀ L h' news → a ≤ r → b ≤ r → r = a ∨ r = b → Q (.int r t') { s with heap := h', toks := tk }) :
    wpAny (model prog w) A (call (.builtin "max") [.int a t, .int b u]) Q E s :=
  max_two_N hh F N fun h' tk F' N' => h h' tk _ _ F' N' (by split <;> omega) (by split <;> omega) (by split <;> simp)
theorem join_any {D : Addr} {ys : List Value} {l : List Int} {g : Int → PySem.Str} (hl : s.heap.IsList D ys.toArray) (hc : CarriedAll ys (l.map fun a => PyData.str (g a))) (h1 : ∀ a ∈ l, (g a).length = 1) (hn : l.length ≤ 63)
    (h : ∀ J t' k, PySem.Str.length J ≤ 63 → Q (.str J t') { s with toks := k }) : wpAny (model prog w) A (call (.builtin "str.join") [.str (PySem.Str.ofString "") t, .ref D]) Q E s :=
  KT.join_1 hl hc h1 (by omega) fun t' k e => h _ t' k (by omega)
theorem mul_any {k : Int} (h0 : 0 ≤ k) (h1 : k < 60) (h : ∀ B t' tk, Blanks B k → Q (.str B t') { s with toks := tk }) : wpAny (model prog w) A (binaryOp .Mult (.str (PySem.Str.ofString " ") t) (.int k u)) Q E s :=
  KXi.mul (n := 1) (by decide +kernel) (by decide) (by omega) (by omega) fun t' tk _ _ => h _ t' tk (Blanks.of h0 h1)
theorem add_x1 {J : PySem.Str} (hJ : PySem.Str.length J ≤ 63) (h : ∀ z js t' tk, MidA z js → Q (.str z t') { s with toks := tk }) : wpAny (model prog w) A (binaryOp .Add (.str (PySem.Str.ofString "x") t) (.str J u)) Q E s :=
  KXadd.add (K := 1) (L := 63) (by decide +kernel) hJ (by decide) fun t' tk _ => h _ _ t' tk (MidA.of hJ)
theorem add_x2 {z : PySem.Str} {js : List Nat} (hz : MidA z js) (h : ∀ M t' tk, Mid M js → Q (.str M t') { s with toks := tk }) : wpAny (model prog w) A (binaryOp .Add (.str z t) (.str (PySem.Str.ofString "x") u)) Q E s :=
  KXadd.add (K := 64) (L := 1) hz.len (by decide +kernel) (by decide) fun t' tk _ => h _ t' tk (Mid.of hz)
theorem add_half {B M : PySem.Str} {a : Int} {js : List Nat} (hB : Blanks B a) (hM : Mid M js) (h : ∀ T t' tk, Half T a js → Q (.str T t') { s with toks := tk }) : wpAny (model prog w) A (binaryOp .Add (.str B t) (.str M u)) Q E s :=
  KXadd.add (K := 60) (L := 65) hB.len hM.len (by decide) fun t' tk _ => h _ t' tk (Half.of hB hM)
theorem add_full {T B : PySem.Str} {a b : Int} {js : List Nat} (hT : Half T a js) (hB : Blanks B b) (h : ∀ S t' tk, Shape S a b js → Q (.str S t') { s with toks := tk }) : wpAny (model prog w) A (binaryOp .Add (.str T t) (.str B u)) Q E s :=
  KXadd.add (K := 125) (L := 60) hT.len hB.len (by decide) fun t' tk _ => h _ t' tk (Shape.of hT hB)
theorem item_1 {value slice : PySem.Expr} {S : PySem.Str} {c l m a b : Int} {js : List Nat} (hS : Shape S a b js) (hI : Inv1 S c l m) (h : Q (.str (Txt.item S l) s.toks) { s with toks := s.toks + 1 })
    (hs : subscripted slice false (.str S t) (.int l u) = operate [.str S t, .int l u] (getItem (.str S t) (.int l u)) := by with_unfolding_all rfl)
    (ht : ∀ r, letTemporaryGo value (.str S t) r = pure () := by intro _; with_unfolding_all rfl) :
    wpAny (model prog w) A (subscriptTail value slice (.str S t) (.int l u)) Q E s := by
  have e := hI.le hS
  have f := hS.few
  exact item_str (fitsSsize_of (N := 9223372036854775808) (by omega) (by omega) (Int.le_refl _)) (by omega) (by omega) (fun _ => h) hs ht
theorem item_2 {value slice : PySem.Expr} {S : PySem.Str} {n r m a b : Int} {js : List Nat} (hS : Shape S a b js) (hI : Inv2 S n r m) (h : Q (.str (Txt.item S r) s.toks) { s with toks := s.toks + 1 })
    (hs : subscripted slice false (.str S t) (.int r u) = operate [.str S t, .int r u] (getItem (.str S t) (.int r u)) := by with_unfolding_all rfl)
    (ht : ∀ r, letTemporaryGo value (.str S t) r = pure () := by intro _; with_unfolding_all rfl) :
    wpAny (model prog w) A (subscriptTail value slice (.str S t) (.int r u)) Q E s := by
  have e := hI.le hS
  have f := hS.few
  exact item_str (fitsSsize_of (N := 9223372036854775808) (by omega) (by omega) (Int.le_refl _)) (by omega) (by omega) (fun _ => h) hs ht
theorem eq_two {x y : PySem.Str} (h1 : x = y → Q (.bool true) s) (h2 : x ≠ y → Q (.bool false) s) : wpAny (model prog w) A (compareOp .Eq (.str x t) (.str y u)) Q E s := by
  refine eq_str ?_
  by_cases e : x = y
  · subst e
    have e2 : (x == x) = true := by simp
    rw [e2]
    exact h1 rfl
  · have e2 : (x == y) = false := by simpa using e
    rw [e2]
    exact h2 e
theorem eq_shape {x y : PySem.Str} {a b a' b' : Int} {js : List Nat} (hx : Shape x a b js) (hy : Shape y a' b' js) (ea : a = a') (eb : b = b') (h : Q (.bool true) s) : wpAny (model prog w) A (compareOp .Eq (.str x t) (.str y u)) Q E s :=
  eq_two (fun _ => h) fun hn => absurd (hx.eq hy ea eb) hn
theorem len_any {S : PySem.Str} {a b : Int} {js : List Nat} (hS : Shape S a b js) (h : Q (.int S.length (s.toks + 1)) { s with toks := s.toks + 1 + 1 }) : wpAny (model prog w) A (call (.builtin "len") [.str S t]) Q E s := by
  have e := hS.len
  have f := hS.few
  exact PySem.P.len_str (by omega) h
theorem slice_any {value slice : PySem.Expr} {S : PySem.Str} {c l r m m' a b j : Int} {ui uj : Tok} {js : List Nat} (hS : Shape S a b js) (h1 : Inv1 S c l m) (h2 : Inv2 S m r m') (d1 : m = 0 ∨ Txt.item S l ≠ PySem.Str.ofString " ") (d2 : m' = 0 ∨ Txt.item S r ≠ PySem.Str.ofString " ") (hj : j = r + 1) (hF : Fr h₀ L s.heap pm) (hN : News h₀ L s.heap news)
    (h : ∀ R h' t' k x y, Fr h₀ L h' pm → News h₀ L h' news → Shape R x y js → 0 ≤ x → a - c ≤ x → (x = 0 ∨ x = a - c) → 0 ≤ y → ((a ≤ c ∧ b - (c - a) ≤ y ∧ (y = 0 ∨ y = b - (c - a))) ∨ (c < a ∧ y = b)) → Q (.str R t') { s with heap := h', toks := k })
    (hs : subscripted slice false (.str S t) (.ref s.heap.objs.size) = operate [.ref s.heap.objs.size, .str S t] (getItem (.str S t) (.ref s.heap.objs.size)) := by with_unfolding_all rfl)
    (ht : ∀ r, letTemporaryGo value (.str S t) r = pure () := by intro _; with_unfolding_all rfl) :
    wpAny (model prog w) A (subscriptTail value slice (.str S t) (.ref s.heap.objs.size)) Q E { s with heap := s.heap.push { cls := .type "slice", data := .fields #[.int l ui, .int j uj, .none] } } := by
  have e1 := h1.le hS
  have e2 := h2.le hS
  have f := hS.few
  have g1 : m = 0 ∨ l = a := d1.imp id (h1.stop hS)
  have g2 : m' = 0 ∨ r = (S.length : Int) - 1 - b := d2.imp id (h2.stop hS)
  subst hj
  exact slice_strN_ss hF hN (fun h' t' k F' N' => h _ h' t' k _ _ F' N' (hS.cut (l := l) (r := r) (by omega) (by omega) (by omega) (by omega)) (by omega) (by omega) (by omega) (by omega) (by omega)) hs ht (by rw [sizeLine_eq]; omega)
end
end Mine

local macro_rules | `(tactic| walk_at "execs cons") => `(tactic| (k_here; dsimp only; walk_at "execs cons"))
local macro_rules | `(tactic| walk_at "assign Tuple") => `(tactic| (k_here; (with_reducible show wpAny _ _ (assign (Expr.Tuple _ _ _) _ (Value.ref _)) _ _ _); (rename IntsAre _ (List.take 3 (_ ++ _)) => hJ); (have hq := Mine.three_ints hJ); clear hJ; (obtain ⟨qa, qb, qc, qt, qu, qv, hq⟩ := hq); (subst hq); k_dflt (refine' kun_list ?k1 ?k2 ?k3 ?k4 ?k5 ?k6 ?_; (case k1 => k_asm); (case k2 => k_asm); (case k3 => kun_lst); (case k4 => exact rfl); (case k5 => exact rfl); (case k6 => exact rfl); k_whole); intro h' F' N'; (try k_sweep)))
local macro_rules | `(tactic| walk_at "CompSrc") => `(tactic| (k_here; (try k_fmods); (try kcf_lens); k_dflt (refine LCg.CompSrc.ledger (by rfl) (by k_asm) (by k_asm) (by k_mem) (by kcf_size) ?_; intro g'; (refine' kct_list (fun k => PySem.Txt.item (PySem.Str.ofString " a") (k.fmod 2)) (by first | assumption | l_ints) (fun k' t' I' oI' C' oC' D' m' ys' h' tk' E' hk' hC' hx' F' N' off' ne' hMark' => ?_) ?_); (all_goals (try (simp only [LCg.Off3, and_true] at off'))); kcf_last)))
local macro_rules | `(tactic| walk_at "binaryOp Mod int int") => `(tactic| (k_here; (first | (with_reducible show wpAny _ _ (binaryOp Operator.Mod _ (Value.int 60 _)) _ _ _) | (with_reducible show wpAny _ _ (binaryOp Operator.Mod _ (Value.int 200 _)) _ _ _)); (refine Mine.mod_any (by decide) ?_); intro qk hlo hhi))
local macro_rules | `(tactic| walk_at "call builtin:max") => `(tactic| (k_here; (with_reducible show wpAny _ _ (call (Value.builtin "max") [Value.int _ _, Value.int _ _]) _ _ _); k_dflt (refine Mine.max_any (by exact rfl) (by k_asm) (by k_asm) ?_); intro h' tk' qr qt F' N' hge1 hge2 hor; (try k_sweep)))
local macro_rules | `(tactic| walk_at "call builtin:str.join") => `(tactic| (k_here; (with_reducible show wpAny _ _ (call (Value.builtin "str.join") [Value.str _ _, Value.ref _]) _ _ _); (with_reducible rename CarriedAll _ (List.map _ _) => ktC); (refine Mine.join_any (by first | assumption | is_list | exact News.isList (by k_asm) (by k_mem)) ktC (by intro ktA ktM; with_unfolding_all rfl) (by first | omega | kt_fact) ?_; intro qJ qt qk hJlen)))
local macro_rules | `(tactic| walk_at "binaryOp Mult str int") => `(tactic| (k_here; (with_reducible show wpAny _ _ (binaryOp Operator.Mult (Value.str (PySem.Str.ofString " ") _) (Value.int _ _)) _ _ _); (refine Mine.mul_any (by omega) (by omega) ?_); intro qB qt qk hBl))
local macro_rules | `(tactic| walk_at "binaryOp Add str str") => `(tactic| (k_here; (with_reducible show wpAny _ _ (binaryOp Operator.Add (Value.str _ _) (Value.str _ _)) _ _ _); (first
  | (with_reducible refine Mine.add_x1 (by with_reducible assumption) ?_; intro qz qjs qt qk hMA)
  | (with_reducible refine Mine.add_x2 (by with_reducible assumption) ?_; intro qM qt qk hMid)
  | (with_reducible refine Mine.add_half (by with_reducible assumption) (by with_reducible assumption) ?_; intro qT qt qk hHalf)
  | (with_reducible refine Mine.add_full (by with_reducible assumption) (by with_reducible assumption) ?_; intro qS qt qk hShape))))
local macro_rules | `(tactic| walk_at "exec While BoolOp cons nil") => `(tactic| (k_here; first
  | k_while_given ["s", "amount!"] (fun S n script r m => Mine.Inv2 S n r m) (fun S n script r m => m.toNat) "rpos" "amount"
  | k_while_given ["s", "amount!"] (fun S c script l m => Mine.Inv1 S c l m) (fun S c script l m => m.toNat) "lpos" "amount"))
local macro_rules | `(tactic| kst_p) => `(tactic| ((try dsimp only); first
  | exact Mine.Inv1.start (by omega) | exact Mine.Inv2.start (Mine.Inv1.m0 (by assumption))
  | exact Mine.Inv1.next (by assumption) (by assumption) (by assumption)
  | exact Mine.Inv2.next (by assumption) (by assumption) (by assumption)))
local macro_rules | `(tactic| ksw_less) => `(tactic| ((try dsimp only); first | ((have h9 := Mine.Inv2.m0 (by assumption)); omega) | ((have h9 := Mine.Inv1.m0 (by assumption)); omega)))
local macro_rules | `(tactic| walk_at "subscriptTail") => `(tactic| (k_here; (with_reducible show wpAny _ _ (subscriptTail _ _ (Value.str _ _) (Value.int _ _)) _ _ _); first
  | (refine Mine.item_1 (by with_reducible assumption) (by with_reducible assumption) ?_)
  | (refine Mine.item_2 (by with_reducible assumption) (by with_reducible assumption) ?_)))
local macro_rules | `(tactic| walk_at "compareOp Eq str str") => `(tactic| (k_here; first
  | (with_reducible refine Mine.eq_shape (by with_reducible assumption) (by with_reducible assumption) (by omega) (by omega) ?_)
  | (with_reducible refine Mine.eq_two ?_ ?_ <;> intro hEq)))
local macro_rules | `(tactic| walk_at "call builtin:len") => `(tactic| (k_here; (with_reducible show wpAny _ _ (call (Value.builtin "len") [Value.str _ _]) _ _ _); refine Mine.len_any (by with_reducible assumption) ?_))
local macro_rules | `(tactic| walk_at "subscriptTail Name Slice str ref") => `(tactic| (k_here; (with_reducible show wpAny _ _ (subscriptTail _ (Expr.Slice _ _ _ _) (Value.str _ _) (Value.ref _)) _ _ _); (with_reducible rename Fr _ _ _ _ => F'); (with_reducible rename News _ _ _ _ => N'); (refine Mine.slice_any (s := ⟨_, _, _, _, _⟩) (by with_reducible assumption) (by with_reducible assumption) (by with_reducible assumption) (by first | exact Or.inl (by assumption) | exact Or.inr (by assumption)) (by first | exact Or.inl (by assumption) | exact Or.inr (by assumption)) rfl F' N' ?_); intro qR h' qt qk qx qy F' N' hShR hx0 hx1 hx2 hy0 hy1))
set_option maxRecDepth 100000 in
set_option maxHeartbeats 8000000 in
theorem PySem.Challenge.cw_kg0002_01_holds : PySem.Challenge.rw_kg0002_01.Holds := by
  open_k
