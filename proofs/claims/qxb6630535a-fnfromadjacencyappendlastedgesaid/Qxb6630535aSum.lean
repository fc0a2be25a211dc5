/- Plain mathematics: floats up to the bits of a NaN, the sums that FromAdjacency makes, and what one edge more does to them. -/
import Derived.Test.Qxb6630535aRows
import Derived.WalkKit
import Derived.WalkSpells
import Derived.WalkLawsBesides
namespace Go.Proofs.Qxb6630535a
open Go.RowKit
open Ieee (double Datum)

def nanB (a : Nat) : Bool := (double.read a).isNaN

/-- equal bits, or two NaNs -/
def FE (a b : Nat) : Prop := a = b ∨ (nanB a = true ∧ nanB b = true)
theorem FE.refl (a : Nat) : FE a a := .inl rfl
theorem FE.symm {a b : Nat} (h : FE a b) : FE b a := by
  rcases h with rfl | ⟨x, y⟩
  · exact .inl rfl
  · exact .inr ⟨y, x⟩
theorem FE.trans {a b c : Nat} (h : FE a b) (k : FE b c) : FE a c := by
  rcases h with rfl | ⟨x, y⟩
  · exact k
  · rcases k with rfl | ⟨z, u⟩
    · exact .inr ⟨x, y⟩
    · exact .inr ⟨x, u⟩

/-- what an operation on floats may give: the bits of the rounded result; where there is none, some NaN -/
def FRes (op : BinOp) (a b r : Nat) : Prop :=
  match floatBits op .f64 a b with
  | some z => r = z
  | none => nanB r = true

theorem least : double.leastPlace = -1074 := by decide
theorem bin : double.binade = 2 ^ 52 := rfl
theorem inf : double.infRung = 2047 * 2 ^ 52 := by decide
theorem sw : double.signWeight = 2 ^ 63 := rfl

theorem nan_cut (x y t : Nat) : nanB (Question.cut (.nanBits .f64 x y) t) = true := by
  have h : Question.cut (.nanBits .f64 x y) t = (t % 2) * 2 ^ 63 + 0x7ff0000000000000 + 1 + (t / 2) % (2 ^ 52 - 1) := rfl
  rw [h]
  have h2 : (t / 2) % (2 ^ 52 - 1) < 2 ^ 52 - 1 := Nat.mod_lt _ (by omega)
  generalize (t / 2) % (2 ^ 52 - 1) = z at h2
  have h3 : t % 2 < 2 := Nat.mod_lt _ (by omega)
  generalize t % 2 = s at h3
  unfold nanB Ieee.Format.read
  simp only [bin, inf, sw, least]
  have e : (s * 2 ^ 63 + 0x7ff0000000000000 + 1 + z) % 2 ^ 63 = 0x7ff0000000000000 + 1 + z := by omega
  rw [e]
  rw [if_neg (by omega), if_neg (by omega), if_neg (by omega)]
  rfl

def fourB : BinOp → Bool
  | .add | .sub | .mul | .quo => true
  | _ => false
theorem four_of {op : BinOp} (h : fourB op = true) : op = .add ∨ op = .sub ∨ op = .mul ∨ op = .quo := by
  cases op <;> simp [fourB] at h <;> simp

/-- THE WALK's LAW FOR '+', '-', '*', '/' ON FLOATS, whatever the operands. -/
theorem wpList_float {P : Program} (w : World) {ops : Array Oper} {rest : List Oper} {o : Oper} {a : Act} {Q : Exit → Act → World → Prop}
    (hg : o.guard = none) (op : BinOp) (t t2 : TypeId) (x y : Operand) (hop : o.op = Op.binOp op t x y t2) (n m : Nat) (hx : a.eval x = .float .f64 n) (hy : a.eval y = .float .f64 m)
    (h4 : fourB op = true)
    (hK : ∀ r k, FRes op n m r → wpList P ops Q rest (a.put o.dst (.float .f64 r)) (w.drewN k)) : wpList P ops Q (o :: rest) a w := by
  refine wpList_plain hg fun K hK' => ?_
  have key : ∃ r k, FRes op n m r ∧ (binOp op t (.float .f64 n) (.float .f64 m)).run P w = .ok (.float .f64 r) (w.drewN k) := by
    cases hf : floatBits op .f64 n m with
    | some z => exact ⟨z, 0, by unfold FRes; rw [hf], run_float_arith w op t .f64 n m z hf⟩
    | none =>
      refine ⟨Question.cut (.nanBits .f64 n m) (w.tape w.drawn (.nanBits .f64 n m)), 1, by unfold FRes; rw [hf]; exact nan_cut _ _ _, ?_⟩
      unfold floatBits at hf
      rcases four_of h4 with rfl | rfl | rfl | rfl <;> simp only at hf <;> simp [binOp, Op.floatArith, hf, Question.forced, World.drew_is_drewN]
  obtain ⟨r, k, hr, hrun⟩ := key
  unfold Oper.wp
  simp only [execOp, hop, hx, hy, eqGuard_at_float]
  simp [hrun, Result.andThen, Oper.upon]
  exact hK' _ _ (hK r k hr)

/-- some NaN -/
def aNaN : Nat := Question.cut (.nanBits .f64 0 0) 0
theorem aNaN_nan : nanB aNaN = true := nan_cut 0 0 0

/-- the rounded sum or difference, with one NaN for all -/
def fop (op : BinOp) (a b : Nat) : Nat := (floatBits op .f64 a b).getD aNaN

theorem fop_res {op : BinOp} {a b r : Nat} (h : FRes op a b r) : FE r (fop op a b) := by
  unfold FRes at h
  unfold fop
  cases hf : floatBits op .f64 a b with
  | some z => rw [hf] at h; exact .inl h
  | none => rw [hf] at h; exact .inr ⟨h, aNaN_nan⟩

theorem sum_nan {a : Nat} (h : nanB a = true) (d : Datum) : (double.read a).sum d = none := by
  unfold nanB at h
  cases hr : double.read a with
  | nan s t => simp [Datum.sum]
  | infinity s => rw [hr] at h; cases h
  | number s m i => rw [hr] at h; cases h

theorem bits_nan (op : BinOp) (h2 : op = .add ∨ op = .sub) {a : Nat} (h : nanB a = true) (b : Nat) : floatBits op .f64 a b = none := by
  rcases h2 with rfl | rfl
  · show double.add a b = none
    unfold Ieee.Format.add
    rw [sum_nan h]; rfl
  · show double.sub a b = none
    unfold Ieee.Format.sub
    rw [sum_nan h]; rfl

theorem fop_congr (op : BinOp) (h2 : op = .add ∨ op = .sub) {a b : Nat} (h : FE a b) (c : Nat) : FE (fop op a c) (fop op b c) := by
  rcases h with rfl | ⟨x, y⟩
  · exact FE.refl _
  · unfold fop
    rw [bits_nan op h2 x, bits_nan op h2 y]
    exact FE.refl _

/-- the comparison of a word with itself -/
theorem order_self (a : Nat) (h : nanB a = false) : double.order a a = some .eq := by
  unfold Ieee.Format.order
  unfold nanB at h
  cases hr : double.read a with
  | nan s t => rw [hr] at h; cases h
  | infinity s => simp [Datum.order]
  | number s m i => simp [Datum.order]
theorem order_nan (a b : Nat) (h : nanB a = true) : double.order a b = none := by
  unfold Ieee.Format.order
  unfold nanB at h
  cases hr : double.read a with
  | nan s t => simp [Datum.order]
  | infinity s => rw [hr] at h; cases h
  | number s m i => rw [hr] at h; cases h
theorem order_nan' (a b : Nat) (h : nanB b = true) : double.order a b = none := by
  unfold Ieee.Format.order
  unfold nanB at h
  cases hr : double.read b with
  | nan s t => cases double.read a <;> simp [Datum.order]
  | infinity s => rw [hr] at h; cases h
  | number s m i => rw [hr] at h; cases h

/-! ### the sums -/
abbrev St := Nat × Nat × Nat

def gtB (w : Nat) : Bool := FloatKind.f64.format.order w 0 == some .gt
def ltB (w : Nat) : Bool := FloatKind.f64.format.order w 0 == some .lt

/-- an edge that counts -/
def bump (x : St) (w : Nat) : St :=
  (fop .add x.1 w, if gtB w = true then fop .add x.2.1 w else x.2.1, if gtB w = true then x.2.2 else if ltB w = true then fop .sub x.2.2 w else x.2.2)

def step (u : Nat) (x : St) (j : Int) (w : Nat) : St := if j < (u : Int) then x else bump x w

/-- the entries lo .. lo + k of vertex u -/
def inner (T : Nat → Int) (W : Nat → Nat) (u lo : Nat) (x : St) : Nat → St
  | 0 => x
  | k + 1 => step u (inner T W u lo x k) (T (lo + k)) (W (lo + k))

def outer (S : Nat → Nat) (T : Nat → Int) (W : Nat → Nat) : Nat → St
  | 0 => (0, 0, 0)
  | u + 1 => inner T W u (S u) (outer S T W u) (S (u + 1) - S u)

theorem inner_congr {T T' : Nat → Int} {W W' : Nat → Nat} (u lo : Nat) (x : St) (k : Nat) (hT : ∀ j, j < lo + k → T j = T' j) (hW : ∀ j, j < lo + k → W j = W' j) : inner T W u lo x k = inner T' W' u lo x k := by
  induction k with
  | zero => rfl
  | succ k ih =>
    unfold inner
    rw [ih (fun j hj => hT j (by omega)) (fun j hj => hW j (by omega)), hT (lo + k) (by omega), hW (lo + k) (by omega)]

theorem outer_congr {S S' : Nat → Nat} {T T' : Nat → Int} {W W' : Nat → Nat} (n e : Nat) (hS : ∀ j, j ≤ n → S j = S' j) (hm : ∀ j, j < n → S j ≤ S (j + 1)) (hb : ∀ j, j ≤ n → S j ≤ e) (hT : ∀ j, j < e → T j = T' j) (hW : ∀ j, j < e → W j = W' j) : outer S T W n = outer S' T' W' n := by
  induction n with
  | zero => rfl
  | succ n ih =>
    unfold outer
    rw [ih (fun j hj => hS j (by omega)) (fun j hj => hm j (by omega)) (fun j hj => hb j (by omega)), hS n (by omega), hS (n + 1) (by omega)]
    have h1 := hm n (by omega)
    have h2 := hb (n + 1) (by omega)
    rw [hS n (by omega), hS (n + 1) (by omega)] at h1
    rw [hS (n + 1) (by omega)] at h2
    exact inner_congr n (S' n) _ _ (fun j hj => hT j (by omega)) (fun j hj => hW j (by omega))

/-- ONE VERTEX AND ONE EDGE MORE -/
theorem outer_more {S S2 : Nat → Nat} {T T2 : Nat → Int} {W W2 : Nat → Nat} (m e w : Nat) (hm : ∀ j, j < m + 1 → S j ≤ S (j + 1)) (he : S (m + 1) = e)
    (h1 : ∀ j, j ≤ m → S2 j = S j) (h2 : S2 (m + 1) = e + 1) (h3 : S2 (m + 2) = e + 2) (hT : ∀ j, j < e → T2 j = T j) (hW : ∀ j, j < e → W2 j = W j)
    (hT1 : T2 e = (m : Int) + 1) (hT2 : T2 (e + 1) = (m : Int)) (hW1 : W2 e = w) : outer S2 T2 W2 (m + 2) = bump (outer S T W (m + 1)) w := by
  have hle : ∀ d j, j + d = m + 1 → S j ≤ e := by
    intro d
    induction d with
    | zero => intro j hj; have : j = m + 1 := by omega
              subst this; omega
    | succ d ih => intro j hj; exact Nat.le_trans (hm j (by omega)) (ih (j + 1) (by omega))
  have hSm : S m ≤ e := hle 1 m (by omega)
  have e1 : outer S2 T2 W2 (m + 2) = inner T2 W2 (m + 1) (S2 (m + 1)) (outer S2 T2 W2 (m + 1)) (S2 (m + 2) - S2 (m + 1)) := rfl
  have e2 : outer S2 T2 W2 (m + 1) = inner T2 W2 m (S2 m) (outer S2 T2 W2 m) (S2 (m + 1) - S2 m) := rfl
  have e3 : outer S T W (m + 1) = inner T W m (S m) (outer S T W m) (S (m + 1) - S m) := rfl
  have k1 : e + 2 - (e + 1) = 1 := by omega
  have k2 : e + 1 - S m = (e - S m) + 1 := by omega
  rw [e1, h3, h2, k1]
  show step (m + 1) (outer S2 T2 W2 (m + 1)) (T2 (e + 1)) _ = _
  unfold step
  rw [hT2, if_pos (by omega), e2, h2, h1 m (by omega), k2]
  show step m (inner T2 W2 m (S m) (outer S2 T2 W2 m) (e - S m)) (T2 (S m + (e - S m))) (W2 (S m + (e - S m))) = _
  have k3 : S m + (e - S m) = e := by omega
  unfold step
  rw [k3, hT1, hW1, if_neg (by omega), e3, he]
  rw [inner_congr (T := T2) (T' := T) (W := W2) (W' := W) m (S m) _ (e - S m) (fun j hj => hT j (by omega)) (fun j hj => hW j (by omega))]
  rw [outer_congr (S := S2) (S' := S) (T := T2) (T' := T) (W := W2) (W' := W) m e h1 (fun j hj => by rw [h1 j (by omega), h1 (j + 1) (by omega)]; exact hm j (by omega)) (fun j hj => by rw [h1 j hj]; exact hle (m + 1 - j) j (by omega)) hT hW]

/-- states up to the bits of NaNs -/
def SE (x y : St) : Prop := FE x.1 y.1 ∧ FE x.2.1 y.2.1 ∧ FE x.2.2 y.2.2
theorem SE.refl (x : St) : SE x x := ⟨FE.refl _, FE.refl _, FE.refl _⟩

/-- what sameFloatB1 asks -/
theorem same_order {a b : Nat} (h : FE a b) : (nanB a = false ∧ double.order a b = some .eq) ∨ (double.order a b = none ∧ double.order a a = none ∧ double.order b b = none) := by
  rcases h with rfl | ⟨x, y⟩
  · cases hn : nanB a with
    | false => exact .inl ⟨rfl, order_self a hn⟩
    | true => exact .inr ⟨order_nan _ _ hn, order_nan _ _ hn, order_nan _ _ hn⟩
  · exact .inr ⟨order_nan _ _ x, order_nan _ _ x, order_nan _ _ y⟩

end Go.Proofs.Qxb6630535a
