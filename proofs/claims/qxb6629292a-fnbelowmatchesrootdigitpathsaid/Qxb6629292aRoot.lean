/- The walks of math.Floor and rootCell. -/
import Derived.Test.Qxb6629292aRows
import Derived.Test.Qxb6629292aCell
import Derived.WalkKit
import Derived.WalkSpells
import Derived.WalkLawsBesides
import Derived.Deep.QuietTactic
import Derived.BigQuiet
namespace Go.Proofs.Qxb6629292a
open Go.RowKit
open Ieee (double Datum)
open Fl

/-- what an operation on floats may give: the bits of the rounded result; where there is none, some NaN -/
def FRes (op : BinOp) (a b r : Nat) : Prop :=
  match floatBits op .f64 a b with
  | some z => r = z
  | none => (double.read r).isNaN = true

theorem nan_cut (x y t : Nat) : (double.read (Question.cut (.nanBits .f64 x y) t)).isNaN = true := by
  have h : Question.cut (.nanBits .f64 x y) t = (t % 2) * 2 ^ 63 + 0x7ff0000000000000 + 1 + (t / 2) % (2 ^ 52 - 1) := rfl
  rw [h]
  have h2 : (t / 2) % (2 ^ 52 - 1) < 2 ^ 52 - 1 := Nat.mod_lt _ (by omega)
  generalize (t / 2) % (2 ^ 52 - 1) = z at h2
  have h3 : t % 2 < 2 := Nat.mod_lt _ (by omega)
  generalize t % 2 = s at h3
  unfold Ieee.Format.read
  simp only [bin, inf, sw, least]
  have e : (s * 2 ^ 63 + 0x7ff0000000000000 + 1 + z) % 2 ^ 63 = 0x7ff0000000000000 + 1 + z := by omega
  rw [e]
  rw [if_neg (by omega), if_neg (by omega), if_neg (by omega)]
  rfl

def fourB : BinOp → Bool
  | .add | .sub | .mul | .quo => true
  | _ => false
theorem four_of {op : BinOp} (h : fourB op = true) : op = .add ∨ op = .sub ∨ op = .mul ∨ op = .quo := by
  cases op <;> simp [fourB] at h <;> simp

/-- THE WALK's LAW FOR '+', '-', '*', '/' ON FLOATS, whatever the operands. -/
theorem wpList_float {P : Program} (w : World) {ops : Array Oper} {rest : List Oper} {o : Oper} {a : Act} {Q : Exit → Act → World → Prop}
    (hg : o.guard = none) (op : BinOp) (t t2 : TypeId) (x y : Operand) (hop : o.op = Op.binOp op t x y t2) (n m : Nat) (hx : a.eval x = .float .f64 n) (hy : a.eval y = .float .f64 m)
    (h4 : fourB op = true)
    (hK : ∀ r k, FRes op n m r → wpList P ops Q rest (a.put o.dst (.float .f64 r)) (w.drewN k)) : wpList P ops Q (o :: rest) a w := by
  refine wpList_plain hg fun K hK' => ?_
  have key : ∃ r k, FRes op n m r ∧ (binOp op t (.float .f64 n) (.float .f64 m)).run P w = .ok (.float .f64 r) (w.drewN k) := by
    cases hf : floatBits op .f64 n m with
    | some z => exact ⟨z, 0, by unfold FRes; rw [hf], run_float_arith w op t .f64 n m z hf⟩
    | none =>
      refine ⟨Question.cut (.nanBits .f64 n m) (w.tape w.drawn (.nanBits .f64 n m)), 1, by unfold FRes; rw [hf]; exact nan_cut _ _ _, ?_⟩
      unfold floatBits at hf
      rcases four_of h4 with rfl | rfl | rfl | rfl <;> simp only at hf <;> simp [binOp, Op.floatArith, hf, Question.forced, World.drew_is_drewN]
  obtain ⟨r, k, hr, hrun⟩ := key
  unfold Oper.wp
  simp only [execOp, hop, hx, hy, eqGuard_at_float]
  simp [hrun, Result.andThen, Oper.upon]
  exact hK' _ _ (hK r k hr)

/-- what 'math.Floor' may give -/
def FloorRes (p c : Nat) : Prop := if (double.read p).isNaN = true then (double.read c).isNaN = true else c = flr p

theorem read_nan (s : Bool) (z : Nat) (h0 : 0 < z) (h : z < 2 ^ 52) : (double.read (double.word s (2047 * 2 ^ 52 + z))).isNaN = true := by
  have e2 : double.word s (2047 * 2 ^ 52 + z) % 2 ^ 63 = 2047 * 2 ^ 52 + z := by
    unfold Ieee.Format.word; rw [sw]
    cases s
    · simp; omega
    · simp; omega
  unfold Ieee.Format.read
  simp only [bin, inf, sw, least, e2]
  rw [if_neg (by omega), if_neg (by omega), if_neg (by omega)]
  rfl

theorem quiet_nan (s : Bool) (t : Nat) : (double.read (double.write (.nan s (double.quiet t)))).isNaN = true := by
  have e : double.write (.nan s (double.quiet t)) = double.word s (2047 * 2 ^ 52 + (t ||| 2 ^ 51) % 2 ^ 52) := by
    simp only [Ieee.Format.write, inf, bin]; rfl
  rw [e]
  refine read_nan s _ ?_ (Nat.mod_lt _ (by omega))
  apply Nat.pos_of_ne_zero
  intro h
  have hb : ((t ||| 2 ^ 51) % 2 ^ 52).testBit 51 = true := by
    rw [Nat.testBit_mod_two_pow, Nat.testBit_or, Nat.testBit_two_pow_self]; simp
  rw [h] at hb
  simp at hb

theorem floor_run (p : Nat) (w : World) : ∃ c k, FloorRes p c ∧ (callFunc 12 #[.float .f64 p]).run Try.prog w = .ok (.value (.float .f64 c)) (w.drewN k) := by
  have key : ∃ c k, FloorRes p c ∧ (Extern.MathFloor.toIntegral "math.archFloor" .down #[.float .f64 p]).run Try.prog w = .ok (.float .f64 c) (w.drewN k) := by
    unfold FloorRes
    have hd' : FloatKind.f64.decode p = double.read p := rfl
    obtain ⟨q, hb, hforced⟩ : ∃ q : Question, Extern.MathFloor.toIntegral "math.archFloor" .down #[.float .f64 p] =
        (match FloatKind.f64.decode p with
        | .nan s t =>
          if FloatKind.f64.format.quiet t = t then pure (.float .f64 p) else do
          let kept ← choose q
          pure (.float .f64 (if kept == 1 then p else FloatKind.f64.encode (.nan s (FloatKind.f64.format.quiet t))))
        | d => pure (.float .f64 (FloatKind.f64.encode (d.integral .down)))) ∧ q.forced = false := ⟨_, rfl, rfl⟩
    rw [hb]
    clear hb
    cases hd : double.read p with
    | nan s t =>
      rw [hd] at hd'
      simp only [Datum.isNaN, if_true]
      by_cases hq : FloatKind.f64.format.quiet t = t
      · exact ⟨p, 0, by rw [hd], by simp [hd', hq]; rfl⟩
      · by_cases hk : q.cut (w.tape w.drawn q) = 1
        · exact ⟨p, 1, by rw [hd], by simp [hd', hq, hforced, hk, World.drew_is_drewN]⟩
        · exact ⟨FloatKind.f64.encode (.nan s (FloatKind.f64.format.quiet t)), 1, quiet_nan s t, by simp [hd', hq, hforced, hk, World.drew_is_drewN]⟩
    | infinity s =>
      rw [hd] at hd'
      exact ⟨flr p, 0, by simp [Datum.isNaN], by unfold flr; rw [hd]; simp [hd']; exact ⟨rfl, rfl⟩⟩
    | number s m i =>
      rw [hd] at hd'
      exact ⟨flr p, 0, by simp [Datum.isNaN], by unfold flr; rw [hd]; simp [hd']; exact ⟨rfl, rfl⟩⟩
  obtain ⟨c, k, h1, h2⟩ := key
  refine ⟨c, k, h1, ?_⟩
  rw [run_callFunc_extern (e := Extern.MathFloor.toIntegral "math.archFloor" .down) Try.func12 (by kernel_rfl) (by kernel_rfl) (by kernel_rfl) (by kernel_rfl), h2]
  rfl

set_option maxHeartbeats 400000 in
theorem floor_any (p : Nat) (w : World) : Calls Try.prog 11 #[.float .f64 p] w fun e w' => ∃ c, e = .returned (.float .f64 c) ∧ FloorRes p c ∧ ∃ n, w' = w.drewN n := by
  obtain ⟨c, k, h1, h2⟩ := floor_run p w
  have H : Hid (FloorRes p c) := h1
  clear h1
  go_enter Try.func11, Try.ntmps11
  go_wp2
  go_ret
  exact ⟨c, rfl, H, k, rfl⟩

/-- the root's fraction along an axis; 'none': a NaN -/
def frac (v lo hi : Nat) : Option Nat :=
  match double.sub v lo, double.sub hi lo with
  | some a, some b => double.div a b
  | _, _ => none

theorem write_num (d : Datum) (h : d.isNaN = false) : (double.read (double.write d)).isNaN = false := by
  have key : ∀ s r, r ≤ 2047 * 2 ^ 52 → (double.read (double.word s r)).isNaN = false := by
    intro s r hr
    rw [read_word s r hr]
    split
    · rfl
    · split <;> rfl
  cases d with
  | nan s t => cases h
  | infinity s =>
    simp only [Ieee.Format.write, inf]
    exact key _ _ (Nat.le_refl _)
  | number s m i =>
    simp only [Ieee.Format.write, Ieee.Format.nearest]
    split
    · exact key _ _ (by omega)
    · rw [inf]; exact key _ _ (Nat.min_le_right _ _)

theorem map_num {o : Option Datum} {r : Nat} (h : o.map double.write = some r) (ho : ∀ d, o = some d → d.isNaN = false) : (double.read r).isNaN = false := by
  cases o with
  | none => cases h
  | some d => simp at h; subst h; exact write_num d (ho d rfl)

theorem sum_num {x y d : Datum} (h : x.sum y = some d) : d.isNaN = false := by
  cases x <;> cases y <;> simp [Datum.sum] at h
  · rw [← h]; rfl
  · rw [← h]; rfl
  · rw [← h]; rfl
  · rw [← h.2]; rfl

theorem quot_num {n : Nat} {x y d : Datum} (h : x.quotient n y = some d) : d.isNaN = false := by
  cases x <;> cases y <;> simp [Datum.quotient] at h
  · split at h
    · split at h
      · cases h
      · simp at h; rw [← h]; rfl
    · simp at h; rw [← h]; rfl
  · rw [← h]; rfl
  · rw [← h]; rfl

theorem div_nan_left {x y : Nat} (h : (double.read x).isNaN = true) : double.div x y = none := by
  unfold Ieee.Format.div
  cases hd : double.read x <;> rw [hd] at h <;> simp [Datum.isNaN] at h
  simp [Datum.quotient]
theorem div_nan_right {x y : Nat} (h : (double.read y).isNaN = true) : double.div x y = none := by
  unfold Ieee.Format.div
  cases hd : double.read y <;> rw [hd] at h <;> simp [Datum.isNaN] at h
  cases double.read x <;> simp [Datum.quotient]
theorem mul_nan_left {x y : Nat} (h : (double.read x).isNaN = true) : double.mul x y = none := by
  unfold Ieee.Format.mul
  cases hd : double.read x <;> rw [hd] at h <;> simp [Datum.isNaN] at h
  simp [Datum.product]
theorem order_nan_left {x y : Nat} (h : (double.read x).isNaN = true) : double.order x y = none := by
  unfold Ieee.Format.order
  cases hd : double.read x <;> rw [hd] at h <;> simp [Datum.isNaN] at h
  simp [Datum.order]

theorem FRes_sub {a b r : Nat} (h : FRes .sub a b r) : (double.sub a b = some r) ∨ (double.sub a b = none ∧ (double.read r).isNaN = true) := by
  unfold FRes at h
  have e : floatBits .sub .f64 a b = double.sub a b := rfl
  rw [e] at h
  split at h
  · rename_i z hz; left; rw [hz, h]
  · rename_i hz; exact .inr ⟨hz, h⟩
theorem FRes_quo {a b r : Nat} (h : FRes .quo a b r) : (double.div a b = some r ∧ (double.read r).isNaN = false) ∨ (double.div a b = none ∧ (double.read r).isNaN = true) := by
  unfold FRes at h
  have e : floatBits .quo .f64 a b = double.div a b := rfl
  rw [e] at h
  split at h
  · rename_i z hz; left; subst h; exact ⟨hz, map_num hz fun d hd => quot_num hd⟩
  · rename_i hz; exact .inr ⟨hz, h⟩
theorem FRes_mul {a b r : Nat} (h : FRes .mul a b r) : (double.mul a b = some r) ∨ (double.mul a b = none ∧ (double.read r).isNaN = true) := by
  unfold FRes at h
  have e : floatBits .mul .f64 a b = double.mul a b := rfl
  rw [e] at h
  split at h
  · rename_i z hz; left; rw [hz, h]
  · rename_i hz; exact .inr ⟨hz, h⟩

theorem frac_res {v lo hi a b f : Nat} (h1 : FRes .sub v lo a) (h2 : FRes .sub hi lo b) (h3 : FRes .quo a b f) :
    (frac v lo hi = some f ∧ (double.read f).isNaN = false) ∨ (frac v lo hi = none ∧ (double.read f).isNaN = true) := by
  unfold frac
  rcases FRes_sub h1 with e1 | ⟨e1, n1⟩
  · rcases FRes_sub h2 with e2 | ⟨e2, n2⟩
    · rw [e1, e2]
      exact FRes_quo h3
    · rw [e1, e2]
      rcases FRes_quo h3 with ⟨e3, _⟩ | ⟨_, n3⟩
      · rw [div_nan_right n2] at e3; cases e3
      · exact .inr ⟨rfl, n3⟩
  · rw [e1]
    rcases FRes_quo h3 with ⟨e3, _⟩ | ⟨_, n3⟩
    · rw [div_nan_left n1] at e3; cases e3
    · exact .inr ⟨rfl, n3⟩

/-- what the comparison and the 'min' of the Go text meet -/
theorem cell_of {v lo hi l a b f r c : Nat} (h1 : 1 ≤ l) (hl : l ≤ 53) (ha : FRes .sub v lo a) (hb : FRes .sub hi lo b) (hf : FRes .quo a b f) (hr : FRes .mul f (floatOfInt .f64 (2 ^ l)) r) (hc : FloorRes r c) :
    ((double.order c 0 = none ∨ double.order c 0 = some .lt) ∧ rcv (frac v lo hi) l = 0) ∨
    ((double.order c 0 = some .gt ∨ double.order c 0 = some .eq) ∧ ∃ m, MinIs c (floatOfInt .f64 (2 ^ l - 1)) m ∧ (double.read m).toInt .zero = some (rcv (frac v lo hi) l : Int)) := by
  have e : floatOfInt .f64 (2 ^ l) = fl (2 ^ l) := rfl
  rw [e] at hr
  have hr' := FRes_mul hr
  unfold FloorRes at hc
  rcases frac_res ha hb hf with ⟨hfr, hn⟩ | ⟨hfr, hn⟩
  · obtain ⟨p, hp, hnp, hgood⟩ := cell_spec f l h1 hl hn
    rw [hfr]
    rcases hr' with e1 | ⟨e1, _⟩
    · rw [hp] at e1
      cases e1
      rw [hnp, if_neg Bool.false_ne_true] at hc
      rw [hc]
      rcases hgood with ⟨h3, h4⟩ | h3
      · exact .inl ⟨.inr h3, h4⟩
      · exact .inr h3
    · rw [hp] at e1; cases e1
  · left
    rcases hr' with e1 | ⟨_, e1⟩
    · rw [mul_nan_left hn] at e1; cases e1
    · rw [e1, if_pos rfl] at hc
      refine ⟨.inl (order_nan_left hc), ?_⟩
      rw [hfr]; rfl

theorem rcv_lt (f : Option Nat) (l : Nat) : rcv f l ≤ 2 ^ l - 1 := by
  unfold rcv
  split
  · omega
  · split
    · exact Nat.min_le_right _ _
    · omega
    · omega

theorem run_min_float {P : Program} (w : World) (ts : Array TypeId) (t : TypeId) (c y m : Nat) (h : MinIs c y m) : (Builtin.min_ ts t #[.float .f64 c, .float .f64 y]).run P w = .ok (.float .f64 m) w := by
  have hb : Builtin.min_ ts t #[.float .f64 c, .float .f64 y] = (Builtin.min2 (.float .f64 c) (.float .f64 y)) >>= fun v => pure v := rfl
  rw [hb]
  have hf : FloatKind.f64.format.order c y = double.order c y := rfl
  have hd : FloatKind.f64.decode c = double.read c := rfl
  rcases h with ⟨h, rfl⟩ | ⟨h, rfl⟩ | ⟨h, rfl⟩ <;> simp [Builtin.min2, hf, hd, h]

set_option maxHeartbeats 400000 in
theorem root_any (v lo hi l : Nat) (w : World) (h1 : 1 ≤ l) (hl : l ≤ 53) :
    Calls Try.prog 10 #[.float .f64 v, .float .f64 lo, .float .f64 hi, .int .i64 l] w fun e w' => e = .returned (.int .i64 (rcv (frac v lo hi) l)) ∧ ∃ n, w' = w.drewN n := by
  have hb : ((2 : Int) ^ l) = ((2 ^ l : Nat) : Int) := by simp
  have hle : 2 ^ l ≤ 2 ^ 53 := Nat.pow_le_pow_right (by omega) hl
  have hge : 0 < 2 ^ l := Nat.two_pow_pos l
  have hwr : wrap64 ((2 : Int) ^ l) = (2 : Int) ^ l := by rw [hb]; unfold wrap64; omega
  have hwp : wrap64 ((2 : Int) ^ l - 1) = (2 : Int) ^ l - 1 := by rw [hb]; unfold wrap64; omega
  have hrl := rcv_lt (frac v lo hi) l
  have hrl2 : rcv (frac v lo hi) l < 2 ^ 53 := by omega
  clear hle hge hb hrl
  go_enter Try.func10, Try.ntmps10
  go_wp2_with (refine wpList_float _ rfl _ _ _ _ _ rfl _ _ rfl rfl rfl ?_; intro r k hr)
  refine (floor_any _ _).mono ?_
  rintro e w' ⟨c, rfl, hc, n, rfl⟩
  have hall := cell_of (v := v) (lo := lo) (hi := hi) h1 hl (by assumption) (by assumption) (by assumption) hr hc
  rcases hall with ⟨ho | ho, hz⟩ | ⟨ho, m, hm, hint⟩
  · have ho' : FloatKind.f64.format.order c 0 = none := ho
    have HZ : Hid (rcv (frac v lo hi) l = 0) := hz
    clear ho hz hrl2
    go_wp2
    go_ret
    exact ⟨by rw [HZ.out]; rfl, _, rfl⟩
  · have ho' : FloatKind.f64.format.order c 0 = some .lt := ho
    have HZ : Hid (rcv (frac v lo hi) l = 0) := hz
    clear ho hz hrl2
    go_wp2
    go_ret
    exact ⟨by rw [HZ.out]; rfl, _, rfl⟩
  · have hmin := fun w => run_min_float (P := Try.prog) w #[22, 22] 22 _ _ _ hm
    have hcv : ∀ w, (convert 22 3 (.float .f64 m)).run Try.prog w = .ok (.int .i64 (rcv (frac v lo hi) l)) w := by
      intro w
      refine run_convert_float_int w 22 3 .f64 .i64 m _ (by rw [Try.underlying22]; rfl) Try.underlying3 ?_
      unfold floatToIntVal
      have : (FloatKind.f64.decode m).toInt .zero = some (rcv (frac v lo hi) l : Int) := hint
      rw [this]
      have hmn : IntKind.min .i64 = -9223372036854775808 := rfl
      have hmx : IntKind.max .i64 = 9223372036854775807 := rfl
      simp only [hmn, hmx]
      rw [if_pos (by omega)]
    have hoo : (FloatKind.f64.format.order c 0 == some .gt || FloatKind.f64.format.order c 0 == some .eq) = true := by
      rcases ho with ho | ho
      · have ho' : FloatKind.f64.format.order c 0 = some .gt := ho
        rw [ho']; rfl
      · have ho' : FloatKind.f64.format.order c 0 = some .eq := ho
        rw [ho']; rfl
    clear ho hm hint hrl2
    go_wp2
    go_ret
    exact ⟨rfl, _, rfl⟩

end Go.Proofs.Qxb6629292a
