/- The binary digits of a fraction by doubling, in plain numbers. -/
import Derived.Test.Qxb6629292aBits
namespace Go.Proofs.Qxb6629292a
open Go.RowKit
open Ieee (double Datum)
open Fl

/-- the bits of 1 -/
def oneBits : Nat := 4607182418800017408
theorem read_one : double.read oneBits = .number false (2 ^ 52) (-52) := by decide
theorem val_one : val (2 ^ 52) (-52) = 2 ^ KK := by
  have hK := KK_ge
  unfold val
  have e : 52 + ((-52 : Int) + (KK : Int)).toNat = KK := by omega
  rw [← Nat.pow_add, e]

/-- g is finite, not below zero (a negative zero is let), of value G -/
def Nn (g G : Nat) : Prop := ∃ s m i, double.read g = .number s m i ∧ (s = false ∨ m = 0) ∧ val m i = G

theorem val_zero (i : Int) : val 0 i = 0 := by simp [val]
theorem val_pos {m : Nat} {i : Int} (h : m ≠ 0) : 0 < val m i := Nat.mul_pos (by omega) (Nat.two_pow_pos _)

theorem nn_order_one {g G : Nat} (h : Nn g G) : double.order g oneBits = some (compare G (2 ^ KK)) := by
  obtain ⟨s, m, i, hr, hs, rfl⟩ := h
  rcases hs with rfl | rfl
  · rw [order_val hr read_one, val_one]
  · cases s with
    | false => rw [order_val hr read_one, val_one]
    | true =>
      rw [val_zero]
      have hp : 0 < 2 ^ KK := Nat.two_pow_pos _
      rw [Nat.compare_eq_lt.2 hp]
      unfold Ieee.Format.order
      rw [hr, read_one]
      simp only [Datum.order, Ieee.signed, if_true, Bool.false_eq_true, if_false, Nat.shiftLeft_eq, Nat.zero_mul]
      congr 1
      rw [Int.compare_eq_lt]
      have := Nat.mul_pos (Nat.two_pow_pos 52) (Nat.two_pow_pos (-52 - min i (-52)).toNat)
      omega

theorem small_val {m : Nat} {i : Int} (hm : m ≠ 0) (hi : -(KK : Int) ≤ i) (h : val m i < 2 ^ (KK + 2)) : i + (m.log2 : Int) < 2 := by
  by_cases hc : i + (m.log2 : Int) < 2
  · exact hc
  · exfalso
    have h1 := Nat.log2_self_le hm
    have h2 : 2 ^ m.log2 * 2 ^ (i + (KK : Int)).toNat ≤ val m i := Nat.mul_le_mul_right _ h1
    rw [← Nat.pow_add] at h2
    have h3 : 2 ^ (KK + 2) ≤ 2 ^ (m.log2 + (i + (KK : Int)).toNat) := Nat.pow_le_pow_right (by omega) (by omega)
    omega

theorem nn_double {g G : Nat} (h : Nn g G) (hG : G < 2 ^ KK) : ∃ g2, double.add g g = some g2 ∧ Nn g2 (2 * G) := by
  have hK := KK_ge
  obtain ⟨s, m, i, hr, hs, rfl⟩ := h
  obtain ⟨hm, hi, _⟩ := read_number hr
  by_cases h0 : m = 0
  · subst h0
    refine ⟨double.nearest s 0 i, ?_, s, 0, -1074, nearest_zero _ _, .inr rfl, by simp [val_zero]⟩
    unfold Ieee.Format.add
    rw [hr]
    simp only [Datum.sum, Ieee.signed, Int.min_self, Int.sub_self, Nat.shiftLeft_eq, Nat.zero_mul]
    cases s <;> simp [Ieee.Format.write]
  · have hs' : s = false := by rcases hs with h | h; exact h; exact absurd h h0
    subst hs'
    refine ⟨double.nearest false (2 * m) i, ?_, ?_⟩
    · unfold Ieee.Format.add
      rw [hr]
      simp only [Datum.sum, Ieee.signed, Int.min_self, Int.sub_self, Nat.shiftLeft_eq, Bool.false_eq_true, if_false]
      have e1 : ((m * 2 ^ (0 : Int).toNat : Nat) : Int) + ((m * 2 ^ (0 : Int).toNat : Nat) : Int) = ((2 * m : Nat) : Int) := by
        simp; omega
      rw [e1]
      have e2 : ¬ ((2 * m : Nat) : Int) = 0 := by omega
      have e3 : decide (((2 * m : Nat) : Int) < 0) = false := decide_eq_false (by omega)
      have e4 : ((2 * m : Nat) : Int).natAbs = 2 * m := Int.natAbs_natCast _
      rw [if_neg e2, e3, e4]
      simp only [Option.map_some, Ieee.Format.write]
    · have hv : val (2 * m) i = 2 * val m i := by unfold val; rw [Nat.mul_assoc]
      rcases nearest_exact false (2 * m) i m 1 h0 hm (by omega) (by omega) (by omega) with ⟨k, t, h1, h2, _⟩ | ⟨_, h2⟩
      · exact ⟨false, k, t, h1, .inl rfl, h2.trans hv⟩
      · exfalso
        have h3 : (2 * m).log2 = m.log2 + 1 := by
          rw [Nat.mul_comm]; exact log2_mul_pow (e := 1) h0
        have h4 := small_val h0 (by omega) (Nat.lt_of_lt_of_le hG (Nat.pow_le_pow_right (by omega) (by omega)))
        omega

theorem int_sub (z p : Nat) (h : p ≤ z) : (z : Int) + -(p : Int) = ((z - p : Nat) : Int) := by omega
theorem sum_sign (y : Nat) : (if (y : Int) = 0 then (false && true) else decide ((y : Int) < 0)) = false := by
  split
  · rfl
  · exact decide_eq_false (by omega)
/-- a number at place i less another at place j, as a sum -/
theorem sum_less (m n : Nat) (i j : Int) (a b : Nat) (ha : (i - min i j).toNat = a) (hb : (j - min i j).toNat = b) (h : n * 2 ^ b ≤ m * 2 ^ a) :
    (Datum.number false m i).sum (Datum.number true n j) = some (.number false (m * 2 ^ a - n * 2 ^ b) (min i j)) := by
  simp only [Datum.sum, Ieee.signed, Nat.shiftLeft_eq, Bool.false_eq_true, if_false, if_true]
  rw [ha, hb, int_sub _ _ h, sum_sign, Int.natAbs_natCast]

theorem nn_minus_one {g G : Nat} (h : Nn g G) (h1 : 2 ^ KK ≤ G) (h2 : G < 2 ^ (KK + 1)) : ∃ g2, double.sub g oneBits = some g2 ∧ Nn g2 (G - 2 ^ KK) := by
  have hK := KK_ge
  have hp : 0 < 2 ^ KK := Nat.two_pow_pos _
  obtain ⟨s, m, i, hr, hs, rfl⟩ := h
  obtain ⟨hm, hi, _⟩ := read_number hr
  have h0 : m ≠ 0 := by intro h; subst h; rw [val_zero] at h1; omega
  have hs' : s = false := by rcases hs with h | h; exact h; exact absurd h h0
  subst hs'
  have hi0 : i ≤ 0 := by
    by_cases hc : i ≤ 0
    · exact hc
    · exfalso
      have : 2 ^ (KK + 1) ≤ val m i := by
        unfold val
        refine Nat.le_trans ?_ (Nat.le_mul_of_pos_left _ (by omega))
        exact Nat.pow_le_pow_right (by omega) (by omega)
      omega
  have hi52 : -52 ≤ i := by
    by_cases hc : -52 ≤ i
    · exact hc
    · exfalso
      have h3 : val m i < 2 ^ 53 * 2 ^ (i + (KK : Int)).toNat := Nat.mul_lt_mul_of_pos_right hm (Nat.two_pow_pos _)
      rw [← Nat.pow_add] at h3
      have h4 : 2 ^ (53 + (i + (KK : Int)).toNat) ≤ 2 ^ KK := Nat.pow_le_pow_right (by omega) (by omega)
      omega
  obtain ⟨j, hj⟩ : ∃ j : Nat, j = (-i).toNat := ⟨_, rfl⟩
  obtain ⟨e, he⟩ : ∃ e : Nat, e = (i + 52).toNat := ⟨_, rfl⟩
  have ej : j + e = 52 := by omega
  have hje : 2 ^ j * 2 ^ e = 2 ^ 52 := by rw [← Nat.pow_add, ej]
  have ev' : (i + (KK : Int)).toNat = e + (KK - 52) := by omega
  have hvm : val m i = m * 2 ^ e * 2 ^ (KK - 52) := by unfold val; rw [Nat.mul_assoc, ← Nat.pow_add, ev']
  have eK : KK = 52 + (KK - 52) := by omega
  have hK52 : 2 ^ KK = 2 ^ 52 * 2 ^ (KK - 52) := by rw [← Nat.pow_add, ← eK]
  have hmj : 2 ^ j ≤ m := by
    have h3 : 2 ^ j * 2 ^ e * 2 ^ (KK - 52) ≤ m * 2 ^ e * 2 ^ (KK - 52) := by rw [hje, ← hK52, ← hvm]; exact h1
    exact Nat.le_of_mul_le_mul_right (Nat.le_of_mul_le_mul_right h3 (Nat.two_pow_pos _)) (Nat.two_pow_pos _)
  have hmag : m * 2 ^ e - 2 ^ 52 = (m - 2 ^ j) * 2 ^ e := by rw [Nat.sub_mul, hje]
  have hge : 2 ^ 52 ≤ m * 2 ^ e := by rw [← hje]; exact Nat.mul_le_mul_right _ hmj
  have hvr : val (m * 2 ^ e - 2 ^ 52) (-52) = val m i - 2 ^ KK := by
    have e5 : ((-52 : Int) + (KK : Int)).toNat = KK - 52 := by omega
    rw [hvm, hK52, ← Nat.sub_mul]
    unfold val
    rw [e5]
  refine ⟨double.nearest false (m * 2 ^ e - 2 ^ 52) (-52), ?_, ?_⟩
  · unfold Ieee.Format.sub
    rw [hr, read_one]
    have hmin : min i (-52) = -52 := by omega
    have e1 : (i - min i (-52)).toNat = e := by omega
    have e2 : ((-52 : Int) - min i (-52)).toNat = 0 := by omega
    have hs := sum_less m (2 ^ 52) i (-52) e 0 e1 e2 (by rw [Nat.pow_zero, Nat.mul_one]; exact hge)
    rw [Nat.pow_zero, Nat.mul_one, hmin] at hs
    have ho : (Datum.number false (2 ^ 52) (-52)).opposite = Datum.number true (2 ^ 52) (-52) := rfl
    rw [ho, hs]
    rfl
  · by_cases hq0 : m - 2 ^ j = 0
    · have hz : m * 2 ^ e - 2 ^ 52 = 0 := by rw [hmag, hq0, Nat.zero_mul]
      rw [hz] at hvr ⊢
      refine ⟨false, 0, -1074, nearest_zero _ _, .inl rfl, ?_⟩
      rw [← hvr, val_zero, val_zero]
    · rcases nearest_exact false (m * 2 ^ e - 2 ^ 52) (-52) (m - 2 ^ j) e hq0 (Nat.lt_of_le_of_lt (Nat.sub_le _ _) hm) hmag (by omega) (by omega) with ⟨k, t, a1, a2, _⟩ | ⟨_, a2⟩
      · exact ⟨false, k, t, a1, .inl rfl, a2.trans hvr⟩
      · exfalso
        have hne : m * 2 ^ e - 2 ^ 52 ≠ 0 := by rw [hmag]; exact Nat.mul_ne_zero hq0 (by have := Nat.two_pow_pos e; omega)
        have h4 := small_val hne (by omega) (i := -52) (by rw [hvr]; have : 2 ^ (KK + 1) ≤ 2 ^ (KK + 2) := Nat.pow_le_pow_right (by omega) (by omega); omega)
        omega

/-- what is left of the fraction after l doublings -/
def left (V l : Nat) : Nat := V * 2 ^ l % 2 ^ KK
theorem left_lt (V l : Nat) : left V l < 2 ^ KK := Nat.mod_lt _ (Nat.two_pow_pos _)
theorem left_step (V l : Nat) : (2 ^ KK ≤ 2 * left V l → left V (l + 1) = 2 * left V l - 2 ^ KK ∧ V * 2 ^ (l + 1) / 2 ^ KK = 2 * (V * 2 ^ l / 2 ^ KK) + 1) ∧
    (2 * left V l < 2 ^ KK → left V (l + 1) = 2 * left V l ∧ V * 2 ^ (l + 1) / 2 ^ KK = 2 * (V * 2 ^ l / 2 ^ KK)) := by
  have hlt := left_lt V l
  have hlt2 := left_lt V (l + 1)
  unfold left at *
  have e : V * 2 ^ (l + 1) = 2 * (V * 2 ^ l) := by rw [Nat.pow_succ, ← Nat.mul_assoc, Nat.mul_comm]
  rw [e] at *
  generalize V * 2 ^ l = A at *
  have d1 := Nat.div_add_mod A (2 ^ KK)
  have d2 := Nat.div_add_mod (2 * A) (2 ^ KK)
  generalize hP : 2 ^ KK = P at *
  generalize A % P = r at *
  generalize A / P = q at *
  generalize 2 * A % P = r2 at *
  have hpos : 0 < P := by rw [← hP]; exact Nat.two_pow_pos _
  constructor
  · intro h
    have hq : 2 * A / P = 2 * q + 1 := by
      apply Nat.div_eq_of_lt_le
      · rw [Nat.add_mul, Nat.mul_assoc, Nat.mul_comm q]; omega
      · rw [Nat.add_mul, Nat.add_mul, Nat.mul_assoc, Nat.mul_comm q]; omega
    rw [hq] at d2 ⊢
    refine ⟨?_, rfl⟩
    rw [Nat.mul_add, Nat.mul_comm P (2 * q), Nat.mul_assoc, Nat.mul_comm q] at d2
    omega
  · intro h
    have hq : 2 * A / P = 2 * q := by
      apply Nat.div_eq_of_lt_le
      · rw [Nat.mul_assoc, Nat.mul_comm q]; omega
      · rw [Nat.add_mul, Nat.mul_assoc, Nat.mul_comm q]; omega
    rw [hq] at d2 ⊢
    refine ⟨?_, rfl⟩
    rw [Nat.mul_comm P (2 * q), Nat.mul_assoc, Nat.mul_comm q] at d2
    omega

/-- the l-th digit -/
def dgt (f : Option Nat) (l : Nat) : Nat := rcv f l % 2

theorem dgt_lt (f : Option Nat) (l : Nat) : dgt f l = 0 ∨ dgt f l = 1 := by unfold dgt; omega

theorem rcv_small {x V l : Nat} (h : Nn x V) (hV : V < 2 ^ KK) : rcv (some x) l = V * 2 ^ l / 2 ^ KK := by
  obtain ⟨s, m, i, hr, hs, rfl⟩ := h
  have hlt : val m i * 2 ^ l / 2 ^ KK < 2 ^ l := by
    apply Nat.div_lt_of_lt_mul
    exact Nat.mul_lt_mul_of_pos_right hV (Nat.two_pow_pos _)
  rcases hs with rfl | rfl
  · simp only [rcv, hr]
    omega
  · cases s
    · simp only [rcv, hr]; omega
    · simp [rcv, hr, val_zero]

theorem dgt_step {x V : Nat} (h : Nn x V) (hV : V < 2 ^ KK) (l : Nat) : (2 ^ KK ≤ 2 * left V l → dgt (some x) (l + 1) = 1) ∧ (2 * left V l < 2 ^ KK → dgt (some x) (l + 1) = 0) := by
  have hs := left_step V l
  unfold dgt
  rw [rcv_small h hV]
  exact ⟨fun h2 => by rw [(hs.1 h2).2]; omega, fun h2 => by rw [(hs.2 h2).2]; omega⟩

theorem dgt_zero (f : Option Nat) : dgt f 0 = 0 := by
  have := rcv_lt f 0
  unfold dgt
  omega

/-- the three kinds of a fraction, as the Go text tells them apart -/
theorem frac_kinds (x : Nat) (hx : (double.read x).isNaN = false) :
    (double.order x 0 = some .lt ∧ ∀ l, dgt (some x) l = 0) ∨
    ((double.order x 0 = some .gt ∨ double.order x 0 = some .eq) ∧
      (((double.order x oneBits = some .gt ∨ double.order x oneBits = some .eq) ∧ ∀ l, 1 ≤ l → dgt (some x) l = 1) ∨
       (double.order x oneBits = some .lt ∧ ∃ V, Nn x V ∧ V < 2 ^ KK))) := by
  have h0 := read_zero
  have hodd : ∀ l, 1 ≤ l → (2 ^ l - 1) % 2 = 1 := by
    intro l hl
    obtain ⟨k, rfl⟩ : ∃ k, l = k + 1 := ⟨l - 1, by omega⟩
    rw [Nat.pow_succ]
    have := Nat.two_pow_pos k
    omega
  cases hd : double.read x with
  | nan s t => rw [hd] at hx; cases hx
  | infinity s =>
    cases s with
    | true =>
      left
      refine ⟨?_, fun l => by simp [dgt, rcv, hd]⟩
      unfold Ieee.Format.order; rw [hd, h0]; rfl
    | false =>
      right
      refine ⟨.inl ?_, .inl ⟨.inl ?_, fun l hl => ?_⟩⟩
      · unfold Ieee.Format.order; rw [hd, h0]; rfl
      · unfold Ieee.Format.order; rw [hd, read_one]; rfl
      · have : rcv (some x) l = 2 ^ l - 1 := by simp only [rcv, hd]
        unfold dgt; rw [this]; exact hodd l hl
  | number s m i =>
    by_cases hneg : s = true ∧ m ≠ 0
    · left
      obtain ⟨rfl, hm⟩ := hneg
      refine ⟨?_, fun l => by simp [dgt, rcv, hd]⟩
      unfold Ieee.Format.order; rw [hd, h0]
      simp only [Datum.order, Ieee.signed, if_true, Bool.false_eq_true, if_false, Nat.shiftLeft_eq, Nat.zero_mul]
      congr 1
      rw [Int.compare_eq_lt]
      have := Nat.mul_pos (Nat.pos_of_ne_zero hm) (Nat.two_pow_pos (i - min i (-1074)).toNat)
      omega
    · right
      have hs : s = false ∨ m = 0 := by
        cases s
        · exact .inl rfl
        · right
          by_cases hm : m = 0
          · exact hm
          · exact absurd ⟨rfl, hm⟩ hneg
      have hN : Nn x (val m i) := ⟨s, m, i, hd, hs, rfl⟩
      have ho := nn_order_one hN
      rw [Nat.compare_eq_ite_lt] at ho
      refine ⟨?_, ?_⟩
      · rcases hs with rfl | rfl
        · have hz := order_val hd h0
          rw [val_zero, Nat.compare_eq_ite_lt, if_neg (by omega)] at hz
          rw [hz]
          by_cases hc : 0 < val m i
          · left; rw [if_pos hc]
          · right; rw [if_neg hc]
        · right
          unfold Ieee.Format.order; rw [hd, h0]
          simp only [Datum.order, Ieee.signed, Nat.shiftLeft_eq, Nat.zero_mul]
          cases s <;> simp
      · by_cases hlt : val m i < 2 ^ KK
        · right
          rw [if_pos hlt] at ho
          exact ⟨ho, _, hN, hlt⟩
        · left
          rw [if_neg hlt] at ho
          refine ⟨?_, fun l hl => ?_⟩
          · by_cases hgt : 2 ^ KK < val m i
            · rw [if_pos hgt] at ho; exact .inl ho
            · rw [if_neg hgt] at ho; exact .inr ho
          · have hm0 : m ≠ 0 := by
              intro h; subst h
              rw [val_zero] at hlt
              exact hlt (Nat.two_pow_pos _)
            have hs' : s = false := by rcases hs with h | h; exact h; exact absurd h hm0
            subst hs'
            have : rcv (some x) l = 2 ^ l - 1 := by
              simp only [rcv, hd]
              apply Nat.min_eq_right
              have h5 : 2 ^ l ≤ val m i * 2 ^ l / 2 ^ KK := by
                apply (Nat.le_div_iff_mul_le (Nat.two_pow_pos _)).2
                rw [Nat.mul_comm]
                exact Nat.mul_le_mul_right _ (by omega)
              have := Nat.two_pow_pos l
              omega
            unfold dgt; rw [this]; exact hodd l hl

end Go.Proofs.Qxb6629292a
