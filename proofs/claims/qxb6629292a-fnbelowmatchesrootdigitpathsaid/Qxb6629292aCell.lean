/- The column of the root at a level, in plain numbers: what the float operations of the Go text come to. Nothing of the dump. -/
import Derived.Test.Qxb6629292aFl
namespace Go.Proofs.Qxb6629292a.Fl
open Ieee

/-- the exponent from which a number is too great -/
def TT : Nat := 1024
theorem TT_le : TT ≤ 1024 := Nat.le_refl _
theorem TT_ge : 53 ≤ TT := by unfold TT; omega

/-- 'float64(n)' -/
def fl (n : Int) : Nat := FloatKind.f64.nearest n
/-- 'math.Floor' on what is no NaN -/
def flr (p : Nat) : Nat := double.write ((double.read p).integral .down)

theorem fl_pow (l : Nat) (h : l ≤ 53) : double.read (fl (2 ^ l)) = .number false (2 ^ 52) ((l : Int) - 52) := by
  have H : ∀ l : Fin 54, double.read (fl (2 ^ l.val)) = .number false (2 ^ 52) ((l.val : Int) - 52) := by decide +kernel
  exact H ⟨l, by omega⟩
theorem fl_pred (l : Nat) (h1 : 1 ≤ l) (h : l ≤ 53) : double.read (fl (2 ^ l - 1)) = .number false ((2 ^ l - 1) * 2 ^ (53 - l)) ((l : Int) - 53) := by
  have H : ∀ l : Fin 53, double.read (fl (2 ^ (l.val + 1) - 1)) = .number false ((2 ^ (l.val + 1) - 1) * 2 ^ (53 - (l.val + 1))) (((l.val + 1 : Nat) : Int) - 53) := by decide +kernel
  have := H ⟨l - 1, by omega⟩
  have e : l - 1 + 1 = l := by omega
  simp only [e] at this
  exact this

theorem val_pred (l : Nat) (h : l ≤ 53) : val ((2 ^ l - 1) * 2 ^ (53 - l)) ((l : Int) - 53) = (2 ^ l - 1) * 2 ^ KK := by
  have hK := KK_ge
  unfold val
  rw [Nat.mul_assoc, ← Nat.pow_add]
  congr 2
  omega

theorem order_val {a b : Nat} {m n : Nat} {i j : Int} (ha : double.read a = .number false m i) (hb : double.read b = .number false n j) : double.order a b = some (compare (val m i) (val n j)) := by
  have hK := KK_ge
  obtain ⟨_, hi, _⟩ := read_number ha
  obtain ⟨_, hj, _⟩ := read_number hb
  unfold Format.order
  rw [ha, hb]
  simp only [Datum.order, signed, Bool.false_eq_true, if_false, Nat.shiftLeft_eq]
  congr 1
  obtain ⟨A, hA⟩ : ∃ A, A = m * 2 ^ (i - min i j).toNat := ⟨_, rfl⟩
  obtain ⟨B, hB⟩ : ∃ B, B = n * 2 ^ (j - min i j).toNat := ⟨_, rfl⟩
  have e1 : val m i = A * 2 ^ (min i j + (KK : Int)).toNat := by
    unfold val; rw [hA, Nat.mul_assoc, ← Nat.pow_add]; congr 2; omega
  have e2 : val n j = B * 2 ^ (min i j + (KK : Int)).toNat := by
    unfold val; rw [hB, Nat.mul_assoc, ← Nat.pow_add]; congr 2; omega
  rw [e1, e2, ← hA, ← hB, Int.compare_eq_ite_lt, Nat.compare_eq_ite_lt]
  have hp : 0 < 2 ^ (min i j + (KK : Int)).toNat := Nat.two_pow_pos _
  simp only [Int.ofNat_lt, Nat.mul_lt_mul_right hp]

theorem cut_val (way : Toward) (s : Bool) (k : Nat) (t : Int) (ht : -(KK : Int) ≤ t) (h : way = .zero ∨ (way = .down ∧ s = false)) : way.cut s (k <<< t.toNat) (-t).toNat = val k t / 2 ^ KK := by
  rw [cut_div way s _ _ h, Nat.shiftLeft_eq]
  unfold val
  by_cases h0 : 0 ≤ t
  · have e1 : (-t).toNat = 0 := by omega
    have e2 : (t + (KK : Int)).toNat = t.toNat + KK := by omega
    rw [e1, e2, Nat.pow_zero, Nat.div_one, Nat.pow_add, ← Nat.mul_assoc, Nat.mul_div_cancel _ (Nat.two_pow_pos _)]
  · have e1 : t.toNat = 0 := by omega
    obtain ⟨c, hc⟩ : ∃ c, KK = (-t).toNat + c := ⟨KK - (-t).toNat, by omega⟩
    have e2 : (t + (KK : Int)).toNat = c := by omega
    rw [e1, e2, Nat.pow_zero, Nat.mul_one]
    rw [show (2 : Nat) ^ KK = 2 ^ (-t).toNat * 2 ^ c by rw [← Nat.pow_add, ← hc]]
    rw [Nat.mul_div_mul_right _ _ (Nat.two_pow_pos c)]

theorem integral_val {k : Nat} {t : Int} (ht : -(KK : Int) ≤ t) : (Datum.number false k t).integral .down = .number false (val k t / 2 ^ KK) 0 := by
  unfold Datum.integral
  dsimp only
  rw [cut_val .down false k t ht (.inr ⟨rfl, rfl⟩)]

theorem toInt_val {k : Nat} {s : Bool} {t : Int} {n : Nat} (ht : -(KK : Int) ≤ t) (h : val k t = n * 2 ^ KK) (hs : s = false ∨ n = 0) : (Datum.number s k t).toInt .zero = some (n : Int) := by
  unfold Datum.toInt Datum.integral
  dsimp only
  rw [cut_val .zero s k t ht (.inl rfl), h, Nat.mul_div_cancel _ (Nat.two_pow_pos _)]
  rcases hs with rfl | rfl
  · simp [signed]
  · cases s <;> simp [signed]

/-- the floor of what is not negative -/
theorem flr_nonneg {p k : Nat} {t : Int} (hp : double.read p = .number false k t) :
    (∃ k' t', double.read (flr p) = .number false k' t' ∧ val k' t' = (val k t / 2 ^ KK) * 2 ^ KK) ∨ (double.read (flr p) = .infinity false ∧ 2 ^ TT ≤ val k t / 2 ^ KK) := by
  have hK := KK_ge
  obtain ⟨hk, ht, _⟩ := read_number hp
  have e : flr p = double.nearest false (val k t / 2 ^ KK) 0 := by
    unfold flr; rw [hp, integral_val (by omega)]; rfl
  rw [e]
  by_cases hQ : val k t / 2 ^ KK = 0
  · left
    rw [hQ]
    exact ⟨0, -1074, nearest_zero _ _, by simp [val]⟩
  · have hex : ∃ q e : Nat, q < 2 ^ 53 ∧ val k t / 2 ^ KK = q * 2 ^ e := by
      by_cases h0 : 0 ≤ t
      · refine ⟨k, t.toNat, hk, ?_⟩
        unfold val
        have e2 : (t + (KK : Int)).toNat = t.toNat + KK := by omega
        rw [e2, Nat.pow_add, ← Nat.mul_assoc, Nat.mul_div_cancel _ (Nat.two_pow_pos _)]
      · refine ⟨val k t / 2 ^ KK, 0, ?_, by simp⟩
        refine Nat.lt_of_le_of_lt ?_ hk
        apply Nat.div_le_of_le_mul
        unfold val
        rw [Nat.mul_comm]
        exact Nat.mul_le_mul_right _ (Nat.pow_le_pow_right (by omega) (by omega))
    obtain ⟨q, e, hq, hqe⟩ := hex
    have hq0 : q ≠ 0 := fun h => hQ (by rw [hqe, h]; simp)
    rcases nearest_exact false (val k t / 2 ^ KK) 0 q e hq0 hq hqe (by omega) (by omega) with ⟨k', t', h1, h2, _⟩ | ⟨h1, h2⟩
    · left
      refine ⟨k', t', h1, ?_⟩
      rw [h2]
      generalize val k t / 2 ^ KK = Z
      unfold val
      rw [show ((0 : Int) + (KK : Int)).toNat = KK by omega]
    · right
      have hT := TT_le
      exact ⟨h1, (Nat.le_log2 hQ).1 (by omega)⟩

theorem sign_nearest {Q : Nat} (hQ : Q ≠ 0) : double.read (double.nearest true Q 0) = .infinity true ∨ ∃ k t, double.read (double.nearest true Q 0) = .number true k t ∧ k ≠ 0 := by
  have hnear : ∃ r, double.nearest true Q 0 = double.word true r ∧ 2 ^ 52 ≤ r ∧ r ≤ 2047 * 2 ^ 52 := by
    unfold Format.nearest
    simp only [least, bin, inf]
    rw [if_neg hQ]
    have e1 : (double.fractionBits : Int) = 52 := rfl
    rw [e1]
    generalize Toward.even.cut true _ _ = kept
    have : 1 ≤ (max (0 + (Q.log2 : Int) - 52) (-1074) - -1074).toNat := by omega
    generalize (max (0 + (Q.log2 : Int) - 52) (-1074) - -1074).toNat = z at this ⊢
    refine ⟨_, rfl, ?_, Nat.min_le_right _ _⟩
    have h2 : 2 ^ 52 ≤ z * 2 ^ 52 + kept := by omega
    have h3 : 2 ^ 52 ≤ 2047 * 2 ^ 52 := by omega
    exact Nat.le_min.2 ⟨h2, h3⟩
  obtain ⟨r, h1, h2, h3⟩ := hnear
  rw [h1, read_word true r h3]
  by_cases h : r < 2047 * 2 ^ 52
  · right
    rw [if_neg (by omega), if_pos h]
    exact ⟨_, _, rfl, by omega⟩
  · left
    rw [if_neg (by omega), if_neg h]

theorem cut_down_ne {n d : Nat} (hn : n ≠ 0) : Toward.down.cut true n d ≠ 0 := by
  unfold Toward.cut
  dsimp only
  intro h
  have hd := Nat.div_add_mod n (1 <<< min d (n.log2 + 2))
  obtain ⟨h1, h2⟩ := Nat.add_eq_zero_iff.1 h
  have h3 : n % 1 <<< min d (n.log2 + 2) = 0 := by
    by_cases h4 : n % 1 <<< min d (n.log2 + 2) = 0
    · exact h4
    · have : (n % 1 <<< min d (n.log2 + 2) != 0) = true := by simp [h4]
      simp [this] at h2
  rw [h1, h3] at hd
  omega

theorem flr_neg {p : Nat} (hp : double.read p = .infinity true ∨ ∃ k t, double.read p = .number true k t ∧ k ≠ 0) : double.order (flr p) 0 = some .lt := by
  have h0 : double.read 0 = .number false 0 (-1074) := by decide
  have key : double.read (flr p) = .infinity true ∨ ∃ k t, double.read (flr p) = .number true k t ∧ k ≠ 0 := by
    rcases hp with hp | ⟨k, t, hp, hk⟩
    · left
      unfold flr; rw [hp]
      show double.read (double.word true double.infRung) = _
      rw [inf, read_word true _ (Nat.le_refl _)]
      simp
    · have e : flr p = double.nearest true (Toward.down.cut true (k <<< t.toNat) (-t).toNat) 0 := by
        unfold flr; rw [hp]; rfl
      rw [e]
      refine sign_nearest (cut_down_ne ?_)
      rw [Nat.shiftLeft_eq]
      exact Nat.mul_ne_zero hk (by have := Nat.two_pow_pos t.toNat; omega)
  unfold Format.order
  rcases key with h | ⟨k, t, h, hk⟩
  · rw [h, h0]; rfl
  · rw [h, h0]
    simp only [Datum.order, signed, if_true, Bool.false_eq_true, if_false, Nat.shiftLeft_eq]
    congr 1
    rw [Int.compare_eq_lt]
    have : 0 < k * 2 ^ (t - min t (-1074)).toNat := Nat.mul_pos (by omega) (Nat.two_pow_pos _)
    omega

/-- the fraction times 2^l -/
theorem mul_pow {x m l : Nat} {s : Bool} {i : Int} (hl : l ≤ 53) (hx : double.read x = .number s m i) :
    ∃ p, double.mul x (fl (2 ^ l)) = some p ∧
      ((∃ k t, double.read p = .number s k t ∧ val k t = val m i * 2 ^ l ∧ (k = 0 ↔ m = 0)) ∨ (double.read p = .infinity s ∧ m ≠ 0 ∧ 2 ^ TT * 2 ^ KK ≤ val m i * 2 ^ l)) := by
  have hK := KK_ge
  obtain ⟨hm, hi, _⟩ := read_number hx
  refine ⟨double.nearest s (m * 2 ^ 52) (i + ((l : Int) - 52)), ?_, ?_⟩
  · unfold Format.mul
    rw [hx, fl_pow l hl]
    simp [Datum.product, Format.write]
  · have hv : val (m * 2 ^ 52) (i + ((l : Int) - 52)) = val m i * 2 ^ l := by
      unfold val
      rw [Nat.mul_assoc, Nat.mul_assoc, ← Nat.pow_add, ← Nat.pow_add]
      congr 2
      omega
    by_cases h0 : m = 0
    · subst h0
      left
      rw [Nat.zero_mul]
      exact ⟨0, -1074, nearest_zero _ _, by simp [val], by simp⟩
    · rcases nearest_exact s (m * 2 ^ 52) (i + ((l : Int) - 52)) m 52 h0 hm rfl (by omega) (by omega) with ⟨k, t, h1, h2, h3⟩ | ⟨h1, h2⟩
      · left
        exact ⟨k, t, h1, h2.trans hv, by simp [h0, h3]⟩
      · right
        refine ⟨h1, h0, ?_⟩
        rw [log2_mul_pow h0] at h2
        have h3 := Nat.log2_self_le h0
        rw [← hv]
        unfold val
        refine Nat.le_trans ?_ (Nat.mul_le_mul_right _ (Nat.mul_le_mul_right (2 ^ 52) h3))
        have hT := TT_le
        rw [← Nat.pow_add, ← Nat.pow_add, ← Nat.pow_add]
        exact Nat.pow_le_pow_right (by omega) (by omega)

/-- THE ROOT's COLUMN at level l: of a fraction's bits ('none': a NaN). -/
def rcv (f : Option Nat) (l : Nat) : Nat :=
  match f with
  | none => 0
  | some x => match double.read x with
    | .number false m i => min (val m i * 2 ^ l / 2 ^ KK) (2 ^ l - 1)
    | .infinity false => 2 ^ l - 1
    | _ => 0

/-- what 'min' hands back, and that it is the column -/
def MinIs (c y r : Nat) : Prop := (double.order c y = some .lt ∧ r = c) ∨ (double.order c y = some .gt ∧ r = y) ∨ (double.order c y = some .eq ∧ r = if (double.read c).neg then c else y)

def Good (p x l : Nat) : Prop :=
  (double.read p).isNaN = false ∧
      ((double.order (flr p) 0 = some .lt ∧ rcv (some x) l = 0) ∨
       ((double.order (flr p) 0 = some .gt ∨ double.order (flr p) 0 = some .eq) ∧ ∃ r, MinIs (flr p) (fl (2 ^ l - 1)) r ∧ (double.read r).toInt .zero = some (rcv (some x) l : Int)))

theorem read_zero : double.read 0 = .number false 0 (-1074) := by decide

theorem pred_int (l : Nat) (h1 : 1 ≤ l) (hl : l ≤ 53) : (double.read (fl (2 ^ l - 1))).toInt .zero = some ((2 ^ l - 1 : Nat) : Int) := by
  have hK := KK_ge
  rw [fl_pred l h1 hl]; exact toInt_val (by omega) (val_pred l hl) (.inl rfl)

theorem min_inf (l : Nat) (h1 : 1 ≤ l) (hl : l ≤ 53) (c : Nat) (hc : double.read c = .infinity false) : MinIs c (fl (2 ^ l - 1)) (fl (2 ^ l - 1)) ∧ double.order c 0 = some .gt := by
  refine ⟨.inr (.inl ⟨?_, rfl⟩), ?_⟩
  · unfold Format.order; rw [hc, fl_pred l h1 hl]; simp [Datum.order]
  · unfold Format.order; rw [hc, read_zero]; simp [Datum.order]

theorem flr_inf {p : Nat} {s : Bool} (hp : double.read p = .infinity s) : double.read (flr p) = .infinity s := by
  unfold flr
  rw [hp]
  simp only [Datum.integral, Format.write]
  rw [inf, read_word s _ (Nat.le_refl _)]
  simp

theorem good_inf (x l : Nat) (s : Bool) (h1 : 1 ≤ l) (hl : l ≤ 53) (hd : double.read x = .infinity s) : ∃ p, double.mul x (fl (2 ^ l)) = some p ∧ Good p x l := by
  have hm : double.mul x (fl (2 ^ l)) = some (double.word s (2047 * 2 ^ 52)) := by
    unfold Format.mul
    rw [hd, fl_pow l hl]
    simp [Datum.product, Format.write, inf]
  have hr : double.read (double.word s (2047 * 2 ^ 52)) = .infinity s := by
    rw [read_word s _ (Nat.le_refl _)]; simp
  refine ⟨_, hm, by rw [hr]; rfl, ?_⟩
  cases s with
  | true =>
    left
    refine ⟨flr_neg (.inl hr), ?_⟩
    simp only [rcv, hd]
  | false =>
    right
    obtain ⟨a, b⟩ := min_inf l h1 hl _ (flr_inf hr)
    refine ⟨.inl b, _, a, ?_⟩
    rw [pred_int l h1 hl]
    simp only [rcv, hd]

theorem good_neg (x l m : Nat) (i : Int) (h1 : 1 ≤ l) (hl : l ≤ 53) (hd : double.read x = .number true m i) : ∃ p, double.mul x (fl (2 ^ l)) = some p ∧ Good p x l := by
  have hK := KK_ge
  have h2l : 2 ≤ 2 ^ l := Nat.le_trans (by omega : 2 ≤ 2 ^ 1) (Nat.pow_le_pow_right (by omega) h1)
  have hrc : rcv (some x) l = 0 := by simp only [rcv, hd]
  obtain ⟨p, hp, hpp⟩ := mul_pow hl hd
  refine ⟨p, hp, ?_, ?_⟩
  · rcases hpp with ⟨k, t, h, _⟩ | ⟨h, _⟩ <;> rw [h] <;> rfl
  · by_cases hm0 : m = 0
    · subst hm0
      right
      rcases hpp with ⟨k, t, hr, hv, hz⟩ | ⟨_, h, _⟩
      · obtain rfl : k = 0 := hz.2 rfl
        have hc : double.read (flr p) = .number true 0 (-1074) := by
          have e : flr p = double.nearest true 0 0 := by
            unfold flr
            rw [hr]
            simp only [Datum.integral, Format.write]
            rw [Nat.zero_shiftLeft]
            simp [Toward.cut]
          rw [e]; exact nearest_zero _ _
        have hlt : double.order (flr p) (fl (2 ^ l - 1)) = some .lt := by
          unfold Format.order
          rw [hc, fl_pred l h1 hl]
          simp only [Datum.order, signed, if_true, Bool.false_eq_true, if_false, Nat.shiftLeft_eq, Nat.zero_mul]
          congr 1
          rw [Int.compare_eq_lt]
          have h5 : 0 < (2 ^ l - 1) * 2 ^ (53 - l) := Nat.mul_pos (by omega) (Nat.two_pow_pos _)
          have := Nat.mul_pos h5 (Nat.two_pow_pos ((l : Int) - 53 - min (-1074) ((l : Int) - 53)).toNat)
          omega
        refine ⟨.inr ?_, flr p, .inl ⟨hlt, rfl⟩, ?_⟩
        · unfold Format.order; rw [hc, read_zero]; decide
        · rw [hc, hrc]
          exact toInt_val (by omega) (by simp [val]) (.inr rfl)
      · exact absurd rfl h
    · left
      refine ⟨flr_neg ?_, hrc⟩
      rcases hpp with ⟨k, t, hr, hv, hz⟩ | ⟨h, _, _⟩
      · exact .inr ⟨k, t, hr, fun h => hm0 (hz.1 h)⟩
      · exact .inl h

theorem good_pos (x l m : Nat) (i : Int) (h1 : 1 ≤ l) (hl : l ≤ 53) (hd : double.read x = .number false m i) : ∃ p, double.mul x (fl (2 ^ l)) = some p ∧ Good p x l := by
  have hK := KK_ge
  have hT := TT_ge
  have hpow : 2 ^ l ≤ 2 ^ TT := Nat.pow_le_pow_right (by omega) (by omega)
  have hpred := fl_pred l h1 hl
  have hpd := pred_int l h1 hl
  obtain ⟨Q, hQ⟩ : ∃ Q, Q = val m i * 2 ^ l / 2 ^ KK := ⟨_, rfl⟩
  have hrc : rcv (some x) l = min Q (2 ^ l - 1) := by simp only [rcv, hd]; rw [hQ]
  have hbigc : ∀ c, double.read c = .infinity false → 2 ^ TT ≤ Q → ((double.order c 0 = some .gt ∨ double.order c 0 = some .eq) ∧ ∃ r, MinIs c (fl (2 ^ l - 1)) r ∧ (double.read r).toInt .zero = some (rcv (some x) l : Int)) := by
    intro c hc hb
    obtain ⟨a, b⟩ := min_inf l h1 hl _ hc
    refine ⟨.inl b, _, a, ?_⟩
    rw [hpd, hrc, Nat.min_eq_right (by omega)]
  obtain ⟨p, hp, hpp⟩ := mul_pow hl hd
  refine ⟨p, hp, ?_, .inr ?_⟩
  · rcases hpp with ⟨k, t, h, _⟩ | ⟨h, _⟩ <;> rw [h] <;> rfl
  · rcases hpp with ⟨k, t, hr, hv, _⟩ | ⟨hr, _, hbig⟩
    · rcases flr_nonneg hr with ⟨k', t', hc, hcv⟩ | ⟨hc, hbig⟩
      · rw [hv, ← hQ] at hcv
        have ho := order_val hc hpred
        rw [hcv, val_pred l hl, Nat.compare_eq_ite_lt] at ho
        simp only [Nat.mul_lt_mul_right (Nat.two_pow_pos KK)] at ho
        have hz := order_val hc read_zero
        refine ⟨?_, ?_⟩
        · rw [hz, Nat.compare_eq_ite_lt]
          have : val 0 (-1074) = 0 := by simp [val]
          rw [this]
          by_cases hc0 : 0 < val k' t'
          · left; simp [hc0]
          · right; simp [hc0]
        · rw [hrc]
          obtain ⟨_, ht', _⟩ := read_number hc
          by_cases hlt : Q < 2 ^ l - 1
          · rw [if_pos hlt] at ho
            refine ⟨flr p, .inl ⟨ho, rfl⟩, ?_⟩
            rw [hc, Nat.min_eq_left (by omega)]
            exact toInt_val (by omega) hcv (.inl rfl)
          · rw [if_neg hlt] at ho
            rw [Nat.min_eq_right (by omega)]
            by_cases hgt : 2 ^ l - 1 < Q
            · rw [if_pos hgt] at ho
              exact ⟨_, .inr (.inl ⟨ho, rfl⟩), hpd⟩
            · rw [if_neg hgt] at ho
              have hneg : (double.read (flr p)).neg = false := by rw [hc]; rfl
              refine ⟨fl (2 ^ l - 1), .inr (.inr ⟨ho, ?_⟩), hpd⟩
              rw [hneg, if_neg Bool.false_ne_true]
      · rw [hv, ← hQ] at hbig
        exact hbigc _ hc hbig
    · refine hbigc _ (flr_inf hr) ?_
      rw [hQ]
      exact (Nat.le_div_iff_mul_le (Nat.two_pow_pos _)).2 hbig

/-- THE COLUMN, by the float operations of the Go text. -/
theorem cell_spec (x l : Nat) (h1 : 1 ≤ l) (hl : l ≤ 53) (hx : (double.read x).isNaN = false) : ∃ p, double.mul x (fl (2 ^ l)) = some p ∧ Good p x l := by
  cases hd : double.read x with
  | nan s t => rw [hd] at hx; cases hx
  | infinity s => exact good_inf x l s h1 hl hd
  | number s m i =>
    cases s with
    | true => exact good_neg x l m i h1 hl hd
    | false => exact good_pos x l m i h1 hl hd

end Go.Proofs.Qxb6629292a.Fl
