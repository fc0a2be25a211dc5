/- Plain mathematics of binary64 for the seat: exact scaling by powers of two, floors, comparisons. Nothing of the dump. -/
import GoSem.Core.Float
namespace Go.Proofs.Qxb6629292a.Fl
open Ieee

/-- the scale: values are told in units of 2^-KK -/
def KK : Nat := 2000
theorem KK_ge : 1200 ≤ KK := by unfold KK; omega

def val (m : Nat) (i : Int) : Nat := m * 2 ^ (i + (KK : Int)).toNat

theorem least : double.leastPlace = -1074 := by decide
theorem bin : double.binade = 2 ^ 52 := rfl
theorem inf : double.infRung = 2047 * 2 ^ 52 := by decide
theorem sw : double.signWeight = 2 ^ 63 := rfl

theorem two_pow_add (a b : Nat) : 2 ^ (a + b) = 2 ^ a * 2 ^ b := Nat.pow_add 2 a b

theorem read_word (s : Bool) (r : Nat) (h : r ≤ 2047 * 2 ^ 52) :
    double.read (double.word s r) = if r < 2 ^ 52 then .number s r (-1074) else if r < 2047 * 2 ^ 52 then .number s (2 ^ 52 + r % 2 ^ 52) (-1074 + ((r / 2 ^ 52 - 1 : Nat) : Int)) else .infinity s := by
  have e1 : (double.word s r / double.signWeight % 2 == 1) = s := by
    unfold Format.word; rw [sw]
    cases s
    · have : r / 2 ^ 63 = 0 := by omega
      simp [this]
    · have : (2 ^ 63 + r) / 2 ^ 63 = 1 := by omega
      simp [this]
  have e2 : double.word s r % double.signWeight = r := by
    unfold Format.word; rw [sw]
    cases s
    · simp; omega
    · simp; omega
  unfold Format.read
  simp only [e1, e2, bin, inf, least]
  by_cases h1 : r < 2 ^ 52
  · simp [h1]
  · by_cases h2 : r < 2047 * 2 ^ 52
    · rw [if_neg h1, if_pos h2, if_neg h1, if_pos h2]
    · have h3 : r = 2047 * 2 ^ 52 := by omega
      rw [if_neg h1, if_neg h2, if_pos h3, if_neg h1, if_neg h2]

/-- a word made of a significand and a place reads as just these -/
theorem read_made (s : Bool) (k : Nat) (t : Int) (hk : k < 2 ^ 53) (ht : -1074 ≤ t) (hn : t = -1074 ∨ 2 ^ 52 ≤ k) (hi : (t + 1074).toNat * 2 ^ 52 + k < 2047 * 2 ^ 52) :
    double.read (double.word s ((t + 1074).toNat * 2 ^ 52 + k)) = .number s k t := by
  rw [read_word s _ (by omega)]
  obtain ⟨n, hn'⟩ : ∃ n : Nat, t = -1074 + n := ⟨(t + 1074).toNat, by omega⟩
  subst hn'
  have e : (-1074 + (n : Int) + 1074).toNat = n := by omega
  rw [e] at hi ⊢
  by_cases h1 : n * 2 ^ 52 + k < 2 ^ 52
  · have : n = 0 := by omega
    subst this
    rw [if_pos h1]; simp
  · rw [if_neg h1, if_pos hi]
    have hk2 : 2 ^ 52 ≤ k := by omega
    have e1 : (n * 2 ^ 52 + k) / 2 ^ 52 = n + 1 := by omega
    have e2 : (n * 2 ^ 52 + k) % 2 ^ 52 = k - 2 ^ 52 := by omega
    rw [e1, e2]
    have e3 : 2 ^ 52 + (k - 2 ^ 52) = k := by omega
    have e4 : n + 1 - 1 = n := by omega
    rw [e3, e4]

/-- what a word can read as -/
theorem read_number {x : Nat} {s : Bool} {m : Nat} {i : Int} (h : double.read x = .number s m i) : m < 2 ^ 53 ∧ -1074 ≤ i ∧ i ≤ 971 := by
  unfold Format.read at h
  simp only [bin, inf, least] at h
  split at h
  · injection h with _ h2 h3; subst h2 h3; omega
  · split at h
    · injection h with _ h2 h3
      subst h2 h3
      omega
    · split at h <;> cases h

theorem log2_mul_pow {q e : Nat} (hq : q ≠ 0) : (q * 2 ^ e).log2 = q.log2 + e := by
  have hp : 0 < 2 ^ e := Nat.two_pow_pos e
  have h0 : q * 2 ^ e ≠ 0 := Nat.mul_ne_zero hq (by omega)
  rw [Nat.log2_eq_iff h0]
  have h1 := Nat.log2_self_le hq
  have h2 := @Nat.lt_log2_self q
  constructor
  · rw [Nat.pow_add]; exact Nat.mul_le_mul_right _ h1
  · rw [show q.log2 + e + 1 = (q.log2 + 1) + e by omega, Nat.pow_add]
    exact Nat.mul_lt_mul_of_pos_right h2 hp

/-- nothing is lost where the digits dropped are nought -/
theorem cut_exact (way : Toward) (s : Bool) {x : Nat} (d : Nat) (hx : x ≠ 0) : way.cut s (x * 2 ^ d) d = x := by
  have hl := log2_mul_pow (e := d) hx
  have hm : min d ((x * 2 ^ d).log2 + 2) = d := by omega
  have hp : 0 < 2 ^ d := Nat.two_pow_pos d
  unfold Toward.cut
  dsimp only
  rw [hm, Nat.shiftLeft_eq, Nat.one_mul, Nat.mul_div_cancel _ hp, Nat.mul_mod_left]
  have hne : (2 ^ d == 0) = false := by simp
  cases way <;> simp [hne]

/-- 'down' of what is not negative, 'zero' of anything: the whole division -/
theorem cut_div (way : Toward) (s : Bool) (n d : Nat) (h : way = .zero ∨ (way = .down ∧ s = false)) : way.cut s n d = n / 2 ^ d := by
  have hg : n / (1 <<< min d (n.log2 + 2)) = n / 2 ^ d := by
    rw [Nat.shiftLeft_eq, Nat.one_mul]
    by_cases hd : d ≤ n.log2 + 2
    · rw [Nat.min_eq_left hd]
    · rw [Nat.min_eq_right (by omega)]
      have h1 : n < 2 ^ (n.log2 + 2) := Nat.lt_of_lt_of_le Nat.lt_log2_self (Nat.pow_le_pow_right (by omega) (by omega))
      have h2 : n < 2 ^ d := Nat.lt_of_lt_of_le h1 (Nat.pow_le_pow_right (by omega) (by omega))
      rw [Nat.div_eq_of_lt h1, Nat.div_eq_of_lt h2]
  rcases h with rfl | ⟨rfl, rfl⟩
  · unfold Toward.cut; simp [hg]
  · unfold Toward.cut; simp [hg]

/-- THE EXACT WRITING: a number whose digits fit is written without loss, or it is too great. -/
theorem nearest_exact (s : Bool) (mag : Nat) (place : Int) (q e : Nat) (hq0 : q ≠ 0) (hq : q < 2 ^ 53) (hm : mag = q * 2 ^ e) (hp : -1074 ≤ place + e) (hpl : -(KK : Int) ≤ place) :
    (∃ k t, double.read (double.nearest s mag place) = .number s k t ∧ val k t = val mag place ∧ k ≠ 0) ∨
      (double.read (double.nearest s mag place) = .infinity s ∧ 1024 ≤ place + mag.log2) := by
  have hK := KK_ge
  have hL : mag.log2 = q.log2 + e := by rw [hm]; exact log2_mul_pow hq0
  have hq52 : q.log2 ≤ 52 := by have := (Nat.log2_lt (k := 53) hq0).2 hq; omega
  have hm0 : mag ≠ 0 := by rw [hm]; exact Nat.mul_ne_zero hq0 (by have := Nat.two_pow_pos e; omega)
  obtain ⟨last, hlast⟩ : ∃ last : Int, last = max (place + mag.log2 - 52) (-1074) := ⟨_, rfl⟩
  obtain ⟨kept, hkept⟩ : ∃ kept, kept = Toward.even.cut s (mag <<< (place - last).toNat) (last - place).toNat := ⟨_, rfl⟩
  have hnear : double.nearest s mag place = double.word s (min ((last + 1074).toNat * 2 ^ 52 + kept) (2047 * 2 ^ 52)) := by
    unfold Format.nearest
    simp only [least, bin, inf]
    rw [if_neg hm0]
    have e1 : (double.fractionBits : Int) = 52 := rfl
    rw [e1, ← hlast, ← hkept]
    have e2 : last - -1074 = last + 1074 := by omega
    rw [e2]
  -- the kept digits
  have hk : ∃ a b : Nat, kept * 2 ^ a = mag * 2 ^ b ∧ (a : Int) + place = last + b ∧ kept ≠ 0 ∧ (kept.log2 : Int) = mag.log2 + place - last := by
    by_cases hle : last ≤ place
    · have e1 : (last - place).toNat = 0 := by omega
      rw [e1, Nat.shiftLeft_eq] at hkept
      have h0 : mag * 2 ^ (place - last).toNat ≠ 0 := Nat.mul_ne_zero hm0 (by have := Nat.two_pow_pos (place - last).toNat; omega)
      have hc := cut_exact .even s 0 h0
      rw [Nat.pow_zero, Nat.mul_one] at hc
      rw [hc] at hkept
      refine ⟨0, (place - last).toNat, by rw [hkept]; simp, by omega, by rw [hkept]; exact h0, ?_⟩
      rw [hkept, log2_mul_pow hm0]; omega
    · have e1 : (place - last).toNat = 0 := by omega
      have hde : (last - place).toNat ≤ e := by omega
      obtain ⟨d, hd⟩ : ∃ d, d = (last - place).toNat := ⟨_, rfl⟩
      rw [← hd] at hde
      obtain ⟨r, hr⟩ : ∃ r, e = r + d := ⟨e - d, by omega⟩
      rw [e1, Nat.shiftLeft_eq, Nat.pow_zero, Nat.mul_one, ← hd] at hkept
      have hmag : mag = (q * 2 ^ r) * 2 ^ d := by rw [hm, hr, Nat.pow_add, Nat.mul_assoc]
      have h0 : q * 2 ^ r ≠ 0 := Nat.mul_ne_zero hq0 (by have := Nat.two_pow_pos r; omega)
      rw [hmag, cut_exact .even s d h0] at hkept
      refine ⟨d, 0, by rw [hkept, hmag]; simp, by omega, by rw [hkept]; exact h0, ?_⟩
      rw [hkept, log2_mul_pow hq0]; omega
  obtain ⟨a, b, hab, hplace, hk0, hklog⟩ := hk
  have hk53 : kept < 2 ^ 53 := (Nat.log2_lt hk0).1 (by omega)
  have hk52 : last = -1074 ∨ 2 ^ 52 ≤ kept := by
    by_cases h : last = -1074
    · exact .inl h
    · exact .inr ((Nat.le_log2 hk0).1 (by omega))
  by_cases hin : (last + 1074).toNat * 2 ^ 52 + kept < 2047 * 2 ^ 52
  · left
    refine ⟨kept, last, ?_, ?_, hk0⟩
    · rw [hnear, Nat.min_eq_left (by omega)]
      exact read_made s kept last hk53 (by omega) hk52 hin
    · unfold val
      -- kept * 2^(last+K) = mag * 2^(place+K)
      have hpos : 0 < 2 ^ a := Nat.two_pow_pos a
      apply Nat.eq_of_mul_eq_mul_right hpos
      rw [Nat.mul_assoc, Nat.mul_comm (2 ^ (last + (KK : Int)).toNat), ← Nat.mul_assoc, hab, Nat.mul_assoc, Nat.mul_assoc, ← Nat.pow_add, ← Nat.pow_add]
      congr 2
      omega
  · right
    refine ⟨?_, ?_⟩
    · rw [hnear, Nat.min_eq_right (by omega), read_word s _ (Nat.le_refl _)]
      simp
    · omega

/-- a zero is written as a zero -/
theorem nearest_zero (s : Bool) (place : Int) : double.read (double.nearest s 0 place) = .number s 0 (-1074) := by
  unfold Format.nearest
  rw [if_pos rfl, read_word s 0 (by omega)]
  simp

end Go.Proofs.Qxb6629292a.Fl
