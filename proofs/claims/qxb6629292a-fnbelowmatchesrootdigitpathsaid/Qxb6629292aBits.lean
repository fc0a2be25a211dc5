/- The bit operations of the Go text as arithmetic; the columns refine one another; the list of Below unrolled at its head. -/
import Derived.Test.Qxb6629292aSpec
namespace Go.Proofs.Qxb6629292a
open Go.RowKit
open Ieee (double Datum)
open Fl

/-- the residue of an int as 64 bits -/
def ures (x : Int) : Nat := (x % 18446744073709551616).toNat
theorem ures_lt (x : Int) : ures x < 18446744073709551616 := by unfold ures; omega
theorem ofInt_ures (x : Int) : (BitVec.ofInt 64 x).toNat = ures x := by
  unfold ures; simp [BitVec.toNat_ofInt]
theorem wrap_i64 (n : Int) : IntKind.i64.wrap n = wrap64 n := by
  unfold wrap64
  simp only [IntKind.wrap, IntKind.bits, IntKind.signed]
  simp
  split <;> omega
theorem or64 (x y : Int) : bits .or .i64 x y = wrap64 ((ures x ||| ures y : Nat) : Int) := by
  show IntKind.i64.wrap ((BitVec.ofInt 64 x ||| BitVec.ofInt 64 y).toNat : Int) = _
  rw [wrap_i64, BitVec.toNat_or, ofInt_ures, ofInt_ures]
theorem and64 (x y : Int) : bits .and .i64 x y = wrap64 ((ures x &&& ures y : Nat) : Int) := by
  show IntKind.i64.wrap ((BitVec.ofInt 64 x &&& BitVec.ofInt 64 y).toNat : Int) = _
  rw [wrap_i64, BitVec.toNat_and, ofInt_ures, ofInt_ures]
theorem xor64 (x y : Int) : bits .xor .i64 x y = wrap64 ((ures x ^^^ ures y : Nat) : Int) := by
  show IntKind.i64.wrap ((BitVec.ofInt 64 x ^^^ BitVec.ofInt 64 y).toNat : Int) = _
  rw [wrap_i64, BitVec.toNat_xor, ofInt_ures, ofInt_ures]
theorem andNot64 (x y : Int) : bits .andNot .i64 x y = wrap64 ((ures x &&& (18446744073709551615 - ures y) : Nat) : Int) := by
  show IntKind.i64.wrap ((BitVec.ofInt 64 x &&& ~~~ BitVec.ofInt 64 y).toNat : Int) = _
  rw [wrap_i64, BitVec.toNat_and, BitVec.toNat_not, ofInt_ures, ofInt_ures]
theorem ures_wrap (n : Int) : ures (wrap64 n) = ures n := by unfold ures wrap64; omega
theorem ures_nat (n : Nat) (h : n < 18446744073709551616) : ures (n : Int) = n := by unfold ures; omega
theorem wrap_ures (n : Int) : wrap64 (ures n : Int) = wrap64 n := by unfold ures wrap64; omega

/-- an int -/
def In64 (x : Int) : Prop := -9223372036854775808 ≤ x ∧ x ≤ 9223372036854775807
theorem wrap_in (n : Int) : In64 (wrap64 n) := by unfold In64 wrap64; omega
theorem wrap_of {x : Int} (h : In64 x) : wrap64 x = x := by unfold In64 at h; unfold wrap64; omega

theorem ev_eq {x : Int} (h : In64 x) : ev x = x - x % 2 := by
  unfold ev
  rw [andNot64]
  have h1 : ures 1 = 1 := rfl
  rw [h1]
  have h2 : ures x &&& (18446744073709551615 - 1) = ures x % 18446744073709551616 / 2 * 2 := nat_hi64_1 _
  rw [h2]
  have := ures_lt x
  unfold In64 at h
  unfold ures wrap64
  omega
theorem or_one (n : Nat) : n ||| 1 = n / 2 * 2 + 1 := by
  have h1 : n = 2 * (n / 2) + n % 2 := by omega
  have h2 := nat_join 1 (2 * (n / 2)) 1 (by omega) (by omega)
  have h3 : n % 2 = 0 ∨ n % 2 = 1 := by omega
  rcases h3 with h3 | h3
  · rw [h3, Nat.add_zero] at h1
    rw [← h1] at h2
    omega
  · have h4 := nat_join 1 (2 * (n / 2)) (n % 2) (by omega) (by omega)
    rw [← h1] at h4
    rw [← h4, h3, Nat.or_assoc, Nat.or_self, h2]
    omega
theorem od_eq {x : Int} (h : In64 x) : od x = x - x % 2 + 1 := by
  unfold od
  rw [or64]
  have h1 : ures 1 = 1 := rfl
  rw [h1, or_one]
  have := ures_lt x
  unfold In64 at h
  unfold ures wrap64
  omega

theorem pow_int (s : Nat) : ((2 : Int) ^ s) = ((2 ^ s : Nat) : Int) := by simp

theorem wrap_mask (p : Nat) (h0 : 0 < p) (h : p ≤ 9007199254740992) : wrap64 (wrap64 (p : Int) - 1) = ((p - 1 : Nat) : Int) := by
  unfold wrap64; omega

theorem ures_mul_mod (X : Int) (p s : Nat) (hp : p = 2 ^ s) (hs : s ≤ 53) : ures (X * (p : Int)) % p = 0 := by
  have hpd : p ∣ 2 ^ 64 := by rw [hp]; exact Nat.pow_dvd_pow 2 (by omega)
  have h3 : ((p : Int)) ∣ ((2 ^ 64 : Nat) : Int) := Int.natCast_dvd_natCast.2 hpd
  have h6 : ((2 ^ 64 : Nat) : Int) = 18446744073709551616 := by decide
  rw [h6] at h3
  have h4 : ((p : Int)) ∣ (X * (p : Int)) % 18446744073709551616 := by
    rw [Int.emod_def]
    exact Int.dvd_sub (Int.dvd_mul_left _ _) (Int.dvd_trans h3 (Int.dvd_mul_right _ _))
  have h5 : ((ures (X * (p : Int)) : Nat) : Int) = (X * (p : Int)) % 18446744073709551616 := by
    unfold ures
    exact Int.toNat_of_nonneg (Int.emod_nonneg _ (by decide))
  rw [← h5] at h4
  exact Nat.mod_eq_zero_of_dvd (Int.natCast_dvd_natCast.1 h4)

theorem wrap_ures_add (y : Int) (z : Nat) : wrap64 ((ures y + z : Nat) : Int) = wrap64 (y + (z : Int)) := by
  unfold ures wrap64; omega

theorem xat_pure (X : Int) (r p s : Nat) (hp : p = 2 ^ s) (hs : s ≤ 53) (hpb : p ≤ 9007199254740992) (h0 : 0 < p) (hr : r < 9007199254740992) :
    bits .or .i64 (wrap64 (X * (p : Int))) (bits .and .i64 (r : Int) (wrap64 (wrap64 (p : Int) - 1))) = wrap64 (X * (p : Int) + ((r % p : Nat) : Int)) := by
  rw [wrap_mask p h0 hpb, and64, ures_nat r (by omega), ures_nat (p - 1) (by omega)]
  have e2 : r &&& (p - 1) = r % p := by rw [hp]; exact Nat.and_two_pow_sub_one_eq_mod r s
  have hrp : r % p < p := Nat.mod_lt _ h0
  rw [e2, or64, ures_wrap, ures_wrap, ures_nat (r % p) (by omega)]
  have hj : ures (X * (p : Int)) ||| r % p = ures (X * (p : Int)) + r % p := by
    refine nat_join s _ _ ?_ ?_
    · rw [← hp]; exact ures_mul_mod X p s hp hs
    · rw [← hp]; exact hrp
  rw [hj, wrap_ures_add]

theorem two53 : (2 : Nat) ^ 53 = 9007199254740992 := by decide

theorem xat_eq (X : Int) (f : Option Nat) (l s : Nat) (hl : l ≤ 53) (hs : s ≤ 53) : xat X f l s = wrap64 (X * ((2 ^ s : Nat) : Int) + (rcv f l % 2 ^ s : Nat)) := by
  have hle : 2 ^ s ≤ 2 ^ 53 := Nat.pow_le_pow_right (by omega) hs
  have hpos : 0 < 2 ^ s := Nat.two_pow_pos s
  have hrl := rcv_lt f l
  have hlp : 2 ^ l ≤ 2 ^ 53 := Nat.pow_le_pow_right (by omega) hl
  have hlpos : 0 < 2 ^ l := Nat.two_pow_pos l
  rw [two53] at hle hlp
  unfold xat
  rw [pow_int s]
  exact xat_pure X (rcv f l) (2 ^ s) s rfl hs hle hpos (by omega)

theorem xat_in (X : Int) (f : Option Nat) (l s : Nat) (hl : l ≤ 53) (hs : s ≤ 53) : In64 (xat X f l s) := by rw [xat_eq X f l s hl hs]; exact wrap_in _

/-- each level's column is the one of the level above refined -/
theorem rcv_half (f : Option Nat) (l : Nat) : rcv f (l + 1) / 2 = rcv f l := by
  unfold rcv
  have hpos : 0 < 2 ^ l := Nat.two_pow_pos l
  have e2 : 2 ^ (l + 1) = 2 * 2 ^ l := by rw [Nat.pow_succ]; omega
  split
  · rfl
  · split
    · rename_i m i _
      have e1 : val m i * 2 ^ (l + 1) / 2 ^ KK / 2 = val m i * 2 ^ l / 2 ^ KK := by
        rw [Nat.div_div_eq_div_mul, e2, show val m i * (2 * 2 ^ l) = (val m i * 2 ^ l) * 2 by rw [Nat.mul_comm 2, Nat.mul_assoc], Nat.mul_div_mul_right _ _ (by omega)]
      generalize val m i * 2 ^ (l + 1) / 2 ^ KK = a at e1 ⊢
      generalize val m i * 2 ^ l / 2 ^ KK = b at e1 ⊢
      omega
    · omega
    · rfl

theorem rcv_shift (f : Option Nat) (l k : Nat) : rcv f (l + k) / 2 ^ k = rcv f l := by
  induction k with
  | zero => simp
  | succ k ih =>
    rw [Nat.pow_succ, Nat.mul_comm, ← Nat.div_div_eq_div_mul, show l + (k + 1) = (l + k) + 1 by omega, rcv_half, ih]

/-- the child of a column -/
def kid (X : Int) (f : Option Nat) (L : Nat) : Int := xat X f (L + 1) 1

theorem wrap_cong {a b c : Int} (h : a = b + 18446744073709551616 * c) : wrap64 a = wrap64 b := by unfold wrap64; omega

theorem kid_wrap (X : Int) (b p y : Nat) : wrap64 (wrap64 (X * ((2 : Nat) : Int) + (b : Int)) * (p : Int) + (y : Int)) = wrap64 (X * ((p * 2 : Nat) : Int) + ((b * p + y : Nat) : Int)) := by
  obtain ⟨q, hq⟩ : ∃ q : Int, wrap64 (X * ((2 : Nat) : Int) + (b : Int)) = (X * 2 + (b : Int)) + 18446744073709551616 * q := by
    refine ⟨-((X * 2 + (b : Int) + 9223372036854775808) / 18446744073709551616), ?_⟩
    have : ((2 : Nat) : Int) = 2 := rfl
    rw [this]
    unfold wrap64
    omega
  rw [hq]
  apply wrap_cong (c := q * p)
  have e1 : ((p * 2 : Nat) : Int) = 2 * (p : Int) := by omega
  have e2 : ((b * p + y : Nat) : Int) = (b : Int) * (p : Int) + (y : Int) := by
    rw [Int.natCast_add, Int.natCast_mul]
  rw [e1, e2, Int.add_mul, Int.add_mul, Int.mul_assoc X, Int.mul_assoc (18446744073709551616 : Int)]
  generalize X * (2 * (p : Int)) = u
  generalize (b : Int) * (p : Int) = v
  generalize q * (p : Int) = z
  omega

theorem xat_kid (X : Int) (f : Option Nat) (L k : Nat) (hk : L + 1 + k ≤ 53) : xat (kid X f L) f (L + 1 + k) k = xat X f (L + 1 + k) (k + 1) := by
  rw [xat_eq _ _ _ _ (by omega) (by omega), xat_eq _ _ _ _ (by omega) (by omega)]
  unfold kid
  rw [xat_eq _ _ _ _ (by omega) (by omega)]
  have hsh := rcv_shift f (L + 1) k
  obtain ⟨r, hr⟩ : ∃ r, r = rcv f (L + 1 + k) := ⟨_, rfl⟩
  rw [← hr] at hsh ⊢
  rw [← hsh, show (2 : Nat) ^ (k + 1) = 2 ^ k * 2 from Nat.pow_succ _ _, show (2 : Nat) ^ 1 = 2 from rfl]
  obtain ⟨p, hp⟩ : ∃ p, p = 2 ^ k := ⟨_, rfl⟩
  rw [← hp]
  have hm : r % (p * 2) = r / p % 2 * p + r % p := by
    rw [Nat.mod_mul, Nat.mul_comm p, Nat.add_comm]
  rw [hm]
  exact kid_wrap X (r / p % 2) p (r % p)

theorem belowL_step (L : Nat) (X Y : Int) (fx fy : Option Nat) (n : Nat) : belowL L X Y fx fy (n + 1) = belowL L X Y fx fy n ++ blk ((L + n + 1 : Nat) : Int) (xat X fx (L + n + 1) (n + 1)) (xat Y fy (L + n + 1) (n + 1)) := rfl

theorem belowL_head (L : Nat) (X Y : Int) (fx fy : Option Nat) (n : Nat) (h : L + 1 + n ≤ 53) :
    belowL L X Y fx fy (n + 1) = blk ((L + 1 : Nat) : Int) (kid X fx L) (kid Y fy L) ++ belowL (L + 1) (kid X fx L) (kid Y fy L) fx fy n := by
  induction n with
  | zero =>
    rw [belowL_step]
    have e : belowL (L + 1) (kid X fx L) (kid Y fy L) fx fy 0 = [] := rfl
    have e0 : belowL L X Y fx fy 0 = [] := rfl
    rw [e, e0, List.append_nil, List.nil_append]
    rfl
  | succ n ih =>
    have ih' := ih (by omega)
    have a1 := xat_kid X fx L (n + 1) (by omega)
    have a2 := xat_kid Y fy L (n + 1) (by omega)
    rw [belowL_step, ih', belowL_step, List.append_assoc]
    have e : L + (n + 1) + 1 = L + 1 + (n + 1) := by omega
    have e' : L + 1 + n + 1 = L + 1 + (n + 1) := by omega
    rw [e, e', a1, a2]

theorem xor_abb {a b : Int} (ha : In64 a) : bits .xor .i64 (bits .xor .i64 a b) b = a := by
  have h1 := Nat.xor_lt_two_pow (n := 64) (ures_lt a) (ures_lt b)
  rw [xor64 a b, xor64, ures_wrap, ures_nat _ h1, Nat.xor_assoc, Nat.xor_self, Nat.xor_zero, wrap_ures, wrap_of ha]
theorem xor_aab {a b : Int} (hb : In64 b) : bits .xor .i64 (bits .xor .i64 a a) b = b := by
  rw [xor64 a a, xor64, ures_wrap, Nat.xor_self, ures_nat 0 (by omega), Nat.zero_xor, wrap_ures, wrap_of hb]
theorem xor_aba {a b : Int} (hb : In64 b) : bits .xor .i64 (bits .xor .i64 a b) a = b := by
  have h1 := Nat.xor_lt_two_pow (n := 64) (ures_lt a) (ures_lt b)
  rw [xor64 a b, xor64, ures_wrap, ures_nat _ h1, Nat.xor_comm (ures a), Nat.xor_assoc, Nat.xor_self, Nat.xor_zero, wrap_ures, wrap_of hb]

/-- three cells of one block, the fourth being (x, y) -/
structure Three (l x y a1 b1 a2 b2 a3 b3 : Int) : Prop where
  list : blk l x y = [(l, a1, b1), (l, a2, b2), (l, a3, b3)]
  xx : bits .xor .i64 (bits .xor .i64 a1 a2) a3 = x
  yy : bits .xor .i64 (bits .xor .i64 b1 b2) b3 = y
  x1 : a1 / 2 = x / 2
  x2 : a2 / 2 = x / 2
  x3 : a3 / 2 = x / 2
  y1 : b1 / 2 = y / 2
  y2 : b2 / 2 = y / 2
  y3 : b3 / 2 = y / 2
  n12 : ¬ (a1 = a2 ∧ b1 = b2)
  n13 : ¬ (a1 = a3 ∧ b1 = b3)
  n14 : ¬ (a1 = x ∧ b1 = y)
  n23 : ¬ (a2 = a3 ∧ b2 = b3)
  n24 : ¬ (a2 = x ∧ b2 = y)
  n34 : ¬ (a3 = x ∧ b3 = y)

theorem three_of (l : Int) {x y : Int} (hx : In64 x) (hy : In64 y) : ∃ a1 b1 a2 b2 a3 b3, Three l x y a1 b1 a2 b2 a3 b3 := by
  have ex := ev_eq hx
  have ox := od_eq hx
  have ey := ev_eq hy
  have oy := od_eq hy
  have hex : In64 (ev x) := by rw [ex]; unfold In64 at *; omega
  have hox : In64 (od x) := by rw [ox]; unfold In64 at *; omega
  have hey : In64 (ev y) := by rw [ey]; unfold In64 at *; omega
  have hoy : In64 (od y) := by rw [oy]; unfold In64 at *; omega
  have hL : blk l x y = (if ev x = x ∧ ev y = y then [] else [(l, ev x, ev y)]) ++ (if ev x = x ∧ od y = y then [] else [(l, ev x, od y)]) ++ ((if od x = x ∧ ev y = y then [] else [(l, od x, ev y)]) ++ (if od x = x ∧ od y = y then [] else [(l, od x, od y)])) := by
    simp [blk, part, row]
  generalize ev x = xe at *
  generalize od x = xo at *
  generalize ev y = ye at *
  generalize od y = yo at *
  have px : x % 2 = 0 ∨ x % 2 = 1 := by omega
  have py : y % 2 = 0 ∨ y % 2 = 1 := by omega
  rcases px with px | px <;> rcases py with py | py
  · have qx : xe = x := by omega
    have rx : ¬ xo = x := by omega
    have qy : ye = y := by omega
    have ry : ¬ yo = y := by omega
    refine ⟨xe, yo, xo, ye, xo, yo, ?_, ?_, ?_, ?_, ?_, ?_, ?_, ?_, ?_, ?_, ?_, ?_, ?_, ?_, ?_⟩
    · rw [hL]; simp [qx, rx, qy, ry]
    · rw [xor_abb hex, qx]
    · rw [xor_aba hey, qy]
    all_goals omega
  · have qx : xe = x := by omega
    have rx : ¬ xo = x := by omega
    have qy : ¬ ye = y := by omega
    have ry : yo = y := by omega
    refine ⟨xe, ye, xo, ye, xo, yo, ?_, ?_, ?_, ?_, ?_, ?_, ?_, ?_, ?_, ?_, ?_, ?_, ?_, ?_, ?_⟩
    · rw [hL]; simp [qx, rx, qy, ry]
    · rw [xor_abb hex, qx]
    · rw [xor_aab hoy, ry]
    all_goals omega
  · have qx : ¬ xe = x := by omega
    have rx : xo = x := by omega
    have qy : ye = y := by omega
    have ry : ¬ yo = y := by omega
    refine ⟨xe, ye, xe, yo, xo, yo, ?_, ?_, ?_, ?_, ?_, ?_, ?_, ?_, ?_, ?_, ?_, ?_, ?_, ?_, ?_⟩
    · rw [hL]; simp [qx, rx, qy, ry]
    · rw [xor_aab hox, rx]
    · rw [xor_abb hey, qy]
    all_goals omega
  · have qx : ¬ xe = x := by omega
    have rx : xo = x := by omega
    have qy : ¬ ye = y := by omega
    have ry : yo = y := by omega
    refine ⟨xe, ye, xe, yo, xo, ye, ?_, ?_, ?_, ?_, ?_, ?_, ?_, ?_, ?_, ?_, ?_, ?_, ?_, ?_, ?_⟩
    · rw [hL]; simp [qx, rx, qy, ry]
    · rw [xor_aab hox, rx]
    · rw [xor_aba hoy, ry]
    all_goals omega

theorem kid_in (X : Int) (f : Option Nat) (L : Nat) (h : L + 1 ≤ 53) : In64 (kid X f L) := xat_in X f (L + 1) 1 h (by omega)

theorem belowL_length (L : Nat) (X Y : Int) (fx fy : Option Nat) (n : Nat) (h : L + n ≤ 53) : (belowL L X Y fx fy n).length = 3 * n := by
  induction n with
  | zero => rfl
  | succ n ih =>
    rw [belowL_step, List.length_append, ih (by omega)]
    obtain ⟨a1, b1, a2, b2, a3, b3, T⟩ := three_of ((L + n + 1 : Nat) : Int) (xat_in X fx (L + n + 1) (n + 1) (by omega) (by omega)) (xat_in Y fy (L + n + 1) (n + 1) (by omega) (by omega))
    rw [T.list]
    simp only [List.length_cons, List.length_nil]
    omega

end Go.Proofs.Qxb6629292a
