/- The escape of a byte string, in plain lists. Nothing of the dump. -/
import Derived.Lib.Strings
namespace Go.Proofs.Qxb6629355a

def hexd (n : Nat) : UInt8 := if n < 10 then UInt8.ofNat (48 + n) else UInt8.ofNat (87 + n)

/-- what one byte is written as -/
def escB (b : UInt8) : List UInt8 :=
  if b = 34 then [92, 34] else if b = 92 then [92, 92] else if b = 8 then [92, 98] else if b = 9 then [92, 116] else if b = 10 then [92, 110]
  else if b = 12 then [92, 102] else if b = 13 then [92, 114] else if b.toNat < 32 then [92, 117, 48, 48, hexd (b.toNat / 16), hexd (b.toNat % 16)] else [b]

def esc (l : List UInt8) : List UInt8 := l.flatMap escB

theorem esc_append (a b : List UInt8) : esc (a ++ b) = esc a ++ esc b := by simp [esc]
theorem esc_nil : esc [] = [] := rfl
theorem esc_one (b : UInt8) : esc [b] = escB b := by simp [esc]

theorem escB_len (b : UInt8) : 1 ≤ (escB b).length ∧ (escB b).length ≤ 6 := by
  unfold escB
  repeat' split
  all_goals simp

theorem esc_len (l : List UInt8) : l.length ≤ (esc l).length ∧ (esc l).length ≤ 6 * l.length := by
  induction l with
  | nil => simp [esc]
  | cons b t ih =>
    have := escB_len b
    have e : esc (b :: t) = escB b ++ esc t := rfl
    rw [e, List.length_append, List.length_cons]
    omega

/-- a byte that stands for itself -/
def plainB (b : UInt8) : Prop := 32 ≤ b.toNat ∧ b.toNat ≠ 34 ∧ b.toNat ≠ 92

theorem escB_plain {b : UInt8} (h : plainB b) : escB b = [b] := by
  obtain ⟨h1, h2, h3⟩ := h
  unfold escB
  rw [if_neg (by intro e; subst e; exact h2 rfl), if_neg (by intro e; subst e; exact h3 rfl), if_neg (by intro e; subst e; revert h1; decide), if_neg (by intro e; subst e; revert h1; decide), if_neg (by intro e; subst e; revert h1; decide),
    if_neg (by intro e; subst e; revert h1; decide), if_neg (by intro e; subst e; revert h1; decide), if_neg (by omega)]

theorem toNat_inj {b : UInt8} {n : Nat} (h : b.toNat = n) (hn : n < 256) : b = UInt8.ofNat n := by
  subst h
  simp

theorem escB_34 {b : UInt8} (h : b.toNat = 34) : escB b = [92, 34] := by rw [toNat_inj h (by omega)]; decide
theorem escB_92 {b : UInt8} (h : b.toNat = 92) : escB b = [92, 92] := by rw [toNat_inj h (by omega)]; decide
theorem escB_8 {b : UInt8} (h : b.toNat = 8) : escB b = [92, 98] := by rw [toNat_inj h (by omega)]; decide
theorem escB_9 {b : UInt8} (h : b.toNat = 9) : escB b = [92, 116] := by rw [toNat_inj h (by omega)]; decide
theorem escB_10 {b : UInt8} (h : b.toNat = 10) : escB b = [92, 110] := by rw [toNat_inj h (by omega)]; decide
theorem escB_12 {b : UInt8} (h : b.toNat = 12) : escB b = [92, 102] := by rw [toNat_inj h (by omega)]; decide
theorem escB_13 {b : UInt8} (h : b.toNat = 13) : escB b = [92, 114] := by rw [toNat_inj h (by omega)]; decide
theorem escB_ctl {b : UInt8} (h : b.toNat < 32) (h8 : b.toNat ≠ 8) (h9 : b.toNat ≠ 9) (h10 : b.toNat ≠ 10) (h12 : b.toNat ≠ 12) (h13 : b.toNat ≠ 13) : escB b = [92, 117, 48, 48, hexd (b.toNat / 16), hexd (b.toNat % 16)] := by
  unfold escB
  rw [if_neg (by intro e; subst e; revert h; decide), if_neg (by intro e; subst e; revert h; decide), if_neg (by intro e; subst e; exact h8 rfl), if_neg (by intro e; subst e; exact h9 rfl), if_neg (by intro e; subst e; exact h10 rfl),
    if_neg (by intro e; subst e; exact h12 rfl), if_neg (by intro e; subst e; exact h13 rfl), if_pos h]

theorem hexd_val (n : Nat) (h : n < 16) : (hexd n).toNat = if n < 10 then 48 + n else 87 + n := by
  have H : ∀ n : Fin 16, (hexd n.val).toNat = if n.val < 10 then 48 + n.val else 87 + n.val := by decide
  exact H ⟨n, h⟩

/-- between d and k nothing is escaped -/
def Flat (l : List UInt8) (d k : Nat) : Prop := esc ((l.drop d).take (k - d)) = (l.drop d).take (k - d)

theorem flat_start (l : List UInt8) (d : Nat) : Flat l d d := by unfold Flat; simp [esc]
theorem drop_take_snoc (l : List UInt8) (d k : Nat) (h : d ≤ k) (hk : k < l.length) : (l.drop d).take (k + 1 - d) = (l.drop d).take (k - d) ++ [l[k]] := by
  rw [show k + 1 - d = (k - d) + 1 by omega, List.take_succ_eq_append_getElem (by rw [List.length_drop]; omega), List.getElem_drop]
  congr 3
  omega
theorem flat_step {l : List UInt8} {d k : Nat} (h : d ≤ k) (hk : k < l.length) (hf : Flat l d k) (hp : plainB l[k]) : Flat l d (k + 1) := by
  unfold Flat at *
  rw [drop_take_snoc l d k h hk, esc_append, hf, esc_one, escB_plain hp]
theorem take_split (l : List UInt8) (d k : Nat) (h : d ≤ k) : l.take k = l.take d ++ (l.drop d).take (k - d) := by
  have : k = d + (k - d) := by omega
  conv => lhs; rw [this]
  rw [List.take_add]
theorem flat_join {l : List UInt8} {d k : Nat} (h : d ≤ k) (hf : Flat l d k) : esc (l.take d) ++ (l.drop d).take (k - d) = esc (l.take k) := by
  rw [take_split l d k h, esc_append]
  unfold Flat at hf
  rw [hf]
theorem esc_take_snoc (l : List UInt8) (k : Nat) (hk : k < l.length) : esc (l.take (k + 1)) = esc (l.take k) ++ escB l[k] := by
  rw [List.take_succ_eq_append_getElem hk, esc_append, esc_one]

end Go.Proofs.Qxb6629355a
