/- The walks: Kind.String at the five known kinds, zzUpperWord, and the law function. -/
import Derived.Test.Qxb6630584aFmtCards
import Derived.WalkKit
import Derived.WalkSpells
import Derived.WalkLawsBesides
namespace Go.Proofs.Qxb6630584aFmt
open Go.RowKit

/-- the name of a known kind -/
def nameOf (k : Nat) : ByteArray :=
  if k = 1 then { data := #[79, 75] } else if k = 2 then { data := #[78, 65, 67, 75] } else if k = 3 then { data := #[70, 65, 73, 76, 85, 82, 69] }
  else if k = 4 then { data := #[70, 65, 76, 76, 66, 65, 67, 75] } else { data := #[83, 69, 82, 86, 69] }

theorem five {k : Nat} (h1 : 1 ≤ k) (h5 : k ≤ 5) : k = 1 ∨ k = 2 ∨ k = 3 ∨ k = 4 ∨ k = 5 := by omega

theorem name_ok (k : Nat) (h1 : 1 ≤ k) (h5 : k ≤ 5) : 2 ≤ (nameOf k).size ∧ (nameOf k).size ≤ 8 ∧ ∀ j (h : j < (nameOf k).size), 65 ≤ (nameOf k)[j].toNat ∧ (nameOf k)[j].toNat ≤ 90 := by
  rcases five h1 h5 with rfl | rfl | rfl | rfl | rfl <;> decide

theorem name_apart (a b : Nat) (ha1 : 1 ≤ a) (ha5 : a ≤ 5) (hb1 : 1 ≤ b) (hb5 : b ≤ 5) : ((nameOf a).toList == (nameOf b).toList) = decide (a = b) := by
  rcases five ha1 ha5 with rfl | rfl | rfl | rfl | rfl <;> rcases five hb1 hb5 with rfl | rfl | rfl | rfl | rfl <;> decide +kernel

set_option maxHeartbeats 400000 in
theorem string_known (k : Nat) (h1 : 1 ≤ k) (h5 : k ≤ 5) (w : World) :
    Calls Tryf.prog 4 #[.int .i64 (k : Int)] w fun e w' => e = .returned (.string (nameOf k)) ∧ w = w' := by
  rcases five h1 h5 with rfl | rfl | rfl | rfl | rfl
  all_goals
    go_enter Tryf.func4, Tryf.ntmps4
    go_wp2
    go_ret
    exact ⟨rfl, rfl⟩

set_option maxHeartbeats 400000 in
theorem upper_word (s : ByteArray) (w : World) (h2 : 2 ≤ s.size) (h8 : s.size ≤ 8) (hb : ∀ j (h : j < s.size), 65 ≤ s[j].toNat ∧ s[j].toNat ≤ 90) :
    Calls Tryf.prog 5 #[.string s] w fun e w' => e = .returned (.bool true) ∧ w = w' := by
  have HB : Hid (∀ j (h : j < s.size), 65 ≤ s[j].toNat ∧ s[j].toNat ≤ 90) := hb
  clear hb
  have d2 : decide ((s.size : Int) < 2) = false := decide_eq_false (by omega)
  have d8 : decide ((8 : Int) < (s.size : Int)) = false := decide_eq_false (by omega)
  go_enter Tryf.func5, Tryf.ntmps5
  go_wp2
  go_loop [3] (fun i => ∃ k : Nat, k ≤ s.size ∧ i = .int .i64 (k : Int)) (fun i => s.size - (intOf i).toNat)
  case atStart => exact ⟨0, by omega, rfl⟩
  case round =>
    obtain ⟨k, hk, rfl⟩ := hrel
    by_cases hkn : k < s.size
    · have hkd : decide ((k : Int) < (s.size : Int)) = true := decide_eq_true (by omega)
      obtain ⟨b0, b1⟩ := HB.out k hkn
      have hin : 0 ≤ (k : Int) ∧ (k : Int) < (s.size : Int) := by omega
      have hx : ∃ x : UInt8, s[((k : Int)).toNat]'(by omega) = x ∧ 65 ≤ x.toNat ∧ x.toNat ≤ 90 := ⟨_, rfl, by simpa using b0, by simpa using b1⟩
      obtain ⟨x, hx, x0, x1⟩ := hx
      have hlo : decide ((x.toNat : Int) < 65) = false := decide_eq_false (by omega)
      have hhi : decide ((90 : Int) < (x.toNat : Int)) = false := decide_eq_false (by omega)
      go_wp2
      go_round
      case rel => exact ⟨k + 1, by omega, by go_num⟩
      case measure => simp [intOf]; omega
    · have hkd : decide ((k : Int) < (s.size : Int)) = false := decide_eq_false (by omega)
      go_wp2
      go_ret
      exact ⟨rfl, rfl⟩

theorem upper_name (k : Nat) (h1 : 1 ≤ k) (h5 : k ≤ 5) (w : World) : Calls Tryf.prog 5 #[.string (nameOf k)] w fun e w' => e = .returned (.bool true) ∧ w = w' :=
  upper_word (nameOf k) w (name_ok k h1 h5).1 (name_ok k h1 h5).2.1 (name_ok k h1 h5).2.2

set_option maxHeartbeats 400000 in
theorem law_known (a b : Nat) (ha1 : 1 ≤ a) (ha5 : a ≤ 5) (hb1 : 1 ≤ b) (hb5 : b ≤ 5) (w : World) :
    Calls Tryf.prog 3 #[.int .i64 (a : Int), .int .i64 (b : Int)] w fun e w' => e = .returned (.bool true) ∧ w = w' := by
  have da1 : decide ((a : Int) < 1) = false := decide_eq_false (by omega)
  have da5 : decide ((5 : Int) < (a : Int)) = false := decide_eq_false (by omega)
  have db1 : decide ((b : Int) < 1) = false := decide_eq_false (by omega)
  have db5 : decide ((5 : Int) < (b : Int)) = false := decide_eq_false (by omega)
  have hap := name_apart a b ha1 ha5 hb1 hb5
  by_cases e : a = b
  · have e1 : ((nameOf a).toList == (nameOf b).toList) = true := by rw [hap, decide_eq_true e]
    have e2 : ((a : Int) == (b : Int)) = true := beq_iff_eq.2 (by omega)
    clear hap e
    go_enter Tryf.func3, Tryf.ntmps3
    go_wp2_with (first | (go_at_call 4; refine (string_known _ ?_ ?_ _).mono ?_; assumption; assumption; rintro e w' ⟨rfl, rfl⟩) | (go_at_call 5; refine (upper_name _ ?_ ?_ _).mono ?_; assumption; assumption; rintro e w' ⟨rfl, rfl⟩))
    go_ret
    exact ⟨rfl, rfl⟩
  · have e1 : ((nameOf a).toList == (nameOf b).toList) = false := by rw [hap, decide_eq_false e]
    have e2 : ((a : Int) == (b : Int)) = false := beq_eq_false_iff_ne.2 (by omega)
    clear hap e
    go_enter Tryf.func3, Tryf.ntmps3
    go_wp2_with (first | (go_at_call 4; refine (string_known _ ?_ ?_ _).mono ?_; assumption; assumption; rintro e w' ⟨rfl, rfl⟩) | (go_at_call 5; refine (upper_name _ ?_ ?_ _).mono ?_; assumption; assumption; rintro e w' ⟨rfl, rfl⟩))
    go_ret
    exact ⟨rfl, rfl⟩

set_option maxHeartbeats 400000 in
theorem law_out (a b : Int) (h : (a < 1 ∨ 5 < a) ∨ (b < 1 ∨ 5 < b)) (w : World) :
    Calls Tryf.prog 3 #[.int .i64 a, .int .i64 b] w fun e w' => e = .returned (.bool true) ∧ w = w' := by
  rcases Classical.em (a < 1) with p | p
  · have d1 : decide (a < 1) = true := decide_eq_true p
    go_enter Tryf.func3, Tryf.ntmps3
    go_wp2
    go_ret
    exact ⟨rfl, rfl⟩
  · have d1 : decide (a < 1) = false := decide_eq_false p
    rcases Classical.em (5 < a) with q | q
    · have d2 : decide (5 < a) = true := decide_eq_true q
      go_enter Tryf.func3, Tryf.ntmps3
      go_wp2
      go_ret
      exact ⟨rfl, rfl⟩
    · have d2 : decide (5 < a) = false := decide_eq_false q
      rcases Classical.em (b < 1) with r | r
      · have d3 : decide (b < 1) = true := decide_eq_true r
        go_enter Tryf.func3, Tryf.ntmps3
        go_wp2
        go_ret
        exact ⟨rfl, rfl⟩
      · have d3 : decide (b < 1) = false := decide_eq_false r
        have d4 : decide (5 < b) = true := decide_eq_true (by omega)
        go_enter Tryf.func3, Tryf.ntmps3
        go_wp2
        go_ret
        exact ⟨rfl, rfl⟩

theorem law_any (a b : Int) (w : World) :
    Calls Tryf.prog 3 #[.int .i64 a, .int .i64 b] w fun e w' => e = .returned (.bool true) ∧ w = w' := by
  by_cases h : (a < 1 ∨ 5 < a) ∨ (b < 1 ∨ 5 < b)
  · exact law_out a b h w
  · obtain ⟨x, rfl⟩ : ∃ x : Nat, a = (x : Int) := ⟨a.toNat, by omega⟩
    obtain ⟨y, rfl⟩ : ∃ y : Nat, b = (y : Int) := ⟨b.toNat, by omega⟩
    exact law_known x y (by omega) (by omega) (by omega) (by omega) w

end Go.Proofs.Qxb6630584aFmt
