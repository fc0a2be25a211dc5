/- The walks of zzBytes, sameFloatB1, N, Neighbors, ZZTotals. -/
import Derived.Test.Qxb6630535aMem
namespace Go.Proofs.Qxb6630535a
open Go.RowKit

set_option maxHeartbeats 400000 in
theorem zzb4 (a1 a2 a3 : Option Addr) (n1 n2 n3 c1 c2 c3 : Nat) (x : Value) (w : World) (h1 : n1 ≤ maxLen) (h2 : n2 ≤ maxLen) (h3 : n3 ≤ maxLen) :
    Calls Try.prog 4 #[.slice a1 n1 c1, .slice a2 n2 c2, .slice a3 n3 c3, x] w fun e w' => e = .returned (.bool (decide (n1 + n2 + n3 ≤ 1048576))) ∧ w = w' := by
  unfold maxLen at h1 h2 h3
  have key : 1048576 < n1 ∨ (n1 ≤ 1048576 ∧ 1048576 < n2) ∨ (n1 ≤ 1048576 ∧ n2 ≤ 1048576 ∧ 1048576 < n1 + n2) ∨ (n1 ≤ 1048576 ∧ n2 ≤ 1048576 ∧ n1 + n2 ≤ 1048576 ∧ 1048576 < n3) ∨ (n1 ≤ 1048576 ∧ n2 ≤ 1048576 ∧ n1 + n2 ≤ 1048576 ∧ n3 ≤ 1048576 ∧ 1048576 < n1 + n2 + n3) ∨ (n1 ≤ 1048576 ∧ n2 ≤ 1048576 ∧ n1 + n2 ≤ 1048576 ∧ n3 ≤ 1048576 ∧ n1 + n2 + n3 ≤ 1048576) := by omega
  rcases key with k | ⟨k1, k⟩ | ⟨k1, k2, k⟩ | ⟨k1, k2, k3, k⟩ | ⟨k1, k2, k3, k4, k⟩ | ⟨k1, k2, k3, k4, k⟩
  · rw [show decide (n1 + n2 + n3 ≤ 1048576) = false from decide_eq_false (by omega)]
    go_enter Try.func4, Try.ntmps4
    go_wp2
    go_ret
    exact ⟨rfl, rfl⟩
  · rw [show decide (n1 + n2 + n3 ≤ 1048576) = false from decide_eq_false (by omega)]
    go_enter Try.func4, Try.ntmps4
    go_wp2
    go_ret
    exact ⟨rfl, rfl⟩
  · rw [show decide (n1 + n2 + n3 ≤ 1048576) = false from decide_eq_false (by omega)]
    go_enter Try.func4, Try.ntmps4
    go_wp2
    go_ret
    exact ⟨rfl, rfl⟩
  · rw [show decide (n1 + n2 + n3 ≤ 1048576) = false from decide_eq_false (by omega)]
    go_enter Try.func4, Try.ntmps4
    go_wp2
    go_ret
    exact ⟨rfl, rfl⟩
  · rw [show decide (n1 + n2 + n3 ≤ 1048576) = false from decide_eq_false (by omega)]
    go_enter Try.func4, Try.ntmps4
    go_wp2
    go_ret
    exact ⟨rfl, rfl⟩
  · rw [show decide (n1 + n2 + n3 ≤ 1048576) = true from decide_eq_true (by omega)]
    go_enter Try.func4, Try.ntmps4
    go_wp2
    go_ret
    exact ⟨rfl, rfl⟩

set_option maxHeartbeats 400000 in
theorem same10 (a b : Nat) (h : FE a b) (w : World) : Calls Try.prog 10 #[.float .f64 a, .float .f64 b] w fun e w' => e = .returned (.bool true) ∧ w = w' := by
  rcases same_order h with ⟨_, h1⟩ | ⟨h1, h2, h3⟩
  · have k1 : FloatKind.f64.format.order a b = some .eq := h1
    clear h h1
    go_enter Try.func10, Try.ntmps10
    go_wp2
    go_ret
    exact ⟨rfl, rfl⟩
  · have k1 : FloatKind.f64.format.order a b = none := h1
    have k2 : FloatKind.f64.format.order a a = none := h2
    have k3 : FloatKind.f64.format.order b b = none := h3
    clear h h1 h2 h3
    go_enter Try.func10, Try.ntmps10
    go_wp2
    go_ret
    exact ⟨rfl, rfl⟩

set_option maxHeartbeats 400000 in
theorem n11 (g : Nat) (ao : Option Addr) (n c : Nat) (w : World) (hn : n ≤ 1000000) (hc : w.cell? ⟨g, 0, none⟩ = some (.slice ao (n + 1) c)) :
    Calls Try.prog 11 #[.pointer (some ⟨g, 0, none⟩)] w fun e w' => e = .returned (.int .i64 (n : Int)) ∧ w = w' := by
  go_enter Try.func11, Try.ntmps11
  go_wp2
  go_ret
  exact ⟨by go_num, rfl⟩

set_option maxHeartbeats 400000 in
theorem totals9 (g : Nat) (t p m : Nat) (w : World) (h3 : w.cell? ⟨g, 3, none⟩ = some (.float .f64 t)) (h4 : w.cell? ⟨g, 4, none⟩ = some (.float .f64 p)) (h5 : w.cell? ⟨g, 5, none⟩ = some (.float .f64 m)) :
    Calls Try.prog 9 #[.pointer (some ⟨g, 0, none⟩)] w fun e w' => e = .returned (.tuple #[.float .f64 t, .float .f64 p, .float .f64 m]) ∧ ∃ k, w' = w.drewN k := by
  go_enter Try.func9, Try.ntmps9
  go_wp2
  go_quiet (fail)
  go_wp2
  go_ret3
  exact ⟨rfl, _, rfl⟩

set_option maxHeartbeats 400000 in
theorem neigh12 (g bs os cs n u lo hi lt ct lw cw : Nat) (at' aw : Option Addr) (w : World) (hn : n ≤ 1000000) (hu : u < n)
    (c0 : w.cell? ⟨g, 0, none⟩ = some (.slice (some ⟨bs, os, none⟩) (n + 1) cs)) (c1 : w.cell? ⟨g, 1, none⟩ = some (.slice at' lt ct)) (c2 : w.cell? ⟨g, 2, none⟩ = some (.slice aw lw cw))
    (hlo : w.cell? ⟨bs, os + u, none⟩ = some (.int .i64 (lo : Int))) (hhi : w.cell? ⟨bs, os + (u + 1), none⟩ = some (.int .i64 (hi : Int))) (hle : lo ≤ hi) (ht : hi ≤ ct) (hw : hi ≤ cw) :
    Calls Try.prog 12 #[.pointer (some ⟨g, 0, none⟩), .int .i64 (u : Int)] w fun e w' =>
      e = .returned (.tuple #[.slice (if ct = lo then at' else at'.map (·.add lo)) (hi - lo) (ct - lo), .slice (if cw = lo then aw else aw.map (·.add lo)) (hi - lo) (cw - lo)]) ∧ ∃ k, w' = w.drewN k := by
  go_enter Try.func12, Try.ntmps12
  go_wp2
  go_quiet (fail)
  go_wp2
  go_quiet (fail)
  go_wp2
  all_goals
    go_ret2
    exact ⟨rfl, _, rfl⟩

end Go.Proofs.Qxb6630535a
