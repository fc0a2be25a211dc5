/- The walks of zzSameMirrors and zzOneBlock. -/
import Derived.Test.Qxb6629292aBits
import Derived.Laws.StructEq
namespace Go.Proofs.Qxb6629292a
open Go.RowKit

theorem eq28 (a b c d e f : Int) (w : World) : (Op.equalIn 10000 28 (.agg #[.int .i64 a, .int .i64 b, .int .i64 c]) (.agg #[.int .i64 d, .int .i64 e, .int .i64 f])).run Try.prog w = .ok (a == d && (b == e && c == f)) w := by
  have u3 := Try.underlying3
  have a3 := Try.isAgg3
  have z3 := Try.sizeOf3
  have hS : Try.prog.underlying 28 = some (.struct (Try.prog.fieldsOf 28)) := by kernel_rfl
  have hp : Try.prog.stoodInHeld 28 = false := by kernel_rfl
  rw [show (10000 : Nat) = 9999 + 1 from rfl, run_equalIn_agg w 9999 28 _ _ hS hp]
  simp only [Program.fieldsOf, Try.underlying28]
  go_simp
  by_cases h1 : a = d <;> by_cases h2 : b = e <;> by_cases h3 : c = f <;> simp [h1, h2, h3]

/-- the elements of a slice of mirrors lie there -/
def Lies (w : World) (ao : Option Addr) (ls : List (Int × Int × Int)) : Prop :=
  ls = [] ∨ ∃ b o, ao = some ⟨b, o, none⟩ ∧ ∀ k (h : k < ls.length), w.cell? ⟨b, o + k * 3, none⟩ = some (.int .i64 (ls[k]).1) ∧ w.cell? ⟨b, o + k * 3 + 1, none⟩ = some (.int .i64 (ls[k]).2.1) ∧ w.cell? ⟨b, o + k * 3 + 2, none⟩ = some (.int .i64 (ls[k]).2.2)

set_option maxHeartbeats 400000 in
theorem same_cons (b1 o1 b2 o2 n c1 c2 : Nat) (ls : List (Int × Int × Int)) (w : World) (hn : ls.length = n) (hm : n ≤ maxLen)
    (hA : ∀ k (h : k < ls.length), w.cell? ⟨b1, o1 + k * 3, none⟩ = some (.int .i64 (ls[k]).1) ∧ w.cell? ⟨b1, o1 + k * 3 + 1, none⟩ = some (.int .i64 (ls[k]).2.1) ∧ w.cell? ⟨b1, o1 + k * 3 + 2, none⟩ = some (.int .i64 (ls[k]).2.2))
    (hB : ∀ k (h : k < ls.length), w.cell? ⟨b2, o2 + k * 3, none⟩ = some (.int .i64 (ls[k]).1) ∧ w.cell? ⟨b2, o2 + k * 3 + 1, none⟩ = some (.int .i64 (ls[k]).2.1) ∧ w.cell? ⟨b2, o2 + k * 3 + 2, none⟩ = some (.int .i64 (ls[k]).2.2)) :
    Calls Try.prog 8 #[.slice (some ⟨b1, o1, none⟩) n c1, .slice (some ⟨b2, o2, none⟩) n c2] w fun e w' => e = .returned (.bool true) ∧ ∃ m, w' = w.drewN m := by
  unfold maxLen at hm
  have HA := hA
  have HB := hB
  have HAh : Hid (∀ k (h : k < ls.length), w.cell? ⟨b1, o1 + k * 3, none⟩ = some (.int .i64 (ls[k]).1) ∧ w.cell? ⟨b1, o1 + k * 3 + 1, none⟩ = some (.int .i64 (ls[k]).2.1) ∧ w.cell? ⟨b1, o1 + k * 3 + 2, none⟩ = some (.int .i64 (ls[k]).2.2)) := hA
  have HBh : Hid (∀ k (h : k < ls.length), w.cell? ⟨b2, o2 + k * 3, none⟩ = some (.int .i64 (ls[k]).1) ∧ w.cell? ⟨b2, o2 + k * 3 + 1, none⟩ = some (.int .i64 (ls[k]).2.1) ∧ w.cell? ⟨b2, o2 + k * 3 + 2, none⟩ = some (.int .i64 (ls[k]).2.2)) := hB
  clear hA hB HA HB
  go_enter Try.func8, Try.ntmps8
  go_wp2
  go_loopw [5] (fun i wr => ∃ k m : Nat, k ≤ n ∧ i = .int .i64 (k : Int) ∧ wr = w.drewN m) (fun i _ => n - (intOf i).toNat)
  case atStart => exact ⟨0, 0, by omega, rfl, rfl⟩
  case round =>
    obtain ⟨k, m, hk, rfl, rfl⟩ := hrel
    by_cases hkn : k < n
    · obtain ⟨a1, a2, a3⟩ := HAh.out k (by omega)
      obtain ⟨e1, e2, e3⟩ := HBh.out k (by omega)
      have hkd : decide ((k : Int) < (n : Int)) = true := decide_eq_true (by omega)
      have heq := eq28
      go_wp2
      go_quiet (fail)
      go_wp2
      go_roundw
      case rel => exact ⟨k + 1, _, by omega, by go_num, rfl⟩
      case measure => simp [intOf]; omega
    · have hkd : decide ((k : Int) < (n : Int)) = false := decide_eq_false (by omega)
      go_wp2
      go_ret
      exact ⟨rfl, _, rfl⟩

set_option maxHeartbeats 400000 in
theorem same_nil (ao bo : Option Addr) (c1 c2 : Nat) (w : World) : Calls Try.prog 8 #[.slice ao 0 c1, .slice bo 0 c2] w fun e w' => e = .returned (.bool true) ∧ ∃ m, w' = w.drewN m := by
  go_enter Try.func8, Try.ntmps8
  go_wp2
  refine wp_loop_rounds 1 ?_
  rw [rounds_succ]
  go_wp2
  go_ret
  exact ⟨rfl, 0, rfl⟩

set_option maxHeartbeats 1000000 in
theorem one_block (l x y a1 b1 a2 b2 a3 b3 : Int) (w : World) (T : Three l x y a1 b1 a2 b2 a3 b3) :
    Calls Try.prog 9 #[.agg #[.int .i64 l, .int .i64 a1, .int .i64 b1], .agg #[.int .i64 l, .int .i64 a2, .int .i64 b2], .agg #[.int .i64 l, .int .i64 a3, .int .i64 b3], .agg #[.int .i64 l, .int .i64 x, .int .i64 y]] w fun e w' =>
      e = .returned (.bool true) ∧ w' = (((w.alloc (.cells #[.int .i64 l, .int .i64 a1, .int .i64 b1] 28)).alloc (.cells #[.int .i64 l, .int .i64 a2, .int .i64 b2] 28)).alloc (.cells #[.int .i64 l, .int .i64 a3, .int .i64 b3] 28)).alloc (.cells #[.int .i64 l, .int .i64 x, .int .i64 y] 28) := by
  have heq := eq28
  obtain ⟨_, _, _, x1, x2, x3, y1, y2, y3, n12, n13, n14, n23, n24, n34⟩ := T
  have m12 : (a1 == a2 && b1 == b2) = false := by simpa using n12
  have m13 : (a1 == a3 && b1 == b3) = false := by simpa using n13
  have m14 : (a1 == x && b1 == y) = false := by simpa using n14
  have m23 : (a2 == a3 && b2 == b3) = false := by simpa using n23
  have m24 : (a2 == x && b2 == y) = false := by simpa using n24
  have m34 : (a3 == x && b3 == y) = false := by simpa using n34
  clear n12 n13 n14 n23 n24 n34
  go_enter Try.func9, Try.ntmps9
  go_wp2
  go_ret
  exact ⟨rfl, rfl⟩

theorem cellsOf_get (ls : List (Int × Int × Int)) (k : Nat) (h : k < ls.length) :
    (cellsOf ls)[k * 3]? = some (.int .i64 (ls[k]).1) ∧ (cellsOf ls)[k * 3 + 1]? = some (.int .i64 (ls[k]).2.1) ∧ (cellsOf ls)[k * 3 + 2]? = some (.int .i64 (ls[k]).2.2) := by
  induction ls generalizing k with
  | nil => simp at h
  | cons p t ih =>
    have e : cellsOf (p :: t) = [.int .i64 p.1, .int .i64 p.2.1, .int .i64 p.2.2] ++ cellsOf t := rfl
    rw [e]
    cases k with
    | zero => simp
    | succ k =>
      have := ih k (by simpa using h)
      simp only [List.getElem_cons_succ]
      rw [show (k + 1) * 3 = k * 3 + 3 by omega, show k * 3 + 3 + 1 = (k * 3 + 1) + 3 by omega, show k * 3 + 3 + 2 = (k * 3 + 2) + 3 by omega]
      simpa using this

/-- a list of mirrors that the call owns: its shape and its cells -/
theorem own_shape {w : World} {base : Nat} {v : Value} {ls : List (Int × Int × Int)} (h : w.ownsRow base 28 3 v ls.length (cellsOf ls)) (h0 : 0 < ls.length) :
    ∃ g cap, v = .slice (some ⟨g, 0, none⟩) ls.length cap ∧ base ≤ g ∧ g < w.heap.size ∧ ls.length ≤ cap ∧ cap ≤ maxLen ∧
      ∀ k (h : k < ls.length), w.cell? ⟨g, k * 3, none⟩ = some (.int .i64 (ls[k]).1) ∧ w.cell? ⟨g, k * 3 + 1, none⟩ = some (.int .i64 (ls[k]).2.1) ∧ w.cell? ⟨g, k * 3 + 2, none⟩ = some (.int .i64 (ls[k]).2.2) := by
  have hcells := fun g hg => h.cells (g := g) hg
  have hlt := h.lt
  rcases h.2 with ⟨_, h2⟩ | ⟨g, cap, cur, rfl, hb, _, hc, hm, _, _⟩
  · omega
  · have hg := hlt g rfl
    refine ⟨g, cap, rfl, hb, hg.2, hc, hm, fun k hk => ?_⟩
    have hcg := hcells g rfl
    obtain ⟨e1, e2, e3⟩ := cellsOf_get ls k hk
    have f1 := hcg _ _ e1
    have f2 := hcg _ _ e2
    have f3 := hcg _ _ e3
    simp only [Addr.add_lit, Nat.zero_add] at f1 f2 f3
    exact ⟨f1, f2, f3⟩

theorem own_empty {w : World} {base : Nat} {v : Value} {xs : List Value} (h : w.ownsRow base 28 3 v 0 xs) : ∃ ao cap, v = .slice ao 0 cap := by
  rcases h.2 with ⟨rfl, _⟩ | ⟨g, cap, cur, rfl, _⟩
  · exact ⟨_, _, rfl⟩
  · exact ⟨_, _, rfl⟩

end Go.Proofs.Qxb6629292a
