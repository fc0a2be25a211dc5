/- The walk of FnBelowMatchesRootDigitPath. -/
import Derived.Test.Qxb6629292aModel2
import Derived.Test.Qxb6629292aLaw1
namespace Go.Proofs.Qxb6629292a
open Go.RowKit
open Fl
attribute [local go_sem] run_store_float

set_option maxHeartbeats 400000 in
theorem path_out (a X Y d : Int) (rx ry x0 y0 x1 y1 : Nat) (w : World) (h : a < 0 ∨ 65536 < a ∨ 53 < d) :
    Calls Try.prog 3 #[.int .i64 a, .int .i64 X, .int .i64 Y, .float .f64 rx, .float .f64 ry, .float .f64 x0, .float .f64 y0, .float .f64 x1, .float .f64 y1, .int .i64 d] w fun e w' => e = .returned (.bool true) ∧ Below w.heap.size w w' := by
  have key : a < 0 ∨ (¬ a < 0 ∧ 65536 < a) ∨ (¬ a < 0 ∧ ¬ 65536 < a ∧ 53 < d) := by omega
  rcases key with h1 | ⟨h1, h2⟩ | ⟨h1, h2, h3⟩
  all_goals
    clear h
    go_enter Try.func3, Try.ntmps3
    go_wp2
    go_ret
    exact ⟨rfl, Below.refl _ _⟩

set_option maxRecDepth 100000 in
set_option maxHeartbeats 1000000 in
theorem path_main (L : Nat) (X Y d : Int) (rx ry x0 y0 x1 y1 : Nat) (w : World) (hL : L ≤ 65536) (hd : d ≤ 53) (hd0 : -9223372036854775808 ≤ d) (hX : In64 X) (hY : In64 Y) :
    Calls Try.prog 3 #[.int .i64 L, .int .i64 X, .int .i64 Y, .float .f64 rx, .float .f64 ry, .float .f64 x0, .float .f64 y0, .float .f64 x1, .float .f64 y1, .int .i64 d] w fun e w' => e = .returned (.bool true) ∧ Below w.heap.size w w' := by
  have HX : Hid (In64 X) := hX
  have HY : Hid (In64 Y) := hY
  clear hX hY
  go_enter Try.func3, Try.ntmps3
  go_wp2_with fail
  refine (digits_any rx x0 x1 d _ hd hd0).mono ?_
  rintro e w1 ⟨gx, nx, rfl, ⟨hnx, hnx2⟩, hgx1, hgx2, hcx, hb1⟩
  have HCX : Hid (∀ k : Nat, (k : Int) ≤ d → w1.cell? ⟨gx, k, none⟩ = some (.int .i64 (dgt (frac rx x0 x1) k))) := hcx
  have HB1 : Hid (Below w.heap.size w w1) := hb1
  clear hcx hb1
  go_wp2_with fail
  refine (digits_any ry y0 y1 d _ hd hd0).mono ?_
  rintro e w2 ⟨gy, ny, rfl, ⟨hny, hny2⟩, hgy1, hgy2, hcy, hb2⟩
  have HCX2 : Hid (∀ k : Nat, (k : Int) ≤ d → w2.cell? ⟨gx, k, none⟩ = some (.int .i64 (dgt (frac rx x0 x1) k))) := fun k hk => (hb2.cell (p := ⟨gx, k, none⟩) hgx2).trans (HCX.out k hk)
  have HCY : Hid (∀ k : Nat, (k : Int) ≤ d → w2.cell? ⟨gy, k, none⟩ = some (.int .i64 (dgt (frac ry y0 y1) k))) := hcy
  have HB2 : Hid (Below w.heap.size w w2) := HB1.out.trans (hb2.mono HB1.out.size)
  have hgx3 : gx < w2.heap.size := by have := hb2.size; omega
  clear hcy hb2 HCX HB1 hgx2
  go_wp2_with fail
  refine (model_any L X Y gx gy nx ny d (frac rx x0 x1) (frac ry y0 y1) w2 hL hd HX.out HY.out hnx hny hnx2 hny2 hgx3 hgy2 HCX2.out HCY.out).mono ?_
  rintro e w3 ⟨v, rfl, hown, hb3⟩
  obtain ⟨ls, Hls⟩ : ∃ ls, Hid (ls = belowL L X Y (frac rx x0 x1) (frac ry y0 y1) (d.toNat - L)) := ⟨_, rfl⟩
  rw [← Hls.out] at hown
  have HO : Hid (w3.ownsRow w2.heap.size 28 3 v ls.length (cellsOf ls)) := hown
  have HB3 : Hid (Below w.heap.size w w3) := HB2.out.trans (hb3.mono HB2.out.size)
  clear hown hb3 HCX2 HCY HB2
  go_wp2_with fail
  refine (below_any L X Y rx ry x0 y0 x1 y1 d _ (by omega) hd).mono ?_
  rintro e w5 ⟨v2, rfl, hown2, hb5⟩
  rw [← Hls.out] at hown2
  have HB5 : Hid (Below w.heap.size w w5) := (((((HB3.out.alloc HB3.out.size _).alloc (by simp; have := HB3.out.size; omega) _).alloc (by simp; have := HB3.out.size; omega) _).trans (hb5.mono (by simp; have := HB3.out.size; omega))))
  have HB35 : Hid (Below w3.heap.size w3 w5) := ((((Below.refl w3.heap.size w3).alloc (Nat.le_refl _) _).alloc (by simp) _).alloc (by simp; omega) _).trans (hb5.mono (by simp; omega))
  clear hb5
  by_cases h0 : 0 < ls.length
  · obtain ⟨g, cap, rfl, _, hg2, hat⟩ := at_of HO.out h0
    obtain ⟨g2, cap2, rfl, _, _, hat2⟩ := at_of hown2 h0
    have hlen : ls.length ≤ maxLen := by
      have h1 := belowL_le L X Y (frac rx x0 x1) (frac ry y0 y1) (d.toNat - L)
      rw [← Hls.out] at h1
      unfold maxLen
      omega
    have HA : Hid (At g 0 ls w5) := hat.carry HB35.out hg2
    have HA2 : Hid (At g2 0 ls w5) := hat2
    obtain ⟨m, Hm⟩ : ∃ m, Hid (m = ls.length) := ⟨_, rfl⟩
    rw [← Hm.out] at hlen ⊢
    clear hat hat2 hown2 HO h0
    go_wp2_with fail
    refine (same_cons g2 0 g 0 m cap2 cap ls w5 Hm.out.symm hlen HA2.out HA.out).mono ?_
    rintro e w7 ⟨rfl, q7, rfl⟩
    go_wp2
    go_ret
    exact ⟨rfl, below_drewN HB5.out q7⟩
  · have hz : ls.length = 0 := by omega
    have h1 := HO.out
    rw [hz] at hown2 h1
    obtain ⟨ao, cap, rfl⟩ := own_empty h1
    obtain ⟨ao2, cap2, rfl⟩ := own_empty hown2
    clear h1 hown2 HO h0 hz
    go_wp2_with fail
    refine (same_nil _ _ _ _ _).mono ?_
    rintro e w7 ⟨rfl, q7, rfl⟩
    go_wp2
    go_ret
    exact ⟨rfl, below_drewN HB5.out q7⟩

theorem path_any (a X Y d : Int) (rx ry x0 y0 x1 y1 : Nat) (w : World) (hd0 : -9223372036854775808 ≤ d) (hX : In64 X) (hY : In64 Y) :
    Calls Try.prog 3 #[.int .i64 a, .int .i64 X, .int .i64 Y, .float .f64 rx, .float .f64 ry, .float .f64 x0, .float .f64 y0, .float .f64 x1, .float .f64 y1, .int .i64 d] w fun e w' => e = .returned (.bool true) ∧ Below w.heap.size w w' := by
  by_cases h : a < 0 ∨ 65536 < a ∨ 53 < d
  · exact path_out a X Y d rx ry x0 y0 x1 y1 w h
  · obtain ⟨L, rfl⟩ := Int.eq_ofNat_of_zero_le (show 0 ≤ a by omega)
    exact path_main L X Y d rx ry x0 y0 x1 y1 w (by omega) (by omega) hd0 hX hY

theorem in64_of {x : Int} (h : (Lit.int .i64 x).wf = true) : In64 x := by
  simp only [Lit.wf, IntKind.min, IntKind.max, IntKind.signed, IntKind.bits, Bool.and_eq_true, decide_eq_true_eq, if_true] at h
  unfold In64
  omega

end Go.Proofs.Qxb6629292a
