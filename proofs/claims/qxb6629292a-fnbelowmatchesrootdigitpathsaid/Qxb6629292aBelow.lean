/- The walk of Mirror.Below. -/
import Derived.Test.Qxb6629292aSpec
namespace Go.Proofs.Qxb6629292a
open Go.RowKit
open Fl

theorem info28 : (Try.prog.info? 28).map (fun i => (i.zero, i.size, i.bytes)) = some (some (.agg #[.int .i64 0, .int .i64 0, .int .i64 0]), 3, 24) := by kernel_rfl

/-- the world once the three arguments are boxed -/
abbrev boxed (w : World) (L : Nat) (X Y : Int) (rx ry x0 y0 x1 y1 : Nat) : World :=
  (((w.alloc (.cells #[.int .i64 L, .int .i64 X, .int .i64 Y] 28)).alloc (.cells #[.float .f64 rx, .float .f64 ry] 30)).alloc (.cells #[.float .f64 x0, .float .f64 y0, .float .f64 x1, .float .f64 y1] 32))

set_option maxRecDepth 100000 in
set_option maxHeartbeats 1000000 in
theorem below_any (L : Nat) (X Y : Int) (rx ry x0 y0 x1 y1 : Nat) (d : Int) (w : World) (hL : L ≤ 65537) (hd : d ≤ 53) :
    Calls Try.prog 7 #[.agg #[.int .i64 L, .int .i64 X, .int .i64 Y], .agg #[.float .f64 rx, .float .f64 ry], .agg #[.float .f64 x0, .float .f64 y0, .float .f64 x1, .float .f64 y1], .int .i64 d] w fun e w' =>
      ∃ v, e = .returned v ∧ w'.ownsRow (w.heap.size + 3) 28 3 v (belowL L X Y (frac rx x0 x1) (frac ry y0 y1) (d.toNat - L)).length (cellsOf (belowL L X Y (frac rx x0 x1) (frac ry y0 y1) (d.toNat - L))) ∧ Below w.heap.size w w' := by
  obtain ⟨i0, hi, hz0, hz1, hz2⟩ := info_parts info28
  go_enter Try.func7, Try.ntmps7
  go_wp2
  go_loopw [9, 10] (fun v l wr => ∃ n : Nat, l = .int .i64 ((L + 1 + n : Nat) : Int) ∧ (n = 0 ∨ ((L + n : Nat) : Int) ≤ d) ∧ wr.ownsRow (w.heap.size + 3) 28 3 v (belowL L X Y (frac rx x0 x1) (frac ry y0 y1) n).length (cellsOf (belowL L X Y (frac rx x0 x1) (frac ry y0 y1) n)) ∧ Below (w.heap.size + 3) (boxed w L X Y rx ry x0 y0 x1 y1) wr) (fun _ l _ => (d + 1 - intOf l).toNat)
  case atStart => exact ⟨0, by go_num, .inl rfl, World.ownsRow_nil _ _ _ _, Below.refl _ _⟩
  case round =>
    obtain ⟨n, rfl, hn, hown, hbel⟩ := hrel
    obtain ⟨l, HL⟩ : ∃ l : Nat, Hid (l = L + 1 + n) := ⟨_, rfl⟩
    rw [← HL.out]
    by_cases hlt : (l : Int) ≤ d
    · have hls : l ≤ 53 := by omega
      have hl0 : 1 ≤ l := by have := HL.out; omega
      obtain ⟨s, HS⟩ : ∃ s : Nat, Hid (s = n + 1) := ⟨_, rfl⟩
      have hsub : (l : Int) - (L : Int) = (s : Int) := by have := HS.out; have := HL.out; omega
      have hs53 : s ≤ 53 := by have := HL.out; omega
      obtain ⟨x, hx⟩ : ∃ x, bits .or .i64 (wrap64 (X * 2 ^ s)) (bits .and .i64 (rcv (frac rx x0 x1) l : Int) (wrap64 (wrap64 (2 ^ s) - 1))) = x := ⟨_, rfl⟩
      obtain ⟨y, hy⟩ : ∃ x, bits .or .i64 (wrap64 (Y * 2 ^ s)) (bits .and .i64 (rcv (frac ry y0 y1) l : Int) (wrap64 (wrap64 (2 ^ s) - 1))) = x := ⟨_, rfl⟩
      obtain ⟨xe, hxe⟩ : ∃ z, bits .andNot .i64 x 1 = z := ⟨_, rfl⟩
      obtain ⟨xo, hxo⟩ : ∃ z, bits .or .i64 x 1 = z := ⟨_, rfl⟩
      obtain ⟨ye, hye⟩ : ∃ z, bits .andNot .i64 y 1 = z := ⟨_, rfl⟩
      obtain ⟨yo, hyo⟩ : ∃ z, bits .or .i64 y 1 = z := ⟨_, rfl⟩
      have hc : ∀ b o, b < w.heap.size + 3 → wr.cell? ⟨b, o, none⟩ = (boxed w L X Y rx ry x0 y0 x1 y1).cell? ⟨b, o, none⟩ := fun b o h => hbel.cell (p := ⟨b, o, none⟩) h
      have HO : Hid (wr.ownsRow (w.heap.size + 3) 28 3 u9 (belowL L X Y (frac rx x0 x1) (frac ry y0 y1) n).length (cellsOf (belowL L X Y (frac rx x0 x1) (frac ry y0 y1) n))) := hown
      clear hown
      go_wp2
      go_quiet ((go_at_call 10; exact Calls.quiet_of (root_any _ _ _ _ _ hl0 hls)))
      have hbel2 := below_drewN hbel nq
      have HO2 : Hid ((wr.drewN nq).ownsRow (w.heap.size + 3) 28 3 u9 (belowL L X Y (frac rx x0 x1) (frac ry y0 y1) n).length (cellsOf (belowL L X Y (frac rx x0 x1) (frac ry y0 y1) n))) := HO
      clear hc hbel HO
      generalize wr.drewN nq = wr2 at hbel2 HO2 ⊢
      have hc : ∀ b o, b < w.heap.size + 3 → wr2.cell? ⟨b, o, none⟩ = (boxed w L X Y rx ry x0 y0 x1 y1).cell? ⟨b, o, none⟩ := fun b o h => hbel2.cell (p := ⟨b, o, none⟩) h
      go_wp2
      go_quiet ((go_at_call 10; exact Calls.quiet_of (root_any _ _ _ _ _ hl0 hls)))
      have hbel3 := below_drewN hbel2 nq
      have HO3 : Hid ((wr2.drewN nq).ownsRow (w.heap.size + 3) 28 3 u9 (belowL L X Y (frac rx x0 x1) (frac ry y0 y1) n).length (cellsOf (belowL L X Y (frac rx x0 x1) (frac ry y0 y1) n))) := HO2
      clear hc hbel2 HO2
      generalize wr2.drewN nq = wr3 at hbel3 HO3 ⊢
      obtain ⟨pre, HP⟩ : ∃ pre, Hid (pre = belowL L X Y (frac rx x0 x1) (frac ry y0 y1) n) := ⟨_, rfl⟩
      rw [← HP.out] at HO3
      have hpl : pre.length ≤ 212 := by
        have h1 := belowL_le L X Y (frac rx x0 x1) (frac ry y0 y1) n
        have h2 := HP.out; have h3 := HS.out
        rw [← h2] at h1; omega
      have hsz3 : w.heap.size + 3 ≤ wr3.heap.size := by have := hbel3.size; simpa using this
      have hbel4 := hbel3.alloc hsz3 (.cells #[.int .i64 xe, .int .i64 xo] 3)
      have HO4 : Hid ((wr3.alloc (.cells #[.int .i64 xe, .int .i64 xo] 3)).ownsRow (w.heap.size + 3) 28 3 u9 pre.length (cellsOf pre)) := HO3.out.alloc _
      have hlit := heap_alloc_new wr3 (.cells #[.int .i64 xe, .int .i64 xo] 3)
      have Hx : Hid (x = xat X (frac rx x0 x1) l s) := hx.symm
      have Hy : Hid (y = xat Y (frac ry y0 y1) l s) := hy.symm
      have Hxe : Hid (ev x = xe) := hxe
      have Hxo : Hid (od x = xo) := hxo
      clear hbel3 HO3 hx hy
      go_wp2
      clear hxe hxo
      generalize wr3.alloc (.cells #[.int .i64 xe, .int .i64 xo] 3) = wr4 at hbel4 HO4 hlit ⊢
      generalize wr3.heap.size = b72 at hsz3 hlit ⊢
      go_loopw [9, 74] (fun v i wr => ∃ k : Nat, k ≤ 2 ∧ i = .int .i64 (k : Int) ∧ wr.ownsRow (w.heap.size + 3) 28 3 v (pre ++ part l x y ([xe, xo].take k)).length (cellsOf (pre ++ part l x y ([xe, xo].take k))) ∧ wr.heap[b72]? = some (.cells #[.int .i64 xe, .int .i64 xo] 3 (0, 0)) ∧ Below (w.heap.size + 3) (boxed w L X Y rx ry x0 y0 x1 y1) wr) (fun _ i _ => 2 - (intOf i).toNat)
      case atStart => exact ⟨0, by omega, rfl, by simpa [part] using HO4.out, hlit, hbel4⟩
      case round =>
        clear HO4 hlit hbel4
        obtain ⟨k, hk, rfl, hown, hlit, hbel⟩ := hrel
        by_cases hk2 : k < 2
        · have hkd : decide ((k : Int) < 2) = true := decide_eq_true (by omega)
          obtain ⟨bx, hbx⟩ : ∃ bx, bx = [xe, xo][k] := ⟨_, rfl⟩
          have hcx := lit_cell hlit k hk2
          rw [← hbx] at hcx
          have Hpt : Hid (part l x y ([xe, xo].take (k + 1)) = part l x y ([xe, xo].take k) ++ row l x y bx [ev y, od y]) := by
            show _ = _
            rw [take_snoc _ _ hk2, part_snoc, ← hbx]
          clear hbx
          have hpt := part_le l x y ([xe, xo].take k)
          have hptl : ([xe, xo].take k).length ≤ 2 := by simp; omega
          obtain ⟨pre2, HP2⟩ : ∃ pre2, Hid (pre2 = pre ++ part l x y ([xe, xo].take k)) := ⟨_, rfl⟩
          rw [← HP2.out] at hown
          have hpl2 : pre2.length ≤ 216 := by
            have := HP2.out; rw [this, List.length_append]; omega
          clear hpt hptl
          have hsz : w.heap.size + 3 ≤ wr.heap.size := by have := hbel.size; simpa using this
          have hbel4 := hbel.alloc hsz (.cells #[.int .i64 ye, .int .i64 yo] 3)
          have HO4 : Hid ((wr.alloc (.cells #[.int .i64 ye, .int .i64 yo] 3)).ownsRow (w.heap.size + 3) 28 3 u9 pre2.length (cellsOf pre2)) := hown.alloc _
          have hlit2 := heap_alloc_new wr (.cells #[.int .i64 ye, .int .i64 yo] 3)
          have hlit3 := (Below.heap_alloc wr (.cells #[.int .i64 ye, .int .i64 yo] 3) b72 (lt_of_block hlit)).trans hlit
          clear hown hbel hlit
          go_wp2
          generalize wr.alloc (.cells #[.int .i64 ye, .int .i64 yo] 3) = wr5 at hbel4 HO4 hlit2 hlit3 ⊢
          generalize wr.heap.size = b82 at hlit2 ⊢
          clear hcx
          go_loopw [9, 84] (fun v i wr => ∃ j : Nat, j ≤ 2 ∧ i = .int .i64 (j : Int) ∧ wr.ownsRow (w.heap.size + 3) 28 3 v (pre2 ++ row l x y bx ([ye, yo].take j)).length (cellsOf (pre2 ++ row l x y bx ([ye, yo].take j))) ∧ wr.heap[b72]? = some (.cells #[.int .i64 xe, .int .i64 xo] 3 (0, 0)) ∧ wr.heap[b82]? = some (.cells #[.int .i64 ye, .int .i64 yo] 3 (0, 0)) ∧ Below (w.heap.size + 3) (boxed w L X Y rx ry x0 y0 x1 y1) wr) (fun _ i _ => 2 - (intOf i).toNat)
          case atStart => exact ⟨0, by omega, rfl, by simpa [row] using HO4.out, hlit3, hlit2, hbel4⟩
          case round =>
            clear HO4 hlit2 hlit3 hbel4
            obtain ⟨j, hj, rfl, hown, hlit1, hlit2, hbel⟩ := hrel
            by_cases hj2 : j < 2
            · have hjd : decide ((j : Int) < 2) = true := decide_eq_true (by omega)
              obtain ⟨b, hb⟩ : ∃ bx, bx = [ye, yo][j] := ⟨_, rfl⟩
              have hcy := lit_cell hlit2 j hj2
              rw [← hb] at hcy
              have Hrt : Hid (row l x y bx ([ye, yo].take (j + 1)) = row l x y bx ([ye, yo].take j) ++ (if bx = x ∧ b = y then [] else [((l : Int), bx, b)])) := by
                show _ = _
                rw [take_snoc _ _ hj2, row_snoc, ← hb]
              clear hb
              have hrl := row_le l x y bx ([ye, yo].take j)
              have hrl2 : ([ye, yo].take j).length ≤ 2 := by simp; omega
              obtain ⟨pre3, HP3⟩ : ∃ pre3, Hid (pre3 = pre2 ++ row l x y bx ([ye, yo].take j)) := ⟨_, rfl⟩
              rw [← HP3.out] at hown
              have hpl3 : pre3.length ≤ 218 := by
                have := HP3.out; rw [this, List.length_append]; omega
              clear hrl hrl2
              have hsz : w.heap.size + 3 ≤ wr.heap.size := by have := hbel.size; simpa using this
              have HO : Hid (wr.ownsRow (w.heap.size + 3) 28 3 u9 pre3.length (cellsOf pre3)) := hown
              clear hown
              by_cases hbx : bx = x
              · have hbx' : (bx != x) = false := by simpa using hbx
                by_cases hby : b = y
                · -- the cell of the path itself: left out
                  have hby' : (b != y) = false := by simpa using hby
                  have HB : Hid (bx = x ∧ b = y) := ⟨hbx, hby⟩
                  clear hbx hby
                  go_wp2
                  go_roundw
                  case rel => exact ⟨j + 1, by omega, by go_num, by rw [Hrt.out, if_pos HB.out, List.append_nil, ← HP3.out]; exact HO.out, hlit1, hlit2, hbel⟩
                  case measure => simp [intOf]; omega
                · have hby' : (b != y) = true := by simpa using hby
                  have HB : Hid (¬ b = y) := hby
                  clear hbx hby
                  go_wp2_with (at_builtin; refine wpList_append_own _ rfl _ _ 25 rfl (w.heap.size + 3) 28 i0 _ 3 24 Try.underlying25 hi hz0 hz1 hz2 rfl (by decide) _ _ _ rfl (HO.out.alloc _) ⟨wr.heap.size, 0, none⟩ 1 1 [.int .i64 l, .int .i64 bx, .int .i64 b] rfl rfl (new3_cells _ _ _ _) (new3_one _ _ _) ?_ ?_ ?_ ?_)
                  · unfold maxLen; omega
                  · omega
                  · simp; omega
                  · intro v' w1 hown' hgrow _
                    obtain ⟨R1, R2, R3⟩ := app_rel hbel hsz HO.out hown' hgrow
                    have R4 := R3 _ _ hlit1
                    have R5 := R3 _ _ hlit2
                    clear hown' hgrow R3 HO hlit1 hlit2 hbel hcy
                    go_wp2
                    go_roundw
                    case rel => first | exact ⟨j + 1, by omega, by go_num, by rw [Hrt.out, if_neg (by intro h; exact HB.out h.2), ← List.append_assoc, ← HP3.out]; exact R1, R4, R5, R2⟩ | ((repeat apply Exists.intro); exact ⟨⟨j + 1, by omega, by go_num, by rw [Hrt.out, if_neg (by intro h; exact HB.out h.2), ← List.append_assoc, ← HP3.out]; exact R1, R4, R5, R2⟩, rfl⟩)
                    case measure => simp [intOf]; omega
              · have hbx' : (bx != x) = true := by simpa using hbx
                have HB : Hid (¬ bx = x) := hbx
                clear hbx
                go_wp2_with (at_builtin; refine wpList_append_own _ rfl _ _ 25 rfl (w.heap.size + 3) 28 i0 _ 3 24 Try.underlying25 hi hz0 hz1 hz2 rfl (by decide) _ _ _ rfl (HO.out.alloc _) ⟨wr.heap.size, 0, none⟩ 1 1 [.int .i64 l, .int .i64 bx, .int .i64 b] rfl rfl (new3_cells _ _ _ _) (new3_one _ _ _) ?_ ?_ ?_ ?_)
                · unfold maxLen; omega
                · omega
                · simp; omega
                · intro v' w1 hown' hgrow _
                  obtain ⟨R1, R2, R3⟩ := app_rel hbel hsz HO.out hown' hgrow
                  have R4 := R3 _ _ hlit1
                  have R5 := R3 _ _ hlit2
                  clear hown' hgrow R3 HO hlit1 hlit2 hbel hcy
                  go_wp2
                  go_roundw
                  case rel => first | exact ⟨j + 1, by omega, by go_num, by rw [Hrt.out, if_neg (by intro h; exact HB.out h.1), ← List.append_assoc, ← HP3.out]; exact R1, R4, R5, R2⟩ | ((repeat apply Exists.intro); exact ⟨⟨j + 1, by omega, by go_num, by rw [Hrt.out, if_neg (by intro h; exact HB.out h.1), ← List.append_assoc, ← HP3.out]; exact R1, R4, R5, R2⟩, rfl⟩)
                  case measure => simp [intOf]; omega
            · have hj3 : j = 2 := by omega
              subst hj3
              have hye2 : ev y = ye := hye
              have hyo2 : od y = yo := hyo
              have R1 : wr.ownsRow (w.heap.size + 3) 28 3 u9 (pre ++ part l x y ([xe, xo].take (k + 1))).length (cellsOf (pre ++ part l x y ([xe, xo].take (k + 1)))) := by
                rw [Hpt.out, ← List.append_assoc, ← HP2.out, hye2, hyo2]; exact hown
              clear hye2 hyo2 hown
              go_wp2
              go_roundw
              case rel => exact ⟨k + 1, by omega, by go_num, R1, hlit1, hbel⟩
              case measure => simp [intOf]; omega
        · have hk3 : k = 2 := by omega
          subst hk3
          have R1 : Hid (wr.ownsRow (w.heap.size + 3) 28 3 u9 (belowL L X Y (frac rx x0 x1) (frac ry y0 y1) (n + 1)).length (cellsOf (belowL L X Y (frac rx x0 x1) (frac ry y0 y1) (n + 1)))) := by
            show wr.ownsRow _ _ _ _ _ _
            have e1 : L + n + 1 = l := by have := HL.out; omega
            have e2 : n + 1 = s := by have := HS.out; omega
            simp only [belowL, blk]
            rw [e1, e2, ← Hx.out, ← Hy.out, ← HP.out, Hxe.out, Hxo.out]
            exact hown
          clear hown hlit hk2 hk hsz3 hpl hsub hs53
          have hL2 : L ≤ l := by have := HL.out; omega
          go_wp2
          go_roundw
          case rel => exact ⟨n + 1, by have := HL.out; go_num, .inr (by have := HL.out; omega), R1.out, hbel⟩
          case measure => simp [intOf]; omega
    · have e : (d.toNat - L) = n := by have := HL.out; omega
      have HE : Hid ((d.toNat - L) = n) := e
      clear e
      go_wp2
      go_ret
      refine ⟨u9, rfl, by rw [HE.out]; exact hown, ?_⟩
      exact (((((Below.refl _ _).alloc (Nat.le_refl _) _).alloc (by simp) _).alloc (by simp; omega) _).trans (hbel.mono (by omega)))

end Go.Proofs.Qxb6629292a
