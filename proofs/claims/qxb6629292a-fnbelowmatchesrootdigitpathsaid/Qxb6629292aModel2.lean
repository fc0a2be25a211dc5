/- The walk of zzModelBelow. -/
import Derived.Test.Qxb6629292aModel
import Derived.Test.Qxb6629292aBelow
namespace Go.Proofs.Qxb6629292a
open Go.RowKit
open Fl

/-- the path's column after n steps -/
def col (X : Int) (f : Option Nat) (L n : Nat) : Int := wrap64 (X * ((2 ^ n : Nat) : Int) + ((rcv f (L + n) % 2 ^ n : Nat) : Int))

theorem col_zero {X : Int} (h : In64 X) (f : Option Nat) (L : Nat) : col X f L 0 = X := by
  unfold col
  rw [Nat.pow_zero, Nat.mod_one]
  have : X * ((1 : Nat) : Int) + ((0 : Nat) : Int) = X := by omega
  rw [this]
  exact wrap_of h

theorem col_xat (X : Int) (f : Option Nat) (L n : Nat) (h : L + n ≤ 53) : xat X f (L + n) n = col X f L n := xat_eq X f (L + n) n h (by omega)

theorem step_wrap (c : Int) (b : Nat) (Z : Int) (hc : c = wrap64 Z) : wrap64 (wrap64 (c * 2) + (b : Int)) = wrap64 (Z * 2 + (b : Int)) := by
  subst hc
  unfold wrap64
  omega

theorem col_step (X : Int) (f : Option Nat) (L n : Nat) : wrap64 (wrap64 (col X f L n * 2) + (dgt f (L + n + 1) : Int)) = col X f L (n + 1) := by
  rw [step_wrap (col X f L n) (dgt f (L + n + 1)) _ rfl]
  unfold col dgt
  have hh := rcv_half f (L + n)
  have e : L + (n + 1) = L + n + 1 := by omega
  rw [e]
  generalize rcv f (L + n + 1) = r at *
  rw [← hh]
  have hm : r % 2 ^ (n + 1) = 2 * (r / 2 % 2 ^ n) + r % 2 := by
    rw [Nat.pow_succ, Nat.mul_comm, Nat.mod_mul]
    omega
  rw [hm, Nat.pow_succ]
  generalize r / 2 % 2 ^ n = z
  generalize 2 ^ n = p
  have e1 : ((p * 2 : Nat) : Int) = (p : Int) * 2 := by omega
  rw [e1, ← Int.mul_assoc]
  generalize X * (p : Int) = u
  congr 1
  omega

theorem even_wrap (c : Int) : wrap64 (c * 2) % 2 = 0 ∧ -9223372036854775808 ≤ wrap64 (c * 2) ∧ wrap64 (c * 2) ≤ 9223372036854775806 := by
  unfold wrap64
  omega

theorem child_facts (c : Int) (b : Nat) (hb : b = 0 ∨ b = 1) : wrap64 (wrap64 (c * 2) + (b : Int)) = wrap64 (c * 2) + (b : Int) ∧ ev (wrap64 (wrap64 (c * 2) + (b : Int))) = wrap64 (c * 2) ∧ od (wrap64 (wrap64 (c * 2) + (b : Int))) = wrap64 (c * 2) + 1 ∧ In64 (wrap64 (wrap64 (c * 2) + (b : Int))) := by
  obtain ⟨h1, h2, h3⟩ := even_wrap c
  generalize wrap64 (c * 2) = B at *
  have hin : In64 (B + (b : Int)) := by unfold In64; omega
  have e : wrap64 (B + (b : Int)) = B + (b : Int) := wrap_of hin
  rw [e]
  refine ⟨rfl, ?_, ?_, hin⟩
  · rw [ev_eq hin]; omega
  · rw [od_eq hin]; omega

set_option maxRecDepth 100000 in
set_option maxHeartbeats 1000000 in
theorem model_any (L : Nat) (X Y : Int) (gx gy nx ny : Nat) (d : Int) (fx fy : Option Nat) (w : World) (hL : L ≤ 65536) (hd : d ≤ 53) (hX : In64 X) (hY : In64 Y) (hnx : d < nx) (hny : d < ny) (_hnx2 : nx ≤ 54) (hny2 : ny ≤ 54) (hgx : gx < w.heap.size) (hgy : gy < w.heap.size)
    (hcx : ∀ k : Nat, (k : Int) ≤ d → w.cell? ⟨gx, k, none⟩ = some (.int .i64 (dgt fx k))) (hcy : ∀ k : Nat, (k : Int) ≤ d → w.cell? ⟨gy, k, none⟩ = some (.int .i64 (dgt fy k))) :
    Calls Try.prog 6 #[.int .i64 L, .int .i64 X, .int .i64 Y, .slice (some ⟨gx, 0, none⟩) nx nx, .slice (some ⟨gy, 0, none⟩) ny ny, .int .i64 d] w fun e w' =>
      ∃ v, e = .returned v ∧ w'.ownsRow w.heap.size 28 3 v (belowL L X Y fx fy (d.toNat - L)).length (cellsOf (belowL L X Y fx fy (d.toNat - L))) ∧ Below w.heap.size w w' := by
  obtain ⟨i0, hi, hz0, hz1, hz2⟩ := info_parts info28
  have HCX : Hid (∀ k : Nat, (k : Int) ≤ d → w.cell? ⟨gx, k, none⟩ = some (.int .i64 (dgt fx k))) := hcx
  have HCY : Hid (∀ k : Nat, (k : Int) ≤ d → w.cell? ⟨gy, k, none⟩ = some (.int .i64 (dgt fy k))) := hcy
  clear hcx hcy
  go_enter Try.func6, Try.ntmps6
  go_wp2
  go_loopw [13, 14, 15, 16] (fun v sx sy l wr => ∃ n : Nat, l = .int .i64 ((L + 1 + n : Nat) : Int) ∧ (n = 0 ∨ ((L + n : Nat) : Int) ≤ d) ∧ sx = .int .i64 (col X fx L n) ∧ sy = .int .i64 (col Y fy L n) ∧ wr.ownsRow w.heap.size 28 3 v (belowL L X Y fx fy n).length (cellsOf (belowL L X Y fx fy n)) ∧ Below w.heap.size w wr) (fun _ _ _ l _ => (d + 1 - intOf l).toNat)
  case atStart => exact ⟨0, by go_num, .inl rfl, by rw [col_zero hX], by rw [col_zero hY], World.ownsRow_nil _ _ _ _, Below.refl _ _⟩
  case round =>
    obtain ⟨n, rfl, hn, rfl, rfl, hown, hbel⟩ := hrel
    obtain ⟨l, HL⟩ : ∃ l : Nat, Hid (l = L + 1 + n) := ⟨_, rfl⟩
    rw [← HL.out]
    have hwz : w.heap.size ≤ wr.heap.size := hbel.size
    by_cases hlt : (l : Int) ≤ d
    · have hls : l ≤ 53 := by omega
      have hl0 : 1 ≤ l := by have := HL.out; omega
      have hlx : (l : Int) < (nx : Int) := by omega
      have hly : (l : Int) < (ny : Int) := by omega
      obtain ⟨cx, hcx⟩ : ∃ c, c = col X fx L n := ⟨_, rfl⟩
      obtain ⟨cy, hcy⟩ : ∃ c, c = col Y fy L n := ⟨_, rfl⟩
      rw [← hcx, ← hcy]
      obtain ⟨dx, hdx⟩ : ∃ dx, dx = dgt fx l := ⟨_, rfl⟩
      obtain ⟨dy, hdy⟩ : ∃ dy, dy = dgt fy l := ⟨_, rfl⟩
      have hdx2 : dx = 0 ∨ dx = 1 := by rw [hdx]; exact dgt_lt fx l
      have hdy2 : dy = 0 ∨ dy = 1 := by rw [hdy]; exact dgt_lt fy l
      obtain ⟨x1, x2, x3, x4⟩ := child_facts cx dx hdx2
      obtain ⟨y1, y2, y3, y4⟩ := child_facts cy dy hdy2
      have sx := col_step X fx L n
      have sy := col_step Y fy L n
      have ell : L + n + 1 = l := by have := HL.out; omega
      rw [ell, ← hcx, ← hdx] at sx
      rw [ell, ← hcy, ← hdy] at sy
      have ax := col_xat X fx L (n + 1) (by omega)
      have ay := col_xat Y fy L (n + 1) (by omega)
      have HCl : Hid (w.cell? ⟨gx, l, none⟩ = some (.int .i64 dx) ∧ w.cell? ⟨gy, l, none⟩ = some (.int .i64 dy)) := ⟨by rw [hdx]; exact HCX.out l hlt, by rw [hdy]; exact HCY.out l hlt⟩
      obtain ⟨B, hB⟩ : ∃ B, wrap64 (cx * 2) = B := ⟨_, rfl⟩
      obtain ⟨C, hC⟩ : ∃ B, wrap64 (cy * 2) = B := ⟨_, rfl⟩
      rw [hB] at x1 x2 x3 x4 sx
      rw [hC] at y1 y2 y3 y4 sy
      obtain ⟨x, hx⟩ : ∃ x, wrap64 (B + (dx : Int)) = x := ⟨_, rfl⟩
      obtain ⟨y, hy⟩ : ∃ y, wrap64 (C + (dy : Int)) = y := ⟨_, rfl⟩
      rw [hx] at x1 x2 x3 x4 sx
      rw [hy] at y1 y2 y3 y4 sy
      have HX : Hid (x = B + (dx : Int) ∧ ev x = B ∧ od x = B + 1 ∧ x = col X fx L (n + 1) ∧ x = xat X fx l (n + 1)) := ⟨x1, x2, x3, sx, by rw [sx, ← ax]; congr 1⟩
      have HY : Hid (y = C + (dy : Int) ∧ ev y = C ∧ od y = C + 1 ∧ y = col Y fy L (n + 1) ∧ y = xat Y fy l (n + 1)) := ⟨y1, y2, y3, sy, by rw [sy, ← ay]; congr 1⟩
      have HBr : Hid (-9223372036854775808 ≤ B ∧ B ≤ 9223372036854775806 ∧ -9223372036854775808 ≤ C ∧ C ≤ 9223372036854775806) := by
        have h1 := even_wrap cx; have h2 := even_wrap cy; rw [hB] at h1; rw [hC] at h2; exact ⟨h1.2.1, h1.2.2, h2.2.1, h2.2.2⟩
      have hB' : IntKind.i64.wrap (cx * 2) = B := by rw [wrap_i64]; exact hB
      have hC' : IntKind.i64.wrap (cy * 2) = C := by rw [wrap_i64]; exact hC
      have hx' : IntKind.i64.wrap (B + (dx : Int)) = x := by rw [wrap_i64]; exact hx
      have hy' : IntKind.i64.wrap (C + (dy : Int)) = y := by rw [wrap_i64]; exact hy
      clear x1 x2 x3 x4 y1 y2 y3 y4 sx sy ax ay hcx hcy ell hdx hdy hB hC hx hy
      have Hdx2 : Hid (dx = 0 ∨ dx = 1) := hdx2
      have Hdy2 : Hid (dy = 0 ∨ dy = 1) := hdy2
      clear hdx2 hdy2
      obtain ⟨pre, HP⟩ : ∃ pre, Hid (pre = belowL L X Y fx fy n) := ⟨_, rfl⟩
      rw [← HP.out] at hown
      have hpl : pre.length ≤ 212 := by
        have h1 := belowL_le L X Y fx fy n
        have h2 := HP.out; have h3 := HL.out
        rw [← h2] at h1; omega
      have HO0 : Hid (wr.ownsRow w.heap.size 28 3 u13 pre.length (cellsOf pre)) := hown
      clear hown
      go_wp2
      clear hB' hC'
      go_loopw [13, 19] (fun v i wr => ∃ k : Nat, k ≤ 2 ∧ i = .int .i64 (k : Int) ∧ wr.ownsRow w.heap.size 28 3 v (pre ++ part l x y ([B, B + 1].take k)).length (cellsOf (pre ++ part l x y ([B, B + 1].take k))) ∧ Below w.heap.size w wr) (fun _ i _ => 2 - (intOf i).toNat)
      case atStart => exact ⟨0, by omega, rfl, by simpa [part] using HO0.out, hbel⟩
      case round =>
        clear HO0 hbel hwz
        obtain ⟨k, hk, rfl, hown, hbel⟩ := hrel
        by_cases hk2 : k < 2
        · have hkd : decide ((k : Int) < 2) = true := decide_eq_true (by omega)
          obtain ⟨bx, hbx⟩ : ∃ bx, bx = [B, B + 1][k] := ⟨_, rfl⟩
          have hbx2 : bx = B + (k : Int) := by
            rw [hbx]
            have : k = 0 ∨ k = 1 := by omega
            rcases this with rfl | rfl <;> simp
          have hbw : IntKind.i64.wrap (B + (k : Int)) = bx := by
            rw [wrap_i64, hbx2]; have := HBr.out; exact wrap_of ⟨by omega, by omega⟩
          have Hpt : Hid (part l x y ([B, B + 1].take (k + 1)) = part l x y ([B, B + 1].take k) ++ row l x y bx [ev y, od y]) := by
            show _ = _
            rw [take_snoc _ _ hk2, part_snoc, ← hbx]
          have Hbk : Hid (bx = x ↔ (k : Int) = (dx : Int)) := by
            have := HX.out.1
            show _ ↔ _
            rw [hbx2, this]; omega
          clear hbx hbx2
          have hpt := part_le l x y ([B, B + 1].take k)
          have hptl : ([B, B + 1].take k).length ≤ 2 := by simp; omega
          obtain ⟨pre2, HP2⟩ : ∃ pre2, Hid (pre2 = pre ++ part l x y ([B, B + 1].take k)) := ⟨_, rfl⟩
          rw [← HP2.out] at hown
          have hpl2 : pre2.length ≤ 216 := by
            have := HP2.out; rw [this, List.length_append]; omega
          clear hpt hptl
          have HO4 : Hid (wr.ownsRow w.heap.size 28 3 u13 pre2.length (cellsOf pre2)) := hown
          clear hown
          go_wp2
          go_loopw [13, 20] (fun v i wr => ∃ j : Nat, j ≤ 2 ∧ i = .int .i64 (j : Int) ∧ wr.ownsRow w.heap.size 28 3 v (pre2 ++ row l x y bx ([C, C + 1].take j)).length (cellsOf (pre2 ++ row l x y bx ([C, C + 1].take j))) ∧ Below w.heap.size w wr) (fun _ i _ => 2 - (intOf i).toNat)
          case atStart => exact ⟨0, by omega, rfl, by simpa [row] using HO4.out, hbel⟩
          case round =>
            clear HO4 hbel
            obtain ⟨j, hj, rfl, hown, hbel⟩ := hrel
            by_cases hj2 : j < 2
            · have hjd : decide ((j : Int) < 2) = true := decide_eq_true (by omega)
              obtain ⟨b, hb⟩ : ∃ bx, bx = [C, C + 1][j] := ⟨_, rfl⟩
              have hb2 : b = C + (j : Int) := by
                rw [hb]
                have : j = 0 ∨ j = 1 := by omega
                rcases this with rfl | rfl <;> simp
              have hbw2 : IntKind.i64.wrap (C + (j : Int)) = b := by
                rw [wrap_i64, hb2]; have := HBr.out; exact wrap_of ⟨by omega, by omega⟩
              have Hbj : Hid (b = y ↔ (j : Int) = (dy : Int)) := by
                have := HY.out.1
                show _ ↔ _
                rw [hb2, this]; omega
              have Hrt : Hid (row l x y bx ([C, C + 1].take (j + 1)) = row l x y bx ([C, C + 1].take j) ++ (if bx = x ∧ b = y then [] else [((l : Int), bx, b)])) := by
                show _ = _
                rw [take_snoc _ _ hj2, row_snoc, ← hb]
              clear hb hb2
              have hrl := row_le l x y bx ([C, C + 1].take j)
              have hrl2 : ([C, C + 1].take j).length ≤ 2 := by simp; omega
              obtain ⟨pre3, HP3⟩ : ∃ pre3, Hid (pre3 = pre2 ++ row l x y bx ([C, C + 1].take j)) := ⟨_, rfl⟩
              rw [← HP3.out] at hown
              have hpl3 : pre3.length ≤ 218 := by
                have := HP3.out; rw [this, List.length_append]; omega
              clear hrl hrl2
              have hwz : w.heap.size ≤ wr.heap.size := hbel.size
              have HO : Hid (wr.ownsRow w.heap.size 28 3 u13 pre3.length (cellsOf pre3)) := hown
              clear hown
              have hcx1 : wr.cell? ⟨gx, l, none⟩ = some (.int .i64 dx) := (hbel.cell (p := ⟨gx, l, none⟩) hgx).trans HCl.out.1
              have hcy1 : wr.cell? ⟨gy, l, none⟩ = some (.int .i64 dy) := (hbel.cell (p := ⟨gy, l, none⟩) hgy).trans HCl.out.2
              by_cases hkx : (k : Int) = (dx : Int)
              · have hkx' : ((k : Int) != (dx : Int)) = false := by simpa using hkx
                by_cases hjy : (j : Int) = (dy : Int)
                · have hjy' : ((j : Int) != (dy : Int)) = false := by simpa using hjy
                  have HB : Hid (bx = x ∧ b = y) := ⟨Hbk.out.2 hkx, Hbj.out.2 hjy⟩
                  clear hkx hjy
                  go_wp2
                  go_roundw
                  case rel => exact ⟨j + 1, by omega, by go_num, by rw [Hrt.out, if_pos HB.out, List.append_nil, ← HP3.out]; exact HO.out, hbel⟩
                  case measure => simp [intOf]; omega
                · have hjy' : ((j : Int) != (dy : Int)) = true := by simpa using hjy
                  have HB : Hid (¬ (bx = x ∧ b = y)) := fun h => hjy (Hbj.out.1 h.2)
                  clear hkx hjy
                  go_wp2_with (at_builtin; refine wpList_append_own _ rfl _ _ 25 rfl w.heap.size 28 i0 _ 3 24 Try.underlying25 hi hz0 hz1 hz2 rfl (by decide) _ _ _ rfl (HO.out.alloc _) ⟨wr.heap.size, 0, none⟩ 1 1 [.int .i64 l, .int .i64 bx, .int .i64 b] rfl rfl (new3_cells _ _ _ _) (new3_one _ _ _) ?_ ?_ ?_ ?_)
                  · unfold maxLen; omega
                  · omega
                  · simp; omega
                  · intro v' w1 hown' hgrow _
                    obtain ⟨R1, R2, _⟩ := app_rel hbel hwz HO.out hown' hgrow
                    clear hown' hgrow HO hbel hcy1
                    go_wp2
                    go_roundw
                    case rel => first | exact ⟨j + 1, by omega, by go_num, by rw [Hrt.out, if_neg HB.out, ← List.append_assoc, ← HP3.out]; exact R1, R2⟩ | ((repeat apply Exists.intro); exact ⟨⟨j + 1, by omega, by go_num, by rw [Hrt.out, if_neg HB.out, ← List.append_assoc, ← HP3.out]; exact R1, R2⟩, rfl⟩)
                    case measure => simp [intOf]; omega
              · have hkx' : ((k : Int) != (dx : Int)) = true := by simpa using hkx
                have HB : Hid (¬ (bx = x ∧ b = y)) := fun h => hkx (Hbk.out.1 h.1)
                clear hkx
                go_wp2_with (at_builtin; refine wpList_append_own _ rfl _ _ 25 rfl w.heap.size 28 i0 _ 3 24 Try.underlying25 hi hz0 hz1 hz2 rfl (by decide) _ _ _ rfl (HO.out.alloc _) ⟨wr.heap.size, 0, none⟩ 1 1 [.int .i64 l, .int .i64 bx, .int .i64 b] rfl rfl (new3_cells _ _ _ _) (new3_one _ _ _) ?_ ?_ ?_ ?_)
                · unfold maxLen; omega
                · omega
                · simp; omega
                · intro v' w1 hown' hgrow _
                  obtain ⟨R1, R2, _⟩ := app_rel hbel hwz HO.out hown' hgrow
                  clear hown' hgrow HO hbel hcy1
                  go_wp2
                  go_roundw
                  case rel => first | exact ⟨j + 1, by omega, by go_num, by rw [Hrt.out, if_neg HB.out, ← List.append_assoc, ← HP3.out]; exact R1, R2⟩ | ((repeat apply Exists.intro); exact ⟨⟨j + 1, by omega, by go_num, by rw [Hrt.out, if_neg HB.out, ← List.append_assoc, ← HP3.out]; exact R1, R2⟩, rfl⟩)
                  case measure => simp [intOf]; omega
            · have hj3 : j = 2 := by omega
              subst hj3
              have R1 : Hid (wr.ownsRow w.heap.size 28 3 u13 (pre ++ part l x y ([B, B + 1].take (k + 1))).length (cellsOf (pre ++ part l x y ([B, B + 1].take (k + 1))))) := by
                show wr.ownsRow _ _ _ _ _ _
                rw [Hpt.out, ← List.append_assoc, ← HP2.out, HY.out.2.1, HY.out.2.2.1]; exact hown
              clear hown
              go_wp2
              go_roundw
              case rel => exact ⟨k + 1, by omega, by go_num, R1.out, hbel⟩
              case measure => simp [intOf]; omega
        · have hk3 : k = 2 := by omega
          subst hk3
          have R1 : Hid (wr.ownsRow w.heap.size 28 3 u13 (belowL L X Y fx fy (n + 1)).length (cellsOf (belowL L X Y fx fy (n + 1)))) := by
            show wr.ownsRow _ _ _ _ _ _
            have e1 : L + n + 1 = l := by have := HL.out; omega
            simp only [belowL, blk]
            rw [e1, ← HX.out.2.2.2.2, ← HY.out.2.2.2.2, ← HP.out, HX.out.2.1, HX.out.2.2.1]
            exact hown
          have hcx1 : wr.cell? ⟨gx, l, none⟩ = some (.int .i64 dx) := (hbel.cell (p := ⟨gx, l, none⟩) hgx).trans HCl.out.1
          have hcy1 : wr.cell? ⟨gy, l, none⟩ = some (.int .i64 dy) := (hbel.cell (p := ⟨gy, l, none⟩) hgy).trans HCl.out.2
          clear hown
          go_wp2
          go_roundw
          case rel => exact ⟨n + 1, by have := HL.out; go_num, .inr (by have := HL.out; omega), by rw [← HX.out.2.2.2.1], by rw [← HY.out.2.2.2.1], R1.out, hbel⟩
          case measure => simp [intOf]; omega
    · have e : (d.toNat - L) = n := by have := HL.out; omega
      have HE : Hid ((d.toNat - L) = n) := e
      clear e
      go_wp2
      go_ret
      exact ⟨u13, rfl, by rw [HE.out]; exact hown, hbel⟩

end Go.Proofs.Qxb6629292a
