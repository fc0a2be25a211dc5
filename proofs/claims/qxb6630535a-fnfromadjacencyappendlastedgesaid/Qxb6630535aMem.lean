/- Slices that can be read, rows that are being filled; the small walks. -/
import Derived.Test.Qxb6630535aSum
import Derived.Laws.CopyOwn
import Derived.Deep.QuietTactic
import Derived.BigQuiet
import Derived.Deep.Cut
namespace Go.Proofs.Qxb6630535a
open Go.RowKit

theorem info3 : (Try.prog.info? 3).map (fun i => (i.zero, i.size, i.bytes)) = some (some (.int .i64 0), 1, 8) := by kernel_rfl
theorem info21 : (Try.prog.info? 21).map (fun i => (i.zero, i.size, i.bytes)) = some (some (.int .i32 0), 1, 4) := by kernel_rfl
theorem info25 : (Try.prog.info? 25).map (fun i => (i.zero, i.size, i.bytes)) = some (some (.float .f64 0), 1, 8) := by kernel_rfl

theorem run_store_float (P : Program) (w : World) (a : Addr) (m : Mode) (k : FloatKind) (n : Nat) : (store a (.float k n) m).run P w = stored P w a (.float k n) m := run_store P w a _ m rfl
attribute [local go_sem] run_store_float

/-- a slice of n cells that read as f says -/
def RD (w : World) (v : Value) (n : Nat) (f : Nat → Value) : Prop :=
  ∃ ao c, v = .slice ao n c ∧ n ≤ c ∧ (ao = none → n = 0 ∧ c = 0) ∧ (0 < n → ∃ b o, ao = some ⟨b, o, none⟩ ∧ b < w.heap.size ∧ ∀ j, j < n → w.cell? ⟨b, o + j, none⟩ = some (f j))

theorem RD.below {w w' : World} {v : Value} {n : Nat} {f : Nat → Value} (h : RD w v n f) (hb : Below w.heap.size w w') : RD w' v n f := by
  obtain ⟨ao, c, rfl, h1, h2, h3⟩ := h
  refine ⟨ao, c, rfl, h1, h2, fun hn => ?_⟩
  obtain ⟨b, o, rfl, hb', hc⟩ := h3 hn
  exact ⟨b, o, rfl, Nat.lt_of_lt_of_le hb' hb.size, fun j hj => by rw [hb.cell (p := ⟨b, o + j, none⟩) hb']; exact hc j hj⟩

theorem RD.congr {w : World} {v : Value} {n : Nat} {f f' : Nat → Value} (h : RD w v n f) (he : ∀ j, j < n → f j = f' j) : RD w v n f' := by
  obtain ⟨ao, c, rfl, h1, h2, h3⟩ := h
  refine ⟨ao, c, rfl, h1, h2, fun hn => ?_⟩
  obtain ⟨b, o, rfl, hb', hc⟩ := h3 hn
  exact ⟨b, o, rfl, hb', fun j hj => by rw [← he j hj]; exact hc j hj⟩

/-- a row of n cells whose first k read as f says -/
def Part (w : World) (g : Nat) (t : TypeId) (n k : Nat) (f : Nat → Value) : Prop :=
  ∃ cur : Array Value, w.heap[g]? = some (.cells cur t (0, 0)) ∧ cur.size = n ∧ ∀ j, j < k → cur[j]? = some (f j)

theorem Part.cell {w : World} {g : Nat} {t : TypeId} {n k : Nat} {f : Nat → Value} (h : Part w g t n k f) {j : Nat} (hj : j < k) : w.cell? ⟨g, j, none⟩ = some (f j) := by
  obtain ⟨cur, hg, _, hc⟩ := h
  rw [cell_of_row w g j cur t (0, 0) hg]; exact hc j hj
theorem Part.there {w : World} {g : Nat} {t : TypeId} {n k : Nat} {f : Nat → Value} (h : Part w g t n k f) {j : Nat} (hj : j < n) : ∃ u, w.cell? ⟨g, j, none⟩ = some u := by
  obtain ⟨cur, hg, hs, _⟩ := h
  rw [cell_of_row w g j cur t (0, 0) hg]
  exact ⟨cur[j]'(by omega), by simp⟩
theorem Part.frozen {w : World} {g : Nat} {t : TypeId} {n k : Nat} {f : Nat → Value} (h : Part w g t n k f) (j : Nat) : w.frozen? ⟨g, j, none⟩ = false := by
  obtain ⟨cur, hg, _, _⟩ := h
  exact frozen_of_row w g j cur t hg
theorem Part.set {w : World} {g : Nat} {t : TypeId} {n k : Nat} {f : Nat → Value} (h : Part w g t n k f) (hk : k < n) (u : Value) (hu : u = f k) : Part (w.setCell ⟨g, k, none⟩ u) g t n (k + 1) f := by
  obtain ⟨cur, hg, hs, hc⟩ := h
  refine ⟨_, heap_setCell_same w g k cur t u hg, by simpa using hs, fun j hj => ?_⟩
  by_cases e : j = k
  · subst e
    rw [Array.getElem?_setIfInBounds_self_of_lt (by omega), hu]
  · rw [Array.getElem?_setIfInBounds_ne (Ne.symm e)]
    exact hc j (by omega)
theorem Part.other {w : World} {g g' i : Nat} {t : TypeId} {n k : Nat} {f : Nat → Value} (h : Part w g t n k f) (hne : g ≠ g') (u : Value) : Part (w.setCell ⟨g', i, none⟩ u) g t n k f := by
  obtain ⟨cur, hg, hs, hc⟩ := h
  exact ⟨cur, by rw [heap_setCell_other w ⟨g', i, none⟩ g u hne]; exact hg, hs, hc⟩
theorem Part.block {w w' : World} {g : Nat} {t : TypeId} {n k : Nat} {f : Nat → Value} (h : Part w g t n k f) (he : w'.heap[g]? = w.heap[g]?) : Part w' g t n k f := by
  obtain ⟨cur, hg, hs, hc⟩ := h
  exact ⟨cur, by rw [he]; exact hg, hs, hc⟩
theorem Part.lt {w : World} {g : Nat} {t : TypeId} {n k : Nat} {f : Nat → Value} (h : Part w g t n k f) : g < w.heap.size := by
  obtain ⟨cur, hg, _, _⟩ := h
  exact (Array.getElem?_eq_some_iff.1 hg).1
theorem Part.below {w w' : World} {g : Nat} {t : TypeId} {n k : Nat} {f : Nat → Value} (h : Part w g t n k f) (hb : Below w.heap.size w w') : Part w' g t n k f := h.block (hb.block g h.lt)
theorem Part.congr {w : World} {g : Nat} {t : TypeId} {n k : Nat} {f f' : Nat → Value} (h : Part w g t n k f) (he : ∀ j, j < k → f j = f' j) : Part w g t n k f' := by
  obtain ⟨cur, hg, hs, hc⟩ := h
  exact ⟨cur, hg, hs, fun j hj => by rw [← he j hj]; exact hc j hj⟩
theorem Part.rd {w : World} {g : Nat} {t : TypeId} {n : Nat} {f : Nat → Value} (h : Part w g t n n f) : RD w (.slice (some ⟨g, 0, none⟩) n n) n f :=
  ⟨some ⟨g, 0, none⟩, n, rfl, Nat.le_refl _, (by intro h; cases h), fun _ => ⟨g, 0, rfl, h.lt, fun j hj => by rw [Nat.zero_add]; exact h.cell hj⟩⟩
theorem Part.made {w : World} {base g : Nat} {t : TypeId} {n : Nat} {xs : List Value} (h : w.ownsRow base t 1 (.slice (some ⟨g, 0, none⟩) n n) n xs) (f : Nat → Value) : Part w g t n 0 f := by
  rcases h.2 with ⟨h', _⟩ | ⟨g', cap', cur, h', _, hg, _, _, hs, _⟩
  · simp at h'
  · simp only [Value.slice.injEq, Option.some.injEq, Addr.mk.injEq, and_true, true_and] at h'
    obtain ⟨rfl, rfl⟩ := h'
    exact ⟨cur, hg, by omega, fun j hj => by omega⟩

theorem RD.nil_of {w : World} {n : Nat} {ao : Option Addr} {c : Nat} {f : Nat → Value} (h : RD w (.slice ao n c) n f) : ao = none ∨ ∃ x, ao = some x := by cases ao <;> simp

theorem grown_below {w w1 : World} (h : w.grownBy w1 none) : Below w.heap.size w w1 := (Below.refl w.heap.size w).grown h (Nat.le_refl _) (by intro k hk; cases hk)

/-! ### cloneIntsB1 -/
set_option maxHeartbeats 400000 in
theorem clone5 (v : Value) (n : Nat) (F : Nat → Int) (w : World) (h : RD w v n (fun j => .int .i64 (F j))) (hn : n ≤ 1000000) :
    Calls Try.prog 5 #[v] w fun e w' => ∃ v', e = .returned v' ∧ RD w' v' n (fun j => .int .i64 (F j)) ∧ Below w.heap.size w w' := by
  obtain ⟨ao, c, rfl, hc, hnil, hcell⟩ := h
  have hnl := @Lib.run_eql_slice_nil Try.prog
  cases ao with
  | none =>
    obtain ⟨rfl, rfl⟩ := hnil rfl
    clear hnil hcell
    go_enter Try.func5, Try.ntmps5
    go_wp2
    go_ret
    exact ⟨_, rfl, ⟨none, 0, rfl, Nat.le_refl _, fun _ => ⟨rfl, rfl⟩, fun h => by omega⟩, Below.refl _ _⟩
  | some x =>
    clear hnil hc
    have HC : Hid (0 < n → ∃ b o, some x = some ⟨b, o, none⟩ ∧ b < w.heap.size ∧ ∀ j, j < n → w.cell? ⟨b, o + j, none⟩ = some (.int .i64 (F j))) := hcell
    clear hcell
    obtain ⟨i0, hi, hz0, hz1, hz2⟩ := info_parts info3
    go_enter Try.func5, Try.ntmps5
    go_wp2_with (at_make; refine wpList_make_full _ rfl _ _ 22 rfl w.heap.size 3 i0 (.int .i64 0) 1 Try.underlying22 hi hz0 hz1 _ _ _ _ n rfl rfl rfl rfl (by rw [hz2]; omega) (by unfold maxLen; omega) (Nat.le_refl _) ?_; intro w1 hown hgrow)
    have HP : Hid (Part w1 w.heap.size 3 n 0 (fun j => .int .i64 (F j))) := Part.made hown _
    have HB : Hid (Below w.heap.size w w1) := grown_below hgrow
    clear hown hgrow hi hz0 hz1 hz2
    go_loopw [4] (fun i wr => ∃ k : Nat, k ≤ n ∧ i = .int .i64 (k : Int) ∧ Part wr w.heap.size 3 n k (fun j => .int .i64 (F j)) ∧ Below w.heap.size w wr) (fun i _ => n - (intOf i).toNat)
    case atStart => exact ⟨0, by omega, rfl, HP.out, HB.out⟩
    case round =>
      obtain ⟨k, hk, rfl, hP, hB⟩ := hrel
      by_cases hkn : k < n
      · obtain ⟨b, o, hx, hb, hcell⟩ := HC.out (by omega)
        injection hx with hx
        subst hx
        have hsrc : wr.cell? ⟨b, o + k, none⟩ = some (.int .i64 (F k)) := by rw [hB.cell (p := ⟨b, o + k, none⟩) hb]; exact hcell k hkn
        obtain ⟨u, hold⟩ := hP.there hkn
        have hfz := hP.frozen k
        have R : Hid (Part (wr.setCell ⟨w.heap.size, k, none⟩ (.int .i64 (F k))) w.heap.size 3 n (k + 1) (fun j => .int .i64 (F j))) := hP.set hkn _ rfl
        have R2 : Hid (Below w.heap.size w (wr.setCell ⟨w.heap.size, k, none⟩ (.int .i64 (F k)))) := hB.setCell (by exact Nat.le_refl _) _
        have hkd : decide ((k : Int) < (n : Int)) = true := decide_eq_true (by omega)
        clear hP hB hcell
        have hki : (k : Int) < (n : Int) := by omega
        go_wp2
        go_roundw
        case rel => exact ⟨k + 1, by omega, by go_num, R.out, R2.out⟩
        case measure => simp [intOf]; omega
      · have hkd : decide ((k : Int) < (n : Int)) = false := decide_eq_false (by omega)
        have e : k = n := by omega
        go_wp2
        go_ret
        subst e
        exact ⟨_, rfl, hP.rd, hB⟩

/-! ### cloneInt32sB1 -/
set_option maxHeartbeats 400000 in
theorem clone6 (v : Value) (n : Nat) (F : Nat → Int) (w : World) (h : RD w v n (fun j => .int .i32 (F j))) (hn : n ≤ 1000000) :
    Calls Try.prog 6 #[v] w fun e w' => ∃ v', e = .returned v' ∧ RD w' v' n (fun j => .int .i32 (F j)) ∧ Below w.heap.size w w' := by
  obtain ⟨ao, c, rfl, hc, hnil, hcell⟩ := h
  have hnl := @Lib.run_eql_slice_nil Try.prog
  cases ao with
  | none =>
    obtain ⟨rfl, rfl⟩ := hnil rfl
    clear hnil hcell
    go_enter Try.func6, Try.ntmps6
    go_wp2
    go_ret
    exact ⟨_, rfl, ⟨none, 0, rfl, Nat.le_refl _, fun _ => ⟨rfl, rfl⟩, fun h => by omega⟩, Below.refl _ _⟩
  | some x =>
    clear hnil hc
    have HC : Hid (0 < n → ∃ b o, some x = some ⟨b, o, none⟩ ∧ b < w.heap.size ∧ ∀ j, j < n → w.cell? ⟨b, o + j, none⟩ = some (.int .i32 (F j))) := hcell
    clear hcell
    obtain ⟨i0, hi, hz0, hz1, hz2⟩ := info_parts info21
    go_enter Try.func6, Try.ntmps6
    go_wp2_with (at_make; refine wpList_make_full _ rfl _ _ 23 rfl w.heap.size 21 i0 (.int .i32 0) 1 Try.underlying23 hi hz0 hz1 _ _ _ _ n rfl rfl rfl rfl (by rw [hz2]; omega) (by unfold maxLen; omega) (Nat.le_refl _) ?_; intro w1 hown hgrow)
    have HP : Hid (Part w1 w.heap.size 21 n 0 (fun j => .int .i32 (F j))) := Part.made hown _
    have HB : Hid (Below w.heap.size w w1) := grown_below hgrow
    clear hown hgrow hi hz0 hz1 hz2
    go_loopw [4] (fun i wr => ∃ k : Nat, k ≤ n ∧ i = .int .i64 (k : Int) ∧ Part wr w.heap.size 21 n k (fun j => .int .i32 (F j)) ∧ Below w.heap.size w wr) (fun i _ => n - (intOf i).toNat)
    case atStart => exact ⟨0, by omega, rfl, HP.out, HB.out⟩
    case round =>
      obtain ⟨k, hk, rfl, hP, hB⟩ := hrel
      by_cases hkn : k < n
      · obtain ⟨b, o, hx, hb, hcell⟩ := HC.out (by omega)
        injection hx with hx
        subst hx
        have hsrc : wr.cell? ⟨b, o + k, none⟩ = some (.int .i32 (F k)) := by rw [hB.cell (p := ⟨b, o + k, none⟩) hb]; exact hcell k hkn
        obtain ⟨u, hold⟩ := hP.there hkn
        have hfz := hP.frozen k
        have R : Hid (Part (wr.setCell ⟨w.heap.size, k, none⟩ (.int .i32 (F k))) w.heap.size 21 n (k + 1) (fun j => .int .i32 (F j))) := hP.set hkn _ rfl
        have R2 : Hid (Below w.heap.size w (wr.setCell ⟨w.heap.size, k, none⟩ (.int .i32 (F k)))) := hB.setCell (by exact Nat.le_refl _) _
        have hkd : decide ((k : Int) < (n : Int)) = true := decide_eq_true (by omega)
        clear hP hB hcell
        have hki : (k : Int) < (n : Int) := by omega
        go_wp2
        go_roundw
        case rel => exact ⟨k + 1, by omega, by go_num, R.out, R2.out⟩
        case measure => simp [intOf]; omega
      · have hkd : decide ((k : Int) < (n : Int)) = false := decide_eq_false (by omega)
        have e : k = n := by omega
        go_wp2
        go_ret
        subst e
        exact ⟨_, rfl, hP.rd, hB⟩

/-! ### cloneFloatsB1 -/
set_option maxHeartbeats 400000 in
theorem clone7 (v : Value) (n : Nat) (F : Nat → Nat) (w : World) (h : RD w v n (fun j => .float .f64 (F j))) (hn : n ≤ 1000000) :
    Calls Try.prog 7 #[v] w fun e w' => ∃ v', e = .returned v' ∧ RD w' v' n (fun j => .float .f64 (F j)) ∧ Below w.heap.size w w' := by
  obtain ⟨ao, c, rfl, hc, hnil, hcell⟩ := h
  have hnl := @Lib.run_eql_slice_nil Try.prog
  cases ao with
  | none =>
    obtain ⟨rfl, rfl⟩ := hnil rfl
    clear hnil hcell
    go_enter Try.func7, Try.ntmps7
    go_wp2
    go_ret
    exact ⟨_, rfl, ⟨none, 0, rfl, Nat.le_refl _, fun _ => ⟨rfl, rfl⟩, fun h => by omega⟩, Below.refl _ _⟩
  | some x =>
    clear hnil hc
    have HC : Hid (0 < n → ∃ b o, some x = some ⟨b, o, none⟩ ∧ b < w.heap.size ∧ ∀ j, j < n → w.cell? ⟨b, o + j, none⟩ = some (.float .f64 (F j))) := hcell
    clear hcell
    obtain ⟨i0, hi, hz0, hz1, hz2⟩ := info_parts info25
    go_enter Try.func7, Try.ntmps7
    go_wp2_with (at_make; refine wpList_make_full _ rfl _ _ 24 rfl w.heap.size 25 i0 (.float .f64 0) 1 Try.underlying24 hi hz0 hz1 _ _ _ _ n rfl rfl rfl rfl (by rw [hz2]; omega) (by unfold maxLen; omega) (Nat.le_refl _) ?_; intro w1 hown hgrow)
    have HP : Hid (Part w1 w.heap.size 25 n 0 (fun j => .float .f64 (F j))) := Part.made hown _
    have HB : Hid (Below w.heap.size w w1) := grown_below hgrow
    clear hown hgrow hi hz0 hz1 hz2
    go_loopw [4] (fun i wr => ∃ k : Nat, k ≤ n ∧ i = .int .i64 (k : Int) ∧ Part wr w.heap.size 25 n k (fun j => .float .f64 (F j)) ∧ Below w.heap.size w wr) (fun i _ => n - (intOf i).toNat)
    case atStart => exact ⟨0, by omega, rfl, HP.out, HB.out⟩
    case round =>
      obtain ⟨k, hk, rfl, hP, hB⟩ := hrel
      by_cases hkn : k < n
      · obtain ⟨b, o, hx, hb, hcell⟩ := HC.out (by omega)
        injection hx with hx
        subst hx
        have hsrc : wr.cell? ⟨b, o + k, none⟩ = some (.float .f64 (F k)) := by rw [hB.cell (p := ⟨b, o + k, none⟩) hb]; exact hcell k hkn
        obtain ⟨u, hold⟩ := hP.there hkn
        have hfz := hP.frozen k
        have R : Hid (Part (wr.setCell ⟨w.heap.size, k, none⟩ (.float .f64 (F k))) w.heap.size 25 n (k + 1) (fun j => .float .f64 (F j))) := hP.set hkn _ rfl
        have R2 : Hid (Below w.heap.size w (wr.setCell ⟨w.heap.size, k, none⟩ (.float .f64 (F k)))) := hB.setCell (by exact Nat.le_refl _) _
        have hkd : decide ((k : Int) < (n : Int)) = true := decide_eq_true (by omega)
        clear hP hB hcell
        have hki : (k : Int) < (n : Int) := by omega
        go_wp2
        go_roundw
        case rel => exact ⟨k + 1, by omega, by go_num, R.out, R2.out⟩
        case measure => simp [intOf]; omega
      · have hkd : decide ((k : Int) < (n : Int)) = false := decide_eq_false (by omega)
        have e : k = n := by omega
        go_wp2
        go_ret
        subst e
        exact ⟨_, rfl, hP.rd, hB⟩

end Go.Proofs.Qxb6630535a
