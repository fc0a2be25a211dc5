/- The walks of zzRootDigits and zzModelBelow. -/
import Derived.Test.Qxb6629292aDig
import Derived.Deep.Cut
namespace Go.Proofs.Qxb6629292a
open Go.RowKit
open Ieee (double Datum)
open Fl

theorem info3 : (Try.prog.info? 3).map (fun i => (i.zero, i.size, i.bytes)) = some (some (.int .i64 0), 1, 8) := by kernel_rfl

/-- the cells of the digits: those below l are written -/
def digs (D : Nat → Nat) (l n : Nat) : List Value := (List.range n).map fun k => Value.int .i64 (if k < l then (D k : Int) else 0)

theorem digs_length (D : Nat → Nat) (l n : Nat) : (digs D l n).length = n := by simp [digs]
theorem digs_get (D : Nat → Nat) (l n k : Nat) (h : k < n) : (digs D l n)[k]? = some (.int .i64 (if k < l then (D k : Int) else 0)) := by
  simp [digs, h]
theorem digs_ext {D D' : Nat → Nat} {l l' n : Nat} (h : ∀ k, k < n → (if k < l then (D k : Int) else 0) = (if k < l' then (D' k : Int) else 0)) : digs D l n = digs D' l' n := by
  apply List.ext_getElem?
  intro k
  by_cases hk : k < n
  · rw [digs_get _ _ _ _ hk, digs_get _ _ _ _ hk, h k hk]
  · rw [List.getElem?_eq_none (by rw [digs_length]; omega), List.getElem?_eq_none (by rw [digs_length]; omega)]
theorem digs_start (D : Nat → Nat) (h : D 0 = 0) (n : Nat) : digs D 1 n = List.replicate n (.int .i64 0) := by
  apply List.ext_getElem?
  intro k
  by_cases hk : k < n
  · rw [digs_get _ _ _ _ hk, List.getElem?_replicate, if_pos hk]
    by_cases h0 : k < 1
    · have : k = 0 := by omega
      subst this
      simp [h]
    · rw [if_neg h0]
  · rw [List.getElem?_eq_none (by rw [digs_length]; omega), List.getElem?_replicate, if_neg hk]
theorem digs_one (D : Nat → Nat) (l n : Nat) (h : D l = 1) (hl : l < n) : (digs D l n).set l (.int .i64 1) = digs D (l + 1) n := by
  apply List.ext_getElem?
  intro k
  rw [List.getElem?_set]
  by_cases hk : k < n
  · rw [digs_get _ _ _ _ hk, digs_get _ _ _ _ hk, digs_length]
    by_cases hkl : l = k
    · subst hkl
      simp [h, hl]
    · rw [if_neg hkl]
      by_cases h2 : k < l
      · rw [if_pos h2, if_pos (by omega)]
      · rw [if_neg h2, if_neg (by omega)]
  · rw [List.getElem?_eq_none (by rw [digs_length]; omega), List.getElem?_eq_none (by rw [digs_length]; omega)]
    by_cases hkl : l = k
    · omega
    · rw [if_neg hkl]
theorem digs_none (D : Nat → Nat) (l n : Nat) (h : D l = 0) : digs D l n = digs D (l + 1) n := by
  apply digs_ext
  intro k _
  by_cases h2 : k < l
  · rw [if_pos h2, if_pos (by omega)]
  · rw [if_neg h2]
    by_cases h3 : k < l + 1
    · have : k = l := by omega
      subst this
      rw [if_pos h3, h]; rfl
    · rw [if_neg h3]

/-- what zzRootDigits leaves -/
def Digits (w w' : World) (f : Option Nat) (d : Int) (e : Ending) : Prop :=
  ∃ g n : Nat, e = .returned (.slice (some ⟨g, 0, none⟩) n n) ∧ (d < n ∧ n ≤ 54) ∧ w.heap.size ≤ g ∧ g < w'.heap.size ∧
    (∀ k : Nat, (k : Int) ≤ d → w'.cell? ⟨g, k, none⟩ = some (.int .i64 (dgt f k))) ∧ Below w.heap.size w w'

theorem digits_of {w w' : World} {f : Option Nat} {d : Int} {g n l : Nat} (hn : d < n) (hn2 : n ≤ 54) (h : w'.ownsRow w.heap.size 3 1 (.slice (some ⟨g, 0, none⟩) n n) n (digs (dgt f) l n)) (hl : d < l) (hb : Below w.heap.size w w') :
    Digits w w' f d (.returned (.slice (some ⟨g, 0, none⟩) n n)) := by
  have hlt := h.lt g rfl
  refine ⟨g, n, rfl, ⟨hn, hn2⟩, hlt.1, hlt.2, fun k hk => ?_, hb⟩
  rw [h.cellAt k (by omega), digs_get _ _ _ _ (by omega), if_pos (by omega)]

theorem frac_all {v lo hi a b f : Nat} (h1 : FRes .sub v lo a) (h2 : FRes .sub hi lo b) (h3 : FRes .quo a b f) :
    ((double.order f 0 = none ∨ double.order f 0 = some .lt) ∧ ∀ l, dgt (frac v lo hi) l = 0) ∨
    ((double.order f 0 = some .gt ∨ double.order f 0 = some .eq) ∧ (double.order f oneBits = some .gt ∨ double.order f oneBits = some .eq) ∧ ∀ l, 1 ≤ l → dgt (frac v lo hi) l = 1) ∨
    ((double.order f 0 = some .gt ∨ double.order f 0 = some .eq) ∧ double.order f oneBits = some .lt ∧ frac v lo hi = some f ∧ ∃ V, Nn f V ∧ V < 2 ^ KK) := by
  rcases frac_res h1 h2 h3 with ⟨e, hn⟩ | ⟨e, hn⟩
  · rw [e]
    rcases frac_kinds f hn with ⟨a1, a2⟩ | ⟨a1, ⟨a2, a3⟩ | ⟨a2, a3⟩⟩
    · exact .inl ⟨.inr a1, a2⟩
    · exact .inr (.inl ⟨a1, a2, a3⟩)
    · exact .inr (.inr ⟨a1, a2, rfl, a3⟩)
  · left
    refine ⟨.inl (order_nan_left hn), fun l => ?_⟩
    rw [e]; rfl

/-- one round of the doubling -/
theorem double_round {x G : Nat} (h : Nn x G) (hG : G < 2 ^ KK) :
    ∃ g2, double.add x x = some g2 ∧
      ((2 ^ KK ≤ 2 * G ∧ (double.order g2 oneBits = some .gt ∨ double.order g2 oneBits = some .eq) ∧ ∃ g3, double.sub g2 oneBits = some g3 ∧ Nn g3 (2 * G - 2 ^ KK)) ∨
       (2 * G < 2 ^ KK ∧ double.order g2 oneBits = some .lt ∧ Nn g2 (2 * G))) := by
  obtain ⟨g2, h1, h2⟩ := nn_double h hG
  refine ⟨g2, h1, ?_⟩
  have ho := nn_order_one h2
  rw [Nat.compare_eq_ite_lt] at ho
  by_cases hc : 2 * G < 2 ^ KK
  · rw [if_pos hc] at ho
    exact .inr ⟨hc, ho, h2⟩
  · rw [if_neg hc] at ho
    left
    refine ⟨by omega, ?_, ?_⟩
    · by_cases hgt : 2 ^ KK < 2 * G
      · rw [if_pos hgt] at ho; exact .inl ho
      · rw [if_neg hgt] at ho; exact .inr ho
    · exact nn_minus_one h2 (by omega) (by rw [Nat.pow_succ]; omega)

theorem run_add_float {x g2 : Nat} (h : double.add x x = some g2) (w : World) : (binOp .add 22 (.float .f64 x) (.float .f64 x)).run Try.prog w = .ok (.float .f64 g2) w :=
  run_float_arith w .add 22 .f64 x x g2 h
theorem run_sub_one {x g3 : Nat} (h : double.sub x oneBits = some g3) (w : World) : (binOp .sub 22 (.float .f64 x) (.float .f64 4607182418800017408)).run Try.prog w = .ok (.float .f64 g3) w :=
  run_float_arith w .sub 22 .f64 x 4607182418800017408 g3 h

/-- a digit written -/
theorem dig_store {w wr : World} {f : Option Nat} {g n l : Nat} (h : wr.ownsRow w.heap.size 3 1 (.slice (some ⟨g, 0, none⟩) n n) n (digs (dgt f) l n)) (hb : Below w.heap.size w wr) (hl : l < n) (h1 : dgt f l = 1) :
    (wr.setCell ⟨g, l, none⟩ (.int .i64 1)).ownsRow w.heap.size 3 1 (.slice (some ⟨g, 0, none⟩) n n) n (digs (dgt f) (l + 1) n) ∧ Below w.heap.size w (wr.setCell ⟨g, l, none⟩ (.int .i64 1)) := by
  have hs := (h.stored l (.int .i64 1)).1
  rw [digs_one _ _ _ h1 hl] at hs
  exact ⟨hs, hb.setCell (by exact (h.lt g rfl).1) _⟩

set_option maxRecDepth 100000 in
set_option maxHeartbeats 2000000 in
theorem digits_any (v lo hi : Nat) (d : Int) (w : World) (hd : d ≤ 53) (hd0 : -9223372036854775808 ≤ d) :
    Calls Try.prog 5 #[.float .f64 v, .float .f64 lo, .float .f64 hi, .int .i64 d] w fun e w' => Digits w w' (frac v lo hi) d e := by
  obtain ⟨i0, hi0, hz0, hz1, hz2⟩ := info_parts info3
  obtain ⟨n, hn⟩ : ∃ n : Nat, n = (if d + 1 < 1 then 1 else d.toNat + 1) := ⟨_, rfl⟩
  have hn1 : d < n := by rw [hn]; split <;> omega
  have hn2 : n ≤ 54 := by rw [hn]; split <;> omega
  have hn3 : 1 ≤ n := by rw [hn]; split <;> omega
  have hcase : (d + 1 < 1 ∧ n = 1) ∨ (¬ d + 1 < 1 ∧ d + 1 = (n : Int)) := by
    by_cases h : d + 1 < 1
    · exact .inl ⟨h, by rw [hn, if_pos h]⟩
    · exact .inr ⟨h, by rw [hn, if_neg h]; omega⟩
  have HN1 : Hid (d < n) := hn1
  have HN2 : Hid (n ≤ 54) := hn2
  have Hout : Hid ((d + 1 < 1 ∧ n = 1) ∨ (¬ d + 1 < 1 ∧ d + 1 = (n : Int))) := hcase
  clear hn
  rcases hcase with ⟨hneg, hn'⟩ | ⟨hneg, hn'⟩
  · clear hn'
    go_enter Try.func5, Try.ntmps5
    go_upto_region 6 with (first | (at_make; refine wpList_make_full _ rfl _ _ 23 rfl w.heap.size 3 i0 (.int .i64 0) 1 Try.underlying23 hi0 hz0 hz1 _ _ _ _ n rfl rfl (by have := Hout.out; omega) (by have := Hout.out; omega) (by rw [hz2]; omega) (by unfold maxLen; omega) (Nat.le_refl _) ?_; intro w1 hown hgrow) | (refine wpList_float _ rfl _ _ _ _ _ rfl _ _ rfl rfl rfl ?_; intro r k hr))
    have hall := frac_all (v := v) (lo := lo) (hi := hi) (by assumption) (by assumption) hr
    have HO : Hid (∀ q, (w1.drewN q).ownsRow w.heap.size 3 1 (.slice (some ⟨w.heap.size, 0, none⟩) n n) n (digs (dgt (frac v lo hi)) 1 n)) := by
      intro q
      rw [digs_start _ (dgt_zero _), ← toList_madeCells_one]
      have h := hown
      rw [Nat.mul_one] at h
      exact h
    have HB : Hid (∀ q, Below w.heap.size w (w1.drewN q)) := fun q => below_drewN ((Below.refl w.heap.size w).grown hgrow (Nat.le_refl _) (by intro k hk; cases hk)) q
    clear hown hgrow hn1 hn2 hi0 hz0 hz1 hz2
    rcases hall with ⟨hs, hz⟩ | ⟨hs, hb, hz⟩ | ⟨hs, hb, hf, V, hV, hV2⟩
    · -- no digit is set
      have HZ : Hid (∀ l, dgt (frac v lo hi) l = 0) := hz
      clear hz
      rcases hs with hs | hs
      all_goals
        have hs' : FloatKind.f64.format.order r 0 = _ := hs
        clear hs
        go_wp2
        go_ret
        refine digits_of (l := n) HN1.out HN2.out ?_ HN1.out (HB.out _)
        rw [← digs_ext (D := dgt (frac v lo hi)) (l := 1) (fun k _ => by rw [HZ.out]; simp)]
        exact HO.out _
    · have HZ : Hid (∀ l, 1 ≤ l → dgt (frac v lo hi) l = 1) := hz
      clear hz
      rcases hs with hs | hs <;> rcases hb with hb | hb
      all_goals
        have hs' : FloatKind.f64.format.order r 0 = _ := hs
        have hb' : FloatKind.f64.format.order r 4607182418800017408 = _ := hb
        clear hs hb
        go_wp2
        go_loopw [12] (fun i wr => ∃ l : Nat, 1 ≤ l ∧ (l = 1 ∨ (l : Int) ≤ d + 1) ∧ i = .int .i64 (l : Int) ∧ wr.ownsRow w.heap.size 3 1 (.slice (some ⟨w.heap.size, 0, none⟩) n n) n (digs (dgt (frac v lo hi)) l n) ∧ Below w.heap.size w wr) (fun i _ => (d + 1 - intOf i).toNat)
        case atStart => exact ⟨1, by omega, .inl rfl, rfl, HO.out _, HB.out _⟩
        case round =>
          obtain ⟨l, hl1, hl2, rfl, hown, hbel⟩ := hrel
          by_cases hld : (l : Int) ≤ d
          · exfalso; omega
          · go_wp2
            go_ret
            exact digits_of HN1.out HN2.out hown (by omega) hbel
    · have HF : Hid (frac v lo hi = some r) := hf
      have HV : Hid (Nn r V) := hV
      have HV2 : Hid (V < 2 ^ KK) := hV2
      clear hf hV hV2
      rcases hs with hs | hs
      all_goals
        have hs' : FloatKind.f64.format.order r 0 = _ := hs
        have hb' : FloatKind.f64.format.order r 4607182418800017408 = _ := hb
        clear hs hb
        go_wp2
        go_loopw [13, 14] (fun gs i wr => ∃ l x : Nat, 1 ≤ l ∧ (l = 1 ∨ (l : Int) ≤ d + 1) ∧ i = .int .i64 (l : Int) ∧ gs = .float .f64 x ∧ Nn x (left V (l - 1)) ∧ wr.ownsRow w.heap.size 3 1 (.slice (some ⟨w.heap.size, 0, none⟩) n n) n (digs (dgt (frac v lo hi)) l n) ∧ Below w.heap.size w wr) (fun _ i _ => (d + 1 - intOf i).toNat)
        case atStart =>
          refine ⟨1, r, by omega, .inl rfl, rfl, rfl, ?_, HO.out _, HB.out _⟩
          have : left V (1 - 1) = V := by unfold left; rw [Nat.sub_self, Nat.pow_zero, Nat.mul_one, Nat.mod_eq_of_lt HV2.out]
          rw [this]; exact HV.out
        case round =>
          obtain ⟨l, x, hl1, hl2, rfl, rfl, hx, hown, hbel⟩ := hrel
          by_cases hld : (l : Int) ≤ d
          · exfalso; omega
          · clear hx
            go_wp2
            go_ret
            exact digits_of HN1.out HN2.out hown (by omega) hbel
  · clear hn'
    go_enter Try.func5, Try.ntmps5
    go_upto_region 6 with (first | (at_make; refine wpList_make_full _ rfl _ _ 23 rfl w.heap.size 3 i0 (.int .i64 0) 1 Try.underlying23 hi0 hz0 hz1 _ _ _ _ n rfl rfl (by have := Hout.out; omega) (by have := Hout.out; omega) (by rw [hz2]; omega) (by unfold maxLen; omega) (Nat.le_refl _) ?_; intro w1 hown hgrow) | (refine wpList_float _ rfl _ _ _ _ _ rfl _ _ rfl rfl rfl ?_; intro r k hr))
    have hall := frac_all (v := v) (lo := lo) (hi := hi) (by assumption) (by assumption) hr
    have HO : Hid (∀ q, (w1.drewN q).ownsRow w.heap.size 3 1 (.slice (some ⟨w.heap.size, 0, none⟩) n n) n (digs (dgt (frac v lo hi)) 1 n)) := by
      intro q
      rw [digs_start _ (dgt_zero _), ← toList_madeCells_one]
      have h := hown
      rw [Nat.mul_one] at h
      exact h
    have HB : Hid (∀ q, Below w.heap.size w (w1.drewN q)) := fun q => below_drewN ((Below.refl w.heap.size w).grown hgrow (Nat.le_refl _) (by intro k hk; cases hk)) q
    clear hown hgrow hn1 hn2 hi0 hz0 hz1 hz2
    rcases hall with ⟨hs, hz⟩ | ⟨hs, hb, hz⟩ | ⟨hs, hb, hf, V, hV, hV2⟩
    · -- no digit is set
      have HZ : Hid (∀ l, dgt (frac v lo hi) l = 0) := hz
      clear hz
      rcases hs with hs | hs
      all_goals
        have hs' : FloatKind.f64.format.order r 0 = _ := hs
        clear hs
        go_wp2
        go_ret
        refine digits_of (l := n) HN1.out HN2.out ?_ HN1.out (HB.out _)
        rw [← digs_ext (D := dgt (frac v lo hi)) (l := 1) (fun k _ => by rw [HZ.out]; simp)]
        exact HO.out _
    · have HZ : Hid (∀ l, 1 ≤ l → dgt (frac v lo hi) l = 1) := hz
      clear hz
      rcases hs with hs | hs <;> rcases hb with hb | hb
      all_goals
        have hs' : FloatKind.f64.format.order r 0 = _ := hs
        have hb' : FloatKind.f64.format.order r 4607182418800017408 = _ := hb
        clear hs hb
        go_wp2
        go_loopw [12] (fun i wr => ∃ l : Nat, 1 ≤ l ∧ (l = 1 ∨ (l : Int) ≤ d + 1) ∧ i = .int .i64 (l : Int) ∧ wr.ownsRow w.heap.size 3 1 (.slice (some ⟨w.heap.size, 0, none⟩) n n) n (digs (dgt (frac v lo hi)) l n) ∧ Below w.heap.size w wr) (fun i _ => (d + 1 - intOf i).toNat)
        case atStart => exact ⟨1, by omega, .inl rfl, rfl, HO.out _, HB.out _⟩
        case round =>
          obtain ⟨l, hl1, hl2, rfl, hown, hbel⟩ := hrel
          by_cases hld : (l : Int) ≤ d
          · have hln : l < n := by have := HN1.out; omega
            have hlb : (l : Int) ≤ 53 := by omega
            have hc := hown.cellAt l (by omega)
            rw [digs_get _ _ _ _ hln, if_neg (Nat.lt_irrefl _)] at hc
            have hfz := hown.frozenAt l
            have R := dig_store hown hbel hln (HZ.out l hl1)
            clear hown hbel
            have hln' : (l : Int) < (n : Int) := by omega
            go_wp2
            go_roundw
            case rel => exact ⟨l + 1, by omega, .inr (by omega), by go_num, R.1, R.2⟩
            case measure => simp [intOf]; omega
          · go_wp2
            go_ret
            exact digits_of HN1.out HN2.out hown (by omega) hbel
    · have HF : Hid (frac v lo hi = some r) := hf
      have HV : Hid (Nn r V) := hV
      have HV2 : Hid (V < 2 ^ KK) := hV2
      clear hf hV hV2
      rcases hs with hs | hs
      all_goals
        have hs' : FloatKind.f64.format.order r 0 = _ := hs
        have hb' : FloatKind.f64.format.order r 4607182418800017408 = _ := hb
        clear hs hb
        go_wp2
        go_loopw [13, 14] (fun gs i wr => ∃ l x : Nat, 1 ≤ l ∧ (l = 1 ∨ (l : Int) ≤ d + 1) ∧ i = .int .i64 (l : Int) ∧ gs = .float .f64 x ∧ Nn x (left V (l - 1)) ∧ wr.ownsRow w.heap.size 3 1 (.slice (some ⟨w.heap.size, 0, none⟩) n n) n (digs (dgt (frac v lo hi)) l n) ∧ Below w.heap.size w wr) (fun _ i _ => (d + 1 - intOf i).toNat)
        case atStart =>
          refine ⟨1, r, by omega, .inl rfl, rfl, rfl, ?_, HO.out _, HB.out _⟩
          have : left V (1 - 1) = V := by unfold left; rw [Nat.sub_self, Nat.pow_zero, Nat.mul_one, Nat.mod_eq_of_lt HV2.out]
          rw [this]; exact HV.out
        case round =>
          obtain ⟨l, x, hl1, hl2, rfl, rfl, hx, hown, hbel⟩ := hrel
          by_cases hld : (l : Int) ≤ d
          · have hln : l < n := by have := HN1.out; omega
            have hlb : (l : Int) ≤ 53 := by omega
            have hln' : (l : Int) < (n : Int) := by omega
            obtain ⟨g2, hadd, hround⟩ := double_round hx (left_lt V (l - 1))
            have hadd' := run_add_float hadd
            have el : l - 1 + 1 = l := by omega
            have hst := left_step V (l - 1)
            have hdg := dgt_step HV.out HV2.out (l - 1)
            rw [el] at hst hdg
            clear hx hadd el
            rcases hround with ⟨hc, hord, g3, hsub, hg3⟩ | ⟨hc, hord, hg2⟩
            · have hd1 : dgt (frac v lo hi) l = 1 := by rw [HF.out]; exact hdg.1 hc
              have HG3 : Hid (Nn g3 (left V (l + 1 - 1))) := by
                show Nn g3 _
                rw [Nat.add_sub_cancel, (hst.1 hc).1]; exact hg3
              have hcl := hown.cellAt l (by omega)
              rw [digs_get _ _ _ _ hln, if_neg (Nat.lt_irrefl _)] at hcl
              have hfz := hown.frozenAt l
              have R := dig_store hown hbel hln hd1
              have hsub' := run_sub_one hsub
              clear hown hbel hst hdg hc hg3 hd1 hsub
              rcases hord with hord | hord
              all_goals
                have hord' : FloatKind.f64.format.order g2 4607182418800017408 = _ := hord
                clear hord
                go_wp2
                go_roundw
                case rel => exact ⟨l + 1, g3, by omega, .inr (by omega), by go_num, rfl, HG3.out, R.1, R.2⟩
                case measure => simp [intOf]; omega
            · have hd0' : dgt (frac v lo hi) l = 0 := by rw [HF.out]; exact hdg.2 hc
              have HG3 : Hid (Nn g2 (left V (l + 1 - 1))) := by
                show Nn g2 _
                rw [Nat.add_sub_cancel, (hst.2 hc).1]; exact hg2
              rw [digs_none _ _ _ hd0'] at hown
              have hord' : FloatKind.f64.format.order g2 4607182418800017408 = _ := hord
              clear hst hdg hc hg2 hd0' hord
              go_wp2
              go_roundw
              case rel => exact ⟨l + 1, g2, by omega, .inr (by omega), by go_num, rfl, HG3.out, hown, hbel⟩
              case measure => simp [intOf]; omega
          · clear hx
            go_wp2
            go_ret
            exact digits_of HN1.out HN2.out hown (by omega) hbel

end Go.Proofs.Qxb6629292a
