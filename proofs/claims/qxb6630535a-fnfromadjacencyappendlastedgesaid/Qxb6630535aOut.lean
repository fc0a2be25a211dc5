/- The guards of FnFromAdjacencyAppendLastEdge that answer at once; the law at every input; slices that came in. -/
import Derived.Test.Qxb6630535aLaw
import Derived.Deep.Slices
import Derived.OpenShut
namespace Go.Proofs.Qxb6630535a
open Go.RowKit Go.Deep

/-- the lengths alone -/
def okLen (n1 lt lw : Nat) : Prop := n1 ≤ 131072 ∧ lt ≤ 262144 ∧ lw ≤ 131072 ∧ 8 * n1 + 4 * lt + 8 * lw ≤ 1048576

set_option maxRecDepth 100000 in
set_option maxHeartbeats 400000 in
theorem law_len (as' at' aw : Option Addr) (cs ct cw n1 lt lw : Nat) (x : Value) (w : World) (m1 : n1 ≤ maxLen) (m2 : lt ≤ maxLen) (m3 : lw ≤ maxLen)
    (h : ¬ okLen n1 lt lw ∨ n1 < 2) :
    Calls Try.prog 3 #[.slice as' n1 cs, .slice at' lt ct, .slice aw lw cw, x] w fun e w' => e = .returned (.bool true) ∧ Below w.heap.size w w' := by
  have key : ¬ (n1 + lt + lw ≤ 1048576) ∨ (n1 + lt + lw ≤ 1048576 ∧ 131072 < n1) ∨ (n1 + lt + lw ≤ 1048576 ∧ n1 ≤ 131072 ∧ 262144 < lt) ∨ (n1 + lt + lw ≤ 1048576 ∧ n1 ≤ 131072 ∧ lt ≤ 262144 ∧ 131072 < lw) ∨
      (n1 + lt + lw ≤ 1048576 ∧ n1 ≤ 131072 ∧ lt ≤ 262144 ∧ lw ≤ 131072 ∧ 1048576 < 8 * n1 + 4 * lt + 8 * lw) ∨ (n1 + lt + lw ≤ 1048576 ∧ n1 ≤ 131072 ∧ lt ≤ 262144 ∧ lw ≤ 131072 ∧ 8 * n1 + 4 * lt + 8 * lw ≤ 1048576 ∧ n1 < 2) := by
    unfold okLen at h
    omega
  clear h
  rcases key with k | ⟨k0, k⟩ | ⟨k0, k1, k⟩ | ⟨k0, k1, k2, k⟩ | ⟨k0, k1, k2, k3, k⟩ | ⟨k0, k1, k2, k3, k4, k⟩
  · have hd : Hid (decide (n1 + lt + lw ≤ 1048576) = false) := decide_eq_false k
    clear k
    go_enter Try.func3, Try.ntmps3
    go_wp2_with (go_at_call 4; refine (zzb4 _ _ _ _ _ _ _ _ _ _ _ m1 m2 m3).mono ?_; rintro e w' ⟨rfl, rfl⟩; rw [hd.out])
    go_ret
    exact ⟨rfl, Below.refl _ _⟩
  all_goals
    have hd : Hid (decide (n1 + lt + lw ≤ 1048576) = true) := decide_eq_true k0
    have M1 : Hid (n1 ≤ maxLen) := m1
    have M2 : Hid (lt ≤ maxLen) := m2
    have M3 : Hid (lw ≤ maxLen) := m3
    clear m1 m2 m3
    go_enter Try.func3, Try.ntmps3
    go_wp2_with (go_at_call 4; refine (zzb4 _ _ _ _ _ _ _ _ _ _ _ M1.out M2.out M3.out).mono ?_; rintro e w' ⟨rfl, rfl⟩; rw [hd.out])
    go_ret
    exact ⟨rfl, Below.refl _ _⟩

set_option maxRecDepth 100000 in
set_option maxHeartbeats 400000 in
theorem law_neg (as' at' aw : Option Addr) (cs ct cw n n1 lt lw : Nat) (x : Value) (Z : Nat → Int) (w : World) (hl : okLen n1 lt lw) (hn : n1 = n + 1) (h1 : 1 ≤ n)
    (hs : RD w (.slice as' n1 cs) n1 (fun j => .int .i64 (Z j))) (hz : Z 0 < 0) :
    Calls Try.prog 3 #[.slice as' n1 cs, .slice at' lt ct, .slice aw lw cw, x] w fun e w' => e = .returned (.bool true) ∧ Below w.heap.size w w' := by
  obtain ⟨k1, k2, k3, k4⟩ := hl
  obtain ⟨b, o, rfl, hb, hc⟩ := hs.opened (by omega)
  have z0 : w.cell? ⟨b, o, none⟩ = some (.int .i64 (Z 0)) := hc 0 (by omega)
  have hpos : (0 : Int) < (n1 : Int) := by omega
  have hz0 : decide (Z 0 < 0) = true := decide_eq_true hz
  have hdz : Hid (decide (n1 + lt + lw ≤ 1048576) = true) := decide_eq_true (by omega)
  have hn1 : (n1 : Int) - 1 = (n : Int) := by omega
  have hvg : (1 : Int) ≤ n := by omega
  clear hs hc hn
  go_enter Try.func3, Try.ntmps3
  go_wp2_with (go_at_call 4; refine (zzb4 _ _ _ _ _ _ _ _ _ _ _ (by unfold maxLen; omega) (by unfold maxLen; omega) (by unfold maxLen; omega)).mono ?_; rintro e w' ⟨rfl, rfl⟩; rw [hdz.out])
  go_ret
  exact ⟨rfl, Below.refl _ _⟩

theorem law_any (as' at' aw : Option Addr) (cs ct cw n1 lt lw x : Nat) (Z T : Nat → Int) (W : Nat → Nat) (w : World) (m1 : n1 ≤ maxLen) (m2 : lt ≤ maxLen) (m3 : lw ≤ maxLen)
    (hs : RD w (.slice as' n1 cs) n1 (fun j => .int .i64 (Z j))) (ht : RD w (.slice at' lt ct) lt (fun j => .int .i32 (T j))) (hw : RD w (.slice aw lw cw) lw (fun j => .float .f64 (W j)))
    (hT : ∀ j, j < lt → -2147483648 ≤ T j ∧ T j ≤ 2147483647) :
    Calls Try.prog 3 #[.slice as' n1 cs, .slice at' lt ct, .slice aw lw cw, .float .f64 x] w fun e w' => e = .returned (.bool true) ∧ Below w.heap.size w w' := by
  by_cases h : ¬ okLen n1 lt lw ∨ n1 < 2
  · exact law_len as' at' aw cs ct cw n1 lt lw _ w m1 m2 m3 h
  · have hl : okLen n1 lt lw := Classical.byContradiction fun h' => h (.inl h')
    have h2 : ¬ n1 < 2 := fun h' => h (.inr h')
    by_cases hz : Z 0 < 0
    · exact law_neg as' at' aw cs ct cw (n1 - 1) n1 lt lw _ Z w hl (by omega) (by omega) hs hz
    · obtain ⟨k1, k2, k3, k4⟩ := hl
      exact law_in as' at' aw cs ct cw (n1 - 1) n1 lt lw x Z T W w hs ht hw (by omega) k1 k2 k3 k4 (by omega) (by omega) hT

/-- a slice that came in, whatever its elements, if a cell that reads as one of them is 'mk' of something -/
theorem slice_in {H : Type} {enc : TypeId × Value → H} {α : Type} [Inhabited α] {w : World} {base : Nat} {held : Bool} {t e : TypeId} {a : Option Addr} {len cap : Nat} {d : DataW H} {ps : List MemPlace} (mk : α → Value) (good : α → Prop)
    (ht : Try.prog.underlying t = some (.slice e)) (hc : Try.prog.cellsOf e = 1)
    (conv : ∀ n v d' p', DataW.trod enc Try.prog w base (fun _ => true) held n e [v] = some (d', p') → ∃ y, v = mk y ∧ good y)
    (h : DataW.Trod enc Try.prog w base (fun _ => true) held t (.slice a len cap) d ps) :
    len ≤ maxLen ∧ ∃ F : Nat → α, RD w (.slice a len cap) len (fun j => mk (F j)) ∧ ∀ j, j < len → good (F j) := by
  obtain ⟨fuel, hf⟩ := h
  rcases open_slice1 ht hc hf with ⟨hcs, _⟩ | ⟨x, l, c, m, n, V, D, Pl, hcs, _, hl, hm, hmm, _, hV⟩
  · simp [Value.cells] at hcs
    obtain ⟨rfl, rfl, rfl⟩ := hcs
    exact ⟨by unfold maxLen; omega, fun _ => default, ⟨none, 0, rfl, Nat.le_refl _, fun _ => ⟨rfl, rfl⟩, fun h => by omega⟩, fun j hj => by omega⟩
  · simp [Value.cells] at hcs
    obtain ⟨rfl, rfl, rfl⟩ := hcs
    have hmm' : m = cap := hmm
    obtain ⟨F, hF⟩ := choose_lt (α := α) (p := fun i y => V i = mk y ∧ good y) (n := m) (fun i hi => conv n (V i) _ _ (hV i hi).2)
    refine ⟨by omega, F, ⟨some x, cap, rfl, hl, (fun h => by cases h), fun hp => ?_⟩, fun j hj => (hF j (by omega)).2⟩
    obtain ⟨b, off, spot⟩ := x
    have h0 := (hV 0 (by omega)).1
    have hspot : spot = none := by simpa [Addr.add] using World.cell?_spot h0
    subst hspot
    have h0' : w.cell? ⟨b, off, none⟩ = some (V 0) := by rw [← Nat.add_zero off, ← Go.WideShapes.add_plain]; exact h0
    refine ⟨b, off, rfl, World.block_lt_of_cell? w _ h0', fun j hj => ?_⟩
    rw [← Go.WideShapes.add_plain, (hV j (by omega)).1, (hF j (by omega)).1]

theorem conv_int {H : Type} {enc : TypeId × Value → H} {w : World} {base : Nat} {held : Bool} {e : TypeId} {k : IntKind} (he : Try.prog.underlying e = some (.int k)) (n : Nat) (v : Value) (d' : DataW H) (p' : List MemPlace)
    (h : DataW.trod enc Try.prog w base (fun _ => true) held n e [v] = some (d', p')) : ∃ y, v = .int k y ∧ (Lit.int k y).wf = true := by
  cases n with
  | zero => simp [DataW.trod] at h
  | succ n =>
    simp only [DataW.trod, he] at h
    cases v <;> simp at h
    rename_i k' y
    obtain ⟨⟨rfl, hw⟩, _⟩ := h
    exact ⟨y, rfl, hw⟩

theorem conv_float {H : Type} {enc : TypeId × Value → H} {w : World} {base : Nat} {held : Bool} {e : TypeId} {k : FloatKind} (he : Try.prog.underlying e = some (.float k)) (n : Nat) (v : Value) (d' : DataW H) (p' : List MemPlace)
    (h : DataW.trod enc Try.prog w base (fun _ => true) held n e [v] = some (d', p')) : ∃ y, v = .float k y ∧ True := by
  cases n with
  | zero => simp [DataW.trod] at h
  | succ n =>
    simp only [DataW.trod, he] at h
    cases v <;> simp at h
    rename_i k' y
    obtain ⟨⟨rfl, hw⟩, _⟩ := h
    exact ⟨y, rfl, trivial⟩

end Go.Proofs.Qxb6630535a
