/- The walks of cloneBytes and sameBytes. -/
import Derived.Test.Qxb6629355aOwn
import Derived.Laws.CopyOwn
import Derived.Deep.QuietTactic
import Derived.BigQuiet
namespace Go.Proofs.Qxb6629355a
open Go.RowKit Go.Lib

/-- a slice of bytes that can be read: its bytes -/
def SB (w : World) (v : Value) (bs : List UInt8) : Prop :=
  ∃ ao c, v = .slice ao bs.length c ∧ (ao = none → bs = [] ∧ c = 0) ∧ bs.length ≤ c ∧
    (bs ≠ [] → ∃ b o, ao = some ⟨b, o, none⟩ ∧ ∀ j (h : j < bs.length), w.cell? ⟨b, o + j, none⟩ = some (.int .u8 (bs[j]).toNat))

/-- the row of a value that owns bytes, whole -/
theorem own_row {w : World} {base g n cap : Nat} {xs : List Value} (h : w.ownsRow base 5 1 (.slice (some ⟨g, 0, none⟩) n cap) n xs) (hc : cap = n) : w.heap[g]? = some (.cells xs.toArray 5 (0, 0)) := by
  rcases h.2 with ⟨h', _⟩ | ⟨g', cap', cur, h', _, hg, _, _, hs, htake⟩
  · simp at h'
  · simp only [Value.slice.injEq, Option.some.injEq, Addr.mk.injEq, and_true, true_and] at h'
    obtain ⟨rfl, rfl⟩ := h'
    subst hc
    rw [Nat.mul_one] at htake hs
    rw [List.take_of_length_le (by rw [Array.length_toList, hs]; exact Nat.le_refl _)] at htake
    rw [hg, ← htake]

theorem row_own {w : World} {base g : Nat} {xs : List Value} (hb : base ≤ g) (h : w.heap[g]? = some (.cells xs.toArray 5 (0, 0))) (hm : xs.length ≤ maxLen) : w.ownsRow base 5 1 (.slice (some ⟨g, 0, none⟩) xs.length xs.length) xs.length xs :=
  ⟨by omega, .inr ⟨g, xs.length, xs.toArray, rfl, hb, h, Nat.le_refl _, hm, by simp, by simp⟩⟩

theorem copy_run {w0 w1 : World} {g n c : Nat} {x : Addr} {bs : List UInt8} {cur : List Value} (hn : n = bs.length) (hcur : cur.length = n) (hg : w1.heap[g]? = some (.cells cur.toArray 5 (0, 0))) (hB : w0.heap.size ≤ g) (hb : Below w0.heap.size w0 w1)
    (hcell : bs ≠ [] → ∃ b o, some x = some ⟨b, o, none⟩ ∧ ∀ j (h : j < bs.length), w0.cell? ⟨b, o + j, none⟩ = some (.int .u8 (bs[j]).toNat)) (hsz : (Try.prog.info? 5).map (·.size) = some 1) :
    ∃ w2 q, (Builtin.copy_ #[22, 22] 3 #[.slice (some ⟨g, 0, none⟩) n n, .slice (some x) n c]).run Try.prog w1 = .ok q w2 ∧ w2.heap[g]? = some (.cells (cs bs).toArray 5 (0, 0)) ∧ Below w0.heap.size w0 w2 := by
  by_cases h0 : bs = []
  · subst h0
    have hn0 : n = 0 := hn
    subst hn0
    have : cur = [] := List.eq_nil_of_length_eq_zero hcur
    subst this
    exact ⟨w1, _, run_copy_none (P := Try.prog) w1 22 22 3 5 _ _ _ _ _ _ Try.underlying22 hsz rfl, hg, hb⟩
  · obtain ⟨b, o, hx, hc⟩ := hcell h0
    injection hx with hx
    subst hx
    have hsrc : ∀ j v, (cs bs)[j]? = some v → w1.cell? ((⟨b, o, none⟩ : Addr).add j) = some v := by
      intro j v hv
      have hj : j < bs.length := by
        have := (List.getElem?_eq_some_iff.1 hv).1
        rw [cs_length] at this; exact this
      rw [cs_get _ _ hj] at hv
      have h1 := hc j hj
      rw [Addr.add_lit, hb.cell (p := ⟨b, o + j, none⟩) (World.block_lt_of_cell? w0 _ h1), h1, hv]
    have hrun := run_copy_row (P := Try.prog) w1 22 22 3 5 g 0 n n ⟨b, o, none⟩ n c cur.toArray 5 (cs bs) Try.underlying22 hsz hg (by rw [cs_length, hn]; exact (Nat.min_self _).symm) hsrc (by rw [cs_length]; simp; omega) (cs_one _)
    refine ⟨_, _, hrun, ?_, below_setRow hb hB _⟩
    rw [setRow_heap w1 g cur.toArray _ 5 _ hg]
    simp
    rw [cs_length]; omega

set_option maxRecDepth 100000 in
set_option maxHeartbeats 400000 in
theorem clone_any (v : Value) (bs : List UInt8) (w : World) (h : SB w v bs) (hlen : bs.length ≤ 1000000000) :
    Calls Try.prog 6 #[v] w fun e w' => ∃ v', e = .returned v' ∧ w'.ownsRow w.heap.size 5 1 v' bs.length (cs bs) ∧ Below w.heap.size w w' := by
  obtain ⟨ao, c, rfl, hnil, hc, hcell⟩ := h
  cases ao with
  | none =>
    obtain ⟨rfl, rfl⟩ := hnil rfl
    clear hnil hcell
    have hnl := @Lib.run_eql_slice_nil Try.prog
    go_enter Try.func6, Try.ntmps6
    go_wp2
    go_ret
    exact ⟨_, rfl, World.ownsRow_nil _ _ _ _, Below.refl _ _⟩
  | some x =>
    clear hnil
    have HC : Hid (bs ≠ [] → ∃ b o, some x = some ⟨b, o, none⟩ ∧ ∀ j (h : j < bs.length), w.cell? ⟨b, o + j, none⟩ = some (.int .u8 (bs[j]).toNat)) := hcell
    clear hcell
    have hnl := @Lib.run_eql_slice_nil Try.prog
    obtain ⟨i0, hi, hz0, hz1, hz2⟩ := info_parts info5
    have hsz1 : (Try.prog.info? 5).map (·.size) = some 1 := by rw [hi]; simp [hz1]
    obtain ⟨n, hn⟩ : ∃ n, n = bs.length := ⟨_, rfl⟩
    rw [← hn]
    have HN : Hid (n = bs.length) := hn
    have hnb : n ≤ 1000000000 := by omega
    clear hn hc hlen
    go_enter Try.func6, Try.ntmps6
    go_wp2_with (first | (at_make; refine wpList_make_full _ rfl _ _ 22 rfl w.heap.size 5 i0 (.int .u8 0) 1 Try.underlying22 hi hz0 hz1 _ _ _ _ n rfl rfl rfl rfl (by rw [hz2]; omega) (by unfold maxLen; omega) (Nat.le_refl _) ?_; intro w1 hown hgrow) | fail)
    have hg1 : Hid (w1.heap[w.heap.size]? = some (.cells (madeCells #[.int .u8 0] n).toList.toArray 5 (0, 0))) := by
      have := own_row hown rfl
      rw [Nat.mul_one] at this
      exact this
    have hb1 : Hid (Below w.heap.size w w1) := (Below.refl _ _).grown hgrow (Nat.le_refl _) (by intro k hk; cases hk)
    clear hown hgrow
    obtain ⟨w2, q, hrun, hg2, hb2⟩ := copy_run (c := c) HN.out (by rw [toList_madeCells_one, List.length_replicate]) hg1.out (Nat.le_refl _) hb1.out HC.out hsz1
    have HR : Hid (w2.heap[w.heap.size]? = some (.cells (cs bs).toArray 5 (0, 0)) ∧ Below w.heap.size w w2) := ⟨hg2, hb2⟩
    clear hg2 hb2 hg1 hb1
    rw [hrun]
    go_wp2
    go_ret
    have h5 := row_own (Nat.le_refl _) HR.out.1 (by rw [cs_length, ← HN.out]; unfold maxLen; omega)
    rw [cs_length, ← HN.out] at h5
    exact ⟨_, rfl, h5, HR.out.2⟩

set_option maxHeartbeats 400000 in
theorem same_nil (ao bo : Option Addr) (c1 c2 : Nat) (w : World) : Calls Try.prog 8 #[.slice ao 0 c1, .slice bo 0 c2] w fun e w' => e = .returned (.bool true) ∧ ∃ m, w' = w.drewN m := by
  go_enter Try.func8, Try.ntmps8
  go_wp2
  refine wp_loop_rounds 1 ?_
  rw [rounds_succ]
  go_wp2
  go_ret
  exact ⟨rfl, 0, rfl⟩

set_option maxHeartbeats 400000 in
theorem same_cons (b1 o1 b2 o2 n c1 c2 : Nat) (ls : List UInt8) (w : World) (hn : ls.length = n) (hm : n ≤ maxLen)
    (hA : ∀ j (h : j < ls.length), w.cell? ⟨b1, o1 + j, none⟩ = some (.int .u8 (ls[j]).toNat)) (hB : ∀ j (h : j < ls.length), w.cell? ⟨b2, o2 + j, none⟩ = some (.int .u8 (ls[j]).toNat)) :
    Calls Try.prog 8 #[.slice (some ⟨b1, o1, none⟩) n c1, .slice (some ⟨b2, o2, none⟩) n c2] w fun e w' => e = .returned (.bool true) ∧ ∃ m, w' = w.drewN m := by
  unfold maxLen at hm
  have HA : Hid (∀ j (h : j < ls.length), w.cell? ⟨b1, o1 + j, none⟩ = some (.int .u8 (ls[j]).toNat)) := hA
  have HB : Hid (∀ j (h : j < ls.length), w.cell? ⟨b2, o2 + j, none⟩ = some (.int .u8 (ls[j]).toNat)) := hB
  clear hA hB
  go_enter Try.func8, Try.ntmps8
  go_wp2
  go_loopw [5] (fun i wr => ∃ k m : Nat, k ≤ n ∧ i = .int .i64 (k : Int) ∧ wr = w.drewN m) (fun i _ => n - (intOf i).toNat)
  case atStart => exact ⟨0, 0, by omega, rfl, rfl⟩
  case round =>
    obtain ⟨k, m, hk, rfl, rfl⟩ := hrel
    by_cases hkn : k < n
    · have hcells : ∃ p : Int, w.cell? ⟨b1, o1 + k, none⟩ = some (.int .u8 p) ∧ w.cell? ⟨b2, o2 + k, none⟩ = some (.int .u8 p) := ⟨_, HA.out k (by omega), HB.out k (by omega)⟩
      obtain ⟨p, a1, e1⟩ := hcells
      have hkd : decide ((k : Int) < (n : Int)) = true := decide_eq_true (by omega)
      go_wp2
      go_quiet (fail)
      go_wp2
      go_roundw
      case rel => exact ⟨k + 1, _, by omega, by go_num, rfl⟩
      case measure => simp [intOf]; omega
    · have hkd : decide ((k : Int) < (n : Int)) = false := decide_eq_false (by omega)
      go_wp2
      go_ret
      exact ⟨rfl, _, rfl⟩

theorem same_any (a b : Value) (bs : List UInt8) (w : World) (ha : SB w a bs) (hb : SB w b bs) (hm : bs.length ≤ maxLen) : Calls Try.prog 8 #[a, b] w fun e w' => e = .returned (.bool true) ∧ ∃ m, w' = w.drewN m := by
  obtain ⟨ao, c1, rfl, _, _, hA⟩ := ha
  obtain ⟨bo, c2, rfl, _, _, hB⟩ := hb
  by_cases h0 : bs = []
  · subst h0
    exact same_nil ao bo c1 c2 w
  · obtain ⟨b1, o1, rfl, hA'⟩ := hA h0
    obtain ⟨b2, o2, rfl, hB'⟩ := hB h0
    exact same_cons b1 o1 b2 o2 bs.length c1 c2 bs w rfl hm hA' hB'

/-- what is owned can be read -/
theorem SB_of_own {w : World} {base : Nat} {v : Value} {bs : List UInt8} (h : w.ownsRow base 5 1 v bs.length (cs bs)) : SB w v bs := by
  have hcells := fun g hg => h.cells (g := g) hg
  rcases h.2 with ⟨rfl, h2⟩ | ⟨g, cap, cur, rfl, hb, _, hc, hm, _, _⟩
  · have : bs = [] := List.eq_nil_of_length_eq_zero h2
    subst this
    exact ⟨none, 0, rfl, fun _ => ⟨rfl, rfl⟩, Nat.le_refl _, fun h => absurd rfl h⟩
  · refine ⟨_, cap, rfl, fun h => by simp at h, hc, fun _ => ⟨g, 0, rfl, fun j hj => ?_⟩⟩
    have := hcells g rfl _ _ (cs_get bs j hj)
    rw [Addr.add_lit] at this
    exact this

/-- .. and reads on while its cells stand -/
theorem SB.keep {w w' : World} {v : Value} {bs : List UInt8} (h : SB w v bs) (hk : ∀ a : Addr, ∀ u, w.cell? a = some u → v.ownBlock = some a.block → w'.cell? a = some u) : SB w' v bs := by
  obtain ⟨ao, c, rfl, h1, h2, h3⟩ := h
  refine ⟨ao, c, rfl, h1, h2, fun hne => ?_⟩
  obtain ⟨b, o, rfl, hc⟩ := h3 hne
  exact ⟨b, o, rfl, fun j hj => hk _ _ (hc j hj) rfl⟩

end Go.Proofs.Qxb6629355a
