/- A slice of bytes that came in, as bytes. -/
import Derived.Test.Qxb6629355aBytes
import Derived.OpenShut
namespace Go.Proofs.Qxb6629355a
open Go.RowKit Go.Lib

/-- the bytes of the first n numbers -/
def bytesOf (zs : List Int) (n : Nat) : List UInt8 := (zs.take n).map fun z => UInt8.ofNat z.toNat

theorem bytesOf_length (zs : List Int) (n : Nat) (h : n ≤ zs.length) : (bytesOf zs n).length = n := by simp [bytesOf]; omega

theorem SB_in {w : World} {a : Option Addr} {n cap : Nat} {zs : List Int}
    (h : (a = none ∧ n = 0 ∧ cap = 0 ∧ zs = []) ∨ ∃ x, a = some x ∧ n ≤ cap ∧ cap ≤ maxLen ∧ zs.length = cap ∧ (∀ i, i < zs.length → w.cell? (x.add i) = some (.int .u8 (zs.getD i 0))) ∧ ∀ n ∈ zs, (Lit.int .u8 n).wf = true) :
    n ≤ maxLen ∧ (bytesOf zs n).length = n ∧ SB w (.slice a (bytesOf zs n).length cap) (bytesOf zs n) := by
  rcases h with ⟨rfl, rfl, rfl, rfl⟩ | ⟨x, rfl, hn, hm, hz, hc, hw⟩
  · exact ⟨by unfold maxLen; omega, rfl, none, 0, rfl, fun _ => ⟨rfl, rfl⟩, Nat.le_refl _, fun h => absurd rfl h⟩
  · have hlen := bytesOf_length zs n (by omega)
    refine ⟨by omega, hlen, some x, cap, rfl, (fun h => by simp at h), by omega, (fun hne => ?_)⟩
    have hpos : 0 < n := by
      rcases Nat.eq_zero_or_pos n with h0 | h0
      · exact absurd (List.eq_nil_of_length_eq_zero (by rw [hlen, h0])) hne
      · exact h0
    obtain ⟨b, o, rfl, hc'⟩ := ints_at hc (by omega)
    refine ⟨b, o, rfl, fun j hj => ?_⟩
    have hj' : j < zs.length := by omega
    rw [hc' j hj']
    have hb := bounds_u8 (hw zs[j] (List.getElem_mem hj'))
    have e1 : (bytesOf zs n)[j] = UInt8.ofNat (zs[j]).toNat := by simp [bytesOf]
    rw [e1]
    have e2 : zs.getD j 0 = zs[j] := by simp [List.getD, hj']
    rw [e2]
    congr 2
    rw [UInt8.toNat_ofNat']
    omega

end Go.Proofs.Qxb6629355a
