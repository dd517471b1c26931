/-
  SEAT b6609368a: a slice of entries that came in.
-/
import Derived.Test.Qxb6609368aEntries
import Derived.Deep.SlicePairs
import Derived.ProofKit
namespace Go.Proofs.Qxb6609368a
open Go.RowKit Go.Deep

def strOf : Value → ByteArray | .string s => s | _ => ByteArray.empty
theorem getD_map_range {α : Type} (g : Nat → α) (n i : Nat) (d : α) (h : i < n) : ((List.range n).map g).getD i d = g i := by
  simp [List.getD, h]

theorem entries_in {H : Type} {enc : TypeId × Value → H} {W : World} {a : Option Addr} {len cap fuel : Nat} {x : DataW H × List MemPlace}
    (hf : DataW.trod enc Try.prog W 0 (fun _ => true) true fuel 47 [.slice a len cap] = some x) :
    ∃ es : List (ByteArray × Int), len = es.length ∧ ERow W a es ∧ len ≤ maxLen ∧ (∀ i, (eK es i).size ≤ maxLen) ∧ ∀ i, (Lit.int .i64 (eT es i)).wf = true := by
  rcases open_slice_pairs Try.underlying47 Try.underlying57 (by kernel_rfl) rfl rfl (by kernel_rfl) (by kernel_rfl) hf with ⟨hcs, _⟩ | ⟨ad, l, c, m, n, V0, V1, D0, D1, P0, P1, hcs, _, hl, hm, hmm, _, hx⟩
  · simp only [List.cons.injEq, Value.slice.injEq, and_true] at hcs
    obtain ⟨rfl, rfl, rfl⟩ := hcs
    exact ⟨[], rfl, fun h => absurd h (by simp), Nat.zero_le _, fun i => by simp [eK, maxLen], fun i => by simp [eT]; decide⟩
  · simp only [List.cons.injEq, Value.slice.injEq, and_true] at hcs
    obtain ⟨rfl, rfl, rfl⟩ := hcs
    simp only [if_true] at hmm
    subst hmm
    have hstr : ∀ i, i < m → ∃ s, V0 i = .string s ∧ s.size ≤ maxLen := fun i hi => by
      obtain ⟨_, _, h0, _⟩ := hx i hi
      obtain ⟨s, e, _, hs⟩ := DataW.trod_string Try.underlying9 h0
      exact ⟨s, by simpa using e, hs⟩
    have hint : ∀ i, i < m → ∃ t, V1 i = .int .i64 t ∧ (Lit.int .i64 t).wf = true := fun i hi => by
      obtain ⟨_, _, _, h1⟩ := hx i hi
      obtain ⟨t, e, _, ht⟩ := DataW.trod_int Try.underlying2 h1
      exact ⟨t, by simpa using e, ht⟩
    let es : List (ByteArray × Int) := (List.range len).map fun i => (strOf (V0 i), intOf (V1 i))
    have hlen : es.length = len := by simp [es]
    have hK : ∀ i, i < len → eK es i = strOf (V0 i) := fun i hi => by simp only [eK, es, getD_map_range _ _ _ _ hi]
    have hT : ∀ i, i < len → eT es i = intOf (V1 i) := fun i hi => by simp only [eT, es, getD_map_range _ _ _ _ hi]
    have hout : ∀ i, ¬ i < len → es.getD i (ByteArray.empty, 0) = (ByteArray.empty, 0) := fun i hi => by
      rw [List.getD, List.getElem?_eq_none (by rw [hlen]; omega)]; rfl
    refine ⟨es, hlen.symm, fun h0 => ?_, by omega, fun i => ?_, fun i => ?_⟩
    · rw [hlen] at h0
      obtain ⟨b, off, spot⟩ := ad
      have hc := (hx 0 (by omega)).1
      have hspot : spot = none := by simpa [Addr.add] using World.cell?_spot hc
      subst hspot
      refine ⟨b, off, rfl, fun i hi => ?_⟩
      rw [hlen] at hi
      have hxi := hx i (by omega)
      rw [Addr.add_lit, Addr.add_lit, ← Nat.add_assoc] at hxi
      obtain ⟨s, hs, _⟩ := hstr i (by omega)
      obtain ⟨t, ht, _⟩ := hint i (by omega)
      rw [hxi.1, hxi.2.1, hK i hi, hT i hi, hs, ht]
      exact ⟨rfl, rfl⟩
    · by_cases hi : i < len
      · obtain ⟨s, hs, h2⟩ := hstr i (by omega)
        rw [hK i hi, hs]; exact h2
      · simp only [eK, hout i hi]; simp [maxLen]
    · by_cases hi : i < len
      · obtain ⟨t, ht, h2⟩ := hint i (by omega)
        rw [hT i hi, ht]; exact h2
      · simp only [eT, hout i hi]; decide
end Go.Proofs.Qxb6609368a
