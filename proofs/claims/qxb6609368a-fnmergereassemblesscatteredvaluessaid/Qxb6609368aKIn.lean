/-
  SEAT b6609368a: numbers and keys that came in.
-/
import Derived.Test.Qxb6609368aLists
import Derived.Deep.SlicePairs
import Derived.Deep.Matrix
import Derived.ChangeSlices
import Derived.ProofKit
namespace Go.Proofs.Qxb6609368a
open Go.RowKit Go.Deep Go.ChangeShapes Go.WideShapes Go.ChangeAt

theorem value_in {H : Type} {enc : TypeId × Value → H} {W : World} {v : Value} {fuel : Nat} {x : DataW H × List MemPlace}
    (hf : DataW.trod enc Try.prog W 0 (fun _ => true) true fuel 27 [v] = some x) : ∃ h : Hd, v = .slice h.a h.n h.c ∧ VRow W h := by
  rcases open_int_rows Try.underlying27 Try.underlying48 Try.underlying5 (by kernel_rfl) (by kernel_rfl) hf with ⟨hcs, _⟩ | ⟨ad, len, cap, A, L, C, Z, hcs, _, hl, hm, _, hx⟩
  · simp only [List.cons.injEq, and_true] at hcs
    exact ⟨⟨none, 0, 0⟩, hcs, Nat.zero_le _, fun _ => ⟨rfl, rfl⟩, fun h => absurd h (by simp)⟩
  · simp only [List.cons.injEq, and_true] at hcs
    refine ⟨⟨some ad, len, cap⟩, hcs, Nat.le_trans hl hm, (fun e => by cases e), fun h0 => ?_⟩
    simp only at h0
    obtain ⟨b, off, spot⟩ := ad
    have hc0 := (hx 0 (by omega)).1
    have hspot : spot = none := by simpa [Addr.add] using World.cell?_spot hc0
    subst hspot
    refine ⟨b, off, rfl, fun j hj => ?_⟩
    simp only at hj
    obtain ⟨h1, h2, h3, h4, _, h6, h7⟩ := hx j (by omega)
    rw [Addr.add_lit] at h1
    have hlz : L j = ((Z j).take (L j)).length := by rw [List.length_take]; omega
    refine ⟨⟨A j, L j, C j⟩, h1, by show L j ≤ maxLen; omega, fun e => by have := h6 e; exact ⟨by show L j = 0; omega, this⟩, (Z j).take (L j), hlz, fun h0' => ?_⟩
    rw [← hlz] at h0'
    cases hA : A j with
    | none => have := h6 hA; omega
    | some a' =>
      obtain ⟨b', off', spot'⟩ := a'
      obtain ⟨_, hc⟩ := h7 _ hA
      have hspot : spot' = none := by simpa [Addr.add] using World.cell?_spot (hc 0 (by omega))
      subst hspot
      refine ⟨b', off', rfl, fun i hi => ?_⟩
      rw [← hlz] at hi
      have hci := hc i (by omega)
      rw [Addr.add_lit] at hci
      rw [hci]
      simp [List.getD, hi]

theorem nums_in {H : Type} {enc : TypeId × Value → H} {W : World} {a : Option Addr} {len cap fuel : Nat} {x : DataW H × List MemPlace}
    (hf : DataW.trod enc Try.prog W 0 (fun _ => true) true fuel 22 [.slice a len cap] = some x) : ∃ ns : List Int, len = ns.length ∧ NRow W a ns ∧ len ≤ maxLen := by
  rcases open_ints Try.underlying22 Try.underlying2 (by kernel_rfl) hf with ⟨hcs, _⟩ | ⟨ad, l, c, zs, hcs, _, hl, hm, hz, _, hcell, _⟩
  · simp only [List.cons.injEq, Value.slice.injEq, and_true] at hcs
    obtain ⟨rfl, rfl, rfl⟩ := hcs
    exact ⟨[], rfl, fun h => absurd h (by simp), Nat.zero_le _⟩
  · simp only [List.cons.injEq, Value.slice.injEq, and_true] at hcs
    obtain ⟨rfl, rfl, rfl⟩ := hcs
    simp only [if_true] at hz
    have hlt : len = (zs.take len).length := by rw [List.length_take]; omega
    refine ⟨zs.take len, hlt, fun h0 => ?_, by omega⟩
    rw [← hlt] at h0
    obtain ⟨b, off, spot⟩ := ad
    have hspot : spot = none := by simpa [Addr.add] using World.cell?_spot (hcell 0 (by omega))
    subst hspot
    refine ⟨b, off, rfl, fun i hi => ?_⟩
    rw [← hlt] at hi
    have hci := hcell i (by omega)
    rw [Addr.add_lit] at hci
    rw [hci]
    simp [List.getD, hi]

theorem getD_range {α : Type} (g : Nat → α) (n i : Nat) (d : α) (h : i < n) : ((List.range n).map g).getD i d = g i := by
  simp [List.getD, h]

theorem keys_in {H : Type} {enc : TypeId × Value → H} {W : World} {a : Option Addr} {len cap fuel : Nat} {x : DataW H × List MemPlace}
    (hf : DataW.trod enc Try.prog W 0 (fun _ => true) true fuel 23 [.slice a len cap] = some x) : ∃ ks : List (Int × Hd), len = ks.length ∧ KeyRow W a ks ∧ (∀ i, i < ks.length → VRow W (kV ks i)) ∧ len ≤ maxLen := by
  rcases open_slice_pairs Try.underlying23 Try.underlying29 (by kernel_rfl) rfl rfl (by kernel_rfl) (by kernel_rfl) hf with ⟨hcs, _⟩ | ⟨ad, l, c, m, n, V0, V1, D0, D1, P0, P1, hcs, _, hl, hm, hmm, _, hx⟩
  · simp only [List.cons.injEq, Value.slice.injEq, and_true] at hcs
    obtain ⟨rfl, rfl, rfl⟩ := hcs
    exact ⟨[], rfl, fun h => absurd h (by simp), fun i hi => absurd hi (by simp), Nat.zero_le _⟩
  · simp only [List.cons.injEq, Value.slice.injEq, and_true] at hcs
    obtain ⟨rfl, rfl, rfl⟩ := hcs
    simp only [if_true] at hmm
    subst hmm
    have key : ∀ i, ∃ q : Int × Hd, i < m → V0 i = .int .i64 q.1 ∧ V1 i = .slice q.2.a q.2.n q.2.c ∧ VRow W q.2 := fun i => by
      by_cases hi : i < m
      · obtain ⟨_, _, h0, h1⟩ := hx i hi
        obtain ⟨t, e, _, _⟩ := DataW.trod_int Try.underlying3 h0
        obtain ⟨h, eh, hv⟩ := value_in h1
        exact ⟨(t, h), fun _ => ⟨by simpa using e, eh, hv⟩⟩
      · exact ⟨default, fun h => absurd h hi⟩
    obtain ⟨q, hq⟩ := Classical.skolem.1 key
    have hlen : ((List.range len).map q).length = len := by simp
    have hP : ∀ i, i < len → kP ((List.range len).map q) i = (q i).1 := fun i hi => by simp only [kP, getD_range _ _ _ _ hi]
    have hV : ∀ i, i < len → kV ((List.range len).map q) i = (q i).2 := fun i hi => by simp only [kV, getD_range _ _ _ _ hi]
    refine ⟨(List.range len).map q, hlen.symm, fun h0 => ?_, fun i hi => ?_, by omega⟩
    · rw [hlen] at h0
      obtain ⟨b, off, spot⟩ := ad
      have hc := (hx 0 (by omega)).1
      have hspot : spot = none := by simpa [Addr.add] using World.cell?_spot hc
      subst hspot
      refine ⟨b, off, rfl, fun i hi => ?_⟩
      rw [hlen] at hi
      have hxi := hx i (by omega)
      rw [Addr.add_lit, Addr.add_lit, ← Nat.add_assoc] at hxi
      obtain ⟨h1, h2, _⟩ := hq i (by omega)
      rw [hxi.1, hxi.2.1, hP i hi, hV i hi, h1, h2]
      exact ⟨rfl, rfl⟩
    · rw [hlen] at hi
      rw [hV i hi]
      exact (hq i (by omega)).2.2
end Go.Proofs.Qxb6609368a
