/-
  SEAT b6609368a: what the walk of FnMergeReassemblesScatteredValues reads and lays.
-/
import Derived.Test.Qxb6609368aSplit
namespace Go.Proofs.Qxb6609368a
open Go.RowKit

/-- the numbers -/
def NRow (w : World) (a : Option Addr) (xs : List Int) : Prop :=
  0 < xs.length → ∃ b off, a = some ⟨b, off, none⟩ ∧ ∀ i, i < xs.length → w.cell? ⟨b, off + i, none⟩ = some (.int .i64 (xs.getD i 0))

theorem info4 : (Try.prog.info? 4).map (fun i => (i.zero, i.size, i.bytes)) = some (some (.bool false), 1, 1) := by kernel_rfl
theorem info32 : (Try.prog.info? 32).map (fun i => (i.zero, i.size, i.bytes)) = some (some (.slice none 0 0), 1, 24) := by kernel_rfl
theorem info38 : (Try.prog.info? 38).map (fun i => (i.zero, i.size, i.bytes)) = some (some (.agg #[.nilIface, .int .i64 0, .slice none 0 0]), 3, 48) := by kernel_rfl
theorem run_make34 (n : Nat) (hn : n ≤ 4096) (w : World) : (Instr.makeSlice 34 (.int .i64 (n : Int)) (.int .i64 (n : Int))).run Try.prog w = .ok (.slice (some ⟨w.heap.size, 0, none⟩) n n) (w.alloc (.cells (madeCells #[.nilIface, .int .i64 0, .slice none 0 0] (n * 3)) 38)) := by
  obtain ⟨i, hi, hz, hs, hb⟩ := info_parts info38
  have := run_make (P := Try.prog) w 34 38 i _ Try.underlying34 hi hz .i64 .i64 n n (by omega) (Int.le_refl _) (by rw [hb]; omega) (by omega)
  rw [hs] at this
  simpa [Value.cells] using this

theorem KeyRow.below {B : Nat} {w w' : World} {a : Option Addr} {ks : List (Int × Hd)} (h : KeyRow w a ks) (hb : Below B w w') (hB : w.heap.size ≤ B) : KeyRow w' a ks := by
  intro h0
  obtain ⟨b, off, e, hc⟩ := h h0
  refine ⟨b, off, e, fun i hi => ?_⟩
  have hci := hc i hi
  have hlt : b < w.heap.size := World.block_lt_of_cell? w _ hci.1
  rw [hb.cell (p := ⟨b, off + i * 2, none⟩) (by show b < B; omega), hb.cell (p := ⟨b, off + i * 2 + 1, none⟩) (by show b < B; omega)]
  exact hci
theorem NRow.below {B : Nat} {w w' : World} {a : Option Addr} {xs : List Int} (h : NRow w a xs) (hb : Below B w w') (hB : w.heap.size ≤ B) : NRow w' a xs := by
  intro h0
  obtain ⟨b, off, e, hc⟩ := h h0
  refine ⟨b, off, e, fun i hi => ?_⟩
  have hci := hc i hi
  have hlt : b < w.heap.size := World.block_lt_of_cell? w _ hci
  rw [hb.cell (p := ⟨b, off + i, none⟩) (by show b < B; omega)]
  exact hci
theorem Row.below2 {B : Nat} {w w' : World} {a : Option Addr} {xs : List Int} (h : Row w a xs) (hb : Below B w w') (hB : w.heap.size ≤ B) : Row w' a xs := by
  intro h0
  obtain ⟨b, off, e, hc⟩ := h h0
  refine ⟨b, off, e, fun i hi => ?_⟩
  have hci := hc i hi
  have hlt : b < w.heap.size := World.block_lt_of_cell? w _ hci
  rw [hb.cell (p := ⟨b, off + i, none⟩) (by show b < B; omega)]
  exact hci
theorem VRow.below {B : Nat} {w w' : World} {h : Hd} (hv : VRow w h) (hb : Below B w w') (hB : w.heap.size ≤ B) : VRow w' h := by
  obtain ⟨h1, h2, h3⟩ := hv
  refine ⟨h1, h2, fun h0 => ?_⟩
  obtain ⟨b, off, e, hc⟩ := h3 h0
  refine ⟨b, off, e, fun j hj => ?_⟩
  obtain ⟨u, hu, hn, hz, xs, hx, hr⟩ := hc j hj
  have hlt : b < w.heap.size := World.block_lt_of_cell? w _ hu
  exact ⟨u, by rw [hb.cell (p := ⟨b, off + j, none⟩) (by show b < B; omega)]; exact hu, hn, hz, xs, hx, hr.below2 hb hB⟩

/-- The arguments, all that is read of them. -/
structure Args (w : World) (a0 a2 : Option Addr) (ns : List Int) (ks : List (Int × Hd)) : Prop where
  nums : NRow w a0 ns
  keys : KeyRow w a2 ks
  vals : ∀ i, i < ks.length → VRow w (kV ks i)
theorem Args.below {B : Nat} {w w' : World} {a0 a2 : Option Addr} {ns : List Int} {ks : List (Int × Hd)} (h : Args w a0 a2 ns ks) (hb : Below B w w') (hB : w.heap.size ≤ B) : Args w' a0 a2 ns ks :=
  ⟨h.nums.below hb hB, h.keys.below hb hB, fun i hi => (h.vals i hi).below hb hB⟩

/-- The lists by part, done. -/
structure Lists (w : World) (B n : Nat) (ks : List (Int × Hd)) (G Cp : Nat → Nat) : Prop where
  idx : ∀ i, i < ks.length → w.cell? ⟨B, i, none⟩ = some (.int .i64 (kP ks i))
  hd : ∀ p, p < n → w.cell? ⟨B + 1, p, none⟩ = some (.slice (some ⟨G p, 0, none⟩) (cnt ks p ks.length) (Cp p))
  el : ∀ p, p < n → ∀ j, j < cnt ks p ks.length → w.cell? ⟨G p, j, none⟩ = some (.slice ((sel ks p ks.length).getD j default).a ((sel ks p ks.length).getD j default).n ((sel ks p ks.length).getD j default).c)
  cap : ∀ p, p < n → cnt ks p ks.length ≤ Cp p
  pos : ∀ p, p < n → 0 < cnt ks p ks.length

theorem keep_cell {B : Nat} {w w' : World} (hb : Below B w w') (hB : w.heap.size ≤ B) {a : Addr} {v : Value} (h : w.cell? a = some v) : w'.cell? a = some v := by
  rw [hb.cell (Nat.lt_of_lt_of_le (World.block_lt_of_cell? w _ h) hB)]; exact h

theorem Lists.below {w w' : World} {Q B n : Nat} {ks : List (Int × Hd)} {G Cp : Nat → Nat} (h : Lists w B n ks G Cp) (hb : Below Q w w') (hQ : w.heap.size ≤ Q) : Lists w' B n ks G Cp :=
  ⟨fun i hi => keep_cell hb hQ (h.idx i hi), fun p hp => keep_cell hb hQ (h.hd p hp), fun p hp j hj => keep_cell hb hQ (h.el p hp j hj), h.cap, h.pos⟩

theorem Fam.lists' {w2 wr : World} {B n : Nat} {ks : List (Int × Hd)} (h : Fam w2 B n ks ks.length wr) (hall : ∀ p, p < n → ∃ j, j < ks.length ∧ kP ks j = (p : Int)) : ∃ G Cp, Lists wr B n ks G Cp := by
  obtain ⟨f, hf1, hf2⟩ := h.idx
  obtain ⟨L, hL, hO, _⟩ := h.lists
  have hpos : ∀ p, p < n → 0 < cnt ks p ks.length := fun p hp => by
    obtain ⟨j, hj, e⟩ := hall p hp
    exact cnt_pos hj e
  have key : ∀ p, ∃ gc : Nat × Nat, p < n → L p = .slice (some ⟨gc.1, 0, none⟩) (cnt ks p ks.length) gc.2 ∧ cnt ks p ks.length ≤ gc.2 := fun p => by
    by_cases hp : p < n
    · rcases (hO p hp).2 with ⟨_, h0⟩ | ⟨g, cap, cur, hv, _, _, hc, _⟩
      · have := hpos p hp; omega
      · exact ⟨(g, cap), fun _ => ⟨hv, hc⟩⟩
    · exact ⟨(0, 0), fun h => absurd h hp⟩
  obtain ⟨gc, hgc⟩ := Classical.skolem.1 key
  refine ⟨fun p => (gc p).1, fun p => (gc p).2, fun i hi => by rw [hf1.cell hi, hf2 i hi], fun p hp => by rw [hL.cell hp, (hgc p hp).1], fun p hp j hj => ?_, fun p hp => (hgc p hp).2, hpos⟩
  have ho := hO p hp
  rw [(hgc p hp).1] at ho
  rw [ho.cellAt j (by omega)]
  exact hv_at (by rw [sel_length]; exact hj)

/-- The results, k of them laid. -/
structure Rs (w4 : World) (br n : Nat) (ns : List Int) (ks : List (Int × Hd)) (G Cp : Nat → Nat) (k : Nat) (wr : World) : Prop where
  below : Below br w4 wr
  size : br < wr.heap.size
  row : ∃ f, wr.rowIs br 38 (n * 3) f ∧ ∀ p, p < k → f (p * 3) = .nilIface ∧ f (p * 3 + 1) = .int .i64 (ns.getD p 0) ∧ f (p * 3 + 2) = .slice (some ⟨G p, 0, none⟩) (cnt ks p ks.length) (Cp p)

theorem rs_start (w4 : World) (n : Nat) (ns : List Int) (ks : List (Int × Hd)) (G Cp : Nat → Nat) : Rs w4 w4.heap.size n ns ks G Cp 0 (w4.alloc (.cells (madeCells #[.nilIface, .int .i64 0, .slice none 0 0] (n * 3)) 38)) := by
  refine ⟨(Below.refl _ _).alloc (Nat.le_refl _) _, by simp, fun i => (madeCells #[.nilIface, .int .i64 0, .slice none 0 0] (n * 3)).getD i .nilIface, ?_, fun p hp => by omega⟩
  have h := World.rowIs_alloc w4 (madeCells #[.nilIface, .int .i64 0, .slice none 0 0] (n * 3)) 38 (fun i => (madeCells #[.nilIface, .int .i64 0, .slice none 0 0] (n * 3)).getD i .nilIface) (fun i hi => by
    simp only [Array.getD, hi, dif_pos]
    exact Array.getElem?_eq_getElem hi)
  rw [size_madeCells] at h
  exact h

theorem Rs.step {w4 wr : World} {br n : Nat} {ns : List Int} {ks : List (Int × Hd)} {G Cp : Nat → Nat} {k : Nat} {x : Int} {v : Value} (h : Rs w4 br n ns ks G Cp k wr) (hx : x = ns.getD k 0) (hv : v = .slice (some ⟨G k, 0, none⟩) (cnt ks k ks.length) (Cp k)) :
    Rs w4 br n ns ks G Cp (k + 1) (((wr.setCell ⟨br, k * 3, none⟩ .nilIface).setCell ⟨br, k * 3 + 1, none⟩ (.int .i64 x)).setCell ⟨br, k * 3 + 2, none⟩ v) := by
  obtain ⟨f, h1, h2⟩ := h.row
  refine ⟨((h.below.setCell (p := ⟨br, k * 3, none⟩) (Nat.le_refl _) _).setCell (p := ⟨br, k * 3 + 1, none⟩) (Nat.le_refl _) _).setCell (p := ⟨br, k * 3 + 2, none⟩) (Nat.le_refl _) _, by have := h.size; simpa [World.setCell] using this, _, ((h1.set (k * 3) .nilIface).set (k * 3 + 1) (.int .i64 x)).set (k * 3 + 2) v, fun p hp => ?_⟩
  by_cases e : p = k
  · subst e
    simp [hx, hv]
  · have h3 := h2 p (by omega)
    simp only [show ¬ p * 3 = k * 3 + 2 by omega, show ¬ p * 3 = k * 3 + 1 by omega, show ¬ p * 3 = k * 3 by omega, show ¬ p * 3 + 1 = k * 3 + 2 by omega, show ¬ p * 3 + 1 = k * 3 + 1 by omega, show ¬ p * 3 + 1 = k * 3 by omega, show ¬ p * 3 + 2 = k * 3 + 2 by omega, show ¬ p * 3 + 2 = k * 3 + 1 by omega, show ¬ p * 3 + 2 = k * 3 by omega, if_false]
    exact h3
theorem Rs.drewN {w4 wr : World} {br n : Nat} {ns : List Int} {ks : List (Int × Hd)} {G Cp : Nat → Nat} {k : Nat} (h : Rs w4 br n ns ks G Cp k wr) (m : Nat) : Rs w4 br n ns ks G Cp k (wr.drewN m) :=
  ⟨⟨h.below.os, h.below.tape, h.below.output, h.below.size, h.below.block⟩, h.size, h.row⟩

set_option maxHeartbeats 4000000 in
set_option maxRecDepth 100000 in
theorem newSplit (w : World) (a0 a3 : Option Addr) (n0 c0 n3 c3 : Nat) (k : Int) :
    Calls Try.prog 10 #[.slice a0 n0 c0, .int .u8 k, .bool true, .slice a3 n3 c3] w fun e w' => e = .returned (.pointer (some ⟨w.heap.size, 0, none⟩)) ∧ ∃ x1, w' = w.alloc (.cells #[.slice a0 n0 c0, x1, .int .u8 k, .bool true, .slice a3 n3 c3] 76) := by
  go_enter Try.func10, Try.ntmps10
  go_wp2
  go_ret
  exact ⟨rfl, _, rfl⟩
end Go.Proofs.Qxb6609368a
