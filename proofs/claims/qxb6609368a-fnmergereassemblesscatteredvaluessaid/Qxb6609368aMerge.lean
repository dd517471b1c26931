/-
  SEAT b6609368a: the contract of Split.Merge.
-/
import Derived.Test.Qxb6609368aVals
import Derived.Deep.OwnRows
import Derived.RegionTactic
import Derived.Below
import Derived.Laws.ResultCell
namespace Go.Proofs.Qxb6609368a
open Go.RowKit

/-- how many of the first k keys are of part p -/
def cnt (ks : List (Int × Hd)) (p : Nat) : Nat → Nat
  | 0 => 0
  | k + 1 => if kP ks k = (p : Int) then cnt ks p k + 1 else cnt ks p k

/-- the sum of the first k numbers, as int64 adds -/
def wsum (ns : Nat → Int) : Nat → Int
  | 0 => 0
  | k + 1 => wrap64 (wsum ns k + ns k)

/-- What Merge reads. -/
structure MIn (w : World) (S bs bi br n : Nat) (kind : Int) (ks : List (Int × Hd)) (ns : Nat → Int) (C : Nat → List Hd) : Prop where
  s0 : w.cell? ⟨S, 0, none⟩ = some (.slice (some ⟨bs, 0, none⟩) n n)
  s2 : w.cell? ⟨S, 2, none⟩ = some (.int .u8 kind)
  s3 : w.cell? ⟨S, 3, none⟩ = some (.bool true)
  s4 : w.cell? ⟨S, 4, none⟩ = some (.slice (some ⟨bi, 0, none⟩) ks.length ks.length)
  idx : ∀ i, i < ks.length → w.cell? ⟨bi, i, none⟩ = some (.int .i64 (kP ks i))
  res : ∀ p, p < n → ∃ a c, w.cell? ⟨br, p * 3, none⟩ = some .nilIface ∧ w.cell? ⟨br, p * 3 + 1, none⟩ = some (.int .i64 (ns p)) ∧ w.cell? ⟨br, p * 3 + 2, none⟩ = some (.slice a (C p).length c) ∧
    (0 < (C p).length → ∃ g, a = some ⟨g, 0, none⟩ ∧ ∀ j, j < (C p).length → w.cell? ⟨g, j, none⟩ = some (.slice ((C p).getD j default).a ((C p).getD j default).n ((C p).getD j default).c))

/-- the cells of a result -/
def rf (N : Int) (v : Value) (i : Nat) : Value := if i = 0 then .nilIface else if i = 1 then .int .i64 N else v

/-- The world as far as Merge has come: what was there is as it was; the result's own cells are zero. -/
def Base (w wr : World) : Prop := Below w.heap.size w wr ∧ wr.rowIs w.heap.size 38 3 (rf 0 (.slice none 0 0)) ∧ w.heap.size < wr.heap.size

theorem Base.alloc {w wr : World} (h : Base w wr) (o : Obj) : Base w (wr.alloc o) := ⟨h.1.alloc (Nat.le_of_lt h.2.2) o, h.2.1.alloc o, by have := h.2.2; simp; omega⟩
theorem Base.cell {w wr : World} (h : Base w wr) {a : Addr} {v : Value} (ha : w.cell? a = some v) : wr.cell? a = some v := by
  rw [h.1.cell (World.block_lt_of_cell? w _ ha)]; exact ha

theorem cnt_up (ks : List (Int × Hd)) (p k l : Nat) (h : k ≤ l) : cnt ks p k ≤ cnt ks p l := by
  induction l with
  | zero => obtain rfl : k = 0 := by omega
            exact Nat.le_refl _
  | succ l ih =>
    by_cases e : k = l + 1
    · rw [e]; exact Nat.le_refl _
    · have := ih (by omega)
      simp only [cnt]; split <;> omega
theorem cnt_one {ks : List (Int × Hd)} {p k : Nat} (h : kP ks k = (p : Int)) : cnt ks p (k + 1) = cnt ks p k + 1 := by simp [cnt, h]

theorem info3 : (Try.prog.info? 3).map (fun i => (i.zero, i.size, i.bytes)) = some (some (.int .i64 0), 1, 8) := by kernel_rfl
theorem info33 : (Try.prog.info? 33).map (fun i => (i.zero, i.size, i.bytes)) = some (some (.slice none 0 0), 1, 24) := by kernel_rfl

theorem cnt_le (ks : List (Int × Hd)) (p k : Nat) : cnt ks p k ≤ k := by
  induction k with
  | zero => exact Nat.le_refl _
  | succ k ih => simp only [cnt]; split <;> omega

/-- what Merge lays at place j -/
def pick (ks : List (Int × Hd)) (C : Nat → List Hd) (j : Nat) : Hd := (C (kP ks j).toNat).getD (cnt ks (kP ks j).toNat j) default

theorem Base.drewN {w wr : World} (h : Base w wr) (m : Nat) : Base w (wr.drewN m) := ⟨⟨h.1.os, h.1.tape, h.1.output, h.1.size, h.1.block⟩, h.2.1, h.2.2⟩
theorem Base.setCell {w wr : World} (h : Base w wr) {a : Addr} (ha : w.heap.size < a.block) (v : Value) : Base w (wr.setCell a v) :=
  ⟨h.1.setCell (Nat.le_of_lt ha) v, h.2.1.setOther (by omega) v, by have := h.2.2; simpa [World.setCell] using this⟩
/-- The world in Merge's two last loops, k keys done. -/
structure Mid (w : World) (b8 bn bv n : Nat) (ks : List (Int × Hd)) (C : Nat → List Hd) (want : Int) (k : Nat) (wr : World) : Prop where
  base : Base w wr
  hb : w.heap.size < b8
  hbn : b8 < bn
  hbv : bn < bv
  r8 : wr.rowIs b8 38 3 (rf want (.slice (some ⟨bv, 0, none⟩) ks.length ks.length))
  nx : wr.rowIs bn 3 n (fun p => .int .i64 (cnt ks p k))
  vs : ∃ f, wr.rowIs bv 33 ks.length f ∧ ∀ j, j < k → f j = .slice (pick ks C j).a (pick ks C j).n (pick ks C j).c
  le : ∀ p, p < n → cnt ks p k ≤ (C p).length

theorem Mid.start {w wr : World} {n : Nat} {ks : List (Int × Hd)} {C : Nat → List Hd} {want : Int} (h : Base w wr) :
    Mid w wr.heap.size (wr.heap.size + 1) (wr.heap.size + 1 + 1) n ks C want 0 (((wr.alloc (.cells #[.nilIface, .int .i64 want, .slice (some ⟨wr.heap.size + 1 + 1, 0, none⟩) ks.length ks.length] 38)).alloc (.cells (madeCells #[.int .i64 0] n) 3)).alloc (.cells (madeCells #[.slice none 0 0] ks.length) 33)) := by
  have e1 : ∀ o : Obj, (wr.alloc o).heap.size = wr.heap.size + 1 := fun o => by simp
  have e2 : ∀ o o' : Obj, ((wr.alloc o).alloc o').heap.size = wr.heap.size + 1 + 1 := fun o o' => by simp
  refine ⟨((h.alloc _).alloc _).alloc _, h.2.2, by omega, by omega, ?_, ?_, ?_, fun p _ => Nat.zero_le _⟩
  · exact ((World.rowIs_alloc wr #[.nilIface, .int .i64 want, .slice (some ⟨wr.heap.size + 1 + 1, 0, none⟩) ks.length ks.length] 38 (rf want (.slice (some ⟨wr.heap.size + 1 + 1, 0, none⟩) ks.length ks.length)) (fun i hi => by match i, hi with | 0, _ => rfl | 1, _ => rfl | 2, _ => rfl)).alloc _).alloc _
  · have h2 := World.rowIs_made (wr.alloc (.cells #[.nilIface, .int .i64 want, .slice (some ⟨wr.heap.size + 1 + 1, 0, none⟩) ks.length ks.length] 38)) (.int .i64 0) n 3
    rw [e1] at h2
    exact (h2.alloc _).congr (fun i _ => rfl)
  · have h2 := World.rowIs_made ((wr.alloc (.cells #[.nilIface, .int .i64 want, .slice (some ⟨wr.heap.size + 1 + 1, 0, none⟩) ks.length ks.length] 38)).alloc (.cells (madeCells #[.int .i64 0] n) 3)) (.slice none 0 0) ks.length 33
    rw [e2] at h2
    exact ⟨_, h2, fun j hj => by omega⟩

theorem Mid.start' {w wr : World} {b8 n : Nat} {ks : List (Int × Hd)} {C : Nat → List Hd} {want : Int} (h : Base w wr) (h8 : wr.rowIs b8 38 3 (rf want (.slice none 0 0))) (hb8 : w.heap.size < b8) :
    Mid w b8 wr.heap.size (wr.heap.size + 1) n ks C want 0 (((wr.setCell ⟨b8, 2, none⟩ (.slice (some ⟨wr.heap.size + 1, 0, none⟩) ks.length ks.length)).alloc (.cells (madeCells #[.int .i64 0] n) 3)).alloc (.cells (madeCells #[.slice none 0 0] ks.length) 33)) := by
  have e0 : ∀ v : Value, (wr.setCell ⟨b8, 2, none⟩ v).heap.size = wr.heap.size := fun v => by simp [World.setCell]
  have e1 : ∀ (v : Value) (o : Obj), ((wr.setCell ⟨b8, 2, none⟩ v).alloc o).heap.size = wr.heap.size + 1 := fun v o => by simp [World.setCell]
  have hlt := h8.lt
  refine ⟨((h.setCell (a := ⟨b8, 2, none⟩) hb8 _).alloc _).alloc _, hb8, hlt, by omega, ?_, ?_, ?_, fun p _ => Nat.zero_le _⟩
  · refine (((h8.set 2 _).alloc _).alloc _).congr (fun i hi => ?_)
    match i, hi with | 0, _ => rfl | 1, _ => rfl | 2, _ => rfl
  · have h2 := World.rowIs_made (wr.setCell ⟨b8, 2, none⟩ (.slice (some ⟨wr.heap.size + 1, 0, none⟩) ks.length ks.length)) (.int .i64 0) n 3
    rw [e0] at h2
    exact (h2.alloc _).congr (fun i _ => rfl)
  · have h2 := World.rowIs_made ((wr.setCell ⟨b8, 2, none⟩ (.slice (some ⟨wr.heap.size + 1, 0, none⟩) ks.length ks.length)).alloc (.cells (madeCells #[.int .i64 0] n) 3)) (.slice none 0 0) ks.length 33
    rw [e1] at h2
    exact ⟨_, h2, fun j hj => by omega⟩

theorem Mid.alloc {w wr : World} {b8 bn bv n : Nat} {ks : List (Int × Hd)} {C : Nat → List Hd} {want : Int} {k : Nat} (h : Mid w b8 bn bv n ks C want k wr) (o : Obj) : Mid w b8 bn bv n ks C want k (wr.alloc o) := by
  obtain ⟨f, h1, h2⟩ := h.vs
  exact ⟨h.base.alloc o, h.hb, h.hbn, h.hbv, h.r8.alloc o, h.nx.alloc o, ⟨f, h1.alloc o, h2⟩, h.le⟩

theorem Mid.drewN {w wr : World} {b8 bn bv n : Nat} {ks : List (Int × Hd)} {C : Nat → List Hd} {want : Int} {k : Nat} (h : Mid w b8 bn bv n ks C want k wr) (m : Nat) : Mid w b8 bn bv n ks C want k (wr.drewN m) := by
  obtain ⟨f, h1, h2⟩ := h.vs
  exact ⟨h.base.drewN m, h.hb, h.hbn, h.hbv, h.r8, h.nx, ⟨f, h1, h2⟩, h.le⟩

theorem Mid.step {w wr : World} {b8 bn bv n : Nat} {ks : List (Int × Hd)} {C : Nat → List Hd} {want : Int} {k p : Nat} {u : Hd} (h : Mid w b8 bn bv n ks C want k wr) (hp : kP ks k = (p : Int)) (_hk : k < ks.length) (hlt : cnt ks p k < (C p).length) (hu : u = (C p).getD (cnt ks p k) default) {x : Int} (hx : x = ((cnt ks p k + 1 : Nat) : Int)) :
    Mid w b8 bn bv n ks C want (k + 1) ((wr.setCell ⟨bv, k, none⟩ (.slice u.a u.n u.c)).setCell ⟨bn, p, none⟩ (.int .i64 x)) := by
  obtain ⟨f, h1, h2⟩ := h.vs
  have hb := h.hb
  have hbn := h.hbn
  have hbv := h.hbv
  refine ⟨(h.base.setCell (a := ⟨bv, k, none⟩) (by show _ < bv; omega) _).setCell (a := ⟨bn, p, none⟩) (by show _ < bn; omega) _, hb, hbn, hbv, ?_, ?_, ?_, ?_⟩
  · exact (h.r8.setOther (a := ⟨bv, k, none⟩) (by show b8 ≠ bv; omega) _).setOther (a := ⟨bn, p, none⟩) (by show b8 ≠ bn; omega) _
  · refine ((h.nx.setOther (a := ⟨bv, k, none⟩) (by show bn ≠ bv; omega) _).set p (.int .i64 x)).congr (fun q _ => ?_)
    by_cases e : q = p
    · subst e; simp [cnt, hp, hx]
    · have : ¬ kP ks k = (q : Int) := by omega
      simp [cnt, this, e]
  · refine ⟨_, (h1.set k (.slice u.a u.n u.c)).setOther (a := ⟨bn, p, none⟩) (by show bv ≠ bn; omega) _, fun j hj => ?_⟩
    by_cases e : j = k
    · subst e
      have : pick ks C j = u := by simp [pick, hp, hu]
      simp [this]
    · simp only [e, if_false]; exact h2 j (by omega)
  · intro q hq
    have := h.le q hq
    by_cases e : q = p
    · subst e; simp only [cnt, hp, if_pos]; omega
    · have e2 : ¬ kP ks k = (q : Int) := by omega
      simp only [cnt, e2, if_false]; exact this

/-- What Merge answers. -/
structure MOut (w : World) (n : Nat) (ks : List (Int × Hd)) (C : Nat → List Hd) (want : Int) (e : Ending) (w' : World) : Prop where
  below : Below w.heap.size w w'
  yes : (∀ p, p < n → cnt ks p ks.length = (C p).length) → ∃ V, e = .returned (.tuple #[.agg #[.nilIface, .int .i64 want, .slice (some ⟨V, 0, none⟩) ks.length ks.length], .bool true]) ∧ w.heap.size ≤ V ∧ ∀ j, j < ks.length → w'.cell? ⟨V, j, none⟩ = some (.slice (pick ks C j).a (pick ks C j).n (pick ks C j).c)
  no : (∃ p, p < n ∧ cnt ks p ks.length ≠ (C p).length) → e = .returned (.tuple #[zeroR, .bool false])

theorem mout_no {w w' : World} {n : Nat} {ks : List (Int × Hd)} {C : Nat → List Hd} {want : Int} (hb : Below w.heap.size w w') (h : ∃ p, p < n ∧ cnt ks p ks.length ≠ (C p).length) : MOut w n ks C want (.returned (.tuple #[zeroR, .bool false])) w' :=
  ⟨hb, fun hy => by obtain ⟨p, hp, hne⟩ := h; exact absurd (hy p hp) hne, fun _ => rfl⟩

theorem mout_yes {w wr : World} {b8 bn bv n : Nat} {ks : List (Int × Hd)} {C : Nat → List Hd} {want : Int} (h : Mid w b8 bn bv n ks C want ks.length wr) (hy : ∀ p, p < n → cnt ks p ks.length = (C p).length) {v0 v1 v2 : Value} :
    MOut w n ks C want (.returned (.tuple #[.agg #[.nilIface, .int .i64 want, .slice (some ⟨bv, 0, none⟩) ks.length ks.length], .bool true])) (((wr.setCell ⟨w.heap.size, 0, none⟩ v0).setCell ⟨w.heap.size, 1, none⟩ v1).setCell ⟨w.heap.size, 2, none⟩ v2) := by
  have hb := h.hb
  have hbn := h.hbn
  have hbv := h.hbv
  refine ⟨((h.base.1.setCell (p := ⟨w.heap.size, 0, none⟩) (Nat.le_refl _) _).setCell (p := ⟨w.heap.size, 1, none⟩) (Nat.le_refl _) _).setCell (p := ⟨w.heap.size, 2, none⟩) (Nat.le_refl _) _, fun _ => ⟨bv, rfl, by omega, fun j hj => ?_⟩, fun ⟨p, hp, hne⟩ => absurd (hy p hp) hne⟩
  obtain ⟨f, h1, h2⟩ := h.vs
  have h3 := ((h1.setOther (a := ⟨w.heap.size, 0, none⟩) (by show bv ≠ w.heap.size; omega) v0).setOther (a := ⟨w.heap.size, 1, none⟩) (by show bv ≠ w.heap.size; omega) v1).setOther (a := ⟨w.heap.size, 2, none⟩) (by show bv ≠ w.heap.size; omega) v2
  rw [h3.cell hj, h2 j hj]

set_option maxHeartbeats 4000000 in
set_option maxRecDepth 100000 in
theorem merge_other (w : World) (S bs bi br n : Nat) (kind : Int) (ks : List (Int × Hd)) (ns : Nat → Int) (C : Nat → List Hd) (hm : MIn w S bs bi br n kind ks ns C) (hn0 : 0 < n) (hn : n ≤ 4096) (hN : ks.length ≤ 4096) (hP : ∀ i, i < ks.length → 0 ≤ kP ks i ∧ kP ks i < n) (h5 : ¬ kind = 5) (h6 : ¬ kind = 6) (want : Int) (hwant : ns 0 = want) :
    Calls Try.prog 11 #[.pointer (some ⟨S, 0, none⟩), .slice (some ⟨br, 0, none⟩) n n] w fun e w' => MOut w n ks C want e w' := by
  have b5 : (kind == 5) = false := by simp [h5]
  have b6 : (kind == 6) = false := by simp [h6]
  obtain ⟨s0, s2, s3, s4, hidx, hres⟩ := hm
  have HI : Hid (∀ i, i < ks.length → w.cell? ⟨bi, i, none⟩ = some (.int .i64 (kP ks i))) := hidx
  have HRS : Hid (∀ p, p < n → ∃ a c, w.cell? ⟨br, p * 3, none⟩ = some .nilIface ∧ w.cell? ⟨br, p * 3 + 1, none⟩ = some (.int .i64 (ns p)) ∧ w.cell? ⟨br, p * 3 + 2, none⟩ = some (.slice a (C p).length c) ∧
    (0 < (C p).length → ∃ g, a = some ⟨g, 0, none⟩ ∧ ∀ j, j < (C p).length → w.cell? ⟨g, j, none⟩ = some (.slice ((C p).getD j default).a ((C p).getD j default).n ((C p).getD j default).c))) := hres
  have hnn : ((n : Int) != (n : Int)) = false := by simp
  have hS : S < w.heap.size := World.block_lt_of_cell? w _ s0
  have hbr : br < w.heap.size := by obtain ⟨a, c, h, _⟩ := hres 0 hn0; exact World.block_lt_of_cell? w _ h
  have hmk3 := run_make_row' (P := Try.prog) 30 3 (.int .i64 0) 8 Try.underlying30 info3 rfl .i64 .i64 n (by omega) (by omega)
  have hmk33 := run_make_row' (P := Try.prog) 32 33 (.slice none 0 0) 24 Try.underlying32 info33 rfl .i64 .i64 ks.length (by omega) (by omega)
  have HP : Hid (∀ i, i < ks.length → 0 ≤ kP ks i ∧ kP ks i < n) := hP
  have HW : Hid (ns 0 = want) := hwant
  clear hidx hres h5 h6 hP hwant
  go_enter Try.func11, Try.ntmps11
  go_wp2_with fail
  go_loopw [7, 27] (fun r i wr => ∃ k : Nat, k ≤ n ∧ i = .int .i64 k ∧ Hid (Base w wr)) (fun _ i _ => n - (intOf i).toNat)
  case atStart =>
    refine ⟨0, Nat.zero_le _, rfl, (Below.refl _ _).alloc (Nat.le_refl _) _, ?_, by simp⟩
    exact World.rowIs_alloc _ _ _ _ (fun i hi => by match i, hi with | 0, _ => rfl | 1, _ => rfl | 2, _ => rfl)
  case round =>
    obtain ⟨k, hk, rfl, hB⟩ := hrel
    by_cases hlt : k < n
    · obtain ⟨a, c, r0, r1, r2, hr3⟩ := HRS.out k hlt
      have k0 := hB.out.cell r0
      have k1 := hB.out.cell r1
      have k2 := hB.out.cell r2
      have b2 : (k : Int) < (n : Int) := by omega
      generalize (C k).length = cl at *
      generalize ns k = nk at *
      clear r0 r1 r2 hr3 s0 s2 s3 s4 hmk3 hmk33
      go_wp2_with fail
      go_roundw
      case rel => exact ⟨k + 1, by omega, by go_num, hB.out.alloc _⟩
      case measure => simp [intOf]; omega
    · obtain rfl : n = k := by omega
      obtain ⟨a, c, r0, r1, r2, hr3⟩ := HRS.out 0 hn0
      have k1 : wr.cell? ⟨br, 1, none⟩ = some (.int .i64 want) := by rw [← HW.out]; exact hB.out.cell (by simpa using r1)
      have t2 := hB.out.cell s2
      have t3 := hB.out.cell s3
      have t4 := hB.out.cell s4
      have hSr : S < wr.heap.size := Nat.lt_trans hS hB.out.2.2
      have hBL : w.heap.size < wr.heap.size := hB.out.2.2
      have hS1 : S < wr.heap.size + 1 := by omega
      have hS2 : S < wr.heap.size + 1 + 1 := by omega
      clear r0 r1 r2 hr3 s0 s2 s3 s4
      go_wp2_with fail
      have hmid : Mid w wr.heap.size (wr.heap.size + 1) (wr.heap.size + 1 + 1) n ks C want 0 _ := Mid.start hB.out
      obtain ⟨b8, hb8e⟩ : ∃ b8, b8 = wr.heap.size := ⟨_, rfl⟩
      obtain ⟨bn, hbne⟩ : ∃ bn, bn = wr.heap.size + 1 := ⟨_, rfl⟩
      obtain ⟨bv, hbve⟩ : ∃ bv, bv = wr.heap.size + 1 + 1 := ⟨_, rfl⟩
      rw [← hbve, ← hbne, ← hb8e] at hmid
      rw [← hbve, ← hbne, ← hb8e]
      clear hbve hbne hb8e
      go_loopw [5, 12, 13, 90] (fun q a b i wr => ∃ k : Nat, k ≤ ks.length ∧ i = .int .i64 k ∧ Hid (Mid w b8 bn bv n ks C want k wr)) (fun _ _ _ i _ => ks.length - (intOf i).toNat)
      case atStart => exact ⟨0, Nat.zero_le _, rfl, hmid⟩
      case round =>
        clear hmid t2 t3 t4 k1 hB hSr hBL hS1 hS2 hmk3 hmk33
        obtain ⟨k, hk, rfl, hM⟩ := hrel
        have hb8 : w.heap.size < b8 := hM.out.hb
        have hbn : b8 < bn := hM.out.hbn
        have hbv : bn < bv := hM.out.hbv
        have hbn1 : w.heap.size < bn := by omega
        have hbv1 : w.heap.size < bv := by omega
        have hne1 : ¬ bn = bv := by omega
        have hne2 : ¬ bv = bn := by omega
        by_cases hlt : k < ks.length
        · have hpp := HP.out k hlt
          obtain ⟨p, hp⟩ : ∃ p : Nat, kP ks k = (p : Int) := ⟨(kP ks k).toNat, by omega⟩
          have hpn : p < n := by omega
          have hpi : (p : Int) < (n : Int) := by omega
          have hki : (k : Int) < (ks.length : Int) := by omega
          have i0 : wr.cell? ⟨bi, k, none⟩ = some (.int .i64 (p : Int)) := by rw [← hp]; exact hM.out.base.cell (HI.out k hlt)
          obtain ⟨ra, rc, _, _, r2, hr3⟩ := HRS.out p hpn
          have r2' := hM.out.base.cell r2
          have n0 := hM.out.nx.cell hpn
          have n1 := hM.out.nx.frozen p
          have HPK : Hid (kP ks k = (p : Int)) := hp
          obtain ⟨cc, hcc⟩ : ∃ cc, cc = cnt ks p k := ⟨_, rfl⟩
          have hcl := hM.out.le p hpn
          rw [← hcc] at n0 hcl
          have HCC : Hid (cc = cnt ks p k) := hcc
          have HR3 : Hid (0 < (C p).length → ∃ g, ra = some ⟨g, 0, none⟩ ∧ ∀ j, j < (C p).length → w.cell? ⟨g, j, none⟩ = some (.slice ((C p).getD j default).a ((C p).getD j default).n ((C p).getD j default).c)) := hr3
          clear hr3 hp hcc r2 hpp
          obtain ⟨cl, hcle⟩ : ∃ cl, cl = (C p).length := ⟨_, rfl⟩
          rw [← hcle] at r2' hcl
          have HCL : Hid (cl = (C p).length) := hcle
          clear hcle
          by_cases heq : cc = cl
          · have hbq : ((cc : Int) == (cl : Int)) = true := by simp [heq]
            have heq0 : Hid (cc = cl) := heq
            clear heq
            have z0 : wr.cell? ⟨w.heap.size, 0, none⟩ = some .nilIface := hM.out.base.2.1.cell (i := 0) (by omega)
            have z1 : wr.cell? ⟨w.heap.size, 1, none⟩ = some (.int .i64 0) := hM.out.base.2.1.cell (i := 1) (by omega)
            have z2 : wr.cell? ⟨w.heap.size, 2, none⟩ = some (.slice none 0 0) := hM.out.base.2.1.cell (i := 2) (by omega)
            have y0 := hM.out.base.2.1.frozen 0
            have y1 := hM.out.base.2.1.frozen 1
            have y2 := hM.out.base.2.1.frozen 2
            go_wp2_with fail
            go_quiet (fail)
            go_wp2_with fail
            (try simp only [Exit.inBlock, Exit.then])
            refine bodyPost_ret (v := .tuple #[zeroR, .bool false]) ?_ rfl ?_
            · rw [results_cell_tmp rfl, zeroR]
              go_simp
            · exact mout_no ((((hM.out.base.drewN nq).1.setCell (p := ⟨w.heap.size, 0, none⟩) (Nat.le_refl _) _).setCell (p := ⟨w.heap.size, 1, none⟩) (Nat.le_refl _) _).setCell (p := ⟨w.heap.size, 2, none⟩) (Nat.le_refl _) _) ⟨p, hpn, by
                have h1 := cnt_up ks p (k + 1) ks.length (by omega)
                have h2 := cnt_one HPK.out
                have := HCC.out
                have := HCL.out
                have := heq0.out
                omega⟩
          · have hbq : ((cc : Int) == (cl : Int)) = false := by simp; omega
            have hci : (cc : Int) < (cl : Int) := by omega
            have h0c : 0 < (C p).length := by rw [← HCL.out]; omega
            obtain ⟨g, rfl, hg⟩ := HR3.out h0c
            obtain ⟨u, hu⟩ : ∃ u, u = (C p).getD cc default := ⟨_, rfl⟩
            have g0 : wr.cell? ⟨g, cc, none⟩ = some (.slice u.a u.n u.c) := by rw [hu]; exact hM.out.base.cell (hg cc (by rw [← HCL.out]; omega))
            have HU : Hid (u = (C p).getD cc default) := hu
            have v8 : wr.cell? ⟨b8, 2, none⟩ = some (.slice (some ⟨bv, 0, none⟩) ks.length ks.length) := hM.out.r8.cell (i := 2) (by omega)
            obtain ⟨f, hf, _⟩ := hM.out.vs
            have f0 := hf.cell hlt
            have f1 := hf.frozen k
            have hcb : cc < 4611686018427387904 := by
              have := cnt_le ks p k
              have := HCC.out
              omega
            clear hu hg hf h0c HR3 heq
            go_wp2_with fail
            go_quiet (fail)
            go_wp2_with fail
            go_region
            go_wp2_with fail
            go_roundw
            case rel => exact ⟨k + 1, by omega, by go_num, (hM.out.drewN _).step HPK.out hlt (by rw [← HCC.out, ← HCL.out]; omega) (by rw [← HCC.out]; exact HU.out) (by rw [← HCC.out]; omega)⟩
            case measure => simp [intOf]; omega
        · obtain rfl : ks.length = k := by omega
          go_wp2_with fail
          go_loopw [5, 14, 15, 131] (fun q a b i wr => ∃ p : Nat, p ≤ n ∧ i = .int .i64 p ∧ Hid (Mid w b8 bn bv n ks C want ks.length wr) ∧ Hid (∀ q, q < p → cnt ks q ks.length = (C q).length)) (fun _ _ _ i _ => n - (intOf i).toNat)
          case atStart => exact ⟨0, Nat.zero_le _, rfl, hM, fun q hq => by omega⟩
          case round =>
            clear hM
            obtain ⟨p, hp, rfl, hM, hA⟩ := hrel
            have hBL : w.heap.size < wr.heap.size := hM.out.base.2.2
            have hnl : bn < wr.heap.size := hM.out.nx.lt
            have z0 : wr.cell? ⟨w.heap.size, 0, none⟩ = some .nilIface := hM.out.base.2.1.cell (i := 0) (by omega)
            have z1 : wr.cell? ⟨w.heap.size, 1, none⟩ = some (.int .i64 0) := hM.out.base.2.1.cell (i := 1) (by omega)
            have z2 : wr.cell? ⟨w.heap.size, 2, none⟩ = some (.slice none 0 0) := hM.out.base.2.1.cell (i := 2) (by omega)
            have y0 := hM.out.base.2.1.frozen 0
            have y1 := hM.out.base.2.1.frozen 1
            have y2 := hM.out.base.2.1.frozen 2
            by_cases hpn : p < n
            · have hpi : (p : Int) < (n : Int) := by omega
              obtain ⟨ra, rc, r0, r1, r2, hr3⟩ := HRS.out p hpn
              have k0 := hM.out.base.cell r0
              have k1 := hM.out.base.cell r1
              have k2 := hM.out.base.cell r2
              have n0 := hM.out.nx.cell hpn
              obtain ⟨cc, hcc⟩ : ∃ cc, cc = cnt ks p ks.length := ⟨_, rfl⟩
              obtain ⟨cl, hcl⟩ : ∃ cl, cl = (C p).length := ⟨_, rfl⟩
              rw [← hcc] at n0
              rw [← hcl] at k2
              have HCC : Hid (cc = cnt ks p ks.length) := hcc
              have HCL : Hid (cl = (C p).length) := hcl
              generalize ns p = np at *
              clear r0 r1 r2 hr3 hcc hcl
              by_cases heq : cc = cl
              · have hbq : ((cc : Int) != (cl : Int)) = false := by simp [heq]
                have heq0 : Hid (cc = cl) := heq
                clear heq
                go_wp2_with fail
                go_quiet (fail)
                go_wp2_with fail
                go_roundw
                case rel =>
                  refine ⟨p + 1, by omega, by go_num, (hM.out.alloc _).drewN _, fun q hq => ?_⟩
                  by_cases e : q = p
                  · rw [e, ← HCC.out, ← HCL.out]; exact heq0.out
                  · exact hA.out q (by omega)
                case measure => simp [intOf]; omega
              · have hbq : ((cc : Int) != (cl : Int)) = true := by simp; omega
                go_wp2_with fail
                go_quiet (fail)
                go_wp2_with fail
                (try simp only [Exit.inBlock, Exit.then])
                refine bodyPost_ret (v := .tuple #[zeroR, .bool false]) ?_ rfl ?_
                · rw [results_cell_tmp rfl, zeroR]
                  go_simp
                · exact mout_no (((((hM.out.alloc _).drewN nq).base.1.setCell (p := ⟨w.heap.size, 0, none⟩) (Nat.le_refl _) _).setCell (p := ⟨w.heap.size, 1, none⟩) (Nat.le_refl _) _).setCell (p := ⟨w.heap.size, 2, none⟩) (Nat.le_refl _) _) ⟨p, hpn, by rw [← HCC.out, ← HCL.out]; exact heq⟩
            · obtain rfl : n = p := by omega
              have x0 : wr.cell? ⟨b8, 0, none⟩ = some .nilIface := hM.out.r8.cell (i := 0) (by omega)
              have x1 : wr.cell? ⟨b8, 1, none⟩ = some (.int .i64 want) := hM.out.r8.cell (i := 1) (by omega)
              have x2 : wr.cell? ⟨b8, 2, none⟩ = some (.slice (some ⟨bv, 0, none⟩) ks.length ks.length) := hM.out.r8.cell (i := 2) (by omega)
              go_wp2_with fail
              (try simp only [Exit.inBlock, Exit.then])
              refine bodyPost_ret (v := .tuple #[.agg #[.nilIface, .int .i64 want, .slice (some ⟨bv, 0, none⟩) ks.length ks.length], .bool true]) ?_ rfl ?_
              · rw [results_cell_tmp rfl]
                go_simp
              · exact mout_yes hM.out hA.out

set_option maxHeartbeats 4000000 in
set_option maxRecDepth 100000 in
theorem merge_5 (w : World) (S bs bi br n : Nat) (ks : List (Int × Hd)) (ns : Nat → Int) (C : Nat → List Hd) (hm : MIn w S bs bi br n 5 ks ns C) (hn0 : 0 < n) (hn : n ≤ 4096) (hN : ks.length ≤ 4096) (hP : ∀ i, i < ks.length → 0 ≤ kP ks i ∧ kP ks i < n) (want : Int) (hwant : wsum ns n = want) :
    Calls Try.prog 11 #[.pointer (some ⟨S, 0, none⟩), .slice (some ⟨br, 0, none⟩) n n] w fun e w' => MOut w n ks C want e w' := by
  obtain ⟨s0, s2, s3, s4, hidx, hres⟩ := hm
  have HI : Hid (∀ i, i < ks.length → w.cell? ⟨bi, i, none⟩ = some (.int .i64 (kP ks i))) := hidx
  have HRS : Hid (∀ p, p < n → ∃ a c, w.cell? ⟨br, p * 3, none⟩ = some .nilIface ∧ w.cell? ⟨br, p * 3 + 1, none⟩ = some (.int .i64 (ns p)) ∧ w.cell? ⟨br, p * 3 + 2, none⟩ = some (.slice a (C p).length c) ∧
    (0 < (C p).length → ∃ g, a = some ⟨g, 0, none⟩ ∧ ∀ j, j < (C p).length → w.cell? ⟨g, j, none⟩ = some (.slice ((C p).getD j default).a ((C p).getD j default).n ((C p).getD j default).c))) := hres
  have hnn : ((n : Int) != (n : Int)) = false := by simp
  have hS : S < w.heap.size := World.block_lt_of_cell? w _ s0
  have hbr : br < w.heap.size := by obtain ⟨a, c, h, _⟩ := hres 0 hn0; exact World.block_lt_of_cell? w _ h
  have hmk3 := run_make_row' (P := Try.prog) 30 3 (.int .i64 0) 8 Try.underlying30 info3 rfl .i64 .i64 n (by omega) (by omega)
  have hmk33 := run_make_row' (P := Try.prog) 32 33 (.slice none 0 0) 24 Try.underlying32 info33 rfl .i64 .i64 ks.length (by omega) (by omega)
  have HP : Hid (∀ i, i < ks.length → 0 ≤ kP ks i ∧ kP ks i < n) := hP
  have HW : Hid (wsum ns n = want) := hwant
  clear hidx hres hP hwant
  go_enter Try.func11, Try.ntmps11
  go_wp2_with fail
  go_loopw [7, 27] (fun r i wr => ∃ k : Nat, k ≤ n ∧ i = .int .i64 k ∧ Hid (Base w wr)) (fun _ i _ => n - (intOf i).toNat)
  case atStart =>
    refine ⟨0, Nat.zero_le _, rfl, (Below.refl _ _).alloc (Nat.le_refl _) _, ?_, by simp⟩
    exact World.rowIs_alloc _ _ _ _ (fun i hi => by match i, hi with | 0, _ => rfl | 1, _ => rfl | 2, _ => rfl)
  case round =>
    obtain ⟨k, hk, rfl, hB⟩ := hrel
    by_cases hlt : k < n
    · obtain ⟨a, c, r0, r1, r2, hr3⟩ := HRS.out k hlt
      have k0 := hB.out.cell r0
      have k1 := hB.out.cell r1
      have k2 := hB.out.cell r2
      have b2 : (k : Int) < (n : Int) := by omega
      generalize (C k).length = cl at *
      generalize ns k = nk at *
      clear r0 r1 r2 hr3 s0 s2 s3 s4 hmk3 hmk33
      go_wp2_with fail
      go_roundw
      case rel => exact ⟨k + 1, by omega, by go_num, hB.out.alloc _⟩
      case measure => simp [intOf]; omega
    · obtain rfl : n = k := by omega
      obtain ⟨a, c, r0, r1, r2, hr3⟩ := HRS.out 0 hn0
      have k1 : wr.cell? ⟨br, 1, none⟩ = some (.int .i64 (ns 0)) := hB.out.cell (by simpa using r1)
      generalize ns 0 = n00 at k1
      have t2 := hB.out.cell s2
      have hSr : S < wr.heap.size := Nat.lt_trans hS hB.out.2.2
      have hBL : w.heap.size < wr.heap.size := hB.out.2.2
      clear r0 r1 r2 hr3 s0 s2
      go_wp2_with fail
      have hstart : Base w (wr.alloc (.cells #[.nilIface, .int .i64 0, .slice none 0 0] 38)) ∧ (wr.alloc (.cells #[.nilIface, .int .i64 0, .slice none 0 0] 38)).rowIs wr.heap.size 38 3 (rf (wsum ns 0) (.slice none 0 0)) := ⟨hB.out.alloc _, World.rowIs_alloc _ _ _ _ (fun i hi => by match i, hi with | 0, _ => rfl | 1, _ => rfl | 2, _ => rfl)⟩
      obtain ⟨b8, hb8e⟩ : ∃ b8, b8 = wr.heap.size := ⟨_, rfl⟩
      rw [← hb8e] at hstart hBL
      rw [← hb8e]
      clear hb8e
      go_loopw [10, 58] (fun r i wr => ∃ k : Nat, k ≤ n ∧ i = .int .i64 k ∧ Hid (Base w wr) ∧ Hid (wr.rowIs b8 38 3 (rf (wsum ns k) (.slice none 0 0)))) (fun _ i _ => n - (intOf i).toNat)
      case atStart => exact ⟨0, Nat.zero_le _, rfl, hstart.1, hstart.2⟩
      case round =>
        clear hstart t2 k1 hSr hB hk hlt
        obtain ⟨k, hk, rfl, hB, h8⟩ := hrel
        have h8l : b8 < wr.heap.size := h8.out.lt
        by_cases hlt : k < n
        · obtain ⟨a, c, r0, r1, r2, hr3⟩ := HRS.out k hlt
          have k0 := hB.out.cell r0
          have k1 := hB.out.cell r1
          have k2 := hB.out.cell r2
          have b2 : (k : Int) < (n : Int) := by omega
          have x1 : wr.cell? ⟨b8, 1, none⟩ = some (.int .i64 (wsum ns k)) := h8.out.cell (i := 1) (by omega)
          have y1 := h8.out.frozen 1
          obtain ⟨sk, hsk⟩ : ∃ sk, sk = wsum ns k := ⟨_, rfl⟩
          obtain ⟨nk, hnk⟩ : ∃ nk, nk = ns k := ⟨_, rfl⟩
          rw [← hsk] at x1
          rw [← hnk] at k1
          have HSK : Hid (sk = wsum ns k) := hsk
          have HNK : Hid (nk = ns k) := hnk
          generalize (C k).length = cl at *
          clear r0 r1 r2 hr3 s3 s4 hmk3 hmk33 hsk hnk
          go_wp2_with fail
          go_roundw
          case rel =>
            refine ⟨k + 1, by omega, by go_num, (hB.out.setCell (a := ⟨b8, 1, none⟩) hBL _).alloc _, ?_⟩
            refine ((h8.out.set 1 _).alloc _).congr (fun i hi => ?_)
            match i, hi with
            | 0, _ => rfl
            | 1, _ => simp [rf, wsum, HSK.out, HNK.out]
            | 2, _ => rfl
          case measure => simp [intOf]; omega
        · obtain rfl : n = k := by omega
          have t3 := hB.out.cell s3
          have t4 := hB.out.cell s4
          have hSr : S < wr.heap.size := Nat.lt_trans hS hB.out.2.2
          have hS1 : S < wr.heap.size + 1 := by omega
          have h81 : b8 < wr.heap.size + 1 := by omega
          have x2 : wr.cell? ⟨b8, 2, none⟩ = some (.slice none 0 0) := h8.out.cell (i := 2) (by omega)
          have y2 := h8.out.frozen 2
          have hSb : ¬ S = b8 := by omega
          have h8' : Hid (wr.rowIs b8 38 3 (rf want (.slice none 0 0))) := by rw [← HW.out]; exact h8.out
          clear s3 s4 h8
          go_wp2_with fail
          have hmid : Mid w b8 wr.heap.size (wr.heap.size + 1) n ks C want 0 _ := Mid.start' hB.out h8'.out hBL
          obtain ⟨bn, hbne⟩ : ∃ bn, bn = wr.heap.size := ⟨_, rfl⟩
          obtain ⟨bv, hbve⟩ : ∃ bv, bv = wr.heap.size + 1 := ⟨_, rfl⟩
          rw [← hbve, ← hbne] at hmid
          rw [← hbve, ← hbne]
          clear hbve hbne
          go_loopw [5, 12, 13, 90] (fun q a b i wr => ∃ k : Nat, k ≤ ks.length ∧ i = .int .i64 k ∧ Hid (Mid w b8 bn bv n ks C want k wr)) (fun _ _ _ i _ => ks.length - (intOf i).toNat)
          case atStart => exact ⟨0, Nat.zero_le _, rfl, hmid⟩
          case round =>
            clear hmid t3 t4 hB hSr hBL hS1 h81 x2 y2 hSb h8' h8l hmk3 hmk33
            obtain ⟨k, hk, rfl, hM⟩ := hrel
            have hb8 : w.heap.size < b8 := hM.out.hb
            have hbn : b8 < bn := hM.out.hbn
            have hbv : bn < bv := hM.out.hbv
            have hbn1 : w.heap.size < bn := by omega
            have hbv1 : w.heap.size < bv := by omega
            have hne1 : ¬ bn = bv := by omega
            have hne2 : ¬ bv = bn := by omega
            by_cases hlt : k < ks.length
            · have hpp := HP.out k hlt
              obtain ⟨p, hp⟩ : ∃ p : Nat, kP ks k = (p : Int) := ⟨(kP ks k).toNat, by omega⟩
              have hpn : p < n := by omega
              have hpi : (p : Int) < (n : Int) := by omega
              have hki : (k : Int) < (ks.length : Int) := by omega
              have i0 : wr.cell? ⟨bi, k, none⟩ = some (.int .i64 (p : Int)) := by rw [← hp]; exact hM.out.base.cell (HI.out k hlt)
              obtain ⟨ra, rc, _, _, r2, hr3⟩ := HRS.out p hpn
              have r2' := hM.out.base.cell r2
              have n0 := hM.out.nx.cell hpn
              have n1 := hM.out.nx.frozen p
              have HPK : Hid (kP ks k = (p : Int)) := hp
              obtain ⟨cc, hcc⟩ : ∃ cc, cc = cnt ks p k := ⟨_, rfl⟩
              have hcl := hM.out.le p hpn
              rw [← hcc] at n0 hcl
              have HCC : Hid (cc = cnt ks p k) := hcc
              have HR3 : Hid (0 < (C p).length → ∃ g, ra = some ⟨g, 0, none⟩ ∧ ∀ j, j < (C p).length → w.cell? ⟨g, j, none⟩ = some (.slice ((C p).getD j default).a ((C p).getD j default).n ((C p).getD j default).c)) := hr3
              clear hr3 hp hcc r2 hpp
              obtain ⟨cl, hcle⟩ : ∃ cl, cl = (C p).length := ⟨_, rfl⟩
              rw [← hcle] at r2' hcl
              have HCL : Hid (cl = (C p).length) := hcle
              clear hcle
              by_cases heq : cc = cl
              · have hbq : ((cc : Int) == (cl : Int)) = true := by simp [heq]
                have heq0 : Hid (cc = cl) := heq
                clear heq
                have z0 : wr.cell? ⟨w.heap.size, 0, none⟩ = some .nilIface := hM.out.base.2.1.cell (i := 0) (by omega)
                have z1 : wr.cell? ⟨w.heap.size, 1, none⟩ = some (.int .i64 0) := hM.out.base.2.1.cell (i := 1) (by omega)
                have z2 : wr.cell? ⟨w.heap.size, 2, none⟩ = some (.slice none 0 0) := hM.out.base.2.1.cell (i := 2) (by omega)
                have y0 := hM.out.base.2.1.frozen 0
                have y1 := hM.out.base.2.1.frozen 1
                have y2 := hM.out.base.2.1.frozen 2
                go_wp2_with fail
                go_quiet (fail)
                go_wp2_with fail
                (try simp only [Exit.inBlock, Exit.then])
                refine bodyPost_ret (v := .tuple #[zeroR, .bool false]) ?_ rfl ?_
                · rw [results_cell_tmp rfl, zeroR]
                  go_simp
                · exact mout_no ((((hM.out.base.drewN nq).1.setCell (p := ⟨w.heap.size, 0, none⟩) (Nat.le_refl _) _).setCell (p := ⟨w.heap.size, 1, none⟩) (Nat.le_refl _) _).setCell (p := ⟨w.heap.size, 2, none⟩) (Nat.le_refl _) _) ⟨p, hpn, by
                    have h1 := cnt_up ks p (k + 1) ks.length (by omega)
                    have h2 := cnt_one HPK.out
                    have := HCC.out
                    have := HCL.out
                    have := heq0.out
                    omega⟩
              · have hbq : ((cc : Int) == (cl : Int)) = false := by simp; omega
                have hci : (cc : Int) < (cl : Int) := by omega
                have h0c : 0 < (C p).length := by rw [← HCL.out]; omega
                obtain ⟨g, rfl, hg⟩ := HR3.out h0c
                obtain ⟨u, hu⟩ : ∃ u, u = (C p).getD cc default := ⟨_, rfl⟩
                have g0 : wr.cell? ⟨g, cc, none⟩ = some (.slice u.a u.n u.c) := by rw [hu]; exact hM.out.base.cell (hg cc (by rw [← HCL.out]; omega))
                have HU : Hid (u = (C p).getD cc default) := hu
                have v8 : wr.cell? ⟨b8, 2, none⟩ = some (.slice (some ⟨bv, 0, none⟩) ks.length ks.length) := hM.out.r8.cell (i := 2) (by omega)
                obtain ⟨f, hf, _⟩ := hM.out.vs
                have f0 := hf.cell hlt
                have f1 := hf.frozen k
                have hcb : cc < 4611686018427387904 := by
                  have := cnt_le ks p k
                  have := HCC.out
                  omega
                clear hu hg hf h0c HR3 heq
                go_wp2_with fail
                go_quiet (fail)
                go_wp2_with fail
                go_region
                go_wp2_with fail
                go_roundw
                case rel => exact ⟨k + 1, by omega, by go_num, (hM.out.drewN _).step HPK.out hlt (by rw [← HCC.out, ← HCL.out]; omega) (by rw [← HCC.out]; exact HU.out) (by rw [← HCC.out]; omega)⟩
                case measure => simp [intOf]; omega
            · obtain rfl : ks.length = k := by omega
              go_wp2_with fail
              go_loopw [5, 14, 15, 131] (fun q a b i wr => ∃ p : Nat, p ≤ n ∧ i = .int .i64 p ∧ Hid (Mid w b8 bn bv n ks C want ks.length wr) ∧ Hid (∀ q, q < p → cnt ks q ks.length = (C q).length)) (fun _ _ _ i _ => n - (intOf i).toNat)
              case atStart => exact ⟨0, Nat.zero_le _, rfl, hM, fun q hq => by omega⟩
              case round =>
                clear hM
                obtain ⟨p, hp, rfl, hM, hA⟩ := hrel
                have hBL : w.heap.size < wr.heap.size := hM.out.base.2.2
                have hnl : bn < wr.heap.size := hM.out.nx.lt
                have z0 : wr.cell? ⟨w.heap.size, 0, none⟩ = some .nilIface := hM.out.base.2.1.cell (i := 0) (by omega)
                have z1 : wr.cell? ⟨w.heap.size, 1, none⟩ = some (.int .i64 0) := hM.out.base.2.1.cell (i := 1) (by omega)
                have z2 : wr.cell? ⟨w.heap.size, 2, none⟩ = some (.slice none 0 0) := hM.out.base.2.1.cell (i := 2) (by omega)
                have y0 := hM.out.base.2.1.frozen 0
                have y1 := hM.out.base.2.1.frozen 1
                have y2 := hM.out.base.2.1.frozen 2
                by_cases hpn : p < n
                · have hpi : (p : Int) < (n : Int) := by omega
                  obtain ⟨ra, rc, r0, r1, r2, hr3⟩ := HRS.out p hpn
                  have k0 := hM.out.base.cell r0
                  have k1 := hM.out.base.cell r1
                  have k2 := hM.out.base.cell r2
                  have n0 := hM.out.nx.cell hpn
                  obtain ⟨cc, hcc⟩ : ∃ cc, cc = cnt ks p ks.length := ⟨_, rfl⟩
                  obtain ⟨cl, hcl⟩ : ∃ cl, cl = (C p).length := ⟨_, rfl⟩
                  rw [← hcc] at n0
                  rw [← hcl] at k2
                  have HCC : Hid (cc = cnt ks p ks.length) := hcc
                  have HCL : Hid (cl = (C p).length) := hcl
                  generalize ns p = np at *
                  clear r0 r1 r2 hr3 hcc hcl
                  by_cases heq : cc = cl
                  · have hbq : ((cc : Int) != (cl : Int)) = false := by simp [heq]
                    have heq0 : Hid (cc = cl) := heq
                    clear heq
                    go_wp2_with fail
                    go_quiet (fail)
                    go_wp2_with fail
                    go_roundw
                    case rel =>
                      refine ⟨p + 1, by omega, by go_num, (hM.out.alloc _).drewN _, fun q hq => ?_⟩
                      by_cases e : q = p
                      · rw [e, ← HCC.out, ← HCL.out]; exact heq0.out
                      · exact hA.out q (by omega)
                    case measure => simp [intOf]; omega
                  · have hbq : ((cc : Int) != (cl : Int)) = true := by simp; omega
                    go_wp2_with fail
                    go_quiet (fail)
                    go_wp2_with fail
                    (try simp only [Exit.inBlock, Exit.then])
                    refine bodyPost_ret (v := .tuple #[zeroR, .bool false]) ?_ rfl ?_
                    · rw [results_cell_tmp rfl, zeroR]
                      go_simp
                    · exact mout_no (((((hM.out.alloc _).drewN nq).base.1.setCell (p := ⟨w.heap.size, 0, none⟩) (Nat.le_refl _) _).setCell (p := ⟨w.heap.size, 1, none⟩) (Nat.le_refl _) _).setCell (p := ⟨w.heap.size, 2, none⟩) (Nat.le_refl _) _) ⟨p, hpn, by rw [← HCC.out, ← HCL.out]; exact heq⟩
                · obtain rfl : n = p := by omega
                  have x0 : wr.cell? ⟨b8, 0, none⟩ = some .nilIface := hM.out.r8.cell (i := 0) (by omega)
                  have x1 : wr.cell? ⟨b8, 1, none⟩ = some (.int .i64 want) := hM.out.r8.cell (i := 1) (by omega)
                  have x2 : wr.cell? ⟨b8, 2, none⟩ = some (.slice (some ⟨bv, 0, none⟩) ks.length ks.length) := hM.out.r8.cell (i := 2) (by omega)
                  go_wp2_with fail
                  (try simp only [Exit.inBlock, Exit.then])
                  refine bodyPost_ret (v := .tuple #[.agg #[.nilIface, .int .i64 want, .slice (some ⟨bv, 0, none⟩) ks.length ks.length], .bool true]) ?_ rfl ?_
                  · rw [results_cell_tmp rfl]
                    go_simp
                  · exact mout_yes hM.out hA.out

set_option maxHeartbeats 4000000 in
set_option maxRecDepth 100000 in
theorem merge_6 (w : World) (S bs bi br n : Nat) (ks : List (Int × Hd)) (ns : Nat → Int) (C : Nat → List Hd) (hm : MIn w S bs bi br n 6 ks ns C) (hn0 : 0 < n) (hn : n ≤ 4096) (hN : ks.length ≤ 4096) (hP : ∀ i, i < ks.length → 0 ≤ kP ks i ∧ kP ks i < n) (want : Int) (hwant : wsum ns n = want) :
    Calls Try.prog 11 #[.pointer (some ⟨S, 0, none⟩), .slice (some ⟨br, 0, none⟩) n n] w fun e w' => MOut w n ks C want e w' := by
  obtain ⟨s0, s2, s3, s4, hidx, hres⟩ := hm
  have HI : Hid (∀ i, i < ks.length → w.cell? ⟨bi, i, none⟩ = some (.int .i64 (kP ks i))) := hidx
  have HRS : Hid (∀ p, p < n → ∃ a c, w.cell? ⟨br, p * 3, none⟩ = some .nilIface ∧ w.cell? ⟨br, p * 3 + 1, none⟩ = some (.int .i64 (ns p)) ∧ w.cell? ⟨br, p * 3 + 2, none⟩ = some (.slice a (C p).length c) ∧
    (0 < (C p).length → ∃ g, a = some ⟨g, 0, none⟩ ∧ ∀ j, j < (C p).length → w.cell? ⟨g, j, none⟩ = some (.slice ((C p).getD j default).a ((C p).getD j default).n ((C p).getD j default).c))) := hres
  have hnn : ((n : Int) != (n : Int)) = false := by simp
  have hS : S < w.heap.size := World.block_lt_of_cell? w _ s0
  have hbr : br < w.heap.size := by obtain ⟨a, c, h, _⟩ := hres 0 hn0; exact World.block_lt_of_cell? w _ h
  have hmk3 := run_make_row' (P := Try.prog) 30 3 (.int .i64 0) 8 Try.underlying30 info3 rfl .i64 .i64 n (by omega) (by omega)
  have hmk33 := run_make_row' (P := Try.prog) 32 33 (.slice none 0 0) 24 Try.underlying32 info33 rfl .i64 .i64 ks.length (by omega) (by omega)
  have HP : Hid (∀ i, i < ks.length → 0 ≤ kP ks i ∧ kP ks i < n) := hP
  have HW : Hid (wsum ns n = want) := hwant
  clear hidx hres hP hwant
  go_enter Try.func11, Try.ntmps11
  go_wp2_with fail
  go_loopw [7, 27] (fun r i wr => ∃ k : Nat, k ≤ n ∧ i = .int .i64 k ∧ Hid (Base w wr)) (fun _ i _ => n - (intOf i).toNat)
  case atStart =>
    refine ⟨0, Nat.zero_le _, rfl, (Below.refl _ _).alloc (Nat.le_refl _) _, ?_, by simp⟩
    exact World.rowIs_alloc _ _ _ _ (fun i hi => by match i, hi with | 0, _ => rfl | 1, _ => rfl | 2, _ => rfl)
  case round =>
    obtain ⟨k, hk, rfl, hB⟩ := hrel
    by_cases hlt : k < n
    · obtain ⟨a, c, r0, r1, r2, hr3⟩ := HRS.out k hlt
      have k0 := hB.out.cell r0
      have k1 := hB.out.cell r1
      have k2 := hB.out.cell r2
      have b2 : (k : Int) < (n : Int) := by omega
      generalize (C k).length = cl at *
      generalize ns k = nk at *
      clear r0 r1 r2 hr3 s0 s2 s3 s4 hmk3 hmk33
      go_wp2_with fail
      go_roundw
      case rel => exact ⟨k + 1, by omega, by go_num, hB.out.alloc _⟩
      case measure => simp [intOf]; omega
    · obtain rfl : n = k := by omega
      obtain ⟨a, c, r0, r1, r2, hr3⟩ := HRS.out 0 hn0
      have k1 : wr.cell? ⟨br, 1, none⟩ = some (.int .i64 (ns 0)) := hB.out.cell (by simpa using r1)
      generalize ns 0 = n00 at k1
      have t2 := hB.out.cell s2
      have hSr : S < wr.heap.size := Nat.lt_trans hS hB.out.2.2
      have hBL : w.heap.size < wr.heap.size := hB.out.2.2
      clear r0 r1 r2 hr3 s0 s2
      go_wp2_with fail
      have hstart : Base w (wr.alloc (.cells #[.nilIface, .int .i64 0, .slice none 0 0] 38)) ∧ (wr.alloc (.cells #[.nilIface, .int .i64 0, .slice none 0 0] 38)).rowIs wr.heap.size 38 3 (rf (wsum ns 0) (.slice none 0 0)) := ⟨hB.out.alloc _, World.rowIs_alloc _ _ _ _ (fun i hi => by match i, hi with | 0, _ => rfl | 1, _ => rfl | 2, _ => rfl)⟩
      obtain ⟨b8, hb8e⟩ : ∃ b8, b8 = wr.heap.size := ⟨_, rfl⟩
      rw [← hb8e] at hstart hBL
      rw [← hb8e]
      clear hb8e
      go_loopw [10, 58] (fun r i wr => ∃ k : Nat, k ≤ n ∧ i = .int .i64 k ∧ Hid (Base w wr) ∧ Hid (wr.rowIs b8 38 3 (rf (wsum ns k) (.slice none 0 0)))) (fun _ i _ => n - (intOf i).toNat)
      case atStart => exact ⟨0, Nat.zero_le _, rfl, hstart.1, hstart.2⟩
      case round =>
        clear hstart t2 k1 hSr hB hk hlt
        obtain ⟨k, hk, rfl, hB, h8⟩ := hrel
        have h8l : b8 < wr.heap.size := h8.out.lt
        by_cases hlt : k < n
        · obtain ⟨a, c, r0, r1, r2, hr3⟩ := HRS.out k hlt
          have k0 := hB.out.cell r0
          have k1 := hB.out.cell r1
          have k2 := hB.out.cell r2
          have b2 : (k : Int) < (n : Int) := by omega
          have x1 : wr.cell? ⟨b8, 1, none⟩ = some (.int .i64 (wsum ns k)) := h8.out.cell (i := 1) (by omega)
          have y1 := h8.out.frozen 1
          obtain ⟨sk, hsk⟩ : ∃ sk, sk = wsum ns k := ⟨_, rfl⟩
          obtain ⟨nk, hnk⟩ : ∃ nk, nk = ns k := ⟨_, rfl⟩
          rw [← hsk] at x1
          rw [← hnk] at k1
          have HSK : Hid (sk = wsum ns k) := hsk
          have HNK : Hid (nk = ns k) := hnk
          generalize (C k).length = cl at *
          clear r0 r1 r2 hr3 s3 s4 hmk3 hmk33 hsk hnk
          go_wp2_with fail
          go_roundw
          case rel =>
            refine ⟨k + 1, by omega, by go_num, (hB.out.setCell (a := ⟨b8, 1, none⟩) hBL _).alloc _, ?_⟩
            refine ((h8.out.set 1 _).alloc _).congr (fun i hi => ?_)
            match i, hi with
            | 0, _ => rfl
            | 1, _ => simp [rf, wsum, HSK.out, HNK.out]
            | 2, _ => rfl
          case measure => simp [intOf]; omega
        · obtain rfl : n = k := by omega
          have t3 := hB.out.cell s3
          have t4 := hB.out.cell s4
          have hSr : S < wr.heap.size := Nat.lt_trans hS hB.out.2.2
          have hS1 : S < wr.heap.size + 1 := by omega
          have h81 : b8 < wr.heap.size + 1 := by omega
          have x2 : wr.cell? ⟨b8, 2, none⟩ = some (.slice none 0 0) := h8.out.cell (i := 2) (by omega)
          have y2 := h8.out.frozen 2
          have hSb : ¬ S = b8 := by omega
          have h8' : Hid (wr.rowIs b8 38 3 (rf want (.slice none 0 0))) := by rw [← HW.out]; exact h8.out
          clear s3 s4 h8
          go_wp2_with fail
          have hmid : Mid w b8 wr.heap.size (wr.heap.size + 1) n ks C want 0 _ := Mid.start' hB.out h8'.out hBL
          obtain ⟨bn, hbne⟩ : ∃ bn, bn = wr.heap.size := ⟨_, rfl⟩
          obtain ⟨bv, hbve⟩ : ∃ bv, bv = wr.heap.size + 1 := ⟨_, rfl⟩
          rw [← hbve, ← hbne] at hmid
          rw [← hbve, ← hbne]
          clear hbve hbne
          go_loopw [5, 12, 13, 90] (fun q a b i wr => ∃ k : Nat, k ≤ ks.length ∧ i = .int .i64 k ∧ Hid (Mid w b8 bn bv n ks C want k wr)) (fun _ _ _ i _ => ks.length - (intOf i).toNat)
          case atStart => exact ⟨0, Nat.zero_le _, rfl, hmid⟩
          case round =>
            clear hmid t3 t4 hB hSr hBL hS1 h81 x2 y2 hSb h8' h8l hmk3 hmk33
            obtain ⟨k, hk, rfl, hM⟩ := hrel
            have hb8 : w.heap.size < b8 := hM.out.hb
            have hbn : b8 < bn := hM.out.hbn
            have hbv : bn < bv := hM.out.hbv
            have hbn1 : w.heap.size < bn := by omega
            have hbv1 : w.heap.size < bv := by omega
            have hne1 : ¬ bn = bv := by omega
            have hne2 : ¬ bv = bn := by omega
            by_cases hlt : k < ks.length
            · have hpp := HP.out k hlt
              obtain ⟨p, hp⟩ : ∃ p : Nat, kP ks k = (p : Int) := ⟨(kP ks k).toNat, by omega⟩
              have hpn : p < n := by omega
              have hpi : (p : Int) < (n : Int) := by omega
              have hki : (k : Int) < (ks.length : Int) := by omega
              have i0 : wr.cell? ⟨bi, k, none⟩ = some (.int .i64 (p : Int)) := by rw [← hp]; exact hM.out.base.cell (HI.out k hlt)
              obtain ⟨ra, rc, _, _, r2, hr3⟩ := HRS.out p hpn
              have r2' := hM.out.base.cell r2
              have n0 := hM.out.nx.cell hpn
              have n1 := hM.out.nx.frozen p
              have HPK : Hid (kP ks k = (p : Int)) := hp
              obtain ⟨cc, hcc⟩ : ∃ cc, cc = cnt ks p k := ⟨_, rfl⟩
              have hcl := hM.out.le p hpn
              rw [← hcc] at n0 hcl
              have HCC : Hid (cc = cnt ks p k) := hcc
              have HR3 : Hid (0 < (C p).length → ∃ g, ra = some ⟨g, 0, none⟩ ∧ ∀ j, j < (C p).length → w.cell? ⟨g, j, none⟩ = some (.slice ((C p).getD j default).a ((C p).getD j default).n ((C p).getD j default).c)) := hr3
              clear hr3 hp hcc r2 hpp
              obtain ⟨cl, hcle⟩ : ∃ cl, cl = (C p).length := ⟨_, rfl⟩
              rw [← hcle] at r2' hcl
              have HCL : Hid (cl = (C p).length) := hcle
              clear hcle
              by_cases heq : cc = cl
              · have hbq : ((cc : Int) == (cl : Int)) = true := by simp [heq]
                have heq0 : Hid (cc = cl) := heq
                clear heq
                have z0 : wr.cell? ⟨w.heap.size, 0, none⟩ = some .nilIface := hM.out.base.2.1.cell (i := 0) (by omega)
                have z1 : wr.cell? ⟨w.heap.size, 1, none⟩ = some (.int .i64 0) := hM.out.base.2.1.cell (i := 1) (by omega)
                have z2 : wr.cell? ⟨w.heap.size, 2, none⟩ = some (.slice none 0 0) := hM.out.base.2.1.cell (i := 2) (by omega)
                have y0 := hM.out.base.2.1.frozen 0
                have y1 := hM.out.base.2.1.frozen 1
                have y2 := hM.out.base.2.1.frozen 2
                go_wp2_with fail
                go_quiet (fail)
                go_wp2_with fail
                (try simp only [Exit.inBlock, Exit.then])
                refine bodyPost_ret (v := .tuple #[zeroR, .bool false]) ?_ rfl ?_
                · rw [results_cell_tmp rfl, zeroR]
                  go_simp
                · exact mout_no ((((hM.out.base.drewN nq).1.setCell (p := ⟨w.heap.size, 0, none⟩) (Nat.le_refl _) _).setCell (p := ⟨w.heap.size, 1, none⟩) (Nat.le_refl _) _).setCell (p := ⟨w.heap.size, 2, none⟩) (Nat.le_refl _) _) ⟨p, hpn, by
                    have h1 := cnt_up ks p (k + 1) ks.length (by omega)
                    have h2 := cnt_one HPK.out
                    have := HCC.out
                    have := HCL.out
                    have := heq0.out
                    omega⟩
              · have hbq : ((cc : Int) == (cl : Int)) = false := by simp; omega
                have hci : (cc : Int) < (cl : Int) := by omega
                have h0c : 0 < (C p).length := by rw [← HCL.out]; omega
                obtain ⟨g, rfl, hg⟩ := HR3.out h0c
                obtain ⟨u, hu⟩ : ∃ u, u = (C p).getD cc default := ⟨_, rfl⟩
                have g0 : wr.cell? ⟨g, cc, none⟩ = some (.slice u.a u.n u.c) := by rw [hu]; exact hM.out.base.cell (hg cc (by rw [← HCL.out]; omega))
                have HU : Hid (u = (C p).getD cc default) := hu
                have v8 : wr.cell? ⟨b8, 2, none⟩ = some (.slice (some ⟨bv, 0, none⟩) ks.length ks.length) := hM.out.r8.cell (i := 2) (by omega)
                obtain ⟨f, hf, _⟩ := hM.out.vs
                have f0 := hf.cell hlt
                have f1 := hf.frozen k
                have hcb : cc < 4611686018427387904 := by
                  have := cnt_le ks p k
                  have := HCC.out
                  omega
                clear hu hg hf h0c HR3 heq
                go_wp2_with fail
                go_quiet (fail)
                go_wp2_with fail
                go_region
                go_wp2_with fail
                go_roundw
                case rel => exact ⟨k + 1, by omega, by go_num, (hM.out.drewN _).step HPK.out hlt (by rw [← HCC.out, ← HCL.out]; omega) (by rw [← HCC.out]; exact HU.out) (by rw [← HCC.out]; omega)⟩
                case measure => simp [intOf]; omega
            · obtain rfl : ks.length = k := by omega
              go_wp2_with fail
              go_loopw [5, 14, 15, 131] (fun q a b i wr => ∃ p : Nat, p ≤ n ∧ i = .int .i64 p ∧ Hid (Mid w b8 bn bv n ks C want ks.length wr) ∧ Hid (∀ q, q < p → cnt ks q ks.length = (C q).length)) (fun _ _ _ i _ => n - (intOf i).toNat)
              case atStart => exact ⟨0, Nat.zero_le _, rfl, hM, fun q hq => by omega⟩
              case round =>
                clear hM
                obtain ⟨p, hp, rfl, hM, hA⟩ := hrel
                have hBL : w.heap.size < wr.heap.size := hM.out.base.2.2
                have hnl : bn < wr.heap.size := hM.out.nx.lt
                have z0 : wr.cell? ⟨w.heap.size, 0, none⟩ = some .nilIface := hM.out.base.2.1.cell (i := 0) (by omega)
                have z1 : wr.cell? ⟨w.heap.size, 1, none⟩ = some (.int .i64 0) := hM.out.base.2.1.cell (i := 1) (by omega)
                have z2 : wr.cell? ⟨w.heap.size, 2, none⟩ = some (.slice none 0 0) := hM.out.base.2.1.cell (i := 2) (by omega)
                have y0 := hM.out.base.2.1.frozen 0
                have y1 := hM.out.base.2.1.frozen 1
                have y2 := hM.out.base.2.1.frozen 2
                by_cases hpn : p < n
                · have hpi : (p : Int) < (n : Int) := by omega
                  obtain ⟨ra, rc, r0, r1, r2, hr3⟩ := HRS.out p hpn
                  have k0 := hM.out.base.cell r0
                  have k1 := hM.out.base.cell r1
                  have k2 := hM.out.base.cell r2
                  have n0 := hM.out.nx.cell hpn
                  obtain ⟨cc, hcc⟩ : ∃ cc, cc = cnt ks p ks.length := ⟨_, rfl⟩
                  obtain ⟨cl, hcl⟩ : ∃ cl, cl = (C p).length := ⟨_, rfl⟩
                  rw [← hcc] at n0
                  rw [← hcl] at k2
                  have HCC : Hid (cc = cnt ks p ks.length) := hcc
                  have HCL : Hid (cl = (C p).length) := hcl
                  generalize ns p = np at *
                  clear r0 r1 r2 hr3 hcc hcl
                  by_cases heq : cc = cl
                  · have hbq : ((cc : Int) != (cl : Int)) = false := by simp [heq]
                    have heq0 : Hid (cc = cl) := heq
                    clear heq
                    go_wp2_with fail
                    go_quiet (fail)
                    go_wp2_with fail
                    go_roundw
                    case rel =>
                      refine ⟨p + 1, by omega, by go_num, (hM.out.alloc _).drewN _, fun q hq => ?_⟩
                      by_cases e : q = p
                      · rw [e, ← HCC.out, ← HCL.out]; exact heq0.out
                      · exact hA.out q (by omega)
                    case measure => simp [intOf]; omega
                  · have hbq : ((cc : Int) != (cl : Int)) = true := by simp; omega
                    go_wp2_with fail
                    go_quiet (fail)
                    go_wp2_with fail
                    (try simp only [Exit.inBlock, Exit.then])
                    refine bodyPost_ret (v := .tuple #[zeroR, .bool false]) ?_ rfl ?_
                    · rw [results_cell_tmp rfl, zeroR]
                      go_simp
                    · exact mout_no (((((hM.out.alloc _).drewN nq).base.1.setCell (p := ⟨w.heap.size, 0, none⟩) (Nat.le_refl _) _).setCell (p := ⟨w.heap.size, 1, none⟩) (Nat.le_refl _) _).setCell (p := ⟨w.heap.size, 2, none⟩) (Nat.le_refl _) _) ⟨p, hpn, by rw [← HCC.out, ← HCL.out]; exact heq⟩
                · obtain rfl : n = p := by omega
                  have x0 : wr.cell? ⟨b8, 0, none⟩ = some .nilIface := hM.out.r8.cell (i := 0) (by omega)
                  have x1 : wr.cell? ⟨b8, 1, none⟩ = some (.int .i64 want) := hM.out.r8.cell (i := 1) (by omega)
                  have x2 : wr.cell? ⟨b8, 2, none⟩ = some (.slice (some ⟨bv, 0, none⟩) ks.length ks.length) := hM.out.r8.cell (i := 2) (by omega)
                  go_wp2_with fail
                  (try simp only [Exit.inBlock, Exit.then])
                  refine bodyPost_ret (v := .tuple #[.agg #[.nilIface, .int .i64 want, .slice (some ⟨bv, 0, none⟩) ks.length ks.length], .bool true]) ?_ rfl ?_
                  · rw [results_cell_tmp rfl]
                    go_simp
                  · exact mout_yes hM.out hA.out

/-- the number that Merge answers -/
def wantOf (kind : Int) (ns : Nat → Int) (n : Nat) : Int := if kind = 5 ∨ kind = 6 then wsum ns n else ns 0

theorem merge (w : World) (S bs bi br n : Nat) (kind : Int) (ks : List (Int × Hd)) (ns : Nat → Int) (C : Nat → List Hd) (hm : MIn w S bs bi br n kind ks ns C) (hn0 : 0 < n) (hn : n ≤ 4096) (hN : ks.length ≤ 4096) (hP : ∀ i, i < ks.length → 0 ≤ kP ks i ∧ kP ks i < n) :
    Calls Try.prog 11 #[.pointer (some ⟨S, 0, none⟩), .slice (some ⟨br, 0, none⟩) n n] w fun e w' => MOut w n ks C (wantOf kind ns n) e w' := by
  by_cases h5 : kind = 5
  · subst h5
    exact merge_5 w S bs bi br n ks ns C hm hn0 hn hN hP _ rfl
  · by_cases h6 : kind = 6
    · subst h6
      exact merge_6 w S bs bi br n ks ns C hm hn0 hn hN hP _ rfl
    · exact merge_other w S bs bi br n kind ks ns C hm hn0 hn hN hP h5 h6 _ (by simp [wantOf, h5, h6])
end Go.Proofs.Qxb6609368a
