/-
  SEAT b6609368a: zzCloneBytes (25).
-/
import Derived.Test.Qxb6609368aNotice
import Derived.Laws.CopyOwn
import Derived.Deep.OwnRows
import Derived.WalkSpells
namespace Go.Proofs.Qxb6609368a
open Go.RowKit

theorem setRow_new (w : World) (cur cs : Array Value) (t : TypeId) : (w.alloc (.cells cur t)).setRow w.heap.size cs = w.alloc (.cells cs t) := by
  unfold World.setRow World.alloc
  congr 1
  apply Array.ext_getElem?
  intro k
  simp only [Array.getElem?_modify, Array.getElem?_push]
  by_cases hk : k = w.heap.size
  · subst hk; simp
  · simp [hk, Ne.symm hk]

/-- 'copy(c, b)' right behind 'c := make([]byte, len(b))' -/
theorem run_copy_made (ad : Addr) (c : Nat) (xs : List Int) (w : World) (h : Row w (some ad) xs) :
    Sem.run Try.prog (Builtin.copy_ #[48, 48] 3 #[.slice (some ⟨w.heap.size, 0, none⟩) xs.length xs.length, .slice (some ad) xs.length c]) (w.alloc (.cells (madeCells #[.int .u8 0] xs.length) 5)) =
      .ok (goInt xs.length) (w.alloc (.cells (bc xs).toArray 5)) := by
  have hsz : (Try.prog.info? 5).map (·.size) = some 1 := by kernel_rfl
  by_cases h0 : 0 < xs.length
  · obtain ⟨b, off, e, hc⟩ := h h0
    obtain rfl := Option.some.inj e
    have hr := run_copy_row (P := Try.prog) (w.alloc (.cells (madeCells #[.int .u8 0] xs.length) 5)) 48 48 3 5 w.heap.size 0 xs.length xs.length ⟨b, off, none⟩ xs.length c (madeCells #[.int .u8 0] xs.length) 5 (bc xs) Try.underlying48 hsz (heap_alloc_new w _) (by simp [bc_length]) ?_ (by simp [bc_length, size_madeCells]) (bc_one xs)
    · have e : ((madeCells #[Value.int .u8 0] xs.length).toList.take 0 ++ bc xs ++ (madeCells #[Value.int .u8 0] xs.length).toList.drop (0 + (bc xs).length)).toArray = (bc xs).toArray := by
        rw [List.drop_of_length_le (by simp [bc_length, size_madeCells])]
        simp
      rw [e, setRow_new, bc_length] at hr
      exact hr
    · intro j u hj
      have hlt : j < xs.length := by
        have := (List.getElem?_eq_some_iff.1 hj).1
        simpa [bc_length] using this
      have hcj := hc j hlt
      have hbl : b < w.heap.size := World.block_lt_of_cell? w _ hcj
      rw [Addr.add_lit, World.cell?_alloc_past _ _ _ hbl, hcj, ← hj]
      simp [bc, hlt]
  · obtain rfl : xs = [] := List.eq_nil_of_length_eq_zero (by omega)
    have hr := run_copy_none (P := Try.prog) (w.alloc (.cells (madeCells #[.int .u8 0] 0) 5)) 48 48 3 5 (some ⟨w.heap.size, 0, none⟩) (some ad) 0 0 0 c Try.underlying48 hsz rfl
    have e : madeCells #[Value.int .u8 0] 0 = (bc []).toArray := by simp [madeCells, bc]
    rw [e] at hr
    show Sem.run Try.prog (Builtin.copy_ #[48, 48] 3 #[.slice (some ⟨w.heap.size, 0, none⟩) 0 0, .slice (some ad) 0 c]) (w.alloc (.cells (madeCells #[.int .u8 0] 0) 5)) = .ok (goInt 0) (w.alloc (.cells (bc []).toArray 5))
    rw [e]
    exact hr

set_option maxHeartbeats 1000000 in
set_option maxRecDepth 100000 in
theorem clone_some (ad : Addr) (c : Nat) (xs : List Int) (w : World) (h : Row w (some ad) xs) (hl : xs.length ≤ 140737488355328) :
    Calls Try.prog 25 #[.slice (some ad) xs.length c] w fun e w' => e = .returned (.slice (some ⟨w.heap.size, 0, none⟩) xs.length xs.length) ∧ w' = w.alloc (.cells (bc xs).toArray 5) := by
  have hnil := fun w n c => Lib.run_eql_slice_nil (P := Try.prog) w 48 5 (some ad) n c 0 0 Try.underlying48
  have hmk := run_make_row' (P := Try.prog) 48 5 (.int .u8 0) 1 Try.underlying48 info5 rfl .i64 .i64 xs.length (by omega) (by omega)
  have hcp := run_copy_made ad c xs w h
  clear h
  go_enter Try.func25, Try.ntmps25
  go_wp2
  go_ret
  exact ⟨rfl, rfl⟩

set_option maxHeartbeats 1000000 in
theorem clone_none (w : World) :
    Calls Try.prog 25 #[.slice none 0 0] w fun e w' => e = .returned (.slice none 0 0) ∧ w' = w := by
  have hnil := fun w n c => Lib.run_eql_slice_nil (P := Try.prog) w 48 5 none n c 0 0 Try.underlying48
  go_enter Try.func25, Try.ntmps25
  go_wp2
  go_ret
  exact ⟨rfl, rfl⟩

/-- THE COPY, whatever the slice: what comes back owns its bytes. -/
theorem clone_any (a : Option Addr) (n c : Nat) (xs : List Int) (hn : n = xs.length) (w : World) (h : Row w a xs) (hz : a = none → n = 0 ∧ c = 0) (hl : xs.length ≤ 140737488355328) :
    Calls Try.prog 25 #[.slice a n c] w fun e w' => ∃ v', e = .returned v' ∧ w'.ownsRow w.heap.size 5 1 v' xs.length (bc xs) ∧ Below w.heap.size w w' ∧ Full v' := by
  cases a with
  | none =>
    obtain ⟨rfl, rfl⟩ := hz rfl
    obtain rfl : xs = [] := List.eq_nil_of_length_eq_zero hn.symm
    refine (clone_none w).mono ?_
    rintro e w' ⟨rfl, rfl⟩
    exact ⟨_, rfl, World.ownsRow_nil _ _ _ _, Below.refl _ _, .inl rfl⟩
  | some ad =>
    subst hn
    refine (clone_some ad c xs w h hl).mono ?_
    rintro e w' ⟨rfl, rfl⟩
    refine ⟨_, rfl, ?_, (Below.refl _ _).alloc (Nat.le_refl _) _, .inr ⟨_, _, rfl⟩⟩
    have := World.ownsRow_lit (base := w.heap.size) (e := 5) (size := 1) w (bc xs).toArray xs.length (Nat.le_refl _) (by unfold maxLen; omega) (by simp [bc_length])
    simpa using this

/-- what is owned, as a row of bytes -/
theorem row_of_own {w : World} {B : Nat} {v : Value} {n : Nat} {xs : List Int} (h : w.ownsRow B 5 1 v n (bc xs)) : ∃ a c, v = .slice a xs.length c ∧ n = xs.length ∧ Row w a xs ∧ (a = none → xs.length = 0 ∧ c = 0) := by
  have hn : n = xs.length := by have := h.1; rw [bc_length] at this; omega
  subst hn
  rcases h.2 with ⟨rfl, h0⟩ | ⟨g, cap, cur, rfl, hb, hg, _⟩
  · refine ⟨none, 0, by rw [h0], rfl, fun hp => by omega, fun _ => ⟨h0, rfl⟩⟩
  · refine ⟨some ⟨g, 0, none⟩, cap, rfl, rfl, fun hp => ⟨g, 0, rfl, fun i hi => ?_⟩, fun e => by cases e⟩
    rw [Nat.zero_add, h.cellAt i (by omega)]
    simp [bc, hi]
end Go.Proofs.Qxb6609368a
