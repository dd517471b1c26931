/-
  SEAT b6609467a: zzCloneBytes (9), ZZnewReader (10), skip (17), ZZskip (11), ZZreaderState (12), ZZreaderBuf (15).
-/
import Derived.Test.Qxb6609467aBytes
namespace Go.Proofs.Qxb6609467a
open Go.RowKit
set_option linter.unusedVariables false

/-- bytes as cells -/
def bc (xs : List Int) : List Value := xs.map (Value.int .u8)
theorem bc_length (ys : List Int) : (bc ys).length = ys.length := by simp [bc]

theorem set_take (C : Array Value) (k : Nat) (v : Value) (h : k < C.size) : (C.setIfInBounds k v).toList.take (k + 1) = C.toList.take k ++ [v] := by
  rw [Array.toList_setIfInBounds, List.take_succ_eq_append_getElem (by simpa using h)]
  simp [List.take_set_of_le]

theorem all_taken {C : Array Value} {xs : List Int} {k : Nat} (hC : C.size = xs.length) (hk : xs.length ≤ k) (h : C.toList.take k = bc (xs.take k)) : C = (bc xs).toArray := by
  rw [List.take_of_length_le (by simpa using (show C.size ≤ k by omega)), List.take_of_length_le hk] at h
  rw [← h]

set_option maxHeartbeats 1000000 in
set_option maxRecDepth 100000 in
theorem clone_some (ad : Addr) (c : Nat) (xs : List Int) (w : World) (h : Row w (some ad) xs) (hl : xs.length ≤ 140737488355328) :
    Calls Try.prog 9 #[.slice (some ad) xs.length c] w fun e w' => e = .returned (.slice (some ⟨w.heap.size, 0, none⟩) xs.length xs.length) ∧ w' = w.alloc (.cells (bc xs).toArray 5) := by
  have hnil := fun w n c => Lib.run_eql_slice_nil (P := Try.prog) w 29 5 (some ad) n c 0 0 Try.underlying29
  have hmk := run_make_row' (P := Try.prog) 29 5 (.int .u8 0) 1 Try.underlying29 info5 rfl .i64 .i64 xs.length (by omega) (by omega)
  by_cases h0 : 0 < xs.length
  · obtain ⟨b, off, e, hc⟩ := h.1 h0
    obtain rfl := Option.some.inj e
    have hbl : b < w.heap.size := World.block_lt_of_cell? w _ (hc 0 h0)
    have HC : Hid (∀ i, i < xs.length → w.cell? ⟨b, off + i, none⟩ = some (.int .u8 (xs.getD i 0))) := hc
    clear h hc e
    go_enter Try.func9, Try.ntmps9
    go_wp2
    go_loopw [4] (fun i wr => ∃ (k : Nat) (C : Array Value), k ≤ xs.length ∧ i = .int .i64 k ∧ wr = w.alloc (.cells C 5) ∧ C.size = xs.length ∧ Hid (C.toList.take k = bc (xs.take k))) (fun i _ => xs.length - (intOf i).toNat)
    case atStart => exact ⟨0, _, Nat.zero_le _, rfl, rfl, size_madeCells _ _, rfl⟩
    case round =>
      obtain ⟨k, C, hk, rfl, rfl, hC, ht⟩ := hrel
      by_cases hlt : k < xs.length
      · obtain ⟨x, hx⟩ : ∃ x, x = xs.getD k 0 := ⟨_, rfl⟩
        have c1 : w.cell? ⟨b, off + k, none⟩ = some (.int .u8 x) := by rw [hx]; exact HC.out k hlt
        have HX : Hid (x = xs.getD k 0) := hx
        have b2 : (k : Int) < (xs.length : Int) := by omega
        have hkC : k < C.size := by omega
        clear hx
        go_wp2
        go_roundw
        case rel =>
          refine ⟨k + 1, C.setIfInBounds k (.int .u8 x), by omega, by go_num, rfl, by simpa using hC, ?_⟩
          show _ = _
          rw [take_snoc xs k hlt, set_take C k _ hkC, ht.out, HX.out]
          simp [bc]
        case measure => simp [intOf]; omega
      · go_wp2
        go_ret
        refine ⟨rfl, ?_⟩
        rw [all_taken hC (by omega) ht.out]
  · obtain rfl : xs = [] := List.eq_nil_of_length_eq_zero (by omega)
    have hmk0 : ∀ w, (Instr.makeSlice 29 (.int .i64 0) (.int .i64 0)).run Try.prog w = .ok (.slice (some ⟨w.heap.size, 0, none⟩) 0 0) (w.alloc (.cells (madeCells #[.int .u8 0] 0) 5)) :=
      run_make_row' (P := Try.prog) 29 5 (.int .u8 0) 1 Try.underlying29 info5 rfl .i64 .i64 0 (by omega) (by omega)
    clear h hmk
    go_enter Try.func9, Try.ntmps9
    go_wp2
    refine wp_loop_rounds 1 ?_
    rw [rounds_succ]
    go_wp2
    go_ret
    refine ⟨rfl, ?_⟩
    have e : madeCells #[Value.int .u8 0] 0 = (bc []).toArray := by simp [madeCells, bc]
    rw [e]

set_option maxHeartbeats 1000000 in
theorem clone_none (w : World) :
    Calls Try.prog 9 #[.slice none 0 0] w fun e w' => e = .returned (.slice none 0 0) ∧ w' = w := by
  have hnil := fun w n c => Lib.run_eql_slice_nil (P := Try.prog) w 29 5 none n c 0 0 Try.underlying29
  go_enter Try.func9, Try.ntmps9
  go_wp2
  go_ret
  exact ⟨rfl, rfl⟩

/-- THE COPY, whatever the slice: its row, in memory of its own, no spare room. -/
theorem clone_any (a : Option Addr) (n c : Nat) (xs : List Int) (hn : n = xs.length) (w : World) (h : Row w a xs) (hz : a = none → n = 0 ∧ c = 0) (hl : xs.length ≤ 140737488355328) :
    Calls Try.prog 9 #[.slice a n c] w fun e w' => ∃ a', e = .returned (.slice a' xs.length xs.length) ∧ Row w' a' xs ∧ Below w.heap.size w w' := by
  cases a with
  | none =>
    obtain ⟨rfl, rfl⟩ := hz rfl
    obtain rfl : xs = [] := List.eq_nil_of_length_eq_zero hn.symm
    refine (clone_none w).mono ?_
    rintro e w' ⟨rfl, rfl⟩
    exact ⟨none, rfl, h, Below.refl _ _⟩
  | some ad =>
    subst hn
    refine (clone_some ad c xs w h hl).mono ?_
    rintro e w' ⟨rfl, rfl⟩
    refine ⟨_, rfl, ⟨fun _ => ⟨w.heap.size, 0, rfl, fun i hi => ?_⟩, h.2⟩, (Below.refl _ _).alloc (Nat.le_refl _) _⟩
    rw [Nat.zero_add, World.cell?_alloc_at _ _ _ _ rfl]
    simp [bc, hi]

/-! ### the reader: a block of twenty cells -/
/-- Block R is a reader: its buf, its pos, its prev, its tab. -/
def Rd (w : World) (R : Nat) (v : Value) (line col prev tl tc : Int) : Prop :=
  ∃ f, w.rowIs R 54 20 f ∧ f 1 = v ∧ f 11 = .int .i64 line ∧ f 12 = .int .i64 col ∧ f 13 = .int .u8 prev ∧ f 14 = .int .i64 tl ∧ f 15 = .int .i64 tc

theorem rd_new (w : World) (v : Value) (line col tl tc : Int) (x0 x2 x3 x4 x5 x6 x7 x8 x9 x10 x16 x17 x18 x19 : Value) :
    Rd (w.alloc (.cells #[x0, v, x2, x3, x4, x5, x6, x7, x8, x9, x10, .int .i64 line, .int .i64 col, .int .u8 0, .int .i64 tl, .int .i64 tc, x16, x17, x18, x19] 54)) w.heap.size v line col 0 tl tc := by
  refine ⟨fun i => (#[x0, v, x2, x3, x4, x5, x6, x7, x8, x9, x10, .int .i64 line, .int .i64 col, .int .u8 0, .int .i64 tl, .int .i64 tc, x16, x17, x18, x19] : Array Value).getD i .nilIface, World.rowIs_alloc w _ 54 _ (fun i hi => ?_), rfl, rfl, rfl, rfl, rfl, rfl⟩
  simp only [Array.getD, hi, dif_pos]
  exact Array.getElem?_eq_getElem hi

set_option maxHeartbeats 1000000 in
theorem newReader (a : Option Addr) (n c : Nat) (line col tl tc : Int) (w : World) :
    Calls Try.prog 10 #[.slice a n c, .int .i64 line, .int .i64 col, .int .i64 tl, .int .i64 tc] w fun e w' => e = .returned (.pointer (some ⟨w.heap.size, 0, none⟩)) ∧ Rd w' w.heap.size (.slice a n c) line col 0 tl tc ∧ Below w.heap.size w w' := by
  go_enter Try.func10, Try.ntmps10
  go_wp2
  go_ret
  exact ⟨rfl, rd_new w (.slice a n c) line col tl tc _ _ _ _ _ _ _ _ _ _ _ _ _ _, (Below.refl _ _).alloc (Nat.le_refl _) _⟩

theorem Rd.cells {w : World} {R : Nat} {v : Value} {line col prev tl tc : Int} (h : Rd w R v line col prev tl tc) :
    w.cell? ⟨R, 1, none⟩ = some v ∧ w.cell? ⟨R, 11, none⟩ = some (.int .i64 line) ∧ w.cell? ⟨R, 12, none⟩ = some (.int .i64 col) ∧ w.cell? ⟨R, 13, none⟩ = some (.int .u8 prev) ∧ w.cell? ⟨R, 14, none⟩ = some (.int .i64 tl) ∧ w.cell? ⟨R, 15, none⟩ = some (.int .i64 tc) ∧ ∀ i, w.frozen? ⟨R, i, none⟩ = false := by
  obtain ⟨f, hr, h1, h11, h12, h13, h14, h15⟩ := h
  exact ⟨by rw [hr.cell (by decide), h1], by rw [hr.cell (by decide), h11], by rw [hr.cell (by decide), h12], by rw [hr.cell (by decide), h13], by rw [hr.cell (by decide), h14], by rw [hr.cell (by decide), h15], fun i => hr.frozen i⟩

theorem Rd.drewN {w : World} {R : Nat} {v : Value} {line col prev tl tc : Int} (h : Rd w R v line col prev tl tc) (n : Nat) : Rd (w.drewN n) R v line col prev tl tc := h

theorem Rd.set1 {w : World} {R : Nat} {v : Value} {line col prev tl tc : Int} (h : Rd w R v line col prev tl tc) (u : Value) : Rd (w.setCell ⟨R, 1, none⟩ u) R u line col prev tl tc := by
  obtain ⟨f, hr, h1, h11, h12, h13, h14, h15⟩ := h
  exact ⟨_, hr.set 1 u, rfl, h11, h12, h13, h14, h15⟩
theorem Rd.set12 {w : World} {R : Nat} {v : Value} {line col prev tl tc : Int} (h : Rd w R v line col prev tl tc) (u : Int) : Rd (w.setCell ⟨R, 12, none⟩ (.int .i64 u)) R v line u prev tl tc := by
  obtain ⟨f, hr, h1, h11, h12, h13, h14, h15⟩ := h
  exact ⟨_, hr.set 12 _, h1, h11, rfl, h13, h14, h15⟩
theorem Rd.set13 {w : World} {R : Nat} {v : Value} {line col prev tl tc : Int} (h : Rd w R v line col prev tl tc) (u : Int) : Rd (w.setCell ⟨R, 13, none⟩ (.int .u8 u)) R v line col u tl tc := by
  obtain ⟨f, hr, h1, h11, h12, h13, h14, h15⟩ := h
  exact ⟨_, hr.set 13 _, h1, h11, h12, rfl, h14, h15⟩
theorem Rd.set14 {w : World} {R : Nat} {v : Value} {line col prev tl tc : Int} (h : Rd w R v line col prev tl tc) (u : Int) : Rd (w.setCell ⟨R, 14, none⟩ (.int .i64 u)) R v line col prev u tc := by
  obtain ⟨f, hr, h1, h11, h12, h13, h14, h15⟩ := h
  exact ⟨_, hr.set 14 _, h1, h11, h12, h13, rfl, h15⟩
theorem Rd.set15 {w : World} {R : Nat} {v : Value} {line col prev tl tc : Int} (h : Rd w R v line col prev tl tc) (u : Int) : Rd (w.setCell ⟨R, 15, none⟩ (.int .i64 u)) R v line col prev tl u := by
  obtain ⟨f, hr, h1, h11, h12, h13, h14, h15⟩ := h
  exact ⟨_, hr.set 15 _, h1, h11, h12, h13, h14, rfl⟩

/-- skip at a tab, none remembered yet -/
theorem skip_tab (R b off n cp : Nat) (line col prev tl tc x : Int) (w : World) (h : Rd w R (.slice (some ⟨b, off, none⟩) (n + 1) cp) line col prev tl tc) (hx : w.cell? ⟨b, off, none⟩ = some (.int .u8 x)) (hb : b < R) (hn : n + 1 ≤ cp) (hc0 : 0 ≤ col) (hc1 : col < 9223372036854775807) (hcp : n ≤ 4611686018427387904) (q1 : (x == 9) = true) (q2 : (tl == 0) = true) (q3 : (bits .and .u8 x 192 != 128) = true) :
    Calls Try.prog 17 #[.pointer (some ⟨R, 0, none⟩)] w fun e w' => e = .returned (.tuple #[]) ∧ (∃ a, (¬ cp = 1 → a = some ⟨b, off + 1, none⟩) ∧ Rd w' R (.slice a n (cp - 1)) line (col + 1) x line col) ∧ Below R w w' := by
  obtain ⟨c1, c11, c12, c13, c14, c15, hf⟩ := h.cells
  have b0 : (0 : Int) < ((n + 1 : Nat) : Int) := by omega
  have HR : Hid (Rd w R (.slice (some ⟨b, off, none⟩) (n + 1) cp) line col prev tl tc) := h
  clear h
  by_cases h1 : cp = 1
  · subst h1
    obtain rfl : n = 0 := by omega
    go_enter Try.func17, Try.ntmps17
    go_wp2
    go_end0
    exact ⟨rfl, ⟨_, fun h => (h trivial).elim, (((((HR.out.set14 _).set15 _).set12 _).set13 _).set1 _)⟩, ((((((Below.refl R w).setCell (p := ⟨R, 14, none⟩) (Nat.le_refl R) _).setCell (p := ⟨R, 15, none⟩) (Nat.le_refl R) _).setCell (p := ⟨R, 12, none⟩) (Nat.le_refl R) _).setCell (p := ⟨R, 13, none⟩) (Nat.le_refl R) _).setCell (p := ⟨R, 1, none⟩) (Nat.le_refl R) _)⟩
  · go_enter Try.func17, Try.ntmps17
    go_wp2
    go_end0
    exact ⟨rfl, ⟨_, fun _ => rfl, (((((HR.out.set14 _).set15 _).set12 _).set13 _).set1 _)⟩, ((((((Below.refl R w).setCell (p := ⟨R, 14, none⟩) (Nat.le_refl R) _).setCell (p := ⟨R, 15, none⟩) (Nat.le_refl R) _).setCell (p := ⟨R, 12, none⟩) (Nat.le_refl R) _).setCell (p := ⟨R, 13, none⟩) (Nat.le_refl R) _).setCell (p := ⟨R, 1, none⟩) (Nat.le_refl R) _)⟩

/-- skip at a tab, one remembered -/
theorem skip_old (R b off n cp : Nat) (line col prev tl tc x : Int) (w : World) (h : Rd w R (.slice (some ⟨b, off, none⟩) (n + 1) cp) line col prev tl tc) (hx : w.cell? ⟨b, off, none⟩ = some (.int .u8 x)) (hb : b < R) (hn : n + 1 ≤ cp) (hc0 : 0 ≤ col) (hc1 : col < 9223372036854775807) (hcp : n ≤ 4611686018427387904) (q1 : (x == 9) = true) (q2 : (tl == 0) = false) (q3 : (bits .and .u8 x 192 != 128) = true) :
    Calls Try.prog 17 #[.pointer (some ⟨R, 0, none⟩)] w fun e w' => e = .returned (.tuple #[]) ∧ (∃ a, (¬ cp = 1 → a = some ⟨b, off + 1, none⟩) ∧ Rd w' R (.slice a n (cp - 1)) line (col + 1) x tl tc) ∧ Below R w w' := by
  obtain ⟨c1, c11, c12, c13, c14, c15, hf⟩ := h.cells
  have b0 : (0 : Int) < ((n + 1 : Nat) : Int) := by omega
  have HR : Hid (Rd w R (.slice (some ⟨b, off, none⟩) (n + 1) cp) line col prev tl tc) := h
  clear h
  by_cases h1 : cp = 1
  · subst h1
    obtain rfl : n = 0 := by omega
    go_enter Try.func17, Try.ntmps17
    go_wp2
    go_end0
    exact ⟨rfl, ⟨_, fun h => (h trivial).elim, (((HR.out.set12 _).set13 _).set1 _)⟩, ((((Below.refl R w).setCell (p := ⟨R, 12, none⟩) (Nat.le_refl R) _).setCell (p := ⟨R, 13, none⟩) (Nat.le_refl R) _).setCell (p := ⟨R, 1, none⟩) (Nat.le_refl R) _)⟩
  · go_enter Try.func17, Try.ntmps17
    go_wp2
    go_end0
    exact ⟨rfl, ⟨_, fun _ => rfl, (((HR.out.set12 _).set13 _).set1 _)⟩, ((((Below.refl R w).setCell (p := ⟨R, 12, none⟩) (Nat.le_refl R) _).setCell (p := ⟨R, 13, none⟩) (Nat.le_refl R) _).setCell (p := ⟨R, 1, none⟩) (Nat.le_refl R) _)⟩

/-- skip at the first byte of a character that is no tab -/
theorem skip_char (R b off n cp : Nat) (line col prev tl tc x : Int) (w : World) (h : Rd w R (.slice (some ⟨b, off, none⟩) (n + 1) cp) line col prev tl tc) (hx : w.cell? ⟨b, off, none⟩ = some (.int .u8 x)) (hb : b < R) (hn : n + 1 ≤ cp) (hc0 : 0 ≤ col) (hc1 : col < 9223372036854775807) (hcp : n ≤ 4611686018427387904) (q1 : (x == 9) = false) (q3 : (bits .and .u8 x 192 != 128) = true) :
    Calls Try.prog 17 #[.pointer (some ⟨R, 0, none⟩)] w fun e w' => e = .returned (.tuple #[]) ∧ (∃ a, (¬ cp = 1 → a = some ⟨b, off + 1, none⟩) ∧ Rd w' R (.slice a n (cp - 1)) line (col + 1) x tl tc) ∧ Below R w w' := by
  obtain ⟨c1, c11, c12, c13, c14, c15, hf⟩ := h.cells
  have b0 : (0 : Int) < ((n + 1 : Nat) : Int) := by omega
  have HR : Hid (Rd w R (.slice (some ⟨b, off, none⟩) (n + 1) cp) line col prev tl tc) := h
  clear h
  by_cases h1 : cp = 1
  · subst h1
    obtain rfl : n = 0 := by omega
    go_enter Try.func17, Try.ntmps17
    go_wp2
    go_end0
    exact ⟨rfl, ⟨_, fun h => (h trivial).elim, (((HR.out.set12 _).set13 _).set1 _)⟩, ((((Below.refl R w).setCell (p := ⟨R, 12, none⟩) (Nat.le_refl R) _).setCell (p := ⟨R, 13, none⟩) (Nat.le_refl R) _).setCell (p := ⟨R, 1, none⟩) (Nat.le_refl R) _)⟩
  · go_enter Try.func17, Try.ntmps17
    go_wp2
    go_end0
    exact ⟨rfl, ⟨_, fun _ => rfl, (((HR.out.set12 _).set13 _).set1 _)⟩, ((((Below.refl R w).setCell (p := ⟨R, 12, none⟩) (Nat.le_refl R) _).setCell (p := ⟨R, 13, none⟩) (Nat.le_refl R) _).setCell (p := ⟨R, 1, none⟩) (Nat.le_refl R) _)⟩

/-- skip at a continuation byte -/
theorem skip_cont (R b off n cp : Nat) (line col prev tl tc x : Int) (w : World) (h : Rd w R (.slice (some ⟨b, off, none⟩) (n + 1) cp) line col prev tl tc) (hx : w.cell? ⟨b, off, none⟩ = some (.int .u8 x)) (hb : b < R) (hn : n + 1 ≤ cp) (hc0 : 0 ≤ col) (hc1 : col < 9223372036854775807) (hcp : n ≤ 4611686018427387904) (q1 : (x == 9) = false) (q3 : (bits .and .u8 x 192 != 128) = false) :
    Calls Try.prog 17 #[.pointer (some ⟨R, 0, none⟩)] w fun e w' => e = .returned (.tuple #[]) ∧ (∃ a, (¬ cp = 1 → a = some ⟨b, off + 1, none⟩) ∧ Rd w' R (.slice a n (cp - 1)) line col x tl tc) ∧ Below R w w' := by
  obtain ⟨c1, c11, c12, c13, c14, c15, hf⟩ := h.cells
  have b0 : (0 : Int) < ((n + 1 : Nat) : Int) := by omega
  have HR : Hid (Rd w R (.slice (some ⟨b, off, none⟩) (n + 1) cp) line col prev tl tc) := h
  clear h
  by_cases h1 : cp = 1
  · subst h1
    obtain rfl : n = 0 := by omega
    go_enter Try.func17, Try.ntmps17
    go_wp2
    go_end0
    exact ⟨rfl, ⟨_, fun h => (h trivial).elim, ((HR.out.set13 _).set1 _)⟩, (((Below.refl R w).setCell (p := ⟨R, 13, none⟩) (Nat.le_refl R) _).setCell (p := ⟨R, 1, none⟩) (Nat.le_refl R) _)⟩
  · go_enter Try.func17, Try.ntmps17
    go_wp2
    go_end0
    exact ⟨rfl, ⟨_, fun _ => rfl, ((HR.out.set13 _).set1 _)⟩, (((Below.refl R w).setCell (p := ⟨R, 13, none⟩) (Nat.le_refl R) _).setCell (p := ⟨R, 1, none⟩) (Nat.le_refl R) _)⟩


/-! ### one skip, whatever the byte -/
def stepCol (x col : Int) : Int := if cont x then col else col + 1
def tabL (x line tl : Int) : Int := if x = 9 ∧ tl = 0 then line else tl
def tabC (x col tl tc : Int) : Int := if x = 9 ∧ tl = 0 then col else tc

theorem skip_any (R b off n cp : Nat) (line col prev tl tc x : Int) (w : World) (h : Rd w R (.slice (some ⟨b, off, none⟩) (n + 1) cp) line col prev tl tc) (hx : w.cell? ⟨b, off, none⟩ = some (.int .u8 x)) (hb : b < R) (hn : n + 1 ≤ cp) (hc0 : 0 ≤ col) (hc1 : col < 9223372036854775807) (hcp : n ≤ 4611686018427387904) (hx0 : 0 ≤ x) (hx1 : x < 256) :
    Calls Try.prog 17 #[.pointer (some ⟨R, 0, none⟩)] w fun e w' => e = .returned (.tuple #[]) ∧ (∃ a, (¬ cp = 1 → a = some ⟨b, off + 1, none⟩) ∧ Rd w' R (.slice a n (cp - 1)) line (stepCol x col) x (tabL x line tl) (tabC x col tl tc)) ∧ Below R w w' := by
  have k1 := and192 x hx0 hx1
  by_cases h9 : x = 9
  · have q3 : (bits .and .u8 x 192 != 128) = true := by simp [k1]; omega
    have hco : cont x = false := by simp [cont]; omega
    by_cases htl : tl = 0
    · have e1 : stepCol x col = col + 1 := by simp [stepCol, hco]
      have e2 : tabL x line tl = line := by simp [tabL, h9, htl]
      have e3 : tabC x col tl tc = col := by simp [tabC, h9, htl]
      rw [e1, e2, e3]
      exact skip_tab R b off n cp line col prev tl tc x w h hx hb hn hc0 hc1 hcp (by simp [h9]) (by simp [htl]) q3
    · have e1 : stepCol x col = col + 1 := by simp [stepCol, hco]
      have e2 : tabL x line tl = tl := by simp [tabL, htl]
      have e3 : tabC x col tl tc = tc := by simp [tabC, htl]
      rw [e1, e2, e3]
      exact skip_old R b off n cp line col prev tl tc x w h hx hb hn hc0 hc1 hcp (by simp [h9]) (by simp [htl]) q3
  · have e2 : tabL x line tl = tl := by simp [tabL, h9]
    have e3 : tabC x col tl tc = tc := by simp [tabC, h9]
    rw [e2, e3]
    by_cases hc : 128 ≤ x ∧ x < 192
    · have e1 : stepCol x col = col := by simp [stepCol, cont, hc]
      rw [e1]
      exact skip_cont R b off n cp line col prev tl tc x w h hx hb hn hc0 hc1 hcp (by simp [h9]) (by simp [k1, hc])
    · have e1 : stepCol x col = col + 1 := by simp [stepCol, cont, hc]
      rw [e1]
      exact skip_char R b off n cp line col prev tl tc x w h hx hb hn hc0 hc1 hcp (by simp [h9]) (by simp [k1]; omega)

theorem zzskip (R b off n cp : Nat) (line col prev tl tc x : Int) (w : World) (h : Rd w R (.slice (some ⟨b, off, none⟩) (n + 1) cp) line col prev tl tc) (hx : w.cell? ⟨b, off, none⟩ = some (.int .u8 x)) (hb : b < R) (hn : n + 1 ≤ cp) (hc0 : 0 ≤ col) (hc1 : col < 9223372036854775807) (hcp : n ≤ 4611686018427387904) (hx0 : 0 ≤ x) (hx1 : x < 256) :
    Calls Try.prog 11 #[.pointer (some ⟨R, 0, none⟩)] w fun e w' => e = .returned (.tuple #[]) ∧ (∃ a, (¬ cp = 1 → a = some ⟨b, off + 1, none⟩) ∧ Rd w' R (.slice a n (cp - 1)) line (stepCol x col) x (tabL x line tl) (tabC x col tl tc)) ∧ Below R w w' := by
  go_enter Try.func11, Try.ntmps11
  go_wp2_with fail
  refine (skip_any R b off n cp line col prev tl tc x w h hx hb hn hc0 hc1 hcp hx0 hx1).mono ?_
  rintro e w1 ⟨rfl, hr, hbel⟩
  go_wp2
  go_end0
  exact ⟨rfl, hr, hbel⟩

set_option maxHeartbeats 1000000 in
theorem readerState (R : Nat) (a : Option Addr) (n c : Nat) (line col prev tl tc : Int) (w : World) (h : Rd w R (.slice a n c) line col prev tl tc) :
    Calls Try.prog 12 #[.pointer (some ⟨R, 0, none⟩)] w fun e w' => e = .returned (.tuple #[.int .i64 n, .int .i64 line, .int .i64 col, .int .u8 prev, .int .i64 tl, .int .i64 tc]) ∧ ∃ n, w' = w.drewN n := by
  obtain ⟨c1, c11, c12, c13, c14, c15, hf⟩ := h.cells
  clear h hf
  go_enter Try.func12, Try.ntmps12
  go_wp2
  go_quiet (fail)
  go_wp2
  exact bodyPost_ret (v := .tuple #[.int .i64 n, .int .i64 line, .int .i64 col, .int .u8 prev, .int .i64 tl, .int .i64 tc]) (by simp [results, Try.results12, go_sem]) rfl ⟨rfl, nq, rfl⟩

theorem readerBuf (R : Nat) (a : Option Addr) (n c : Nat) (line col prev tl tc : Int) (w : World) (h : Rd w R (.slice a n c) line col prev tl tc) :
    Calls Try.prog 15 #[.pointer (some ⟨R, 0, none⟩)] w fun e w' => e = .returned (.slice a n c) ∧ w' = w := by
  obtain ⟨c1, c11, c12, c13, c14, c15, hf⟩ := h.cells
  clear h hf c11 c12 c13 c14 c15
  go_enter Try.func15, Try.ntmps15
  go_wp2
  go_ret
  exact ⟨rfl, rfl⟩
end Go.Proofs.Qxb6609467a
