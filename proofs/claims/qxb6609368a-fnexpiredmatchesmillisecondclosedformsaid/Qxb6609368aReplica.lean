/-
  SEAT b6609368a: ZZnewReplica (33), zzReplica (19), of (37), ms (38), expired (32), ZZexpired (18).
-/
import Derived.Test.Qxb6609368aEntries
import Derived.Maps.OwnSet
import Derived.Maps.Views
import Derived.Deep.OwnRows
import Derived.RegionTactic
namespace Go.Proofs.Qxb6609368a
open Go.RowKit Go.Maps
open Go.WideMaps (keyOf_string_mk)

/-! ### the map, plain -/
/-- what a key reads as -/
def kl (s : ByteArray) : Lit := .string s.data.toList
/-- the map after k stores -/
def Dk (es : List (ByteArray × Int)) : Nat → DataW Unit
  | 0 => .map []
  | k + 1 => (Dk es k).put (kl (eK es k)) (.lit (.int .i64 k))
/-- the last place below k at which the key is s -/
def ix (es : List (ByteArray × Int)) (s : ByteArray) : Nat → Option Nat
  | 0 => none
  | k + 1 => if eK es k = s then some k else ix es s k

theorem kl_inj {s t : ByteArray} (h : kl s = kl t) : s = t := by
  simp only [kl, Lit.string.injEq] at h
  have h2 : s.data = t.data := by
    rw [← Array.toArray_toList (xs := s.data), ← Array.toArray_toList (xs := t.data), h]
  cases s; cases t; simp_all

theorem isMap_Dk (es : List (ByteArray × Int)) : ∀ k, IsMap (Dk es k)
  | 0 => ⟨[], rfl⟩
  | k + 1 => by
    obtain ⟨l, hl⟩ := isMap_Dk es k
    exact ⟨_, by rw [Dk, hl]; rfl⟩

theorem keyLit (s : ByteArray) : WideAt.IsKeyLit (kl s) := by simp [kl, WideAt.IsKeyLit]

theorem has_Dk (es : List (ByteArray × Int)) (s : ByteArray) : ∀ k, Maps.has (Dk es k) (kl s) = (ix es s k).isSome
  | 0 => rfl
  | k + 1 => by
    by_cases h : eK es k = s
    · rw [Dk, h, has_put_same (isMap_Dk es k) (keyLit s)]
      simp [ix, h]
    · rw [Dk, has_put_other (fun e => h (kl_inj e).symm), has_Dk es s k]
      simp [ix, h]

theorem at_Dk (es : List (ByteArray × Int)) (s : ByteArray) : ∀ k, (Dk es k).atKey (kl s) (.lit (.int .i64 0)) = .lit (.int .i64 (((ix es s k).getD 0 : Nat) : Int))
  | 0 => rfl
  | k + 1 => by
    by_cases h : eK es k = s
    · rw [Dk, h, atKey_put_same (isMap_Dk es k) (keyLit s)]
      simp [ix, h]
    · rw [Dk, atKey_put_other (fun e => h (kl_inj e).symm), at_Dk es s k]
      simp [ix, h]

theorem ix_lt (es : List (ByteArray × Int)) (s : ByteArray) : ∀ k i, ix es s k = some i → i < k ∧ eK es i = s
  | 0, i, h => by simp [ix] at h
  | k + 1, i, h => by
    by_cases e : eK es k = s
    · simp [ix, e] at h; subst h; exact ⟨by omega, e⟩
    · simp [ix, e] at h
      have := ix_lt es s k i h
      exact ⟨by omega, this.2⟩

/-! ### run equations -/
theorem law9 : Keyed Try.prog 9 := string_keyed Try.underlying9
theorem zero3 (w : World) : (zeroValue 3).run Try.prog w = .ok (.int .i64 0) w := by kernel_rfl
theorem info98 : (Try.prog.info? 98).map (fun i => (i.zero, i.size, i.bytes)) = some (some (.agg #[.string ⟨#[]⟩, .int .i64 0]), 2, 24) := by kernel_rfl
theorem info9 : (Try.prog.info? 9).map (fun i => (i.zero, i.size, i.bytes)) = some (some (.string ⟨#[]⟩), 1, 16) := by kernel_rfl
theorem info2 : (Try.prog.info? 2).map (fun i => (i.zero, i.size, i.bytes)) = some (some (.int .i64 0), 1, 8) := by kernel_rfl

theorem run_make89 (n : Nat) (hn : n ≤ 1048576) (w : World) : (Instr.makeSlice 89 (.int .i64 (n : Int)) (.int .i64 (n : Int))).run Try.prog w = .ok (.slice (some ⟨w.heap.size, 0, none⟩) n n) (w.alloc (.cells (madeCells #[.string ⟨#[]⟩, .int .i64 0] (n * 2)) 98)) := by
  obtain ⟨i, hi, hz, hs, hb⟩ := info_parts info98
  have := run_make (P := Try.prog) w 89 98 i _ Try.underlying89 hi hz .i64 .i64 n n (by omega) (Int.le_refl _) (by rw [hb]; omega) (by omega)
  rw [hs] at this
  simpa [Value.cells] using this

theorem run_map90 (n : Nat) (w : World) : (Instr.makeMap 90 (some (.int .i64 (n : Int)))).run Try.prog w = .ok (.map (some w.heap.size)) (w.alloc (.map #[] 0)) := by
  simp [Instr.makeMap, asInt, asIntOf]

/-! ### the replica -/
/-- Blocks R, R + 1, R + 2 are a replica at time 'now' that holds the first k of 'es'. -/
structure Rep (w : World) (R : Nat) (now : Int) (es : List (ByteArray × Int)) (n k : Nat) : Prop where
  c1 : w.cell? ⟨R, 1, none⟩ = some (.slice (some ⟨R + 1, 0, none⟩) n n)
  c2 : w.cell? ⟨R, 2, none⟩ = some (.map (some (R + 2)))
  c3 : w.cell? ⟨R, 3, none⟩ = some (.int .i64 now)
  row : ∃ f, w.rowIs (R + 1) 98 (n * 2) f ∧ ∀ i, i < k → f (i * 2) = .string (eK es i) ∧ f (i * 2 + 1) = .int .i64 (eT es i)
  map : w.ownsMap Try.prog 9 (plainElem (H := Unit) Try.prog 3) (R + 2) k (Dk es k)

/-- rows of the keys and of the instants -/
def KRow (w : World) (a : Option Addr) (es : List (ByteArray × Int)) : Prop :=
  0 < es.length → ∃ b, a = some ⟨b, 0, none⟩ ∧ ∀ i, i < es.length → w.cell? ⟨b, i, none⟩ = some (.string (eK es i))
def TRow (w : World) (a : Option Addr) (es : List (ByteArray × Int)) : Prop :=
  0 < es.length → ∃ b, a = some ⟨b, 0, none⟩ ∧ ∀ i, i < es.length → w.cell? ⟨b, i, none⟩ = some (.int .i64 (eT es i))

theorem rep_start (w : World) (now : Int) (es : List (ByteArray × Int)) (x0 x4 x5 x6 : Value) :
    Rep (((w.alloc (.cells #[x0, .slice (some ⟨w.heap.size + 1, 0, none⟩) es.length es.length, .map (some (w.heap.size + 2)), .int .i64 now, x4, x5, x6] 94)).alloc (.cells (madeCells #[.string ⟨#[]⟩, .int .i64 0] (es.length * 2)) 98)).alloc (.map #[] 0)) w.heap.size now es es.length 0 := by
  have e1 : ∀ o : Obj, (w.alloc o).heap.size = w.heap.size + 1 := fun o => by simp
  have e2 : ∀ o o' : Obj, ((w.alloc o).alloc o').heap.size = w.heap.size + 2 := fun o o' => by simp
  refine ⟨?_, ?_, ?_, ?_, ?_⟩
  · rw [World.cell?_alloc_past _ _ _ (by rw [e2]; omega), World.cell?_alloc_past _ _ _ (by rw [e1]; omega), World.cell?_alloc_at _ _ _ _ rfl]; rfl
  · rw [World.cell?_alloc_past _ _ _ (by rw [e2]; omega), World.cell?_alloc_past _ _ _ (by rw [e1]; omega), World.cell?_alloc_at _ _ _ _ rfl]; rfl
  · rw [World.cell?_alloc_past _ _ _ (by rw [e2]; omega), World.cell?_alloc_past _ _ _ (by rw [e1]; omega), World.cell?_alloc_at _ _ _ _ rfl]; rfl
  · refine ⟨fun i => (madeCells #[.string ⟨#[]⟩, .int .i64 0] (es.length * 2)).getD i .nilIface, ?_, fun i hi => by omega⟩
    have h := World.rowIs_alloc (w.alloc (.cells #[x0, .slice (some ⟨w.heap.size + 1, 0, none⟩) es.length es.length, .map (some (w.heap.size + 2)), .int .i64 now, x4, x5, x6] 94)) (madeCells #[.string ⟨#[]⟩, .int .i64 0] (es.length * 2)) 98 (fun i => (madeCells #[.string ⟨#[]⟩, .int .i64 0] (es.length * 2)).getD i .nilIface) (fun i hi => by
      simp only [Array.getD, hi, dif_pos]
      exact Array.getElem?_eq_getElem hi)
    rw [e1, size_madeCells] at h
    exact h.alloc _
  · have h := World.ownsMap_made ((w.alloc (.cells #[x0, .slice (some ⟨w.heap.size + 1, 0, none⟩) es.length es.length, .map (some (w.heap.size + 2)), .int .i64 now, x4, x5, x6] 94)).alloc (.cells (madeCells #[.string ⟨#[]⟩, .int .i64 0] (es.length * 2)) 98)) Try.prog 9 (plainElem (H := Unit) Try.prog 3)
    rw [e2] at h
    exact h

theorem rep_step {w wr w8 : World} {now : Int} {es : List (ByteArray × Int)} {n k : Nat} {f : Nat → Value} {s : ByteArray} {t : Int} (hk : k < es.length) (_hn : es.length ≤ n)
    (c1 : wr.cell? ⟨w.heap.size, 1, none⟩ = some (.slice (some ⟨w.heap.size + 1, 0, none⟩) n n)) (c2 : wr.cell? ⟨w.heap.size, 2, none⟩ = some (.map (some (w.heap.size + 2)))) (c3 : wr.cell? ⟨w.heap.size, 3, none⟩ = some (.int .i64 now))
    (hr : wr.rowIs (w.heap.size + 1) 98 (n * 2) f) (hf : ∀ i, i < k → f (i * 2) = .string (eK es i) ∧ f (i * 2 + 1) = .int .i64 (eT es i)) (hs : s = eK es k) (ht : t = eT es k)
    (hm : w8.ownsMap Try.prog 9 (plainElem (H := Unit) Try.prog 3) (w.heap.size + 2) (k + 1) (Dk es (k + 1)))
    (hg : World.grownBy (((wr.setCell ⟨w.heap.size + 1, k * 2, none⟩ (.string s)).setCell ⟨w.heap.size + 1, k * 2 + 1, none⟩ (.int .i64 t)).drew.drew) w8 (some (w.heap.size + 2)))
    (hb : Below w.heap.size w wr) : Rep w8 w.heap.size now es n (k + 1) ∧ Below w.heap.size w w8 := by
  have hsz : ∀ (x : World) (a : Addr) (v : Value), (x.setCell a v).heap.size = x.heap.size := fun x a v => by simp [World.setCell]
  have hlt1 := hr.lt
  have hold : ∀ o, w8.cell? ⟨w.heap.size, o, none⟩ = wr.cell? ⟨w.heap.size, o, none⟩ := fun o => by
    have h1 := hg.block w.heap.size (by show _ < ((wr.setCell _ _).setCell _ _).heap.size; rw [hsz, hsz]; omega) (by simp)
    refine World.cell?_of_block (w := wr) (h1.trans ?_)
    show ((wr.setCell _ _).setCell _ _).heap[w.heap.size]? = _
    rw [Below.heap_setCell _ _ _ _ (by simp), Below.heap_setCell _ _ _ _ (by simp)]
  refine ⟨⟨by rw [hold]; exact c1, by rw [hold]; exact c2, by rw [hold]; exact c3, ?_, hm⟩, ?_⟩
  · have h2 := (hr.set (k * 2) (.string s)).set (k * 2 + 1) (.int .i64 t)
    refine ⟨_, h2.of_block (hg.block (w.heap.size + 1) (by show _ < ((wr.setCell _ _).setCell _ _).heap.size; rw [hsz, hsz]; exact hlt1) (by simp)), fun i hi => ?_⟩
    by_cases e : i = k
    · subst e
      simp [hs, ht]
    · have h3 := hf i (by omega)
      simp only [show ¬ i * 2 = k * 2 + 1 by omega, show ¬ i * 2 = k * 2 by omega, show ¬ i * 2 + 1 = k * 2 + 1 by omega, show ¬ i * 2 + 1 = k * 2 by omega, if_false]
      exact h3
  · refine Below.grown (w := ((wr.setCell ⟨w.heap.size + 1, k * 2, none⟩ (.string s)).setCell ⟨w.heap.size + 1, k * 2 + 1, none⟩ (.int .i64 t)).drew.drew) ?_ hg ?_ (fun j hj => by cases hj; omega)
    · exact ((hb.setCell (p := ⟨w.heap.size + 1, k * 2, none⟩) (Nat.le_succ _) _).setCell (p := ⟨w.heap.size + 1, k * 2 + 1, none⟩) (Nat.le_succ _) _).drew.drew
    · show _ ≤ ((wr.setCell _ _).setCell _ _).heap.size
      rw [hsz, hsz]; omega

set_option maxHeartbeats 4000000 in
set_option maxRecDepth 100000 in
theorem newReplica (now : Int) (ak aa : Option Addr) (es : List (ByteArray × Int)) (w : World) (hk : KRow w ak es) (ht : TRow w aa es) (hl : es.length ≤ 1048576) (hs : ∀ i, (eK es i).size ≤ maxLen) (hw : ∀ i, (Lit.int .i64 (eT es i)).wf = true) :
    Calls Try.prog 33 #[.int .i64 now, .slice ak es.length es.length, .slice aa es.length es.length] w fun e w' => e = .returned (.pointer (some ⟨w.heap.size, 0, none⟩)) ∧ Rep w' w.heap.size now es es.length es.length ∧ Below w.heap.size w w' := by
  have hmk := run_make89 es.length hl
  have hmp := run_map90 es.length
  by_cases h0 : 0 < es.length
  · obtain ⟨bk, rfl, hck⟩ := hk h0
    obtain ⟨ba, rfl, hca⟩ := ht h0
    have hbk : bk < w.heap.size := World.block_lt_of_cell? w _ (hck 0 h0)
    have hba : ba < w.heap.size := World.block_lt_of_cell? w _ (hca 0 h0)
    have HK : Hid (∀ i, i < es.length → w.cell? ⟨bk, i, none⟩ = some (.string (eK es i))) := hck
    have HT : Hid (∀ i, i < es.length → w.cell? ⟨ba, i, none⟩ = some (.int .i64 (eT es i))) := hca
    have HS : Hid (∀ i, (eK es i).size ≤ maxLen) := hs
    clear hk ht hck hca hs hw
    go_enter Try.func33, Try.ntmps33
    go_wp2
    go_loopw [8] (fun i wr => ∃ k : Nat, k ≤ es.length ∧ i = .int .i64 k ∧ Hid (Rep wr w.heap.size now es es.length k) ∧ Hid (Below w.heap.size w wr)) (fun i _ => es.length - (intOf i).toNat)
    case atStart => exact ⟨0, Nat.zero_le _, rfl, rep_start w now es _ _ _ _, (((Below.refl _ _).alloc (Nat.le_refl _) _).alloc (by simp) _).alloc (by simp; omega) _⟩
    case round =>
      obtain ⟨k, hkl, rfl, hrep, hbel⟩ := hrel
      by_cases hlt : k < es.length
      · obtain ⟨c1, c2, c3, ⟨f, hrow, hf⟩, hmap⟩ := hrep.out
        obtain ⟨s, hs⟩ : ∃ s, s = eK es k := ⟨_, rfl⟩
        obtain ⟨t, ht⟩ : ∃ t, t = eT es k := ⟨_, rfl⟩
        have k1 : wr.cell? ⟨bk, k, none⟩ = some (.string s) := by rw [hbel.out.cell (p := ⟨bk, k, none⟩) hbk, hs]; exact HK.out k hlt
        have k2 : wr.cell? ⟨ba, k, none⟩ = some (.int .i64 t) := by rw [hbel.out.cell (p := ⟨ba, k, none⟩) hba, ht]; exact HT.out k hlt
        have k3 : wr.cell? ⟨w.heap.size + 1, k * 2, none⟩ = some (f (k * 2)) := hrow.cell (by omega)
        have k4 : wr.cell? ⟨w.heap.size + 1, k * 2 + 1, none⟩ = some (f (k * 2 + 1)) := hrow.cell (by omega)
        have k5 : wr.frozen? ⟨w.heap.size + 1, k * 2, none⟩ = false := hrow.frozen _
        have k6 : wr.frozen? ⟨w.heap.size + 1, k * 2 + 1, none⟩ = false := hrow.frozen _
        have b2 : (k : Int) < (es.length : Int) := by omega
        have HM : Hid (wr.ownsMap Try.prog 9 (plainElem (H := Unit) Try.prog 3) (w.heap.size + 2) k (Dk es k)) := hmap
        have HR : Hid (wr.rowIs (w.heap.size + 1) 98 (es.length * 2) f) := hrow
        have HF : Hid (∀ i, i < k → f (i * 2) = .string (eK es i) ∧ f (i * 2 + 1) = .int .i64 (eT es i)) := hf
        have HS1 : Hid (s = eK es k) := hs
        have HT1 : Hid (t = eT es k) := ht
        clear hrep hmap hrow hf hs ht hmk hmp
        go_wp2
        go_region
        go_wp2
        have hm1 : (((wr.setCell ⟨w.heap.size + 1, k * 2, none⟩ (.string s)).setCell ⟨w.heap.size + 1, k * 2 + 1, none⟩ (.int .i64 t)).drew.drew).ownsMap Try.prog 9 (plainElem (H := Unit) Try.prog 3) (w.heap.size + 2) k (Dk es k) :=
          ((HM.out.setCell (by simp) _).setCell (by simp) _).drew.drew
        obtain ⟨w8, hup, hmap8, hgr8⟩ := hm1.update (key := .string s) (val := .int .i64 (k : Int)) (kl := kl s) law9 Try.underlying90 (by unfold maxLen; omega) (by rw [HS1.out]; exact keyOf_string_mk Try.underlying9 (HS.out k)) (plainElem_int Try.underlying3 (WalkArith.wf_i64 (by omega)))
        have HM8 : Hid (w8.ownsMap Try.prog 9 (plainElem (H := Unit) Try.prog 3) (w.heap.size + 2) (k + 1) (Dk es (k + 1))) := by rw [Dk, ← HS1.out]; exact hmap8
        have HG8 : Hid (World.grownBy (((wr.setCell ⟨w.heap.size + 1, k * 2, none⟩ (.string s)).setCell ⟨w.heap.size + 1, k * 2 + 1, none⟩ (.int .i64 t)).drew.drew) w8 (some (w.heap.size + 2))) := hgr8
        clear hm1 hmap8 hgr8
        go_region
        go_wp2
        go_roundw
        case rel =>
          have hstep := rep_step (k := k) hlt (by omega) c1 c2 c3 HR.out HF.out HS1.out HT1.out HM8.out HG8.out hbel.out
          exact ⟨k + 1, by omega, by go_num, hstep.1, hstep.2⟩
        case measure => simp [intOf]; omega
      · obtain rfl : k = es.length := by omega
        go_wp2
        go_ret
        exact ⟨rfl, hrep.out, hbel.out⟩
  · obtain rfl : es = [] := List.eq_nil_of_length_eq_zero (by omega)
    have hmk0 : ∀ w, (Instr.makeSlice 89 (.int .i64 0) (.int .i64 0)).run Try.prog w = .ok (.slice (some ⟨w.heap.size, 0, none⟩) 0 0) (w.alloc (.cells (madeCells #[.string ⟨#[]⟩, .int .i64 0] 0) 98)) := run_make89 0 (by omega)
    have hmp0 : ∀ w, (Instr.makeMap 90 (some (.int .i64 0))).run Try.prog w = .ok (.map (some w.heap.size)) (w.alloc (.map #[] 0)) := run_map90 0
    have hst := rep_start w now [] (.map none) (.slice none 0 0) (.int .i64 0) (.int .i64 0)
    have HST : Hid (Rep (((w.alloc (.cells #[.map none, .slice (some ⟨w.heap.size + 1, 0, none⟩) 0 0, .map (some (w.heap.size + 2)), .int .i64 now, .slice none 0 0, .int .i64 0, .int .i64 0] 94)).alloc (.cells (madeCells #[.string ⟨#[]⟩, .int .i64 0] 0) 98)).alloc (.map #[] 0)) w.heap.size now [] 0 0) := hst
    clear hk ht hs hw hmk hmp hst
    go_enter Try.func33, Try.ntmps33
    go_wp2
    refine wp_loop_rounds 1 ?_
    rw [rounds_succ]
    go_wp2
    go_ret
    exact ⟨rfl, HST.out, (((Below.refl _ _).alloc (Nat.le_refl _) _).alloc (by simp) _).alloc (by simp; omega) _⟩

set_option maxHeartbeats 4000000 in
set_option maxRecDepth 100000 in
theorem zzReplica (now : Int) (a : Option Addr) (n c : Nat) (es : List (ByteArray × Int)) (hn : n = es.length) (w : World) (h : ERow w a es) (hl : es.length ≤ 1048576) (hs : ∀ i, (eK es i).size ≤ maxLen) (hw : ∀ i, (Lit.int .i64 (eT es i)).wf = true) :
    Calls Try.prog 19 #[.int .i64 now, .slice a n c] w fun e w' => ∃ R, e = .returned (.pointer (some ⟨R, 0, none⟩)) ∧ w.heap.size ≤ R ∧ Rep w' R now es es.length es.length ∧ Below w.heap.size w w' := by
  subst hn
  have hm1 := run_make_row' (P := Try.prog) 78 9 (.string ⟨#[]⟩) 16 Try.underlying78 info9 rfl .i64 .i64 es.length (by omega) (by omega)
  have hm2 := run_make_row' (P := Try.prog) 22 2 (.int .i64 0) 8 Try.underlying22 info2 rfl .i64 .i64 es.length (by omega) (by omega)
  have HSS : Hid (∀ i, (eK es i).size ≤ maxLen) := hs
  have HWW : Hid (∀ i, (Lit.int .i64 (eT es i)).wf = true) := hw
  clear hs hw
  by_cases h0 : 0 < es.length
  · obtain ⟨b, off, rfl, hc⟩ := h h0
    have HC : Hid (∀ i, i < es.length → w.cell? ⟨b, off + i * 2, none⟩ = some (.string (eK es i)) ∧ w.cell? ⟨b, off + i * 2 + 1, none⟩ = some (.int .i64 (eT es i))) := hc
    have hbl : b < w.heap.size := World.block_lt_of_cell? w _ (hc 0 h0).1
    clear h hc
    go_enter Try.func19, Try.ntmps19
    go_wp2
    go_loopw [7] (fun i wr => ∃ (k : Nat) (C D : Array Value), k ≤ es.length ∧ i = .int .i64 k ∧ wr = (w.alloc (.cells C 9)).alloc (.cells D 2) ∧ C.size = es.length ∧ D.size = es.length ∧ Hid (∀ i, i < k → C[i]? = some (.string (eK es i)) ∧ D[i]? = some (.int .i64 (eT es i)))) (fun i _ => es.length - (intOf i).toNat)
    case atStart => exact ⟨0, _, _, Nat.zero_le _, rfl, rfl, size_madeCells _ _, size_madeCells _ _, fun i hi => by omega⟩
    case round =>
      obtain ⟨k, C, D, hk, rfl, rfl, hC, hD, hA⟩ := hrel
      by_cases hlt : k < es.length
      · obtain ⟨s, hs⟩ : ∃ s, s = eK es k := ⟨_, rfl⟩
        obtain ⟨t, ht⟩ : ∃ t, t = eT es k := ⟨_, rfl⟩
        have c1 : w.cell? ⟨b, off + k * 2, none⟩ = some (.string s) := by rw [hs]; exact (HC.out k hlt).1
        have c2 : w.cell? ⟨b, off + k * 2 + 1, none⟩ = some (.int .i64 t) := by rw [ht]; exact (HC.out k hlt).2
        have HS1 : Hid (s = eK es k) := hs
        have HT1 : Hid (t = eT es k) := ht
        have b2 : (k : Int) < (es.length : Int) := by omega
        have hkC : k < C.size := by omega
        have hkD : k < D.size := by omega
        clear hs ht
        go_wp2
        go_roundw
        case rel =>
          refine ⟨k + 1, C.setIfInBounds k (.string s), D.setIfInBounds k (.int .i64 t), by omega, by go_num, rfl, by simpa using hC, by simpa using hD, fun i hi => ?_⟩
          rw [Array.getElem?_setIfInBounds, Array.getElem?_setIfInBounds]
          by_cases e : i = k
          · subst e
            rw [← HS1.out, ← HT1.out]
            simp [hkC, hkD]
          · rw [if_neg (fun h => e h.symm), if_neg (fun h => e h.symm)]
            exact hA.out i (by omega)
        case measure => simp [intOf]; omega
      · obtain rfl : k = es.length := by omega
        have hb0 : Below w.heap.size w ((w.alloc (.cells C 9)).alloc (.cells D 2)) := ((Below.refl _ _).alloc (Nat.le_refl _) _).alloc (by simp) _
        go_wp2_with fail
        refine (newReplica now (some ⟨w.heap.size, 0, none⟩) (some ⟨w.heap.size + 1, 0, none⟩) es ((w.alloc (.cells C 9)).alloc (.cells D 2)) ?_ ?_ hl HSS.out HWW.out).mono ?_
        · intro _
          refine ⟨w.heap.size, rfl, fun i hi => ?_⟩
          rw [World.cell?_alloc_past _ _ _ (by simp), World.cell?_alloc_at _ _ _ _ rfl]
          exact (hA.out i hi).1
        · intro _
          refine ⟨w.heap.size + 1, rfl, fun i hi => ?_⟩
          rw [World.cell?_alloc_at _ _ _ _ (by simp)]
          exact (hA.out i hi).2
        · rintro e w3 ⟨rfl, hrep, hbel⟩
          have HR : Hid (Rep w3 ((w.alloc (.cells C 9)).alloc (.cells D 2)).heap.size now es es.length es.length) := hrep
          clear hrep
          go_wp2
          go_ret
          exact ⟨_, rfl, by omega, by simpa using HR.out, hb0.trans (hbel.mono hb0.size)⟩
  · obtain rfl : es = [] := List.eq_nil_of_length_eq_zero (by omega)
    have hm1' : ∀ w, (Instr.makeSlice 78 (.int .i64 0) (.int .i64 0)).run Try.prog w = .ok (.slice (some ⟨w.heap.size, 0, none⟩) 0 0) (w.alloc (.cells (madeCells #[.string ⟨#[]⟩] 0) 9)) := run_make_row' (P := Try.prog) 78 9 (.string ⟨#[]⟩) 16 Try.underlying78 info9 rfl .i64 .i64 0 (by omega) (by omega)
    have hm2' : ∀ w, (Instr.makeSlice 22 (.int .i64 0) (.int .i64 0)).run Try.prog w = .ok (.slice (some ⟨w.heap.size, 0, none⟩) 0 0) (w.alloc (.cells (madeCells #[.int .i64 0] 0) 2)) := run_make_row' (P := Try.prog) 22 2 (.int .i64 0) 8 Try.underlying22 info2 rfl .i64 .i64 0 (by omega) (by omega)
    have hb0 : ∀ o o', Below w.heap.size w ((w.alloc o).alloc o') := fun o o' => ((Below.refl _ _).alloc (Nat.le_refl _) _).alloc (by simp) _
    have HB0 : Hid (∀ o o', Below w.heap.size w ((w.alloc o).alloc o')) := hb0
    clear h hm1 hm2 hb0
    go_enter Try.func19, Try.ntmps19
    go_wp2
    refine wp_loop_rounds 1 ?_
    rw [rounds_succ]
    go_wp2_with fail
    refine (newReplica now _ _ [] _ (fun h => absurd h (by simp)) (fun h => absurd h (by simp)) hl HSS.out HWW.out).mono ?_
    rintro e w3 ⟨rfl, hrep, hbel⟩
    have HR : Hid (∃ R, R = ((w.alloc (.cells (madeCells #[.string ⟨#[]⟩] 0) 9)).alloc (.cells (madeCells #[.int .i64 0] 0) 2)).heap.size ∧ Rep w3 R now [] 0 0) := ⟨_, rfl, hrep⟩
    clear hrep
    go_wp2
    go_ret
    obtain ⟨R, hR, hr⟩ := HR.out
    refine ⟨_, rfl, by omega, ?_, (HB0.out _ _).trans (hbel.mono (HB0.out _ _).size)⟩
    have e : R = w.heap.size + 1 + 1 := by simpa using hR
    rw [← e]; exact hr
end Go.Proofs.Qxb6609368a
