/-
  SEAT b6609368a: what stands before Merge is called; the copies that the law makes of it.
-/
import Derived.Test.Qxb6609368aLists
import Derived.Laws.CopyOwn
namespace Go.Proofs.Qxb6609368a
open Go.RowKit

/-- the cells of a result at place p of block b -/
def ResAt (w : World) (b p : Nat) (N : Int) (a : Option Addr) (l c : Nat) : Prop :=
  w.cell? ⟨b, p * 3, none⟩ = some .nilIface ∧ w.cell? ⟨b, p * 3 + 1, none⟩ = some (.int .i64 N) ∧ w.cell? ⟨b, p * 3 + 2, none⟩ = some (.slice a l c)

structure Got (w : World) (a0 a2 : Option Addr) (S bs B br : Nat) (kind : Int) (ns : List Int) (ks : List (Int × Hd)) (G Cp : Nat → Nat) : Prop where
  args : Args w a0 a2 ns ks
  lists : Lists w B ns.length ks G Cp
  s0 : w.cell? ⟨S, 0, none⟩ = some (.slice (some ⟨bs, 0, none⟩) ns.length ns.length)
  s2 : w.cell? ⟨S, 2, none⟩ = some (.int .u8 kind)
  s3 : w.cell? ⟨S, 3, none⟩ = some (.bool true)
  s4 : w.cell? ⟨S, 4, none⟩ = some (.slice (some ⟨B, 0, none⟩) ks.length ks.length)
  res : ∀ p, p < ns.length → ResAt w br p (ns.getD p 0) (some ⟨G p, 0, none⟩) (cnt ks p ks.length) (Cp p)

theorem ResAt.below {Q : Nat} {w w' : World} {b p : Nat} {N : Int} {a : Option Addr} {l c : Nat} (h : ResAt w b p N a l c) (hb : Below Q w w') (hQ : w.heap.size ≤ Q) : ResAt w' b p N a l c :=
  ⟨keep_cell hb hQ h.1, keep_cell hb hQ h.2.1, keep_cell hb hQ h.2.2⟩

theorem Got.below {Q : Nat} {w w' : World} {a0 a2 : Option Addr} {S bs B br : Nat} {kind : Int} {ns : List Int} {ks : List (Int × Hd)} {G Cp : Nat → Nat} (h : Got w a0 a2 S bs B br kind ns ks G Cp) (hb : Below Q w w') (hQ : w.heap.size ≤ Q) : Got w' a0 a2 S bs B br kind ns ks G Cp :=
  ⟨h.args.below hb hQ, h.lists.below hb hQ, keep_cell hb hQ h.s0, keep_cell hb hQ h.s2, keep_cell hb hQ h.s3, keep_cell hb hQ h.s4, fun p hp => (h.res p hp).below hb hQ⟩

theorem got_start {w4 wr : World} {a0 a2 : Option Addr} {bs B br : Nat} {kind : Int} {ns : List Int} {ks : List (Int × Hd)} {G Cp : Nat → Nat} {x1 : Value} (hA : Args w4 a0 a2 ns ks) (hL : Lists w4 B ns.length ks G Cp) (hR : Rs w4 br ns.length ns ks G Cp ns.length wr) (hbr : br = w4.heap.size) :
    Got (wr.alloc (.cells #[.slice (some ⟨bs, 0, none⟩) ns.length ns.length, x1, .int .u8 kind, .bool true, .slice (some ⟨B, 0, none⟩) ks.length ks.length] 76)) a0 a2 wr.heap.size bs B br kind ns ks G Cp := by
  have hQ : w4.heap.size ≤ br := Nat.le_of_eq hbr.symm
  have hb : ∀ o, Below wr.heap.size wr (wr.alloc o) := fun o => (Below.refl _ _).alloc (Nat.le_refl _) _
  obtain ⟨f, h1, h2⟩ := hR.row
  refine ⟨(hA.below hR.below hQ).below (hb _) (Nat.le_refl _), (hL.below hR.below hQ).below (hb _) (Nat.le_refl _), ?_, ?_, ?_, ?_, fun p hp => ?_⟩
  · rw [World.cell?_alloc_at _ _ _ _ rfl]; rfl
  · rw [World.cell?_alloc_at _ _ _ _ rfl]; rfl
  · rw [World.cell?_alloc_at _ _ _ _ rfl]; rfl
  · rw [World.cell?_alloc_at _ _ _ _ rfl]; rfl
  · obtain ⟨e1, e2, e3⟩ := h2 p hp
    refine ResAt.below ⟨?_, ?_, ?_⟩ (hb _) (Nat.le_refl _)
    · rw [h1.cell (by omega), e1]
    · rw [h1.cell (by omega), e2]
    · rw [h1.cell (by omega), e3]

/-- Merge's input, results from block b -/
theorem got_min {w : World} {a0 a2 : Option Addr} {S bs B br : Nat} {kind : Int} {ns : List Int} {ks : List (Int × Hd)} {G Cp : Nat → Nat} (h : Got w a0 a2 S bs B br kind ns ks G Cp) (b : Nat) (C : Nat → List Hd)
    (hr : ∀ p, p < ns.length → ∃ g c, ResAt w b p (ns.getD p 0) (some ⟨g, 0, none⟩) (C p).length c ∧ ∀ j, j < (C p).length → w.cell? ⟨g, j, none⟩ = some (.slice ((C p).getD j default).a ((C p).getD j default).n ((C p).getD j default).c)) :
    MIn w S bs B b ns.length kind ks (fun p => ns.getD p 0) C :=
  ⟨h.s0, h.s2, h.s3, h.s4, h.lists.idx, fun p hp => by
    obtain ⟨g, c, ⟨r0, r1, r2⟩, hg⟩ := hr p hp
    exact ⟨some ⟨g, 0, none⟩, c, r0, r1, r2, fun _ => ⟨g, rfl, hg⟩⟩⟩

theorem got_own {w : World} {a0 a2 : Option Addr} {S bs B br : Nat} {kind : Int} {ns : List Int} {ks : List (Int × Hd)} {G Cp : Nat → Nat} (h : Got w a0 a2 S bs B br kind ns ks G Cp) (p : Nat) (hp : p < ns.length) :
    ∃ g c, ResAt w br p (ns.getD p 0) (some ⟨g, 0, none⟩) (sel ks p ks.length).length c ∧ ∀ j, j < (sel ks p ks.length).length → w.cell? ⟨g, j, none⟩ = some (.slice ((sel ks p ks.length).getD j default).a ((sel ks p ks.length).getD j default).n ((sel ks p ks.length).getD j default).c) := by
  rw [sel_length]
  exact ⟨G p, Cp p, h.res p hp, h.lists.el p hp⟩

/-- copy, elements of any size, onto a row from its start -/
theorem run_copy_wide {P : Program} (w : World) (dT sT ty elem : TypeId) (g dLen dCap : Nat) (a : Addr) (sLen sCap : Nat) (cur : Array Value) (t : TypeId) (size : Nat) (cs : List Value)
    (hu : P.underlying dT = some (.slice elem)) (hs : (P.info? elem).map (·.size) = some size)
    (hg : w.heap[g]? = some (.cells cur t (0, 0))) (hn : cs.length = Nat.min sLen dLen * size)
    (hsrc : ∀ j v, cs[j]? = some v → w.cell? (a.add j) = some v) (hfit : cs.length ≤ cur.size) (h1 : ∀ v ∈ cs, v.oneCell' = true) :
    (Builtin.copy_ #[dT, sT] ty #[.slice (some ⟨g, 0, none⟩) dLen dCap, .slice (some a) sLen sCap]).run P w =
      .ok (goInt (Nat.min sLen dLen)) (w.setRow g (cs ++ cur.toList.drop cs.length).toArray) := by
  have hl := run_loadCells_list (P := P) w a cs hsrc
  have hst := run_storeCells_at P g 0 t cs 0 cur w hg (by simpa using hfit) h1
  cases hq : P.info? elem with
  | none => simp [hq] at hs
  | some i =>
    have hi : i.size = size := by simpa [hq] using hs
    rw [hn] at hl
    simp [Builtin.copy_, run_underlying hu, Builtin.lenOf, Builtin.firstCells, sizeOf, typeInfo, hq, hi, hl, hst]

theorem setRow_new' (w : World) (cur cs : Array Value) (t : TypeId) : (w.alloc (.cells cur t)).setRow w.heap.size cs = w.alloc (.cells cs t) := by
  unfold World.setRow World.alloc
  congr 1
  apply Array.ext_getElem?
  intro k
  simp only [Array.getElem?_modify, Array.getElem?_push]
  by_cases hk : k = w.heap.size
  · subst hk; simp
  · simp [hk, Ne.symm hk]

theorem copy_surplus (w : World) (ty : TypeId) (g l c : Nat) (hs : List Hd) (hl : hs.length = l) (hc : ∀ j, j < l → w.cell? ⟨g, j, none⟩ = some (.slice (hs.getD j default).a (hs.getD j default).n (hs.getD j default).c)) :
    ∃ arr : Array Value, Sem.run Try.prog (Builtin.copy_ #[32, 32] ty #[.slice (some ⟨w.heap.size, 0, none⟩) (l + 1) (l + 1), .slice (some ⟨g, 0, none⟩) l c]) (w.alloc (.cells (madeCells #[.slice none 0 0] (l + 1)) 33)) = .ok (goInt l) (w.alloc (.cells arr 33)) ∧
      ∀ j, j < l + 1 → arr[j]? = some (.slice ((hs ++ [default]).getD j default).a ((hs ++ [default]).getD j default).n ((hs ++ [default]).getD j default).c) := by
  have hsz : (Try.prog.info? 33).map (·.size) = some 1 := by kernel_rfl
  have hmin : Nat.min l (l + 1) = l := Nat.min_eq_left (by omega)
  have hr := run_copy_wide (P := Try.prog) (w.alloc (.cells (madeCells #[.slice none 0 0] (l + 1)) 33)) 32 32 ty 33 w.heap.size (l + 1) (l + 1) ⟨g, 0, none⟩ l c (madeCells #[.slice none 0 0] (l + 1)) 33 1 (hv hs) Try.underlying32 hsz (heap_alloc_new w _) (by rw [hmin, hv_length, hl]; omega) ?_ (by rw [hv_length, size_madeCells]; omega) (by simp [hv, Hd.v, Value.oneCell'])
  · rw [setRow_new', hmin] at hr
    refine ⟨_, hr, fun j hj => ?_⟩
    rw [List.getElem?_toArray]
    by_cases e : j < l
    · rw [List.getElem?_append_left (by rw [hv_length]; omega), hv_at (by omega)]
      simp [List.getD, List.getElem?_append_left (show j < hs.length by omega)]
    · obtain rfl : j = l := by omega
      rw [List.getElem?_append_right (by rw [hv_length]; omega), hv_length, hl, Nat.sub_self, List.getElem?_drop]
      have e2 : (hs ++ [default]).getD j default = default := by simp [List.getD, hl]
      rw [e2]
      have h3 : (madeCells #[Value.slice none 0 0] (j + 1)).toList[j + 0]? = some (.slice none 0 0) := by
        rw [Array.getElem?_toList]
        simp [madeCells, Nat.mod_one]
      rw [h3]
      rfl
  · intro j u hj
    have hlt : j < l := by
      have := (List.getElem?_eq_some_iff.1 hj).1
      rw [hv_length] at this; omega
    rw [hv_at (by omega)] at hj
    have hcj := hc j hlt
    rw [Addr.add_lit, World.cell?_alloc_past _ _ _ (World.block_lt_of_cell? w _ hcj), Nat.zero_add, hcj]
    exact hj

/-- the results' cells in a row -/
def fres (ns : List Int) (ks : List (Int × Hd)) (G Cp : Nat → Nat) (i : Nat) : Value :=
  if i % 3 = 0 then .nilIface else if i % 3 = 1 then .int .i64 (ns.getD (i / 3) 0) else .slice (some ⟨G (i / 3), 0, none⟩) (cnt ks (i / 3) ks.length) (Cp (i / 3))

theorem copy_results (w : World) (ty : TypeId) (br n : Nat) (f : Nat → Value) (hf : ∀ i, i < n * 3 → w.cell? ⟨br, i, none⟩ = some (f i)) (h1 : ∀ i, (f i).oneCell' = true) :
    ∃ arr : Array Value, Sem.run Try.prog (Builtin.copy_ #[34, 34] ty #[.slice (some ⟨w.heap.size, 0, none⟩) n n, .slice (some ⟨br, 0, none⟩) n n]) (w.alloc (.cells (madeCells #[.nilIface, .int .i64 0, .slice none 0 0] (n * 3)) 38)) = .ok (goInt n) (w.alloc (.cells arr 38)) ∧
      arr.size = n * 3 ∧ ∀ i, i < n * 3 → arr[i]? = some (f i) := by
  have hsz : (Try.prog.info? 38).map (·.size) = some 3 := by kernel_rfl
  have hmin : Nat.min n n = n := Nat.min_self n
  have hr := run_copy_wide (P := Try.prog) (w.alloc (.cells (madeCells #[.nilIface, .int .i64 0, .slice none 0 0] (n * 3)) 38)) 34 34 ty 38 w.heap.size n n ⟨br, 0, none⟩ n n (madeCells #[.nilIface, .int .i64 0, .slice none 0 0] (n * 3)) 38 3 ((List.range (n * 3)).map f) Try.underlying34 hsz (heap_alloc_new w _) (by rw [hmin]; simp) ?_ (by rw [size_madeCells]; simp) (by simpa using fun i _ => h1 i)
  · rw [setRow_new', hmin] at hr
    have e : (List.map f (List.range (n * 3)) ++ List.drop (List.map f (List.range (n * 3))).length (madeCells #[Value.nilIface, .int .i64 0, .slice none 0 0] (n * 3)).toList) = (List.range (n * 3)).map f := by
      rw [List.drop_of_length_le (by simp [size_madeCells]), List.append_nil]
    rw [e] at hr
    exact ⟨_, hr, by simp, fun i hi => by simp [hi]⟩
  · intro j u hj
    have hlt : j < n * 3 := by
      have := (List.getElem?_eq_some_iff.1 hj).1
      simpa using this
    have hcj := hf j hlt
    rw [Addr.add_lit, World.cell?_alloc_past _ _ _ (World.block_lt_of_cell? w _ hcj), Nat.zero_add, hcj, ← hj]
    simp [hlt]

theorem fres_one (ns : List Int) (ks : List (Int × Hd)) (G Cp : Nat → Nat) (i : Nat) : (fres ns ks G Cp i).oneCell' = true := by
  unfold fres; split
  · rfl
  · split <;> rfl
theorem got_cells {w : World} {a0 a2 : Option Addr} {S bs B br : Nat} {kind : Int} {ns : List Int} {ks : List (Int × Hd)} {G Cp : Nat → Nat} (h : Got w a0 a2 S bs B br kind ns ks G Cp) (i : Nat) (hi : i < ns.length * 3) : w.cell? ⟨br, i, none⟩ = some (fres ns ks G Cp i) := by
  obtain ⟨r0, r1, r2⟩ := h.res (i / 3) (by omega)
  unfold fres
  by_cases e0 : i % 3 = 0
  · rw [if_pos e0, ← r0, show i / 3 * 3 = i by omega]
  · by_cases e1 : i % 3 = 1
    · rw [if_neg e0, if_pos e1, ← r1, show i / 3 * 3 + 1 = i by omega]
    · rw [if_neg e0, if_neg e1, ← r2, show i / 3 * 3 + 2 = i by omega]

/-- the copied results, one list of values exchanged -/
theorem res_swapped {w : World} {b : Nat} {ns : List Int} {ks : List (Int × Hd)} {G Cp : Nat → Nat} {arr : Array Value} (hs : arr.size = ns.length * 3) (ha : ∀ i, i < ns.length * 3 → arr[i]? = some (fres ns ks G Cp i)) (q : Nat) (_hq : q < ns.length) (a : Option Addr) (l c : Nat)
    (hb : ∀ i, w.cell? ⟨b, i, none⟩ = (arr.setIfInBounds (q * 3 + 2) (.slice a l c))[i]?) (p : Nat) (hp : p < ns.length) :
    ResAt w b p (ns.getD p 0) (if p = q then a else some ⟨G p, 0, none⟩) (if p = q then l else cnt ks p ks.length) (if p = q then c else Cp p) := by
  have f0 : fres ns ks G Cp (p * 3) = .nilIface := by simp [fres]
  have f1 : fres ns ks G Cp (p * 3 + 1) = .int .i64 (ns.getD p 0) := by
    unfold fres
    rw [if_neg (by omega), if_pos (by omega), show (p * 3 + 1) / 3 = p by omega]
  have f2 : fres ns ks G Cp (p * 3 + 2) = .slice (some ⟨G p, 0, none⟩) (cnt ks p ks.length) (Cp p) := by
    unfold fres
    rw [if_neg (by omega), if_neg (by omega), show (p * 3 + 2) / 3 = p by omega]
  refine ⟨?_, ?_, ?_⟩
  · rw [hb, Array.getElem?_setIfInBounds, if_neg (by omega), ha _ (by omega), f0]
  · rw [hb, Array.getElem?_setIfInBounds, if_neg (by omega), ha _ (by omega), f1]
  · rw [hb, Array.getElem?_setIfInBounds]
    by_cases e : p = q
    · subst e
      simp [hs]; omega
    · rw [if_neg (by omega), ha _ (by omega), f2]
      simp [e]
end Go.Proofs.Qxb6609368a
