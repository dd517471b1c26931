/-
  SEAT b6609368a: Merge on the results with a value too many, too few.
-/
import Derived.Test.Qxb6609368aGot
namespace Go.Proofs.Qxb6609368a
open Go.RowKit

theorem swap_min {w : World} {a0 a2 : Option Addr} {S bs B br : Nat} {kind : Int} {ns : List Int} {ks : List (Int × Hd)} {G Cp : Nat → Nat} (h : Got w a0 a2 S bs B br kind ns ks G Cp) (b q g l c : Nat) (hs : List Hd) (hl : hs.length = l)
    (hr : ∀ p, p < ns.length → ResAt w b p (ns.getD p 0) (if p = q then some ⟨g, 0, none⟩ else some ⟨G p, 0, none⟩) (if p = q then l else cnt ks p ks.length) (if p = q then c else Cp p))
    (hc : ∀ j, j < l → w.cell? ⟨g, j, none⟩ = some (.slice (hs.getD j default).a (hs.getD j default).n (hs.getD j default).c)) :
    MIn w S bs B b ns.length kind ks (fun p => ns.getD p 0) (fun p => if p = q then hs else sel ks p ks.length) := by
  refine got_min h b _ (fun p hp => ?_)
  have h1 := hr p hp
  by_cases e : p = q
  · subst e
    simp only [if_true] at h1 ⊢
    rw [hl]
    exact ⟨g, c, h1, hc⟩
  · simp only [e, if_false] at h1 ⊢
    rw [sel_length]
    exact ⟨G p, Cp p, h1, h.lists.el p hp⟩

theorem below_alloc (w : World) (o : Obj) : Below w.heap.size w (w.alloc o) := (Below.refl _ _).alloc (Nat.le_refl _) _

/-- Merge refuses the results with a value too many. -/
theorem merge_more {W0 : World} {a0 a2 : Option Addr} {S bs B br : Nat} {kind : Int} {ns : List Int} {ks : List (Int × Hd)} {G Cp : Nat → Nat} {arr1 arr2 : Array Value} {last ll : Nat} (hG : Got W0 a0 a2 S bs B br kind ns ks G Cp) (hn0 : 0 < ns.length) (hn : ns.length ≤ 4096) (hN : ks.length ≤ 4096) (hP : ∀ i, i < ks.length → 0 ≤ kP ks i ∧ kP ks i < ns.length) (hln : last < ns.length) (hll : ll = cnt ks last ks.length)
    (ha1 : ∀ j, j < ll + 1 → arr1[j]? = some (.slice ((sel ks last ks.length ++ [default]).getD j default).a ((sel ks last ks.length ++ [default]).getD j default).n ((sel ks last ks.length ++ [default]).getD j default).c)) (ha2 : ∀ i, i < ns.length * 3 → arr2[i]? = some (fres ns ks G Cp i)) (hs2 : arr2.size = ns.length * 3) :
    Calls Try.prog 11 #[.pointer (some ⟨S, 0, none⟩), .slice (some ⟨W0.heap.size + 1, 0, none⟩) ns.length ns.length] ((W0.alloc (.cells arr1 33)).alloc (.cells (arr2.setIfInBounds (last * 3 + 2) (.slice (some ⟨W0.heap.size, 0, none⟩) (ll + 1) (ll + 1))) 38))
      fun e w' => e = .returned (.tuple #[.agg #[.nilIface, .int .i64 0, .slice none 0 0], .bool false]) ∧ Below W0.heap.size W0 w' := by
  have hsz1 : (W0.alloc (.cells arr1 33)).heap.size = W0.heap.size + 1 := by simp
  have hb1 := below_alloc W0 (.cells arr1 33)
  have hb2 := below_alloc (W0.alloc (.cells arr1 33)) (.cells (arr2.setIfInBounds (last * 3 + 2) (.slice (some ⟨W0.heap.size, 0, none⟩) (ll + 1) (ll + 1))) 38)
  have hb : Below W0.heap.size W0 ((W0.alloc (.cells arr1 33)).alloc (.cells (arr2.setIfInBounds (last * 3 + 2) (.slice (some ⟨W0.heap.size, 0, none⟩) (ll + 1) (ll + 1))) 38)) := hb1.trans (hb2.mono hb1.size)
  have hm := swap_min (hG.below hb (Nat.le_refl _)) (W0.heap.size + 1) last W0.heap.size (ll + 1) (ll + 1) (sel ks last ks.length ++ [default]) (by simp [sel_length, hll])
    (res_swapped hs2 ha2 last hln (some ⟨W0.heap.size, 0, none⟩) (ll + 1) (ll + 1) (fun i => by rw [World.cell?_alloc_at _ _ _ _ hsz1.symm]))
    (fun j hj => by
      rw [World.cell?_alloc_past _ _ _ (by rw [hsz1]; omega), World.cell?_alloc_at _ _ _ _ rfl]
      exact ha1 j hj)
  refine (merge _ S bs B _ ns.length kind ks _ _ hm hn0 hn hN hP).mono fun e w' hM => ⟨?_, hb.trans (hM.below.mono hb.size)⟩
  exact hM.no ⟨last, hln, by simp [sel_length]⟩

/-- Merge refuses the results with a value too few. -/
theorem merge_less {w10 : World} {a0 a2 : Option Addr} {S bs B br : Nat} {kind : Int} {ns : List Int} {ks : List (Int × Hd)} {G Cp : Nat → Nat} {o : Obj} {arr3 : Array Value} {l0 : Nat} {n : Nat} (hG : Got w10 a0 a2 S bs B br kind ns ks G Cp) (hn0 : 0 < ns.length) (hn : ns.length ≤ 4096) (hN : ks.length ≤ 4096) (hP : ∀ i, i < ks.length → 0 ≤ kP ks i ∧ kP ks i < ns.length) (hl0 : l0 + 1 = cnt ks 0 ks.length)
    (ha3 : ∀ i, i < ns.length * 3 → arr3[i]? = some (fres ns ks G Cp i)) (hs3 : arr3.size = ns.length * 3) {W : World} (hW : W = ((w10.alloc o).alloc (.cells (arr3.setIfInBounds 2 (.slice (some ⟨G 0, 0, none⟩) l0 (Cp 0))) 38)).drewN n) :
    Calls Try.prog 11 #[.pointer (some ⟨S, 0, none⟩), .slice (some ⟨w10.heap.size + 1, 0, none⟩) ns.length ns.length] W
      fun e w' => e = .returned (.tuple #[.agg #[.nilIface, .int .i64 0, .slice none 0 0], .bool false]) ∧ Below (w10.heap.size + 1) (w10.alloc o) w' := by
  have hsz1 : (w10.alloc o).heap.size = w10.heap.size + 1 := by simp
  have hb1 := below_alloc w10 o
  have hb2 : Below (w10.heap.size + 1) (w10.alloc o) W := by
    have h := below_alloc (w10.alloc o) (.cells (arr3.setIfInBounds 2 (.slice (some ⟨G 0, 0, none⟩) l0 (Cp 0))) 38)
    rw [hsz1] at h
    rw [hW]
    exact ⟨h.os, h.tape, h.output, h.size, h.block⟩
  have hb : Below w10.heap.size w10 W := hb1.trans (hb2.mono (by omega))
  have hm := swap_min (hG.below hb (Nat.le_refl _)) (w10.heap.size + 1) 0 (G 0) l0 (Cp 0) ((sel ks 0 ks.length).take l0) (by rw [List.length_take, sel_length]; omega)
    (res_swapped hs3 ha3 0 hn0 (some ⟨G 0, 0, none⟩) l0 (Cp 0) (fun i => by
      rw [hW]
      show ((w10.alloc o).alloc _).cell? _ = _
      rw [World.cell?_alloc_at _ _ _ _ hsz1.symm]))
    (fun j hj => by
      have h1 := keep_cell hb (Nat.le_refl _) (hG.lists.el 0 hn0 j (by omega))
      rw [h1]
      simp [List.getD, hj])
  refine (merge _ S bs B _ ns.length kind ks _ _ hm hn0 hn hN hP).mono fun e w' hM => ⟨?_, hb2.trans (hM.below.mono ?_)⟩
  · exact hM.no ⟨0, hn0, by simp only [if_true, List.length_take, sel_length]; omega⟩
  · have := hb2.size
    rw [hsz1] at this
    exact this

end Go.Proofs.Qxb6609368a
