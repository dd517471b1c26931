/-
  SEAT b6609368a: the lists of values by part: what the walk of FnMergeReassemblesScatteredValues builds.
-/
import Derived.Test.Qxb6609368aMerge
import Derived.Test.Qxb6609368aGrew
import Derived.Deep.RegionLaw
namespace Go.Proofs.Qxb6609368a
open Go.RowKit

/-- the values of the keys of part p among the first k -/
def sel (ks : List (Int × Hd)) (p : Nat) : Nat → List Hd
  | 0 => []
  | k + 1 => if kP ks k = (p : Int) then sel ks p k ++ [kV ks k] else sel ks p k

theorem sel_length (ks : List (Int × Hd)) (p k : Nat) : (sel ks p k).length = cnt ks p k := by
  induction k with
  | zero => rfl
  | succ k ih => simp only [sel, cnt]; split <;> simp [ih]

theorem sel_prefix (ks : List (Int × Hd)) (p k l : Nat) (h : k ≤ l) : ∃ t, sel ks p l = sel ks p k ++ t := by
  induction l with
  | zero => obtain rfl : k = 0 := by omega
            exact ⟨[], by simp⟩
  | succ l ih =>
    by_cases e : k = l + 1
    · subst e; exact ⟨[], by simp⟩
    · obtain ⟨t, ht⟩ := ih (by omega)
      simp only [sel]
      split
      · exact ⟨t ++ [kV ks l], by rw [ht]; simp⟩
      · exact ⟨t, ht⟩

/-- the k-th key's value lies in its part's list at its place -/
theorem sel_at {ks : List (Int × Hd)} {p k : Nat} (hp : kP ks k = (p : Int)) (l : Nat) (hl : k < l) : (sel ks p l).getD (cnt ks p k) default = kV ks k := by
  obtain ⟨t, ht⟩ := sel_prefix ks p (k + 1) l hl
  have e : sel ks p (k + 1) = sel ks p k ++ [kV ks k] := by simp [sel, hp]
  rw [ht, e]
  simp [List.getD, sel_length]

theorem pick_at {ks : List (Int × Hd)} {C : Nat → List Hd} {p k : Nat} (hp : kP ks k = (p : Int)) (hC : C p = sel ks p ks.length) (hk : k < ks.length) : pick ks C k = kV ks k := by
  simp only [pick, hp, Int.toNat_natCast, hC]
  exact sel_at hp _ hk

theorem cnt_pos {ks : List (Int × Hd)} {p j : Nat} (hj : j < ks.length) (hp : kP ks j = (p : Int)) : 0 < cnt ks p ks.length := by
  have h1 := cnt_up ks p (j + 1) ks.length hj
  have h2 := cnt_one hp
  omega

/-- headers as values -/
def hv (hs : List Hd) : List Value := hs.map Hd.v
theorem hv_length (hs : List Hd) : (hv hs).length = hs.length := by simp [hv]
theorem hv_at {hs : List Hd} {j : Nat} (h : j < hs.length) : (hv hs)[j]? = some (.slice (hs.getD j default).a (hs.getD j default).n (hs.getD j default).c) := by
  simp [hv, h, Hd.v, List.getD]

/-- append, its run known, as one step of a region that draws -/
theorem step_append_run {P : Program} {ops : Array Oper} {o : Oper} {a : Act} {w : World} {K : Act → World → Prop} {Q : Exit → Act → World → Prop} {E : Prop}
    (hg : o.guard = none) (s x : Operand) (t : TypeId) (hop : o.op = Op.call { callee := Callee.builtin Builtin.append, args := #[s, x], argTypes := #[t, t] })
    (v vx v' : Value) (w' : World) (hs : a.eval s = v) (hx : a.eval x = vx) (hrun : (Builtin.append_ #[t, t] o.type #[v, vx]).run P w = .ok v' w')
    (hK : K (a.put o.dst v') w') :
    if Region.wanted o (yielded ops a.tmps) = true then Oper.wp P o a w K Q else E := by
  have hw : Region.wanted o (yielded ops a.tmps) = true := by simp [Region.wanted, hg]
  rw [if_pos hw]
  unfold Oper.wp
  simp [execOp, hop, resolve, invoke, builtin, hs, hx, hrun, Result.andThen]
  exact hK

/-- The lists by part, k keys done, in blocks B (the parts), B + 1 (the lists' headers) and from B + 2 on. -/
structure Fam (w2 : World) (B n : Nat) (ks : List (Int × Hd)) (k : Nat) (wr : World) : Prop where
  below : Below B w2 wr
  size : B + 2 ≤ wr.heap.size
  idx : ∃ f, wr.rowIs B 3 ks.length f ∧ ∀ j, j < k → f j = .int .i64 (kP ks j)
  lists : ∃ L : Nat → Value, wr.rowIs (B + 1) 32 n L ∧ (∀ p, p < n → wr.ownsRow (B + 2) 33 1 (L p) (cnt ks p k) (hv (sel ks p k))) ∧ ∀ p q, p < n → q < n → p ≠ q → ∀ g, (L p).ownBlock = some g → (L q).ownBlock ≠ some g

theorem fam_start (w2 : World) (n : Nat) (ks : List (Int × Hd)) :
    Fam w2 w2.heap.size n ks 0 ((w2.alloc (.cells (madeCells #[.int .i64 0] ks.length) 3)).alloc (.cells (madeCells #[.slice none 0 0] n) 32)) := by
  have e1 : ∀ o : Obj, (w2.alloc o).heap.size = w2.heap.size + 1 := fun o => by simp
  refine ⟨((Below.refl _ _).alloc (Nat.le_refl _) _).alloc (by simp) _, by simp, ?_, ?_⟩
  · exact ⟨_, (World.rowIs_made w2 (.int .i64 0) ks.length 3).alloc _, fun j hj => by omega⟩
  · have h2 := World.rowIs_made (w2.alloc (.cells (madeCells #[.int .i64 0] ks.length) 3)) (.slice none 0 0) n 32
    rw [e1] at h2
    exact ⟨_, h2, fun p _ => World.ownsRow_nil _ _ _ _, fun p q _ _ _ g hg => by simp [Value.ownBlock] at hg⟩

theorem grown_set (w : World) (a : Addr) (u : Value) : w.grownBy (w.setCell a u) (some a.block) :=
  ⟨rfl, rfl, rfl, by simp [World.setCell], fun k _ hne => Below.heap_setCell _ _ _ _ (fun e => hne (by rw [e]))⟩
theorem owns_set {w : World} {base : Nat} {e : TypeId} {size : Nat} {v : Value} {n : Nat} {xs : List Value} (h : w.ownsRow base e size v n xs) (a : Addr) (u : Value) (ha : a.block < base) : (w.setCell a u).ownsRow base e size v n xs := by
  refine h.kept (grown_set w a u) ?_
  cases hv : v.ownBlock with
  | none => exact .inl rfl
  | some g =>
    refine .inr fun e => ?_
    have := (h.lt g hv).1
    simp at e
    omega

theorem info33' : ∃ i, Try.prog.info? 33 = some i ∧ i.zero = some (.slice none 0 0) ∧ i.size = 1 ∧ i.bytes = 24 := info_parts info33

theorem owns_form {w : World} {base : Nat} {e : TypeId} {size : Nat} {v : Value} {n : Nat} {xs : List Value} (h : w.ownsRow base e size v n xs) (hn : 0 < n) :
    ∃ g cap, v = .slice (some ⟨g, 0, none⟩) n cap ∧ base ≤ g := by
  rcases h.2 with ⟨_, h0⟩ | ⟨g, cap, cur, hv, hb, _⟩
  · omega
  · exact ⟨g, cap, hv, hb⟩

/-- one key more -/
theorem fam_append {w2 wr : World} {B n : Nat} {ks : List (Int × Hd)} {k p : Nat} {L : Nat → Value} (hF : Fam w2 B n ks k wr) (hk : k < ks.length) (hN : ks.length ≤ 4096) (hp : kP ks k = (p : Int)) (hpn : p < n)
    (hL : wr.rowIs (B + 1) 32 n L) (hO : ∀ p, p < n → wr.ownsRow (B + 2) 33 1 (L p) (cnt ks p k) (hv (sel ks p k))) (hD : ∀ p q, p < n → q < n → p ≠ q → ∀ g, (L p).ownBlock = some g → (L q).ownBlock ≠ some g) (ty : TypeId) :
    ∃ g c w5, (Builtin.append_ #[32, 32] ty #[L p, .slice (some ⟨wr.heap.size, 0, none⟩) 1 1]).run Try.prog ((wr.setCell ⟨B, k, none⟩ (.int .i64 (p : Int))).alloc (.cells #[.slice (kV ks k).a (kV ks k).n (kV ks k).c] 33)).drew = .ok (.slice (some ⟨g, 0, none⟩) (cnt ks p k + 1) c) w5 ∧
      (∃ o, w5.cell? ⟨B + 1, p, none⟩ = some o) ∧ w5.frozen? ⟨B + 1, p, none⟩ = false ∧
      Fam w2 B n ks (k + 1) (w5.setCell ⟨B + 1, p, none⟩ (.slice (some ⟨g, 0, none⟩) (cnt ks p k + 1) c)) := by
  obtain ⟨i, hi, hz, hs, hby⟩ := info33'
  obtain ⟨f, hf1, hf2⟩ := hF.idx
  have hsz := hF.size
  have hcell : ∀ (w : World) (v : Value), (w.alloc (.cells #[v] 33)).cell? ⟨w.heap.size, 0, none⟩ = some v := fun w v => by
    rw [World.cell?_alloc_at _ _ _ _ rfl]; rfl
  obtain ⟨w3, hw3⟩ : ∃ w3, w3 = wr.setCell ⟨B, k, none⟩ (.int .i64 (p : Int)) := ⟨_, rfl⟩
  have hs3 : w3.heap.size = wr.heap.size := by rw [hw3]; simp [World.setCell]
  obtain ⟨W4, hW4⟩ : ∃ W4, W4 = (w3.alloc (.cells #[.slice (kV ks k).a (kV ks k).n (kV ks k).c] 33)).drew := ⟨_, rfl⟩
  have hs4 : W4.heap.size = wr.heap.size + 1 := by rw [hW4]; show (w3.alloc _).heap.size = _; simp [hs3]
  have hO4 : ∀ q, q < n → W4.ownsRow (B + 2) 33 1 (L q) (cnt ks q k) (hv (sel ks q k)) := fun q hq => by
    rw [hW4, hw3]
    exact ((owns_set (hO q hq) ⟨B, k, none⟩ _ (by show B < B + 2; omega)).alloc _).drew
  have hcl := cnt_le ks p k
  obtain ⟨v', w5, hrun, hown, hgrew, _⟩ := run_append_grew (P := Try.prog) W4 (B + 2) 32 ty 33 i (.slice none 0 0) 1 24 Try.underlying32 hi hz hs hby rfl (by omega) (L p) (cnt ks p k) _ (hO4 p hpn) ⟨wr.heap.size, 0, none⟩ 1 1 [.slice (kV ks k).a (kV ks k).n (kV ks k).c] rfl
    (fun j u hu => by
      cases j with
      | zero =>
        simp at hu
        subst hu
        rw [hW4]
        have := hcell w3 (.slice (kV ks k).a (kV ks k).n (kV ks k).c)
        rw [hs3] at this
        exact this
      | succ j => simp at hu)
    (fun u hu => by simp at hu; subst hu; rfl) (by unfold maxLen; omega) (by omega) (by omega)
  obtain ⟨g, c, rfl, hg1⟩ := owns_form hown (by omega)
  have hB4 : B < W4.heap.size := by omega
  have hB14 : B + 1 < W4.heap.size := by omega
  have hne : ∀ b, b < B + 2 → some b ≠ (L p).ownBlock := fun b hb e => by have := ((hO4 p hpn).lt b e.symm).1; omega
  have hlr : w5.rowIs (B + 1) 32 n L := by
    refine World.rowIs.of_block (w := W4) ?_ (hgrew.by'.block _ hB14 (hne _ (by omega)))
    rw [hW4, hw3]
    exact ((hL.setOther (a := ⟨B, k, none⟩) (by show B + 1 ≠ B; omega) _).alloc _).drew
  refine ⟨g, c, w5, ?_, ⟨_, hlr.cell hpn⟩, hlr.frozen p, ?_⟩
  · rw [← hw3, ← hW4]; exact hrun
  · refine ⟨?_, ?_, ?_, ?_⟩
    · have h4 : Below B w2 W4 := by
        rw [hW4, hw3]
        exact ((hF.below.setCell (p := ⟨B, k, none⟩) (Nat.le_refl _) _).alloc (by simp [World.setCell]; omega) _).drew
      exact (hgrew.below h4 (by omega) (fun b hb => by have := ((hO4 p hpn).lt b hb).1; omega)).setCell (p := ⟨B + 1, p, none⟩) (Nat.le_succ _) _
    · have := hgrew.by'.size
      simp only [World.setCell, Array.size_modify]
      omega
    · refine ⟨fun j => if j = k then .int .i64 (p : Int) else f j, ?_, fun j hj => ?_⟩
      · refine World.rowIs.setOther ?_ (a := ⟨B + 1, p, none⟩) (by show B ≠ B + 1; omega) _
        refine World.rowIs.of_block (w := W4) ?_ (hgrew.by'.block _ hB4 (hne _ (by omega)))
        rw [hW4, hw3]
        exact ((hf1.set k _).alloc _).drew
      · by_cases e : j = k
        · subst e; simp [hp]
        · simp only [e, if_false]; exact hf2 j (by omega)
    · refine ⟨fun q => if q = p then .slice (some ⟨g, 0, none⟩) (cnt ks p k + 1) c else L q, hlr.set p _, fun q hq => ?_, fun q r hq hr hqr b hb => ?_⟩
      · by_cases e : q = p
        · subst e
          have e1 : cnt ks q (k + 1) = cnt ks q k + 1 := cnt_one hp
          have e2 : hv (sel ks q (k + 1)) = hv (sel ks q k) ++ [.slice (kV ks k).a (kV ks k).n (kV ks k).c] := by simp [sel, hp, hv, Hd.v]
          rw [e1, e2]
          simp only [if_true]
          exact owns_set hown ⟨B + 1, q, none⟩ _ (by show B + 1 < B + 2; omega)
        · have hnq : ¬ kP ks k = (q : Int) := by omega
          have e1 : cnt ks q (k + 1) = cnt ks q k := by simp [cnt, hnq]
          have e2 : sel ks q (k + 1) = sel ks q k := by simp [sel, hnq]
          rw [e1, e2]
          simp only [e, if_false]
          refine owns_set ((hO4 q hq).kept hgrew.by' ?_) ⟨B + 1, p, none⟩ _ (by show B + 1 < B + 2; omega)
          cases hv : (L q).ownBlock with
          | none => exact .inl rfl
          | some b => exact .inr fun e3 => hD q p hq hpn e b hv e3.symm
      · have hold : ∀ q, q < n → q ≠ p → (L q).ownBlock ≠ some g := fun q hq hqp e3 => by
          rcases hgrew.to with h1 | h1
          · exact hD q p hq hpn hqp g e3 (by rw [← h1]; rfl)
          · have h2 := h1 g rfl
            have h3 := ((hO q hq).lt g e3).2
            omega
        by_cases e : q = p
        · subst e
          have e' : ¬ r = q := fun h => hqr h.symm
          simp only [if_true, Value.ownBlock, Option.some.injEq] at hb
          simp only [e', if_false]
          rw [← hb]
          exact hold r hr e'
        · simp only [e, if_false] at hb
          by_cases e' : r = p
          · subst e'
            simp only [if_true, Value.ownBlock]
            intro h3
            exact hold q hq e (by rw [hb, h3])
          · simp only [e', if_false]
            exact hD q r hq hr hqr b hb
end Go.Proofs.Qxb6609368a
