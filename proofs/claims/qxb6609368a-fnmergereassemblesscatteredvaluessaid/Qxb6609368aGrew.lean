/-
  SEAT b6609368a: the builtin append onto a slice of the call's own, with the exact frame: what is written is the slice's own row, or a new block.
-/
import Derived.WalkKit
import Derived.Deep.Draws
namespace Go.Proofs.Qxb6609368a
open Go.RowKit

/-- From 'v' in 'w' to 'v'' in 'w'' by appends: old blocks but v's own are as they were; v' lies in v's own block or in a new one. -/
structure Grew (w : World) (v : Value) (w' : World) (v' : Value) : Prop where
  by' : w.grownBy w' v.ownBlock
  to : v'.ownBlock = v.ownBlock ∨ ∀ k, v'.ownBlock = some k → w.heap.size ≤ k

theorem Grew.refl (w : World) (v : Value) : Grew w v w v := ⟨⟨rfl, rfl, rfl, Nat.le_refl _, fun _ _ _ => rfl⟩, .inl rfl⟩

theorem Grew.trans {w w1 w2 : World} {v v1 v2 : Value} (h : Grew w v w1 v1) (k : Grew w1 v1 w2 v2) : Grew w v w2 v2 := by
  refine ⟨⟨k.by'.os.trans h.by'.os, k.by'.tape.trans h.by'.tape, k.by'.output.trans h.by'.output, Nat.le_trans h.by'.size k.by'.size, fun i hi hne => ?_⟩, ?_⟩
  · rw [k.by'.block i (Nat.lt_of_lt_of_le hi h.by'.size) ?_, h.by'.block i hi hne]
    intro e
    rcases h.to with h1 | h1
    · exact hne (by rw [e, h1])
    · have := h1 i e.symm; omega
  · rcases k.to with k1 | k1
    · rcases h.to with h1 | h1
      · exact .inl (k1.trans h1)
      · exact .inr fun j hj => h1 j (by rw [← k1]; exact hj)
    · exact .inr fun j hj => Nat.le_trans h.by'.size (k1 j hj)

/-- A new block ahead of the appends. -/
theorem Grew.alloc {w w' : World} {v v' : Value} {o : Obj} (h : Grew (w.alloc o) v w' v') : Grew w v w' v' := by
  refine ⟨⟨h.by'.os, h.by'.tape, h.by'.output, Nat.le_trans (by simp) h.by'.size, fun i hi hne => ?_⟩, ?_⟩
  · rw [h.by'.block i (by simp; omega) hne, Below.heap_alloc _ _ _ hi]
  · rcases h.to with h1 | h1
    · exact .inl h1
    · exact .inr fun k hk => by have := h1 k hk; simp at this; omega

theorem Grew.drewN {w w' : World} {v v' : Value} (h : Grew w v w' v') {n : Nat} : Grew w v (w'.drewN n) v' := ⟨⟨h.by'.os, h.by'.tape, h.by'.output, h.by'.size, h.by'.block⟩, h.to⟩

/-- Blocks below B, with v's own row from B on. -/
theorem Grew.below {B : Nat} {w0 w w' : World} {v v' : Value} (h : Grew w v w' v') (hb : Below B w0 w) (hB : B ≤ w.heap.size) (hr : ∀ k, v.ownBlock = some k → B ≤ k) : Below B w0 w' :=
  hb.grown h.by' hB hr

/-- A cell that was there, not of v's own row. -/
theorem Grew.cell {w w' : World} {v v' : Value} (h : Grew w v w' v') {a : Addr} (ha : a.block < w.heap.size) (hne : some a.block ≠ v.ownBlock) : w'.cell? a = w.cell? a :=
  World.cell?_of_block (h.by'.block _ ha hne)

/-- A slice without spare room. -/
def Full (v : Value) : Prop := v = .slice none 0 0 ∨ ∃ g n, v = .slice (some ⟨g, 0, none⟩) n n
/-- Nothing that was there is written; v' lies in a new block. -/
structure Fresh (w : World) (w' : World) (v' : Value) : Prop where
  below : Below w.heap.size w w'
  new : ∀ k, v'.ownBlock = some k → w.heap.size ≤ k

theorem Fresh.trans {w w1 w2 : World} {v1 v2 : Value} (h : Fresh w w1 v1) (k : Grew w1 v1 w2 v2) : Fresh w w2 v2 := by
  refine ⟨h.below.grown k.by' h.below.size h.new, fun j hj => ?_⟩
  rcases k.to with k1 | k1
  · exact h.new j (by rw [← k1]; exact hj)
  · exact Nat.le_trans h.below.size (k1 j hj)

theorem Fresh.alloc {w w' : World} {v' : Value} {o : Obj} (h : Fresh (w.alloc o) w' v') : Fresh w w' v' := by
  refine ⟨((Below.refl _ _).alloc (Nat.le_refl _) o).trans (h.below.mono (by simp)), fun k hk => ?_⟩
  have := h.new k hk
  simp at this
  omega

section
variable {P : Program} (w : World)

theorem run_append_grew (base : Nat) (t ty e : TypeId) (i : TypeInfo) (z : Value) (size bytes : Nat) (ht : P.underlying t = some (.slice e)) (hi : P.info? e = some i) (hz : i.zero = some z)
    (hsize : i.size = size) (hby : i.bytes = bytes) (hzs : z.cells.size = size) (hsz : 0 < size)
    (v : Value) (n : Nat) (xs : List Value) (hown : w.ownsRow base e size v n xs)
    (a : Addr) (m c : Nat) (news : List Value) (hl : news.length = m * size) (hnews : ∀ j u, news[j]? = some u → w.cell? (a.add j) = some u) (h1 : ∀ u ∈ news, u.oneCell' = true)
    (h63 : n + m ≤ maxLen) (hbytes : (n + m) * bytes ≤ 140737488355328) (hbase : base ≤ w.heap.size) :
    ∃ v' w', (Builtin.append_ #[t, t] ty #[v, .slice (some a) m c]).run P w = .ok v' w' ∧ w'.ownsRow base e size v' (n + m) (xs ++ news) ∧ Grew w v w' v' ∧ (0 < m → Full v → Fresh w w' v') := by
  obtain ⟨v', w', hr, ho, hg, _⟩ := run_append_own (P := P) w base t ty e i z size bytes ht hi hz hsize hby hzs hsz v n xs hown a m c news hl hnews h1 h63 hbytes hbase
  have hown2 := hown.2
  rcases hown2 with ⟨rfl, rfl⟩ | ⟨g, cap, cur, rfl, hb, hgg, hnc, hcm, hcs, htk⟩
  · have hxs : xs = [] := List.eq_nil_of_length_eq_zero (by simpa using hown.1)
    subst hxs
    obtain ⟨v2, w2, hr2, ho2, _⟩ := run_append_own (P := P) w w.heap.size t ty e i z size bytes ht hi hz hsize hby hzs hsz (.slice none 0 0) 0 [] (World.ownsRow_nil _ _ _ _) a m c news hl hnews h1 h63 hbytes (Nat.le_refl _)
    rw [hr] at hr2
    injection hr2 with e1 e2
    subst e1
    exact ⟨v', w', hr, ho, ⟨hg, .inr fun k hk => (ho2.lt k hk).1⟩, fun _ _ => ⟨(Below.refl _ _).grown hg (Nat.le_refl _) (fun k hk => by simp [Value.ownBlock] at hk), fun k hk => (ho2.lt k hk).1⟩⟩
  · by_cases hroom : n + m ≤ cap
    · obtain ⟨w2, hr2, _, _⟩ := run_append_fits (P := P) w base t ty e i size ht hi hsize g n cap xs hown a m c news hl hnews h1 hroom
      rw [hr] at hr2
      injection hr2 with e1 e2
      subst e1
      refine ⟨_, w', hr, ho, ⟨hg, .inl rfl⟩, fun hm hf => ?_⟩
      rcases hf with hf | ⟨g', n', hf⟩
      · cases hf
      · simp only [Value.slice.injEq, Option.some.injEq, Addr.mk.injEq, and_true] at hf
        omega
    · subst hsize
      subst hby
      have holds : ∀ j u, xs[j]? = some u → w.cell? ((⟨g, 0, none⟩ : Addr).add j) = some u := hown.cells (g := g) rfl
      have hr2 := run_append_grow (P := P) w t ty e i z ht hi hz ⟨g, 0, none⟩ n cap xs hown.1 holds a m c news hl hnews (by omega) (by unfold maxLen at h63; omega) (growslice_fits (by omega) hbytes)
      rw [hr] at hr2
      injection hr2 with e1 e2
      subst e1
      subst e2
      refine ⟨_, _, hr, ho, ⟨hg, .inr fun k hk => by simp [Value.ownBlock] at hk; omega⟩, fun _ _ => ⟨?_, fun k hk => by simp [Value.ownBlock] at hk; omega⟩⟩
      exact (Below.refl _ _).drew.alloc (Nat.le_refl _) _

theorem wpList_append_grew {ops : Array Oper} {rest : List Oper} {o : Oper} {a : Act} {Q : Exit → Act → World → Prop} (hgd : o.guard = none) (s x : Operand) (t : TypeId)
    (ho : o.op = .call { callee := .builtin .append, args := #[s, x], argTypes := #[t, t] })
    (base : Nat) (e : TypeId) (i : TypeInfo) (z : Value) (size bytes : Nat) (ht : P.underlying t = some (.slice e)) (hi : P.info? e = some i) (hz : i.zero = some z)
    (hsize : i.size = size) (hby : i.bytes = bytes) (hzs : z.cells.size = size) (hsz : 0 < size)
    (v : Value) (n : Nat) (xs : List Value) (hs : a.eval s = v) (hown : w.ownsRow base e size v n xs)
    (ad : Addr) (m c : Nat) (news : List Value) (hx : a.eval x = .slice (some ad) m c) (hl : news.length = m * size) (hnews : ∀ j u, news[j]? = some u → w.cell? (ad.add j) = some u) (h1 : ∀ u ∈ news, u.oneCell' = true)
    (h63 : n + m ≤ maxLen) (hbytes : (n + m) * bytes ≤ 140737488355328) (hbase : base ≤ w.heap.size)
    (h : ∀ v' w', w'.ownsRow base e size v' (n + m) (xs ++ news) → Grew w v w' v' → (0 < m → Full v → Fresh w w' v') → wpList P ops Q rest (a.put o.dst v') w') : wpList P ops Q (o :: rest) a w := by
  refine wpList_plain hgd fun K hK => ?_
  obtain ⟨v', w', hr, h2, h3, h4⟩ := run_append_grew (P := P) w base t o.type e i z size bytes ht hi hz hsize hby hzs hsz v n xs hown ad m c news hl hnews h1 h63 hbytes hbase
  unfold Oper.wp execOp
  simp only [ho, resolve, invoke, builtin, Sem.run_bind, Sem.run_pure, Result.andThen_ok, List.map_toArray, List.map_cons, List.map_nil, hs, hx, hr]
  exact hK _ _ (h v' w' h2 h3 h4)
end
end Go.Proofs.Qxb6609368a
