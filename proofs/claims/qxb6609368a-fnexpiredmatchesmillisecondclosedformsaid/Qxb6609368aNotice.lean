/-
  SEAT b6609368a: the contracts of AppendUint32 (35), AppendUint16 (36), AppendUvarint (39), AppendHeader (30), appendString (34), AppendNotice (26).
-/
import Derived.Test.Qxb6609368aBytes
import Derived.Test.Qxb6609368aGrew
import Derived.Lib.Varint
import Derived.Laws.IdiomStrings
namespace Go.Proofs.Qxb6609368a
open Go.RowKit

theorem info5 : (Try.prog.info? 5).map (fun i => (i.zero, i.size, i.bytes)) = some (some (.int .u8 0), 1, 1) := by kernel_rfl

/-- bytes as cells -/
def bc (xs : List Int) : List Value := xs.map (Value.int .u8)
theorem bc_append (xs ys : List Int) : bc (xs ++ ys) = bc xs ++ bc ys := by simp [bc]

def be4 (x : Int) : List Int := [x / 16777216, x / 65536 % 256, x / 256 % 256, x % 256]
def be2 (x : Int) : List Int := [x / 256, x % 256]

set_option maxHeartbeats 1000000 in
theorem app32 (B n : Nat) (v : Value) (xs : List Value) (x : Int) (hx0 : 0 ≤ x) (hx1 : x < 4294967296) (w : World) (hown : w.ownsRow B 5 1 v n xs) (hB : B ≤ w.heap.size) (hlim : n + 4 ≤ 140737488355328) :
    Calls Try.prog 35 #[.agg #[], v, .int .u32 x] w fun e w' => ∃ v', e = .returned v' ∧ w'.ownsRow B 5 1 v' (n + 4) (xs ++ bc (be4 x)) ∧ Grew w v w' v' ∧ (Full v → Fresh w w' v') := by
  obtain ⟨i0, hi, hz0, hz1, hz2⟩ := info_parts info5
  go_enter Try.func35, Try.ntmps35
  go_wp2_with (at_builtin; refine wpList_append_grew _ rfl _ _ 48 rfl B 5 i0 (.int .u8 0) 1 1 Try.underlying48 hi hz0 hz1 hz2 rfl (by decide) _ _ _ rfl ((hown.alloc _).alloc _) _ 4 4 [Value.int .u8 (x / 16777216), Value.int .u8 (x / 65536 % 256), Value.int .u8 (x / 256 % 256), Value.int .u8 (x % 256)] rfl rfl ?c1 ?c2 ?c3 ?c4 ?c5 ?_)
  case c1 =>
    intro j u hj
    match j, hj with
    | 0, hj => simp at hj; subst hj; simp [Addr.add]
    | 1, hj => simp at hj; subst hj; simp [Addr.add]
    | 2, hj => simp at hj; subst hj; simp [Addr.add]
    | 3, hj => simp at hj; subst hj; simp [Addr.add]
  case c2 => intro u hu; simp at hu; rcases hu with rfl | rfl | rfl | rfl <;> rfl
  case c3 => unfold maxLen; omega
  case c4 => omega
  case c5 => simp; omega
  intro v' w2 hown' hgrow hfr
  go_wp2
  go_ret
  exact ⟨v', rfl, hown', hgrow.alloc.alloc, fun hf => (hfr hf).alloc.alloc⟩

set_option maxHeartbeats 1000000 in
theorem app16 (B n : Nat) (v : Value) (xs : List Value) (x : Int) (hx0 : 0 ≤ x) (hx1 : x < 65536) (w : World) (hown : w.ownsRow B 5 1 v n xs) (hB : B ≤ w.heap.size) (hlim : n + 2 ≤ 140737488355328) :
    Calls Try.prog 36 #[.agg #[], v, .int .u16 x] w fun e w' => ∃ v', e = .returned v' ∧ w'.ownsRow B 5 1 v' (n + 2) (xs ++ bc (be2 x)) ∧ Grew w v w' v' := by
  obtain ⟨i0, hi, hz0, hz1, hz2⟩ := info_parts info5
  go_enter Try.func36, Try.ntmps36
  go_wp2_with (at_builtin; refine wpList_append_grew _ rfl _ _ 48 rfl B 5 i0 (.int .u8 0) 1 1 Try.underlying48 hi hz0 hz1 hz2 rfl (by decide) _ _ _ rfl ((hown.alloc _).alloc _) _ 2 2 [Value.int .u8 (x / 256), Value.int .u8 (x % 256)] rfl rfl ?c1 ?c2 ?c3 ?c4 ?c5 ?_)
  case c1 =>
    intro j u hj
    match j, hj with
    | 0, hj => simp at hj; subst hj; simp [Addr.add]
    | 1, hj => simp at hj; subst hj; simp [Addr.add]
  case c2 => intro u hu; simp at hu; rcases hu with rfl | rfl <;> rfl
  case c3 => unfold maxLen; omega
  case c4 => omega
  case c5 => simp; omega
  intro v' w2 hown' hgrow _
  go_wp2
  go_ret
  exact ⟨v', rfl, hown', hgrow.alloc.alloc⟩

/-- the varint of x, as numbers -/
def uv (x : Nat) : List Int := (Lib.uvarint x).map fun c => (c.toNat : Int)
theorem uv_small {x : Nat} (h : x < 128) : uv x = [(x : Int)] := by
  simp [uv, Lib.uvarint_small h, Nat.mod_eq_of_lt (show x < 256 by omega)]
theorem uv_big {x : Nat} (h : 128 ≤ x) : uv x = ((x : Int) % 128 + 128) :: uv (x / 128) := by
  simp [uv, Lib.uvarint_big h]; omega
theorem uv_length (x : Nat) (h : x < 18446744073709551616) : (uv x).length ≤ 10 := by
  simp [uv]; exact Lib.uvarint_length64 h
theorem uv_pos (x : Nat) : 1 ≤ (uv x).length := by simp [uv]; exact Lib.uvarint_pos x

set_option maxHeartbeats 2000000 in
set_option maxRecDepth 100000 in
theorem appUvarint (B n x : Nat) (hx : x < 18446744073709551616) (v : Value) (xs : List Value) (w : World) (hown : w.ownsRow B 5 1 v n xs) (hB : B ≤ w.heap.size) (hlim : n + 10 ≤ 140737488355328) :
    Calls Try.prog 39 #[v, .int .u64 x] w fun e w' => ∃ v', e = .returned v' ∧ w'.ownsRow B 5 1 v' (n + (uv x).length) (xs ++ bc (uv x)) ∧ Grew w v w' v' := by
  obtain ⟨i0, hi, hz0, hz1, hz2⟩ := info_parts info5
  have hlen := uv_length x hx
  go_enter Try.func39, Try.ntmps39
  go_wp2
  go_loopw [0, 1] (fun vb vx wr => ∃ (y : Nat) (pre : List Int), vx = .int .u64 y ∧ y ≤ x ∧ Hid (uv x = pre ++ uv y) ∧ wr.ownsRow B 5 1 vb (n + pre.length) (xs ++ bc pre) ∧ Grew w v wr vb)
    (fun _ vx _ => (intOf vx).toNat)
  case atStart => exact ⟨x, [], rfl, Nat.le_refl _, rfl, by simpa [bc] using hown, Grew.refl _ _⟩
  case round =>
    obtain ⟨y, pre, rfl, hy, hsplit, hown1, hgr⟩ := hrel
    have hpl : pre.length + (uv y).length ≤ 10 := by
      have h2 := congrArg List.length hsplit.out
      rw [List.length_append] at h2
      omega
    have hyp := uv_pos y
    have hsz := hgr.by'.size
    by_cases h128 : 128 ≤ y
    · have hor : bits .or .u8 ((y : Int) % 256) 128 = (y : Int) % 128 + 128 := by
        rw [Lib.u8_or128_any _ (by omega) (by omega)]
        omega
      go_wp2_with (at_builtin; refine wpList_append_grew _ rfl _ _ 48 rfl B 5 i0 (.int .u8 0) 1 1 Try.underlying48 hi hz0 hz1 hz2 rfl (by decide) _ _ _ rfl (hown1.alloc _) ⟨wr.heap.size, 0, none⟩ 1 1 [Value.int .u8 ((y : Int) % 128 + 128)] rfl rfl ?c1 ?c2 ?c3 ?c4 ?c5 ?_)
      case c1 =>
        intro j u hj
        match j, hj with
        | 0, hj => simp at hj; subst hj; simp [Addr.add]
      case c2 => intro u hu; simp at hu; subst hu; rfl
      case c3 => unfold maxLen; omega
      case c4 => omega
      case c5 => simp; omega
      intro v' w1 hown' hgrow _
      have hgr1 := hgr.trans hgrow.alloc
      clear hgrow
      go_wp2
      go_roundw
      case rel =>
        refine ⟨y / 128, pre ++ [(y : Int) % 128 + 128], by go_num, by omega, by show uv x = _; rw [hsplit.out, uv_big h128]; simp, ?_, hgr1⟩
        rw [List.length_append, List.length_singleton, ← Nat.add_assoc, bc_append]
        exact hown'
      case measure => simp [intOf]; omega
    · have hsm : uv y = [(y : Int)] := uv_small (by omega)
      go_wp2_with (at_builtin; refine wpList_append_grew _ rfl _ _ 48 rfl B 5 i0 (.int .u8 0) 1 1 Try.underlying48 hi hz0 hz1 hz2 rfl (by decide) _ _ _ rfl (hown1.alloc _) ⟨wr.heap.size, 0, none⟩ 1 1 [Value.int .u8 (y : Int)] rfl rfl ?d1 ?d2 ?d3 ?d4 ?d5 ?_)
      case d1 =>
        intro j u hj
        match j, hj with
        | 0, hj => simp at hj; subst hj; simp [Addr.add]
      case d2 => intro u hu; simp at hu; subst hu; rfl
      case d3 => unfold maxLen; omega
      case d4 => omega
      case d5 => simp; omega
      intro v' w1 hown' hgrow _
      have hgr1 := hgr.trans hgrow.alloc
      clear hgrow
      go_wp2
      go_ret
      refine ⟨v', rfl, ?_, hgr1⟩
      rw [hsplit.out, hsm, bc_append, List.length_append, List.length_singleton, ← Nat.add_assoc]
      exact hown'

theorem ne_own {w : World} {B : Nat} {v : Value} {n : Nat} {xs : List Value} (h : w.ownsRow B 5 1 v n xs) : some w.heap.size ≠ v.ownBlock := by
  intro e
  have := (h.lt _ e.symm).2
  omega

set_option maxHeartbeats 1000000 in
theorem appHeader (B n : Nat) (v : Value) (xs : List Value) (x r : Int) (hx0 : 0 ≤ x) (hx1 : x < 4294967296) (hr0 : 0 ≤ r) (hr1 : r < 65536) (w : World) (hown : w.ownsRow B 5 1 v n xs) (hB : B ≤ w.heap.size) (hlim : n + 6 ≤ 140737488355328) :
    Calls Try.prog 30 #[v, .agg #[.int .u32 x, .int .u16 r]] w fun e w' => ∃ v', e = .returned v' ∧ w'.ownsRow B 5 1 v' (n + 6) (xs ++ bc (be4 x ++ be2 r)) ∧ Grew w v w' v' ∧ (Full v → Fresh w w' v') := by
  go_enter Try.func30, Try.ntmps30
  go_wp2_with fail
  refine (app32 B n v xs x hx0 hx1 _ (hown.alloc _) (by simp; omega) (by omega)).mono ?_
  rintro e w1 ⟨v1, rfl, ho1, g1, f1⟩
  have HF : Hid (Full v → Fresh (w.alloc (.cells #[.int .u32 x, .int .u16 r] 72)) w1 v1) := f1
  clear f1
  have hb1 : w1.cell? ⟨w.heap.size, 1, none⟩ = some (.int .u16 r) := by
    rw [g1.cell (by simp) (by exact ne_own hown)]
    simp
  have hs1 := g1.by'.size
  simp at hs1
  go_wp2_with fail
  refine (app16 B (n + 4) v1 _ r hr0 hr1 _ ho1 (by omega) (by omega)).mono ?_
  rintro e w2 ⟨v2, rfl, ho2, g2⟩
  go_wp2
  go_ret
  refine ⟨v2, rfl, ?_, (g1.trans g2).alloc, fun hf => ((HF.out hf).trans g2).alloc⟩
  rw [bc_append, ← List.append_assoc]
  exact ho2


theorem bc_one (ys : List Int) : ∀ u ∈ bc ys, u.oneCell' = true := ints_oneCell .u8 ys
theorem bc_length (ys : List Int) : (bc ys).length = ys.length := by simp [bc]

/-- what appendString appends -/
def str (ys : List Int) : List Int := uv ys.length ++ ys

set_option maxHeartbeats 1000000 in
theorem appString (B n : Nat) (v : Value) (xs : List Value) (g m c : Nat) (ys : List Int) (hm : m = ys.length) (w : World) (hown : w.ownsRow B 5 1 v n xs) (hB : B ≤ w.heap.size)
    (hg : g < w.heap.size) (hne : some g ≠ v.ownBlock) (hcell : ∀ j u, (bc ys)[j]? = some u → w.cell? ⟨g, j, none⟩ = some u) (hlim : n + 10 + ys.length ≤ 140737488355328) :
    Calls Try.prog 34 #[v, .slice (some ⟨g, 0, none⟩) m c] w fun e w' => ∃ v', e = .returned v' ∧ w'.ownsRow B 5 1 v' (n + (str ys).length) (xs ++ bc (str ys)) ∧ Grew w v w' v' := by
  subst hm
  obtain ⟨i0, hi, hz0, hz1, hz2⟩ := info_parts info5
  have HC : Hid (∀ j u, (bc ys)[j]? = some u → w.cell? ⟨g, j, none⟩ = some u) := hcell
  have huv := uv_length ys.length (by omega)
  clear hcell
  go_enter Try.func34, Try.ntmps34
  go_wp2_with fail
  refine (appUvarint B n ys.length (by omega) v xs _ hown hB (by omega)).mono ?_
  rintro e w1 ⟨v1, rfl, ho1, g1⟩
  have hs1 := g1.by'.size
  go_wp2_with (at_builtin; refine wpList_append_grew _ rfl _ _ 48 rfl B 5 i0 (.int .u8 0) 1 1 Try.underlying48 hi hz0 hz1 hz2 rfl (by decide) _ _ _ rfl ho1 ⟨g, 0, none⟩ ys.length c (bc ys) rfl (by rw [bc_length, Nat.mul_one]) ?c1 (bc_one ys) ?c3 ?c4 ?c5 ?_)
  case c1 =>
    intro j u hj
    have h := HC.out j u hj
    have e : (⟨g, 0, none⟩ : Addr).add j = ⟨g, j, none⟩ := by rw [Addr.add_lit, Nat.zero_add]
    rw [e, g1.cell (a := ⟨g, j, none⟩) hg hne]
    exact h
  case c3 => unfold maxLen; omega
  case c4 => omega
  case c5 => omega
  intro v2 w2 ho2 g2 _
  go_wp2
  go_ret
  refine ⟨v2, rfl, ?_, g1.trans g2⟩
  rw [str, bc_append, List.length_append, ← Nat.add_assoc]
  exact ho2

/-- what AppendNotice appends -/
def notice (x : Int) (ys : List Int) : List Int := be4 x ++ be2 0 ++ [0] ++ str ys

theorem cell_conv (w : World) (s : ByteArray) (c : Nat) (m : Nat × Nat) : ∀ j u, (bc (sb s))[j]? = some u → (w.alloc (.cells (bytesRow s c) 5 m)).cell? ⟨w.heap.size, j, none⟩ = some u := by
  intro j u hj
  have hlt : j < s.data.size := by
    have := (List.getElem?_eq_some_iff.1 hj).1
    simpa [bc, sb] using this
  have hb : (w.alloc (.cells (bytesRow s c) 5 m)).heap[w.heap.size]? = some (.cells (bytesRow s c) 5 m) := by
    show (w.heap.push _)[w.heap.size]? = _
    simp
  rw [show (w.alloc (.cells (bytesRow s c) 5 m)).cell? ⟨w.heap.size, j, none⟩ = (bytesRow s c)[j]? from by simp only [World.cell?, hb]; simp, bytesRow_at s c j hlt]
  rw [← hj]
  simp only [bc, sb, List.map_map, List.getElem?_map, Array.getElem?_toList, Array.getElem?_eq_getElem hlt]
  rfl

set_option maxHeartbeats 1000000 in
theorem appNotice (B n : Nat) (v : Value) (xs : List Value) (x : Int) (hx0 : 0 ≤ x) (hx1 : x < 4294967296) (s : ByteArray) (w : World) (hown : w.ownsRow B 5 1 v n xs) (hB : B ≤ w.heap.size) (hlim : n + 17 + s.size ≤ 140737488355328) :
    Calls Try.prog 26 #[v, .int .u32 x, .string s] w fun e w' => ∃ v', e = .returned v' ∧ w'.ownsRow B 5 1 v' (n + (notice x (sb s)).length) (xs ++ bc (notice x (sb s))) ∧ Grew w v w' v' ∧ (Full v → Fresh w w' v') := by
  obtain ⟨i0, hi, hz0, hz1, hz2⟩ := info_parts info5
  have hcv := fun w s => run_bytes_of_string (P := Try.prog) w 9 48 5 s Try.underlying9 Try.underlying48 Try.underlying5
  go_enter Try.func26, Try.ntmps26
  go_wp2_with fail
  refine (appHeader B n v xs x 0 hx0 hx1 (by omega) (by omega) _ hown hB (by omega)).mono ?_
  rintro e w1 ⟨v1, rfl, ho1, g1, f1⟩
  have HF : Hid (Full v → Fresh w w1 v1) := f1
  clear f1
  have hs1 := g1.by'.size
  go_wp2_with (at_builtin; refine wpList_append_grew _ rfl _ _ 48 rfl B 5 i0 (.int .u8 0) 1 1 Try.underlying48 hi hz0 hz1 hz2 rfl (by decide) _ _ _ rfl (ho1.alloc _) ⟨w1.heap.size, 0, none⟩ 1 1 [Value.int .u8 0] rfl rfl ?c1 ?c2 ?c3 ?c4 ?c5 ?_)
  case c1 =>
    intro j u hj
    match j, hj with
    | 0, hj => simp at hj; subst hj; simp [Addr.add]
  case c2 => intro u hu; simp at hu; subst hu; rfl
  case c3 => unfold maxLen; omega
  case c4 => omega
  case c5 => simp; omega
  intro v2 w2 ho2 g2 _
  have hs2 := g2.by'.size
  simp at hs2
  go_wp2_with fail
  refine (appString B (n + 6 + 1) v2 _ w2.heap.size s.size _ (sb s) (sb_length s).symm _ ((ho2.alloc _).drew) (by simp; omega) (by simp) (ne_own ho2) (by exact cell_conv w2 s _ _) (by rw [sb_length]; omega)).mono ?_
  rintro e w3 ⟨v3, rfl, ho3, g3⟩
  go_wp2
  go_ret
  have g3' : Grew w2 v2 w3 v3 := Grew.alloc (o := .cells (bytesRow s (grownCap w2 s.size 0 5)) 5 ((bytesRow s (grownCap w2 s.size 0 5)).size, (bytesRow s (grownCap w2 s.size 0 5)).size + 1)) ⟨⟨g3.by'.os, g3.by'.tape, g3.by'.output, g3.by'.size, g3.by'.block⟩, g3.to⟩
  refine ⟨v3, rfl, ?_, (g1.trans g2.alloc).trans g3', fun hf => ((HF.out hf).trans g2.alloc).trans g3'⟩
  have e : n + (notice x (sb s)).length = n + 6 + 1 + (str (sb s)).length := by simp [notice, be4, be2]; omega
  rw [e, notice, bc_append, bc_append]
  simpa [List.append_assoc, bc] using ho3
end Go.Proofs.Qxb6609368a
