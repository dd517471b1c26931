/-
  SEAT b6609368a: of (37), ms (38), expired (32), ZZexpired (18), zzPassed (21), zzFirstExpiredNs (23).
-/
import Derived.Test.Qxb6609368aReplica
namespace Go.Proofs.Qxb6609368a
open Go.RowKit Go.Maps
set_option linter.unusedVariables false
open Go.WideMaps (keyOf_string_mk)

/-- the string of a row of bytes -/
def ofB (xs : List Int) : ByteArray := xs.foldl (fun r n => r.push (UInt8.ofNat n.toNat)) ByteArray.empty

theorem fold_data : ∀ (xs : List Int) (s : ByteArray), (xs.foldl (fun r n => r.push (UInt8.ofNat n.toNat)) s).data.toList = s.data.toList ++ xs.map fun n => UInt8.ofNat n.toNat
  | [], s => by simp
  | x :: t, s => by
    rw [List.foldl_cons, fold_data t (s.push (UInt8.ofNat x.toNat))]
    simp [ByteArray.push]

theorem ofB_data (xs : List Int) : (ofB xs).data.toList = xs.map fun n => UInt8.ofNat n.toNat := by
  rw [ofB, fold_data]
  rfl

theorem sb_ofB (xs : List Int) (h : ∀ x ∈ xs, 0 ≤ x ∧ x < 256) : sb (ofB xs) = xs := by
  rw [sb, ofB_data, List.map_map]
  refine (List.map_congr_left (g := id) fun x hx => ?_).trans (by simp)
  have := h x hx
  simp only [Function.comp, id]
  have e : (UInt8.ofNat x.toNat).toNat = x.toNat := by simp; omega
  rw [e]
  omega

theorem sb_inj' {s t : ByteArray} (h : sb s = sb t) : s = t := by
  have h1 : s.data.toList = t.data.toList := by
    refine (List.map_inj_right (f := fun c : UInt8 => (c.toNat : Int)) ?_).1 h
    intro a b hab
    have hab' : a.toNat = b.toNat := by have h' : (a.toNat : Int) = (b.toNat : Int) := hab; omega
    exact UInt8.toNat_inj.1 hab'
  have h2 : s.data = t.data := by
    rw [← Array.toArray_toList (xs := s.data), ← Array.toArray_toList (xs := t.data), h1]
  cases s; cases t; simp_all

theorem sb_bytes (s : ByteArray) : ∀ x ∈ sb s, 0 ≤ x ∧ x < 256 := by
  intro x hx
  obtain ⟨c, _, rfl⟩ := List.mem_map.1 hx
  have := c.toNat_lt
  omega

theorem ofB_sb (s : ByteArray) : ofB (sb s) = s := sb_inj' (sb_ofB _ (sb_bytes s))

theorem ofB_size (xs : List Int) : (ofB xs).size = xs.length := by
  have h := congrArg List.length (ofB_data xs)
  simpa using h

theorem conv_bytes (a : Option Addr) (n c : Nat) (xs : List Int) (hn : n = xs.length) (w : World) (h : Row w a xs) (hz : a = none → n = 0 ∧ c = 0) :
    (convert 48 9 (.slice a n c)).run Try.prog w = .ok (.string (ofB xs)) w := by
  rw [run_convert_bytes_string w 48 9 5 a n c Try.underlying48 Try.underlying5 Try.underlying9]
  cases a with
  | none =>
    obtain ⟨rfl, rfl⟩ := hz rfl
    obtain rfl : xs = [] := List.eq_nil_of_length_eq_zero hn.symm
    simp [Conv.bytesToString, ofB]
  | some ad =>
    refine run_bytesToString w ad n c xs ?_
    have e : n = (xs.map (Value.int .u8)).length := by rw [List.length_map]; exact hn
    rw [e]
    refine run_loadCells_list (P := Try.prog) w ad (xs.map (Value.int .u8)) fun j v hj => ?_
    have hlt : j < xs.length := by
      have := (List.getElem?_eq_some_iff.1 hj).1
      simpa using this
    obtain ⟨b, off, e2, hc⟩ := h (by omega)
    obtain rfl := Option.some.inj e2
    rw [Addr.add_lit, hc j hlt, ← hj]
    simp [hlt]

/-- what 'of' answers -/
def atOf (es : List (ByteArray × Int)) (s : ByteArray) : Int := match ix es s es.length with | some i => eT es i | none => 0
def volB (es : List (ByteArray × Int)) (s : ByteArray) : Bool := (ix es s es.length).isSome

set_option maxHeartbeats 4000000 in
theorem of_any (R : Nat) (now : Int) (es : List (ByteArray × Int)) (a : Option Addr) (n c : Nat) (xs : List Int) (hn : n = xs.length) (w : World) (hrep : Rep w R now es es.length es.length) (hk : Row w a xs) (hz : a = none → n = 0 ∧ c = 0) (hl : es.length ≤ 1048576) (hx : xs.length ≤ maxLen) :
    Calls Try.prog 37 #[.pointer (some ⟨R, 1, none⟩), .slice a n c] w fun e w' => e = .returned (.tuple #[.int .i64 (atOf es (ofB xs)), .bool (volB es (ofB xs))]) ∧ ∃ m, w' = w.drewN m := by
  have hcv : ∀ m, (convert 48 9 (.slice a n c)).run Try.prog (w.drewN m) = .ok (.string (ofB xs)) (w.drewN m) := fun m => conv_bytes a n c xs hn (w.drewN m) (hk.drewN m) hz
  obtain ⟨c1, c2, c3, ⟨f, hrow, hf⟩, hmap⟩ := hrep
  have hlk : ∀ m, (Instr.lookup 90 (.map (some (R + 2))) (.string (ofB xs)) true).run Try.prog (w.drewN m) = .ok (.tuple #[.int .i64 (((ix es (ofB xs) es.length).getD 0 : Nat) : Int), .bool (volB es (ofB xs))]) (w.drewN m) := fun m => by
    have hm : (w.drewN m).ownsMap Try.prog 9 (plainElem (H := Unit) Try.prog 3) (R + 2) es.length (Dk es es.length) := hmap
    obtain ⟨v, ps, hrun, hv⟩ := hm.look_ok (key := .string (ofB xs)) (kl := kl (ofB xs)) law9 Try.underlying90 (zero3 _) (plainElem_int Try.underlying3 (by decide)) (keyOf_string_mk Try.underlying9 (by rw [ofB_size]; exact hx))
    obtain ⟨q, rfl, hq, _⟩ := plainElem_int_inv Try.underlying3 hv
    rw [at_Dk] at hq
    simp only [Prod.mk.injEq, DataW.lit.injEq, Lit.int.injEq, true_and] at hq
    rw [hrun, has_Dk, ← hq.1]
    rfl
  generalize hs : ofB xs = s at *
  clear hmap c3 hk hx hn hz hs
  cases hix : ix es s es.length with
  | none =>
    have hv : volB es s = false := by simp [volB, hix]
    have ha : atOf es s = 0 := by simp [atOf, hix]
    rw [hv, ha]
    rw [hv, hix] at hlk
    simp only [Option.getD_none] at hlk
    clear hrow hf hv ha hix
    go_enter Try.func37, Try.ntmps37
    go_wp2
    go_quiet (fail)
    go_wp2
    go_ret2
    exact ⟨rfl, nq, rfl⟩
  | some i =>
    have hv : volB es s = true := by simp [volB, hix]
    have ha : atOf es s = eT es i := by simp [atOf, hix]
    have hil := (ix_lt es s es.length i hix).1
    obtain ⟨t, ht⟩ : ∃ t, t = eT es i := ⟨_, rfl⟩
    have k1 : w.cell? ⟨R + 1, i * 2 + 1, none⟩ = some (.int .i64 t) := by rw [hrow.cell (by omega), (hf i hil).2, ht]
    rw [hv, ha, ← ht]
    rw [hv, hix] at hlk
    simp only [Option.getD_some] at hlk
    have b1 : (i : Int) < (es.length : Int) := by omega
    clear hrow hf hv ha ht hix
    go_enter Try.func37, Try.ntmps37
    go_wp2
    go_quiet (fail)
    go_wp2
    go_ret2
    exact ⟨rfl, nq, rfl⟩


/-! ### time, plain -/
theorem tdiv_bound (now : Int) (h0 : -9223372036854775808 ≤ now) (h1 : now ≤ 9223372036854775807) : -9223372036854 ≤ now.tdiv 1000000 ∧ now.tdiv 1000000 ≤ 9223372036854 := by
  by_cases h : 0 ≤ now
  · rw [Int.tdiv_eq_ediv_of_nonneg h]; omega
  · have e : now.tdiv 1000000 = - ((-now) / 1000000) := by
      rw [← Int.tdiv_eq_ediv_of_nonneg (by omega), Int.neg_tdiv]; omega
    rw [e]; omega

theorem ms_any (R : Nat) (now : Int) (w : World) (h0 : -9223372036854775808 ≤ now) (h1 : now ≤ 9223372036854775807) (c3 : w.cell? ⟨R, 3, none⟩ = some (.int .i64 now)) :
    Calls Try.prog 38 #[.pointer (some ⟨R, 0, none⟩)] w fun e w' => e = .returned (.int .i64 (now.tdiv 1000000)) ∧ w' = w := by
  have hb := tdiv_bound now h0 h1
  go_enter Try.func38, Try.ntmps38
  go_wp2
  go_ret
  exact ⟨rfl, rfl⟩

/-- expired by 'now' -/
def expB (es : List (ByteArray × Int)) (s : ByteArray) (now : Int) : Bool := volB es s && decide (atOf es s < now.tdiv 1000000)

theorem expired_any (R : Nat) (now : Int) (es : List (ByteArray × Int)) (a : Option Addr) (n c : Nat) (xs : List Int) (hn : n = xs.length) (w : World) (hrep : Rep w R now es es.length es.length) (hk : Row w a xs) (hz : a = none → n = 0 ∧ c = 0) (hl : es.length ≤ 1048576) (hx : xs.length ≤ maxLen)
    (h0 : -9223372036854775808 ≤ now) (h1 : now ≤ 9223372036854775807) :
    Calls Try.prog 32 #[.pointer (some ⟨R, 0, none⟩), .slice a n c] w fun e w' => e = .returned (.bool (expB es (ofB xs) now)) ∧ ∃ m, w' = w.drewN m := by
  have c3 := hrep.c3
  subst hn
  obtain ⟨q, hq⟩ : ∃ q, q = expB es (ofB xs) now := ⟨_, rfl⟩
  rw [← hq]
  have HQ0 : Hid (q = (volB es (ofB xs) && decide (atOf es (ofB xs) < now.tdiv 1000000))) := hq
  clear hq
  go_enter Try.func32, Try.ntmps32
  go_wp2_with fail
  refine (of_any R now es a xs.length c xs rfl w hrep hk hz hl hx).mono ?_
  rintro e w1 ⟨rfl, m1, rfl⟩
  have hq' := HQ0.out
  clear HQ0
  generalize atOf es (ofB xs) = t at *
  cases hv : volB es (ofB xs) with
  | false =>
    rw [hv, Bool.false_and] at hq'
    subst hq'
    clear hrep hk hz hv
    go_wp2
    go_ret
    exact ⟨rfl, m1, rfl⟩
  | true =>
    rw [hv, Bool.true_and] at hq'
    have HQ : Hid (q = decide (t < now.tdiv 1000000)) := hq'
    clear hrep hk hz hv hq'
    go_wp2_with fail
    refine (ms_any R now (w.drewN m1) h0 h1 c3).mono ?_
    rintro e w2 ⟨rfl, rfl⟩
    go_wp2
    go_ret
    exact ⟨ret_bool HQ.out.symm, m1, rfl⟩

theorem zzexpired (R : Nat) (now : Int) (es : List (ByteArray × Int)) (a : Option Addr) (n c : Nat) (xs : List Int) (hn : n = xs.length) (w : World) (hrep : Rep w R now es es.length es.length) (hk : Row w a xs) (hz : a = none → n = 0 ∧ c = 0) (hl : es.length ≤ 1048576) (hx : xs.length ≤ maxLen)
    (h0 : -9223372036854775808 ≤ now) (h1 : now ≤ 9223372036854775807) :
    Calls Try.prog 18 #[.pointer (some ⟨R, 0, none⟩), .slice a n c] w fun e w' => e = .returned (.bool (expB es (ofB xs) now)) ∧ ∃ m, w' = w.drewN m := by
  subst hn
  go_enter Try.func18, Try.ntmps18
  go_wp2_with fail
  refine (expired_any R now es a xs.length c xs rfl w hrep hk hz hl hx h0 h1).mono ?_
  rintro e w1 ⟨rfl, m1, rfl⟩
  clear hrep hk hz
  go_wp2
  go_ret
  exact ⟨rfl, m1, rfl⟩

theorem tdiv_neg' {now : Int} (h : now < 0) : now.tdiv 1000000 = - ((-now) / 1000000) := by
  rw [← Int.tdiv_eq_ediv_of_nonneg (by omega), Int.neg_tdiv]; omega

theorem passed_pos (at' now : Int) (h : 0 ≤ now) : decide (at' * 1000000 ≤ now - 1000000) = decide (at' < now.tdiv 1000000) := by
  rw [Int.tdiv_eq_ediv_of_nonneg h]
  apply decide_eq_decide.2
  omega
theorem passed_neg (at' now : Int) (h : now < 0) : decide (at' * 1000000 < now) = decide (at' < now.tdiv 1000000) := by
  rw [tdiv_neg' h]
  apply decide_eq_decide.2
  omega

theorem passed_any (at' now : Int) (w : World) (h0 : -9223372036854775808 ≤ now) (h1 : now ≤ 9223372036854775807) :
    Calls Try.prog 21 #[.int .i64 at', .int .i64 now] w fun e w' => e = .returned (.bool (decide (at' < now.tdiv 1000000))) ∧ w' = w := by
  have hb := tdiv_bound now h0 h1
  by_cases q1 : 9223372036854 < at'
  · have e : decide (at' < now.tdiv 1000000) = false := by simp; omega
    rw [e]
    clear e hb
    go_enter Try.func21, Try.ntmps21
    go_wp2
    go_ret
    exact ⟨rfl, rfl⟩
  · by_cases q2 : at' < -9223372036854
    · have e : decide (at' < now.tdiv 1000000) = true := by simp; omega
      rw [e]
      clear e hb
      go_enter Try.func21, Try.ntmps21
      go_wp2
      go_ret
      exact ⟨rfl, rfl⟩
    · by_cases q3 : 0 ≤ now
      · rw [← passed_pos at' now q3]
        clear hb
        go_enter Try.func21, Try.ntmps21
        go_wp2
        go_ret
        exact ⟨rfl, rfl⟩
      · rw [← passed_neg at' now (by omega)]
        clear hb
        go_enter Try.func21, Try.ntmps21
        go_wp2
        go_ret
        exact ⟨rfl, rfl⟩

/-- the first instant at which it has expired -/
def firstNs (at' : Int) : Int := if 0 ≤ at' then (at' + 1) * 1000000 else at' * 1000000 + 1

theorem first_any (at' : Int) (w : World) (h0 : -9223372036854 ≤ at') (h1 : at' ≤ 9223372036853) :
    Calls Try.prog 23 #[.int .i64 at'] w fun e w' => e = .returned (.int .i64 (firstNs at')) ∧ w' = w := by
  by_cases q : 0 ≤ at'
  · have e : firstNs at' = (at' + 1) * 1000000 := by simp [firstNs, q]
    rw [e]
    clear e
    go_enter Try.func23, Try.ntmps23
    go_wp2
    go_ret
    exact ⟨rfl, rfl⟩
  · have e : firstNs at' = at' * 1000000 + 1 := by simp [firstNs, q]
    rw [e]
    clear e
    go_enter Try.func23, Try.ntmps23
    go_wp2
    go_ret
    exact ⟨rfl, rfl⟩

theorem first_turns (at' now : Int) : decide (at' < now.tdiv 1000000) = decide (firstNs at' ≤ now) := by
  apply decide_eq_decide.2
  by_cases h : 0 ≤ now
  · rw [Int.tdiv_eq_ediv_of_nonneg h]
    unfold firstNs
    split <;> omega
  · rw [tdiv_neg' (by omega)]
    unfold firstNs
    split <;> omega

theorem ix_apart (es : List (ByteArray × Int)) (h : Apart es) (i : Nat) : ∀ k, k ≤ es.length → i < k → ix es (eK es i) k = some i
  | 0, _, hi => by omega
  | k + 1, hk, hi => by
    by_cases e : i = k
    · simp [ix, e]
    · have hne : ¬ eK es k = eK es i := fun e' => h i k (by omega) (by omega) e'.symm
      simp [ix, hne, ix_apart es h i k (by omega) (by omega)]

theorem exp_apart (es : List (ByteArray × Int)) (h : Apart es) (i : Nat) (hi : i < es.length) (now : Int) : expB es (eK es i) now = decide (firstNs (eT es i) ≤ now) := by
  have e := ix_apart es h i es.length (Nat.le_refl _) hi
  rw [← first_turns]
  simp [expB, volB, atOf, e]
end Go.Proofs.Qxb6609368a
