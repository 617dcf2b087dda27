/-
  THE PROOF OF 'Rows.FnStringEndShiftsWithAPrefixAndHoldsAtAnyCutSaid': the seat's shell, its walk filled.
-/
import Derived.Test.Qxb6617971aRows
import Derived.WalkKit
import Derived.ProofKit
import Derived.OpenShut
import Derived.ShutString
import Derived.Test.Qxb6617971aStr
namespace Go.Proofs.Qxb6617971a.fnStringEndShiftsWithAPrefixAndHoldsAtAnyCut
open Go.ChangeShapes Go.WideShapes Go.ChangeAt Go.RowKit
open Go.ChangeMaps (open_string shut_string)
open Go.Proofs.Qxb6617971a.Plain
set_option linter.unusedVariables false      -- a walk need not use every 'w<i>' (that an integer argument fits its kind)

theorem own : ownKnob Try.prog.godebug = none := by kernel_rfl

def SomeBool (e : Ending) : Prop := ∃ b, e = .returned (.bool b)
theorem bytesStr_any (q t : ByteArray) (a b : Int) (w : World) :
    Calls Try.prog 6 #[.string q, .string t, .int .i64 a, .int .i64 b] w fun e w' => SomeBool e ∧ w' = w := by
  by_cases h1 : (1048576 : Int) < (q.size : Int)
  · go_enter Try.func6, Try.ntmps6
    go_wp2
    go_ret
    exact ⟨⟨_, rfl⟩, rfl⟩
  by_cases h2 : (1048576 : Int) < (t.size : Int)
  · go_enter Try.func6, Try.ntmps6
    go_wp2
    go_ret
    exact ⟨⟨_, rfl⟩, rfl⟩
  by_cases h3 : (1048576 : Int) < (q.size : Int) + (t.size : Int)
  · go_enter Try.func6, Try.ntmps6
    go_wp2
    go_ret
    exact ⟨⟨_, rfl⟩, rfl⟩
  go_enter Try.func6, Try.ntmps6
  go_wp2
  go_ret
  exact ⟨⟨_, rfl⟩, rfl⟩

theorem zzStringEnd_someI (s : ByteArray) (st e0 : Nat) (E : Int) (w : World) (hs : s.size ≤ 262144) (hst : st < s.size) (he : seAt s.data.toList st = some e0) (hE : E = (e0 : Int)) :
    Calls Try.prog 7 #[.string s, .int .i64 st] w fun e w' => e = .returned (.tuple #[.int .i64 E, .bool true]) ∧ w' = w := by
  subst hE; exact zzStringEnd_some s st e0 w hs hst he

theorem seAt_bd (s : ByteArray) (st e : Nat) (hst : st < s.size) (h : seAt s.data.toList st = some e) : e ≤ s.size := by
  have := (se_bd _ _ _ _ _ h).2
  have hz : s.data.size = s.size := rfl
  simp at this; omega
theorem cut_data (s : ByteArray) (k : Nat) : (s.extract 0 k).data.toList = s.data.toList.take k := by
  rw [ByteArray.data_extract, Array.toList_extract]; simp [List.extract_eq_take_drop]
theorem cut_size (s : ByteArray) (k : Nat) (h : k ≤ s.size) : (s.extract 0 k).size = k := by
  rw [ByteArray.size_extract]; omega

set_option maxHeartbeats 4000000 in
theorem main_way (a0 a1 : ByteArray) (st : Nat) (a3 : Int) (w : World) (hs : a0.size ≤ 65536) (ht : a1.size ≤ 65536) (hst : st < a1.size) :
    Calls Try.prog 3 #[.string a0, .string a1, .int .i64 st, .int .i64 a3] w fun e w' => e = .returned (.bool true) ∧ Grown w w' := by
  obtain ⟨S, hS⟩ : ∃ S : ByteArray, S.data.toList = a1.data.toList ++ [a1[st], a1[st]] := ⟨⟨(a1.data.toList ++ [a1[st], a1[st]]).toArray⟩, by simp⟩
  obtain ⟨R, hR⟩ : ∃ R, a0 ++ a1 = R := ⟨_, rfl⟩
  have hRl : R.data.toList = a0.data.toList ++ a1.data.toList := by rw [← hR]; simp
  have hRz1 : R.size ≤ a0.size + a1.size := by rw [← hR]; simp
  have hRz2 : a0.size + a1.size ≤ R.size := by rw [← hR]; simp
  have hSz1 : S.size ≤ a1.size + 2 := by have := congrArg List.length hS; simp at this; omega
  have hSz2 : a1.size + 2 ≤ S.size := by have := congrArg List.length hS; simp at this; omega
  have h16 : decide ((65536 : Int) < (a0.size : Int)) = false := decide_eq_false (by omega)
  have h17 : decide ((65536 : Int) < (a1.size : Int)) = false := decide_eq_false (by omega)
  have d1 : decide ((st : Int) < 0) = false := decide_eq_false (by omega)
  have d2 : decide (a1.size ≤ st) = false := decide_eq_false (by omega)
  have hadd : ∀ w, Sem.run Try.prog (Op.stringOp .add a0 a1) w = .ok (.string R) w := fun w => by rw [← hR]; exact run_string_add_sum w a0 a1 (by omega)
  obtain ⟨e2, he2, hsome, hnone⟩ := seAt_two a1.data.toList st (by simpa using hst) a1[st] (getD_get a1 st hst).symm
  rw [← hS] at he2
  have hpre := seAt_pre a0.data.toList a1.data.toList st
  rw [← hRl] at hpre
  simp only [Array.length_toList] at hpre
  have HS : Hid (S.data.toList = a1.data.toList ++ [a1[st], a1[st]]) := hS
  have HE2 : Hid (seAt S.data.toList st = some e2) := he2
  have HPRE : Hid (seAt R.data.toList (a0.size + st) = (seAt a1.data.toList st).map (· + a0.size)) := hpre
  have HCUT : Hid (∀ k, st < k → k ≤ a1.size → (∀ e, seAt a1.data.toList st = some e → e ≤ k → seAt (a1.data.toList.take k) st = some e) ∧ ((∀ e, seAt a1.data.toList st = some e → ¬ e ≤ k) → seAt (a1.data.toList.take k) st = none)) := fun k h1 h2 => seAt_cut a1.data.toList st k h1 (by simpa using h2)
  clear hS he2 hpre hR hRl
  have kway : decide ((st : Int) < a3) = false ∨ (decide ((st : Int) < a3) = true ∧ decide (a3 ≤ (a1.size : Int)) = false) ∨ (∃ k : Nat, a3 = (k : Int) ∧ st < k ∧ k ≤ a1.size) := by
    by_cases h1 : (st : Int) < a3
    · by_cases h2 : a3 ≤ (a1.size : Int)
      · exact .inr (.inr ⟨a3.toNat, by omega, by omega, by omega⟩)
      · exact .inr (.inl ⟨decide_eq_true h1, decide_eq_false h2⟩)
    · exact .inl (decide_eq_false h1)
  cases hse : seAt a1.data.toList st with
  | some e0 =>
    have heq := hsome e0 hse
    subst heq
    clear hsome hnone
    have HSE : Hid (seAt a1.data.toList st = some e2) := hse
    have heb : e2 ≤ a1.size := seAt_bd a1 st e2 hst hse
    clear hse
    go_enter Try.func3, Try.ntmps3
    go_wp2_with fail
    refine (bytesStr_any _ _ _ _ _).mono ?_
    rintro e w' ⟨⟨r, rfl⟩, rfl⟩
    cases r
    · go_wp2
      go_ret
      exact ⟨rfl, Grown.refl _⟩
    go_wp2_with fail
    refine (zzStringEnd_some a1 st e2 _ (by omega) hst HSE.out).mono ?_
    rintro e w' ⟨rfl, rfl⟩
    go_wp2_with fail
    refine (appendByte_any a1 a1[st] S _ (by omega) HS.out).mono ?_
    rintro e w1 ⟨rfl, hg⟩
    have HG := show Hid (Grown _ w1) from hg
    clear hg
    go_wp2_with fail
    refine (zzStringEnd_some S st e2 _ (by omega) (by omega) HE2.out).mono ?_
    rintro e w' ⟨rfl, rfl⟩
    go_wp2_with fail
    rw [show ((a0.size : Int) + (st : Int)) = ((a0.size + st : Nat) : Int) from by omega]
    refine (zzStringEnd_someI R (a0.size + st) (e2 + a0.size) ((e2 : Int) + (a0.size : Int)) _ (by omega) (by omega) (HPRE.out.trans (by rw [HSE.out]; rfl)) (by omega)).mono ?_
    rintro e w' ⟨rfl, rfl⟩
    rcases kway with m1 | ⟨m1, m2⟩ | ⟨k, m0, m1, m2⟩
    · go_wp2
      go_ret
      exact ⟨rfl, HG.out⟩
    · go_wp2
      go_ret
      exact ⟨rfl, HG.out⟩
    · subst m0
      have m3 : decide (st < k) = true := decide_eq_true m1
      have m4 : decide (k ≤ a1.size) = true := decide_eq_true m2
      have hcl := cut_data a1 k
      have HCL : Hid ((a1.extract 0 k).data.toList = a1.data.toList.take k) := hcl
      have hcz := cut_size a1 k m2
      clear hcl
      have hcz1 : st < (a1.extract 0 k).size := by omega
      have hcz2 : (a1.extract 0 k).size ≤ 262144 := by omega
      clear hcz
      by_cases hek : e2 ≤ k
      · have hed : decide (e2 ≤ k) = true := decide_eq_true hek
        go_wp2_with fail
        refine (zzStringEnd_some (a1.extract 0 k) st e2 _ hcz2 hcz1 (by rw [HCL.out]; exact (HCUT.out k m1 m2).1 e2 HSE.out hek)).mono ?_
        rintro e w' ⟨rfl, rfl⟩
        go_wp2
        go_ret
        exact ⟨rfl, HG.out⟩
      · have hed : decide (e2 ≤ k) = false := decide_eq_false hek
        go_wp2_with fail
        refine (zzStringEnd_none (a1.extract 0 k) st _ hcz2 hcz1 (by rw [HCL.out]; exact (HCUT.out k m1 m2).2 (fun e he => by rw [HSE.out] at he; cases he; exact hek))).mono ?_
        rintro e w' ⟨rfl, rfl⟩
        go_wp2
        go_ret
        exact ⟨rfl, HG.out⟩
  | none =>
    have heq := hnone hse
    clear hsome hnone
    have HSE : Hid (seAt a1.data.toList st = none) := hse
    clear hse
    have hq : ((e2 : Int) != (a1.size : Int) + 1) = false ∨ (((e2 : Int) != (a1.size : Int) + 1) = true ∧ ((e2 : Int) != (a1.size : Int) + 2) = false) := by
      simp only [Array.length_toList] at heq
      have hz : a1.data.size = a1.size := rfl
      rcases heq with h | h
      · left; rw [bne_eq_false_iff_eq]; omega
      · right; exact ⟨by rw [bne_iff_ne]; omega, by rw [bne_eq_false_iff_eq]; omega⟩
    clear heq
    rcases hq with q1 | ⟨q1, q2⟩
    all_goals
      go_enter Try.func3, Try.ntmps3
      go_wp2_with fail
      refine (bytesStr_any _ _ _ _ _).mono ?_
      rintro e w' ⟨⟨r, rfl⟩, rfl⟩
      cases r
      · go_wp2
        go_ret
        exact ⟨rfl, Grown.refl _⟩
      go_wp2_with fail
      refine (zzStringEnd_none a1 st _ (by omega) hst HSE.out).mono ?_
      rintro e w' ⟨rfl, rfl⟩
      go_wp2_with fail
      refine (appendByte_any a1 a1[st] S _ (by omega) HS.out).mono ?_
      rintro e w1 ⟨rfl, hg⟩
      have HG := show Hid (Grown _ w1) from hg
      clear hg
      go_wp2_with fail
      refine (zzStringEnd_some S st e2 _ (by omega) (by omega) HE2.out).mono ?_
      rintro e w' ⟨rfl, rfl⟩
      go_wp2_with fail
      rw [show ((a0.size : Int) + (st : Int)) = ((a0.size + st : Nat) : Int) from by omega]
      refine (zzStringEnd_none R (a0.size + st) _ (by omega) (by omega) (HPRE.out.trans (by rw [HSE.out]; rfl))).mono ?_
      rintro e w' ⟨rfl, rfl⟩
      rcases kway with m1 | ⟨m1, m2⟩ | ⟨k, m0, m1, m2⟩
      · go_wp2
        go_ret
        exact ⟨rfl, HG.out⟩
      · go_wp2
        go_ret
        exact ⟨rfl, HG.out⟩
      · subst m0
        have m3 : decide (st < k) = true := decide_eq_true m1
        have m4 : decide (k ≤ a1.size) = true := decide_eq_true m2
        have hcl := cut_data a1 k
        have HCL : Hid ((a1.extract 0 k).data.toList = a1.data.toList.take k) := hcl
        have hcz := cut_size a1 k m2
        clear hcl
        have hcz1 : st < (a1.extract 0 k).size := by omega
        have hcz2 : (a1.extract 0 k).size ≤ 262144 := by omega
        clear hcz
        go_wp2_with fail
        refine (zzStringEnd_none (a1.extract 0 k) st _ hcz2 hcz1 (by rw [HCL.out]; exact (HCUT.out k m1 m2).2 (fun e he => by rw [HSE.out] at he; cases he))).mono ?_
        rintro e w' ⟨rfl, rfl⟩
        go_wp2
        go_ret
        exact ⟨rfl, HG.out⟩

/-! ### STEP 1: THE WALK: the Go text returns true. 'Grown w w'': the world has at most new blocks (Derived/RowKit3.lean). Part the cases AHEAD of 'go_enter' where a test parts the walk; take each callee by a contract of your own. -/
theorem walk (a0 : ByteArray) (a1 : ByteArray) (a2 : Int) (a3 : Int) (w0 : a0.size ≤ maxLen) (w1 : a1.size ≤ maxLen) (w2 : (Lit.int .i64 a2).wf = true) (w3 : (Lit.int .i64 a3).wf = true) (w : World) :
    Calls Try.prog 3 #[.string a0, .string a1, .int .i64 a2, .int .i64 a3] w fun e w' => e = .returned (.bool true) ∧ Grown w w' := by
  by_cases h16 : (65536 : Int) < (a0.size : Int)
  · go_enter Try.func3, Try.ntmps3
    go_wp2_with fail
    refine (bytesStr_any _ _ _ _ _).mono ?_
    rintro e w' ⟨⟨r, rfl⟩, rfl⟩
    cases r
    · go_wp2
      go_ret
      exact ⟨rfl, Grown.refl _⟩
    · go_wp2
      go_ret
      exact ⟨rfl, Grown.refl _⟩
  by_cases h17 : (65536 : Int) < (a1.size : Int)
  · go_enter Try.func3, Try.ntmps3
    go_wp2_with fail
    refine (bytesStr_any _ _ _ _ _).mono ?_
    rintro e w' ⟨⟨r, rfl⟩, rfl⟩
    cases r
    · go_wp2
      go_ret
      exact ⟨rfl, Grown.refl _⟩
    · go_wp2
      go_ret
      exact ⟨rfl, Grown.refl _⟩
  by_cases hneg : a2 < 0
  · go_enter Try.func3, Try.ntmps3
    go_wp2_with fail
    refine (bytesStr_any _ _ _ _ _).mono ?_
    rintro e w' ⟨⟨r, rfl⟩, rfl⟩
    cases r
    · go_wp2
      go_ret
      exact ⟨rfl, Grown.refl _⟩
    · go_wp2
      go_ret
      exact ⟨rfl, Grown.refl _⟩
  by_cases hbig : (a1.size : Int) ≤ a2
  · go_enter Try.func3, Try.ntmps3
    go_wp2_with fail
    refine (bytesStr_any _ _ _ _ _).mono ?_
    rintro e w' ⟨⟨r, rfl⟩, rfl⟩
    cases r
    · go_wp2
      go_ret
      exact ⟨rfl, Grown.refl _⟩
    · go_wp2
      go_ret
      exact ⟨rfl, Grown.refl _⟩
  obtain ⟨st, rfl⟩ := Int.eq_ofNat_of_zero_le (show 0 ≤ a2 by omega)
  have hst : st < a1.size := by omega
  exact main_way a0 a1 st a3 w (by omega) (by omega) hst

/-! ### THE ROW's STEP: WRITTEN OUT: LEAVE IT -/
set_option maxRecDepth 100000 in
theorem lifted (os : Os) (started : os.Started) (H : Type) (enc : TypeId × Value → H) :
    ReturnsInHanded {} Try.checked os 3 .any (Rows.fnStringEndShiftsWithAPrefixAndHoldsAtAnyCutSpec.pre6 enc Try.prog Try.f3 Rows.fnStringEndShiftsWithAPrefixAndHoldsAtAnyCutRow.domain false) (Rows.fnStringEndShiftsWithAPrefixAndHoldsAtAnyCutSpec.post enc Try.prog Try.f3 false true false false) := by
  refine returnsInHanded_of_change (C := Try.checked) own started (by kernel_rfl) Try.func3
    (ChangeSpec.witness6 (enc := enc) (C := Try.checked) false ⟨#[], #[.string ByteArray.empty, .string ByteArray.empty, .int .i64 0, .int .i64 0], []⟩ 8 (by kernel_rfl) (by kernel_rfl) (by kernel_rfl) (by kernel_rfl)) ?_
  intro W base args ds gs before hval0 hW hcnd _
  have hval : ∀ (j : Nat) t v, Try.f3.params[j]? = some t → args[j]? = some v → Value.okWide Try.prog W .any base t v := hval0
  have hW' := hW
  obtain ⟨p, q, hA0, hV, rfl, hfz, hnd⟩ := hW
  have hA : DataW.TrodAll enc Try.prog W 0 (fun _ => true) true Try.f3.params.toList args.toList ds p := hA0
  rw [Try.params3] at hA hval
  obtain ⟨v0, vs0, d0, ds0, p0, q0, hargs, rfl, rfl, h0, r0⟩ := trodAll_cons hA
  obtain ⟨v1, vs1, d1, ds1, p1, q1, rfl, rfl, rfl, h1, r1⟩ := trodAll_cons r0
  obtain ⟨v2, vs2, d2, ds2, p2, q2, rfl, rfl, rfl, h2, r2⟩ := trodAll_cons r1
  obtain ⟨v3, vs3, d3, ds3, p3, q3, rfl, rfl, rfl, h3, r3⟩ := trodAll_cons r2
  obtain ⟨rfl, rfl, rfl⟩ := trodAll_nil r3
  obtain rfl : args = #[v0, v1, v2, v3] := by cases args; simp_all
  obtain ⟨rfl, rfl⟩ := trodVars_none hV
  obtain ⟨a0, rfl, rfl, rfl, w0⟩ := open_string Try.underlying9 (hval 0 9 v0 rfl rfl) h0
  obtain ⟨a1, rfl, rfl, rfl, w1⟩ := open_string Try.underlying9 (hval 1 9 v1 rfl rfl) h1
  obtain ⟨a2, rfl, rfl, rfl, w2⟩ := open_int Try.underlying3 (hval 2 3 v2 rfl rfl) h2
  obtain ⟨a3, rfl, rfl, rfl, w3⟩ := open_int Try.underlying3 (hval 3 3 v3 rfl rfl) h3
  clear hA0 hval0
  simp only [List.append_nil] at hW'
  refine (walk a0 a1 a2 a3 w0 w1 w2 w3 W).mono fun e W' ⟨he, hg⟩ => ?_
  subst he
  exact ⟨_, rfl, post_of_same (pa := []) (pv := []) hW' (fun _ _ _ => (trodAll_cons_mk (shut_bool Try.underlying4 _) trodAll_mk0)) (fun sp _ => (trodAll_cons_mk (shut_string Try.underlying9 w0) (trodAll_cons_mk (shut_string Try.underlying9 w1) (trodAll_cons_mk (shut_int Try.underlying3 w2) (trodAll_cons_mk (shut_int Try.underlying3 w3) trodAll_mk0))))) (fun _ _ => rfl) rfl
    (hg.frame _) hg.2.1 (ok_one (by kernel_rfl) rfl (okWide_bool_mk Try.underlying4 _))⟩

theorem over : Rows.fnStringEndShiftsWithAPrefixAndHoldsAtAnyCutRow.holds Try.pinned (OpenSpec.ofChange Rows.fnStringEndShiftsWithAPrefixAndHoldsAtAnyCutSpec) :=
  OpenClaim.holds_of_wide 3 Try.f3 rfl rfl rfl rfl rfl rfl rfl ⟨rfl, rfl, rfl, rfl, rfl⟩ rfl rfl rfl rfl rfl (by kernel_rfl) Try.func3 (by kernel_rfl)
    (of_decide_eq_true (by kernel_rfl)) (by unfold Func.isWrapper; first | (rw [if_pos (by decide +kernel)]; kernel_rfl) | (rw [if_neg (by decide +kernel)]; exact ⟨rfl, rfl⟩))
    (fun os started H enc _ => lifted os started H enc)

/-- ████ THE STATEMENT ████ -/
theorem proved : Rows.FnStringEndShiftsWithAPrefixAndHoldsAtAnyCutSaid :=
  over
#print axioms proved
end Go.Proofs.Qxb6617971a.fnStringEndShiftsWithAPrefixAndHoldsAtAnyCut
