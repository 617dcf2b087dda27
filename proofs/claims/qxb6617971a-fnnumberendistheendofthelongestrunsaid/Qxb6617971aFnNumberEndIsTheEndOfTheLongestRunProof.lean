/-
  THE PROOF OF 'Rows.FnNumberEndIsTheEndOfTheLongestRunSaid': the seat's shell, its walk filled.
-/
import Derived.Test.Qxb6617971aRows
import Derived.WalkKit
import Derived.ProofKit
import Derived.OpenShut
import Derived.ShutString
import Derived.Test.Qxb6617971aNumEnd
namespace Go.Proofs.Qxb6617971a.fnNumberEndIsTheEndOfTheLongestRun
open Go.ChangeShapes Go.WideShapes Go.ChangeAt Go.RowKit
open Go.ChangeMaps (open_string shut_string)
open Go.Proofs.Qxb6617971a.Plain
set_option linter.unusedVariables false      -- a walk need not use every 'w<i>' (that an integer argument fits its kind)

theorem own : ownKnob Try.prog.godebug = none := by kernel_rfl

theorem bytesRun_no (s : ByteArray) (a : Int) (w : World) (h : (1048576 : Int) < (s.size : Int)) :
    Calls Try.prog 9 #[.string s, .int .i64 a] w fun e w' => e = .returned (.bool false) ∧ w' = w := by
  go_enter Try.func9, Try.ntmps9
  go_wp2
  go_ret
  exact ⟨rfl, rfl⟩
theorem bytesRun_yes (s : ByteArray) (a : Int) (w : World) (h : ¬ (1048576 : Int) < (s.size : Int)) :
    Calls Try.prog 9 #[.string s, .int .i64 a] w fun e w' => e = .returned (.bool true) ∧ w' = w := by
  go_enter Try.func9, Try.ntmps9
  go_wp2
  go_ret
  exact ⟨rfl, rfl⟩

theorem inNumber_is (s : ByteArray) (k : Nat) (w : World) (b : Bool) (hs : s.size ≤ 131072) (hk : k < s.size) (hb : inNum s.data.toList k = b) :
    Calls Try.prog 11 #[.string s, .int .i64 k] w fun e w' => e = .returned (.bool b) ∧ w' = w := by
  rw [← hb]; exact inNumber_any s k w hs hk

def At (st r : Nat) (i : Value) : Prop := ∃ k : Nat, st ≤ k ∧ k ≤ r ∧ i = .int .i64 k

set_option maxHeartbeats 1000000 in
theorem main_way (a0 : ByteArray) (st : Nat) (w : World) (hs : a0.size ≤ 65536) (hst : st ≤ a0.size)
    (hne : st = 0 → ∀ h : 0 < a0.size, (a0[0].toNat : Int) ≠ 43 ∧ (a0[0].toNat : Int) ≠ 45) :
    Calls Try.prog 4 #[.string a0, .int .i64 st] w fun e w' => e = .returned (.bool true) ∧ Grown w w' := by
  have h20 : ¬ (1048576 : Int) < (a0.size : Int) := by omega
  have h16 : decide ((65536 : Int) < (a0.size : Int)) = false := decide_eq_false (by omega)
  have d1 : decide ((st : Int) < 0) = false := decide_eq_false (by omega)
  have d2 : decide ((a0.size : Int) < (st : Int)) = false := decide_eq_false (by omega)
  have HNE : Hid (st = 0 → ∀ h : 0 < a0.size, (a0[0].toNat : Int) ≠ 43 ∧ (a0[0].toNat : Int) ≠ 45) := hne
  clear hne
  have hway : ((st : Int) == 0) = false ∨ (((st : Int) == 0) = true ∧ decide ((0 : Int) < (a0.size : Int)) = false ∧ ¬ 0 < a0.size) ∨ (((st : Int) == 0) = true ∧ decide ((0 : Int) < (a0.size : Int)) = true ∧ ∃ h : 0 < a0.size, ((a0[0].toNat : Int) == 43) = false ∧ ((a0[0].toNat : Int) == 45) = false) := by
    by_cases h0 : st = 0
    · by_cases h : 0 < a0.size
      · exact .inr (.inr ⟨beq_iff_eq.2 (by omega), decide_eq_true (by omega), h, beq_eq_false_iff_ne.2 (HNE.out h0 h).1, beq_eq_false_iff_ne.2 (HNE.out h0 h).2⟩)
      · exact .inr (.inl ⟨beq_iff_eq.2 (by omega), decide_eq_false (by omega), h⟩)
    · exact .inl (beq_eq_false_iff_ne.2 (by omega))
  rcases hway with g1 | ⟨g1, g2, g2'⟩ | ⟨g1, g2, hp, g3, g4⟩
  all_goals
    go_enter Try.func4, Try.ntmps4
    go_wp2_with (first | (go_at_call 9; refine (bytesRun_yes _ _ _ h20).mono ?_; rintro e w' ⟨rfl, rfl⟩) | fail)
    refine (zzNumberEnd_any a0 st _ (by omega) hst HNE.out).mono ?_
    rintro e w' ⟨⟨r, rfl, hr⟩, rfl⟩
    have hr1 : st ≤ r := hr.1
    have hr2 : r ≤ a0.size := by simpa using hr.2.1
    have HR : Hid (NE a0.data.toList st r) := hr
    clear hr
    have d3 : decide (r < st) = false := decide_eq_false (by omega)
    have d4 : decide (a0.size < r) = false := decide_eq_false (by omega)
    go_wp2
    go_loop [6] (fun i => At st r i) (fun i => r - (intOf i).toNat)
    case atStart => exact ⟨st, Nat.le_refl _, hr1, rfl⟩
    case round =>
      obtain ⟨k, hk1, hk2, rfl⟩ := hrel
      by_cases hlt : k < r
      · go_wp2_with (go_at_call 11; refine (inNumber_is a0 k _ true (by omega) (by omega) (HR.out.2.2.1 k hk1 hlt)).mono ?_; rintro e w' ⟨rfl, rfl⟩)
        go_round
        case rel => exact ⟨k + 1, by omega, by omega, by go_num⟩
        case measure => simp [intOf]; omega
      · by_cases hend : r = a0.size
        · have qe : ((r : Int) == (a0.size : Int)) = true := beq_iff_eq.2 (by omega)
          clear hend
          go_wp2
          go_ret
          exact ⟨rfl, Grown.refl _⟩
        · have qe : ((r : Int) == (a0.size : Int)) = false := beq_eq_false_iff_ne.2 (by omega)
          have hrl : r < a0.size := by omega
          clear hend
          go_wp2_with (go_at_call 11; refine (inNumber_is a0 r _ false (by omega) hrl (HR.out.2.2.2 (by simpa using hrl))).mono ?_; rintro e w' ⟨rfl, rfl⟩)
          go_ret
          exact ⟨rfl, Grown.refl _⟩

/-! ### STEP 1: THE WALK: the Go text returns true. 'Grown w w'': the world has at most new blocks (Derived/RowKit3.lean). Part the cases AHEAD of 'go_enter' where a test parts the walk; take each callee by a contract of your own. -/
theorem walk (a0 : ByteArray) (a1 : Int) (w0 : a0.size ≤ maxLen) (w1 : (Lit.int .i64 a1).wf = true) (w : World) :
    Calls Try.prog 4 #[.string a0, .int .i64 a1] w fun e w' => e = .returned (.bool true) ∧ Grown w w' := by
  unfold maxLen at w0
  by_cases h20 : (1048576 : Int) < (a0.size : Int)
  · go_enter Try.func4, Try.ntmps4
    go_wp2_with (go_at_call 9; refine (bytesRun_no _ _ _ h20).mono ?_; rintro e w' ⟨rfl, rfl⟩)
    go_ret
    exact ⟨rfl, Grown.refl _⟩
  by_cases h16 : (65536 : Int) < (a0.size : Int)
  · go_enter Try.func4, Try.ntmps4
    go_wp2_with (go_at_call 9; refine (bytesRun_yes _ _ _ h20).mono ?_; rintro e w' ⟨rfl, rfl⟩)
    go_ret
    exact ⟨rfl, Grown.refl _⟩
  by_cases hneg : a1 < 0
  · go_enter Try.func4, Try.ntmps4
    go_wp2_with (go_at_call 9; refine (bytesRun_yes _ _ _ h20).mono ?_; rintro e w' ⟨rfl, rfl⟩)
    go_ret
    exact ⟨rfl, Grown.refl _⟩
  by_cases hbig : (a0.size : Int) < a1
  · go_enter Try.func4, Try.ntmps4
    go_wp2_with (go_at_call 9; refine (bytesRun_yes _ _ _ h20).mono ?_; rintro e w' ⟨rfl, rfl⟩)
    go_ret
    exact ⟨rfl, Grown.refl _⟩
  obtain ⟨st, rfl⟩ := Int.eq_ofNat_of_zero_le (show 0 ≤ a1 by omega)
  have hst : st ≤ a0.size := by omega
  have d1 : decide ((st : Int) < 0) = false := decide_eq_false hneg
  have d2 : decide ((a0.size : Int) < (st : Int)) = false := decide_eq_false hbig
  by_cases hsg : st = 0 ∧ ∃ h : 0 < a0.size, (a0[0].toNat : Int) = 43 ∨ (a0[0].toNat : Int) = 45
  · obtain ⟨rfl, hp, hs2⟩ := hsg
    have q0 : (((0 : Nat) : Int) == 0) = true := rfl
    have q1 : decide ((0 : Int) < (a0.size : Int)) = true := decide_eq_true (by omega)
    have hs3 : (((a0[0].toNat : Int) == 43) = true) ∨ (((a0[0].toNat : Int) == 43) = false ∧ ((a0[0].toNat : Int) == 45) = true) := by
      rcases hs2 with h | h
      · exact .inl (beq_iff_eq.2 h)
      · exact .inr ⟨beq_eq_false_iff_ne.2 (by omega), beq_iff_eq.2 h⟩
    clear hs2
    rcases hs3 with g1 | ⟨g1, g2⟩
    all_goals
      go_enter Try.func4, Try.ntmps4
      go_wp2_with (go_at_call 9; refine (bytesRun_yes _ _ _ h20).mono ?_; rintro e w' ⟨rfl, rfl⟩)
      go_ret
      exact ⟨rfl, Grown.refl _⟩
  -- the main way
  have hne : st = 0 → ∀ h : 0 < a0.size, (a0[0].toNat : Int) ≠ 43 ∧ (a0[0].toNat : Int) ≠ 45 := fun h0 h => ⟨fun c => hsg ⟨h0, h, .inl c⟩, fun c => hsg ⟨h0, h, .inr c⟩⟩
  exact main_way a0 st w (by omega) hst hne

/-! ### THE ROW's STEP: WRITTEN OUT: LEAVE IT -/
set_option maxRecDepth 100000 in
theorem lifted (os : Os) (started : os.Started) (H : Type) (enc : TypeId × Value → H) :
    ReturnsInHanded {} Try.checked os 4 .any (Rows.fnNumberEndIsTheEndOfTheLongestRunSpec.pre6 enc Try.prog Try.f4 Rows.fnNumberEndIsTheEndOfTheLongestRunRow.domain false) (Rows.fnNumberEndIsTheEndOfTheLongestRunSpec.post enc Try.prog Try.f4 false true false false) := by
  refine returnsInHanded_of_change (C := Try.checked) own started (by kernel_rfl) Try.func4
    (ChangeSpec.witness6 (enc := enc) (C := Try.checked) false ⟨#[], #[.string ByteArray.empty, .int .i64 0], []⟩ 8 (by kernel_rfl) (by kernel_rfl) (by kernel_rfl) (by kernel_rfl)) ?_
  intro W base args ds gs before hval0 hW hcnd _
  have hval : ∀ (j : Nat) t v, Try.f4.params[j]? = some t → args[j]? = some v → Value.okWide Try.prog W .any base t v := hval0
  have hW' := hW
  obtain ⟨p, q, hA0, hV, rfl, hfz, hnd⟩ := hW
  have hA : DataW.TrodAll enc Try.prog W 0 (fun _ => true) true Try.f4.params.toList args.toList ds p := hA0
  rw [Try.params4] at hA hval
  obtain ⟨v0, vs0, d0, ds0, p0, q0, hargs, rfl, rfl, h0, r0⟩ := trodAll_cons hA
  obtain ⟨v1, vs1, d1, ds1, p1, q1, rfl, rfl, rfl, h1, r1⟩ := trodAll_cons r0
  obtain ⟨rfl, rfl, rfl⟩ := trodAll_nil r1
  obtain rfl : args = #[v0, v1] := by cases args; simp_all
  obtain ⟨rfl, rfl⟩ := trodVars_none hV
  obtain ⟨a0, rfl, rfl, rfl, w0⟩ := open_string Try.underlying9 (hval 0 9 v0 rfl rfl) h0
  obtain ⟨a1, rfl, rfl, rfl, w1⟩ := open_int Try.underlying3 (hval 1 3 v1 rfl rfl) h1
  clear hA0 hval0
  simp only [List.append_nil] at hW'
  refine (walk a0 a1 w0 w1 W).mono fun e W' ⟨he, hg⟩ => ?_
  subst he
  exact ⟨_, rfl, post_of_same (pa := []) (pv := []) hW' (fun _ _ _ => (trodAll_cons_mk (shut_bool Try.underlying4 _) trodAll_mk0)) (fun sp _ => (trodAll_cons_mk (shut_string Try.underlying9 w0) (trodAll_cons_mk (shut_int Try.underlying3 w1) trodAll_mk0))) (fun _ _ => rfl) rfl
    (hg.frame _) hg.2.1 (ok_one (by kernel_rfl) rfl (okWide_bool_mk Try.underlying4 _))⟩

theorem over : Rows.fnNumberEndIsTheEndOfTheLongestRunRow.holds Try.pinned (OpenSpec.ofChange Rows.fnNumberEndIsTheEndOfTheLongestRunSpec) :=
  OpenClaim.holds_of_wide 4 Try.f4 rfl rfl rfl rfl rfl rfl rfl ⟨rfl, rfl, rfl, rfl, rfl⟩ rfl rfl rfl rfl rfl (by kernel_rfl) Try.func4 (by kernel_rfl)
    (of_decide_eq_true (by kernel_rfl)) (by unfold Func.isWrapper; first | (rw [if_pos (by decide +kernel)]; kernel_rfl) | (rw [if_neg (by decide +kernel)]; exact ⟨rfl, rfl⟩))
    (fun os started H enc _ => lifted os started H enc)

/-- ████ THE STATEMENT ████ -/
theorem proved : Rows.FnNumberEndIsTheEndOfTheLongestRunSaid :=
  over
#print axioms proved
end Go.Proofs.Qxb6617971a.fnNumberEndIsTheEndOfTheLongestRun
