/-
  THE PROOF OF 'Rows.FnBlockFromAbroadFollowsHLRAloneSaid': the seat's shell, its walk filled.
-/
import Derived.Test.Qxb6619006aRows
import Derived.WalkKit
import Derived.ProofKit
import Derived.OpenShut
import Derived.ShutString
import Derived.Test.Qxb6619006aBlock
namespace Go.Proofs.Qxb6619006a.fnBlockFromAbroadFollowsHLRAlone
open Go.ChangeShapes Go.WideShapes Go.ChangeAt Go.RowKit
open Go.ChangeMaps (open_string shut_string)
set_option linter.unusedVariables false      -- a walk need not use every 'w<i>' (that an integer argument fits its kind)

theorem own : ownKnob Try.prog.godebug = none := by kernel_rfl

def SomeBool (e : Ending) : Prop := ∃ b, e = .returned (.bool b)
theorem bytes_any (a0 a1 a2 a3 : ByteArray) (w : World) :
    Calls Try.prog 7 #[.string a0, .string a1, .string a2, .string a3] w fun e w' => SomeBool e ∧ w' = w := by
  go_enter Try.func7, Try.ntmps7
  go_wp2
  all_goals
    go_ret
    exact ⟨⟨_, rfl⟩, rfl⟩

theorem blk_two {a b : ByteArray} (h : blk a = false) (h2 : blk b = false) : (a.toList == b.toList) = true := by
  simp only [blk, Bool.not_eq_false', beq_iff_eq] at h h2
  rw [h, h2]; rfl
theorem blk_abroad : blk { data := #[97, 98, 114, 111, 97, 100] } = false := by decide +kernel
theorem blk_is {a : ByteArray} {b : Bool} (h : blk a = b) : (a.toList == [97, 98, 114, 111, 97, 100]) = !b := by
  rw [← h]; simp [blk]
theorem eq_blk {a b : ByteArray} (h : (a.toList == b.toList) = true) : blk a = blk b := by
  unfold blk; rw [beq_iff_eq.1 h]

/-! ### STEP 1: THE WALK: the Go text returns true. 'Grown w w'': the world has at most new blocks (Derived/RowKit3.lean). Part the cases AHEAD of 'go_enter' where a test parts the walk; take each callee by a contract of your own. -/
theorem walk (a0 : ByteArray) (a1 : ByteArray) (a2 : ByteArray) (a3 : ByteArray) (w0 : a0.size ≤ maxLen) (w1 : a1.size ≤ maxLen) (w2 : a2.size ≤ maxLen) (w3 : a3.size ≤ maxLen) (w : World) :
    Calls Try.prog 3 #[.string a0, .string a1, .string a2, .string a3] w fun e w' => e = .returned (.bool true) ∧ Grown w w' := by
  unfold maxLen at w0 w1 w2 w3
  by_cases g0 : (65536 : Int) < (a0.size : Int)
  · go_enter Try.func3, Try.ntmps3
    go_wp2_with fail
    refine (bytes_any _ _ _ _ _).mono ?_
    rintro e w' ⟨⟨r, rfl⟩, rfl⟩
    cases r
    · go_wp2
      go_ret
      exact ⟨rfl, Grown.refl _⟩
    · go_wp2
      go_ret
      exact ⟨rfl, Grown.refl _⟩
  have g0' : decide ((65536 : Int) < (a0.size : Int)) = false := decide_eq_false g0
  by_cases g1 : (65536 : Int) < (a1.size : Int)
  · go_enter Try.func3, Try.ntmps3
    go_wp2_with fail
    refine (bytes_any _ _ _ _ _).mono ?_
    rintro e w' ⟨⟨r, rfl⟩, rfl⟩
    cases r
    · go_wp2
      go_ret
      exact ⟨rfl, Grown.refl _⟩
    · go_wp2
      go_ret
      exact ⟨rfl, Grown.refl _⟩
  have g1' : decide ((65536 : Int) < (a1.size : Int)) = false := decide_eq_false g1
  by_cases g2 : (65536 : Int) < (a2.size : Int)
  · go_enter Try.func3, Try.ntmps3
    go_wp2_with fail
    refine (bytes_any _ _ _ _ _).mono ?_
    rintro e w' ⟨⟨r, rfl⟩, rfl⟩
    cases r
    · go_wp2
      go_ret
      exact ⟨rfl, Grown.refl _⟩
    · go_wp2
      go_ret
      exact ⟨rfl, Grown.refl _⟩
  have g2' : decide ((65536 : Int) < (a2.size : Int)) = false := decide_eq_false g2
  by_cases g3 : (65536 : Int) < (a3.size : Int)
  · go_enter Try.func3, Try.ntmps3
    go_wp2_with fail
    refine (bytes_any _ _ _ _ _).mono ?_
    rintro e w' ⟨⟨r, rfl⟩, rfl⟩
    cases r
    · go_wp2
      go_ret
      exact ⟨rfl, Grown.refl _⟩
    · go_wp2
      go_ret
      exact ⟨rfl, Grown.refl _⟩
  have g3' : decide ((65536 : Int) < (a3.size : Int)) = false := decide_eq_false g3
  have hab := blk_abroad
  have hway : (blk a0 = true) ∨ (blk a0 = false ∧ blk a1 = true) ∨ (blk a0 = false ∧ blk a1 = false ∧ (a0.toList == a1.toList) = true) := by
    cases h : blk a0
    · cases h2 : blk a1
      · exact .inr (.inr ⟨rfl, rfl, blk_two h h2⟩)
      · exact .inr (.inl ⟨rfl, rfl⟩)
    · exact .inl rfl
  rcases hway with h1 | ⟨h1, h2⟩ | ⟨h1, h2, h3⟩
  all_goals
    go_enter Try.func3, Try.ntmps3
    go_wp2_with fail
    refine (bytes_any _ _ _ _ _).mono ?_
    rintro e w' ⟨⟨r, rfl⟩, rfl⟩
    cases r
    · go_wp2
      go_ret
      exact ⟨rfl, Grown.refl _⟩
    go_wp2_with fail
    refine (block_any a0 a2 _).mono ?_
    rintro e w' ⟨rfl, rfl⟩
    go_wp2_with fail
    refine (block_any a0 a3 _).mono ?_
    rintro e w' ⟨rfl, rfl⟩
    go_wp2_with fail
    refine (block_any _ a2 _).mono ?_
    rintro e w' ⟨rfl, rfl⟩
    go_wp2_with fail
    refine (block_any a1 a3 _).mono ?_
    rintro e w' ⟨rfl, rfl⟩
    go_wp2
    all_goals
      go_ret
      exact ⟨rfl, Grown.refl _⟩

/-! ### THE ROW's STEP: WRITTEN OUT: LEAVE IT -/
set_option maxRecDepth 100000 in
theorem lifted (os : Os) (started : os.Started) (H : Type) (enc : TypeId × Value → H) :
    ReturnsInHanded {} Try.checked os 3 .any (Rows.fnBlockFromAbroadFollowsHLRAloneSpec.pre6 enc Try.prog Try.f3 Rows.fnBlockFromAbroadFollowsHLRAloneRow.domain false) (Rows.fnBlockFromAbroadFollowsHLRAloneSpec.post enc Try.prog Try.f3 false true false false) := by
  refine returnsInHanded_of_change (C := Try.checked) own started (by kernel_rfl) Try.func3
    (ChangeSpec.witness6 (enc := enc) (C := Try.checked) false ⟨#[], #[.string ByteArray.empty, .string ByteArray.empty, .string ByteArray.empty, .string ByteArray.empty], []⟩ 8 (by kernel_rfl) (by kernel_rfl) (by kernel_rfl) (by kernel_rfl)) ?_
  intro W base args ds gs before hval0 hW hcnd _
  have hval : ∀ (j : Nat) t v, Try.f3.params[j]? = some t → args[j]? = some v → Value.okWide Try.prog W .any base t v := hval0
  have hW' := hW
  obtain ⟨p, q, hA0, hV, rfl, hfz, hnd⟩ := hW
  have hA : DataW.TrodAll enc Try.prog W 0 (fun _ => true) true Try.f3.params.toList args.toList ds p := hA0
  rw [Try.params3] at hA hval
  obtain ⟨v0, vs0, d0, ds0, p0, q0, hargs, rfl, rfl, h0, r0⟩ := trodAll_cons hA
  obtain ⟨v1, vs1, d1, ds1, p1, q1, rfl, rfl, rfl, h1, r1⟩ := trodAll_cons r0
  obtain ⟨v2, vs2, d2, ds2, p2, q2, rfl, rfl, rfl, h2, r2⟩ := trodAll_cons r1
  obtain ⟨v3, vs3, d3, ds3, p3, q3, rfl, rfl, rfl, h3, r3⟩ := trodAll_cons r2
  obtain ⟨rfl, rfl, rfl⟩ := trodAll_nil r3
  obtain rfl : args = #[v0, v1, v2, v3] := by cases args; simp_all
  obtain ⟨rfl, rfl⟩ := trodVars_none hV
  obtain ⟨a0, rfl, rfl, rfl, w0⟩ := open_string Try.underlying9 (hval 0 9 v0 rfl rfl) h0
  obtain ⟨a1, rfl, rfl, rfl, w1⟩ := open_string Try.underlying9 (hval 1 9 v1 rfl rfl) h1
  obtain ⟨a2, rfl, rfl, rfl, w2⟩ := open_string Try.underlying9 (hval 2 9 v2 rfl rfl) h2
  obtain ⟨a3, rfl, rfl, rfl, w3⟩ := open_string Try.underlying9 (hval 3 9 v3 rfl rfl) h3
  clear hA0 hval0
  simp only [List.append_nil] at hW'
  refine (walk a0 a1 a2 a3 w0 w1 w2 w3 W).mono fun e W' ⟨he, hg⟩ => ?_
  subst he
  exact ⟨_, rfl, post_of_same (pa := []) (pv := []) hW' (fun _ _ _ => (trodAll_cons_mk (shut_bool Try.underlying4 _) trodAll_mk0)) (fun sp _ => (trodAll_cons_mk (shut_string Try.underlying9 w0) (trodAll_cons_mk (shut_string Try.underlying9 w1) (trodAll_cons_mk (shut_string Try.underlying9 w2) (trodAll_cons_mk (shut_string Try.underlying9 w3) trodAll_mk0))))) (fun _ _ => rfl) rfl
    (hg.frame _) hg.2.1 (ok_one (by kernel_rfl) rfl (okWide_bool_mk Try.underlying4 _))⟩

theorem over : Rows.fnBlockFromAbroadFollowsHLRAloneRow.holds Try.pinned (OpenSpec.ofChange Rows.fnBlockFromAbroadFollowsHLRAloneSpec) :=
  OpenClaim.holds_of_wide 3 Try.f3 rfl rfl rfl rfl rfl rfl rfl ⟨rfl, rfl, rfl, rfl, rfl⟩ rfl rfl rfl rfl rfl (by kernel_rfl) Try.func3 (by kernel_rfl)
    (of_decide_eq_true (by kernel_rfl)) (by unfold Func.isWrapper; first | (rw [if_pos (by decide +kernel)]; kernel_rfl) | (rw [if_neg (by decide +kernel)]; exact ⟨rfl, rfl⟩))
    (fun os started H enc _ => lifted os started H enc)

/-- ████ THE STATEMENT ████ -/
theorem proved : Rows.FnBlockFromAbroadFollowsHLRAloneSaid :=
  over
#print axioms proved
end Go.Proofs.Qxb6619006a.fnBlockFromAbroadFollowsHLRAlone
