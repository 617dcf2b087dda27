/-
  THE PROOF OF 'Rows.FnSameRecordsOrderFreeAndSeesOneTTLSaid'.
-/
import Derived.Test.Qxb6618071aRows
import Derived.Test.Qxb6618071aOpen
import Derived.Test.Qxb6618071aTTL
namespace Go.Proofs.Qxb6618071a.fnSameRecordsOrderFreeAndSeesOneTTL
open Go.ChangeShapes Go.WideShapes Go.ChangeAt Go.RowKit
set_option linter.unusedVariables false

set_option maxHeartbeats 1000000 in
theorem walk (a : Option Addr) (n cap : Nat) (rs : List Rec) (k i v : Int) (w : World) (hn : rs.length = n) (hr : Recs w a rs) (hc : n ≤ cap) (hm : cap ≤ maxLen) (hz : a = none → cap = 0) :
    Calls Try.prog 5 #[.slice a n cap, .int .i64 k, .int .i64 i, .int .u32 v] w fun e w' => e = .returned (.bool true) ∧ Below w.heap.size w w' := by
  by_cases hin : n ≤ 4096 ∧ 0 ≤ k ∧ k ≤ (n : Int) ∧ (n = 0 ∨ (0 ≤ i ∧ i < (n : Int)))
  · obtain ⟨h12, h0, h1, h2⟩ := hin
    obtain ⟨k', rfl⟩ := Int.eq_ofNat_of_zero_le h0
    rcases h2 with h2 | ⟨h2, h3⟩
    · exact main_zero a n cap k' i rs v w hn hr hc hz h12 (by omega) (by omega)
    · obtain ⟨j, rfl⟩ := Int.eq_ofNat_of_zero_le h2
      exact main_pos a n cap k' j rs v w hn hr hc hz h12 (by omega) (by omega)
  have HN : Hid (rs.length = n) := hn
  have HR : Hid (Recs w a rs) := hr
  clear hn hr hz
  unfold maxLen at hm
  by_cases h12 : (4096 : Int) < (n : Int)
  · go_enter Try.func5, Try.ntmps5
    go_wp2_with fail
    refine (bytes11_any a n cap rs k i v _ HN.out HR.out (by unfold maxLen; omega)).mono ?_
    rintro e w' ⟨⟨b, rfl⟩, rfl⟩
    cases b
    · go_wp2
      go_ret
      exact ⟨rfl, Below.refl _ _⟩
    · go_wp2
      go_ret
      exact ⟨rfl, Below.refl _ _⟩
  have d12 : decide ((4096 : Int) < (n : Int)) = false := decide_eq_false h12
  have hway : (k < 0) ∨ (decide (k < 0) = false ∧ (n : Int) < k) ∨ (decide (k < 0) = false ∧ decide ((n : Int) < k) = false ∧ decide (0 < n) = true ∧ i < 0) ∨ (decide (k < 0) = false ∧ decide ((n : Int) < k) = false ∧ decide (0 < n) = true ∧ decide (i < 0) = false ∧ (n : Int) ≤ i) := by
    by_cases h1 : k < 0
    · exact .inl h1
    · by_cases h2 : (n : Int) < k
      · exact .inr (.inl ⟨decide_eq_false h1, h2⟩)
      · by_cases h3 : i < 0
        · exact .inr (.inr (.inl ⟨decide_eq_false h1, decide_eq_false h2, decide_eq_true (by omega), h3⟩))
        · exact .inr (.inr (.inr ⟨decide_eq_false h1, decide_eq_false h2, decide_eq_true (by omega), decide_eq_false h3, by omega⟩))
  clear hin
  rcases hway with g1 | ⟨g1, g2⟩ | ⟨g1, g2, g3, g4⟩ | ⟨g1, g2, g3, g4, g5⟩
  all_goals
    go_enter Try.func5, Try.ntmps5
    go_wp2_with fail
    refine (bytes11_any a n cap rs k i v _ HN.out HR.out (by unfold maxLen; omega)).mono ?_
    rintro e w' ⟨⟨b, rfl⟩, rfl⟩
    cases b
    · go_wp2
      go_ret
      exact ⟨rfl, Below.refl _ _⟩
    go_wp2_with fail
    refine (bytes7_any a n cap rs 0 _ HN.out HR.out (by unfold maxLen; omega)).mono ?_
    rintro e w' ⟨⟨z, rfl⟩, rfl⟩
    by_cases hzn : z < 0
    · go_wp2
      go_ret
      exact ⟨rfl, Below.refl _ _⟩
    have hzd : decide (z < 0) = false := decide_eq_false hzn
    clear hzn
    go_wp2
    go_ret
    exact ⟨rfl, Below.refl _ _⟩

set_option maxRecDepth 100000 in
theorem lifted (os : Os) (started : os.Started) (H : Type) (enc : TypeId × Value → H) :
    ReturnsInHanded {} Try.checked os 5 .any (Rows.fnSameRecordsOrderFreeAndSeesOneTTLSpec.pre6 enc Try.prog Try.f5 Rows.fnSameRecordsOrderFreeAndSeesOneTTLRow.domain false) (Rows.fnSameRecordsOrderFreeAndSeesOneTTLSpec.post enc Try.prog Try.f5 false true false false) := by
  refine returnsInHanded_of_change (C := Try.checked) own started (by kernel_rfl) Try.func5
    (ChangeSpec.witness6 (enc := enc) (C := Try.checked) false ⟨#[], #[.slice none 0 0, .int .i64 0, .int .i64 0, .int .u32 0], []⟩ 8 (by kernel_rfl) (by kernel_rfl) (by kernel_rfl) (by kernel_rfl)) ?_
  intro W base args ds gs before hval0 hW hcnd _
  have hval : ∀ (j : Nat) t v, Try.f5.params[j]? = some t → args[j]? = some v → Value.okWide Try.prog W .any base t v := hval0
  have hW' := hW
  obtain ⟨p, q, hA0, hV, rfl, hfz, hnd⟩ := hW
  have hA : DataW.TrodAll enc Try.prog W 0 (fun _ => true) true Try.f5.params.toList args.toList ds p := hA0
  rw [Try.params5] at hA hval
  obtain ⟨v0, vs0, d0, ds0, p0, q0, hargs, rfl, rfl, h0, r0⟩ := trodAll_cons hA
  obtain ⟨v1, vs1, d1, ds1, p1, q1, rfl, rfl, rfl, h1, r1⟩ := trodAll_cons r0
  obtain ⟨v2, vs2, d2, ds2, p2, q2, rfl, rfl, rfl, h2, r2⟩ := trodAll_cons r1
  obtain ⟨v3, vs3, d3, ds3, p3, q3, rfl, rfl, rfl, h3, r3⟩ := trodAll_cons r2
  obtain ⟨rfl, rfl, rfl⟩ := trodAll_nil r3
  obtain rfl : args = #[v0, v1, v2, v3] := by cases args; simp_all
  obtain ⟨rfl, rfl⟩ := trodVars_none hV
  obtain ⟨a0, len0, cap0, rfl⟩ := okWide_slice Try.underlying22 (hval 0 22 v0 rfl rfl)
  have k0 := h0
  have lt0 : ∀ x ∈ p0, x.block < W.heap.size := by obtain ⟨m, hm⟩ := k0; exact DataW.trod_lt m _ _ _ hm
  obtain ⟨rs, hlen, hrecs, hlc, hcm, hnone⟩ := open_recs h0
  obtain ⟨a1, rfl, rfl, rfl, w1⟩ := open_int Try.underlying3 (hval 1 3 v1 rfl rfl) h1
  obtain ⟨a2, rfl, rfl, rfl, w2⟩ := open_int Try.underlying3 (hval 2 3 v2 rfl rfl) h2
  obtain ⟨a3, rfl, rfl, rfl, w3⟩ := open_int Try.underlying27 (hval 3 27 v3 rfl rfl) h3
  clear hA0 hval0
  refine (walk a0 len0 cap0 rs a1 a2 a3 W hlen hrecs hlc hcm hnone).mono fun e W' ⟨he, bel⟩ => ?_
  subst he
  exact ⟨_, rfl, _, _, _, [], _, [], hW', trodAll_mk1 (shut_bool Try.underlying4 _), (trodAll_cons_mk (Below.trod laidOut (by kernel_rfl) (of_decide_eq_true (by kernel_rfl)) k0 bel lt0) (trodAll_cons_mk (shut_int Try.underlying3 w1) (trodAll_cons_mk (shut_int Try.underlying3 w2) (trodAll_cons_mk (shut_int Try.underlying27 w3) trodAll_mk0)))), rfl, bel.frame _, fun h => by cases h⟩

theorem over : Rows.fnSameRecordsOrderFreeAndSeesOneTTLRow.holds Try.pinned (OpenSpec.ofChange Rows.fnSameRecordsOrderFreeAndSeesOneTTLSpec) :=
  OpenClaim.holds_of_wide 5 Try.f5 rfl rfl rfl rfl rfl rfl rfl ⟨rfl, rfl, rfl, rfl, rfl⟩ rfl rfl rfl rfl rfl (by kernel_rfl) Try.func5 (by kernel_rfl)
    (of_decide_eq_true (by kernel_rfl)) (by unfold Func.isWrapper; first | (rw [if_pos (by decide +kernel)]; kernel_rfl) | (rw [if_neg (by decide +kernel)]; exact ⟨rfl, rfl⟩))
    (fun os started H enc _ => lifted os started H enc)

theorem proved : Rows.FnSameRecordsOrderFreeAndSeesOneTTLSaid :=
  over
#print axioms proved
end Go.Proofs.Qxb6618071a.fnSameRecordsOrderFreeAndSeesOneTTL
