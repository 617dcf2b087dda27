/-
  THE PROOF OF 'Rows.FnCountInsertAtAnyPlaceSaid'.
-/
import Derived.Test.Qxb6618071aRows
import Derived.Test.Qxb6618071aOpen
import Derived.Test.Qxb6618071aInsert
namespace Go.Proofs.Qxb6618071a.fnCountInsertAtAnyPlace
open Go.ChangeShapes Go.WideShapes Go.ChangeAt Go.RowKit
set_option linter.unusedVariables false

set_option maxHeartbeats 1000000 in
theorem walk (a : Option Addr) (n cap : Nat) (rs : List Rec) (p : Int) (r : Rec) (t : Int) (w : World) (hn : rs.length = n) (hr : Recs w a rs) (hc : n ≤ cap) (hm : cap ≤ maxLen) (hz : a = none → cap = 0) :
    Calls Try.prog 4 #[.slice a n cap, .int .i64 p, .agg #[.int .u16 r.ty, .int .u16 r.cl, .int .u32 r.ttl, .string r.data], .int .u16 t] w fun e w' => e = .returned (.bool true) ∧ Below w.heap.size w w' := by
  by_cases hin : n ≤ 4096 ∧ 0 ≤ p ∧ p ≤ (n : Int)
  · obtain ⟨h12, h0, h1⟩ := hin
    obtain ⟨pos, rfl⟩ := Int.eq_ofNat_of_zero_le h0
    exact main_way a n cap pos rs r t w hn hr hc hz h12 (by omega)
  have HN : Hid (rs.length = n) := hn
  have HR : Hid (Recs w a rs) := hr
  clear hn hr hz
  unfold maxLen at hm
  have HBX : Hid (Below w.heap.size w (w.alloc (.cells #[.int .u16 r.ty, .int .u16 r.cl, .int .u32 r.ttl, .string r.data] 29))) := (Below.refl _ _).alloc (Nat.le_refl _) _
  by_cases h12 : (4096 : Int) < (n : Int)
  · go_enter Try.func4, Try.ntmps4
    go_wp2_with fail
    refine (bytes10_any a n cap rs p r t _ HN.out (HR.out.below HBX.out) (by unfold maxLen; omega)).mono ?_
    rintro e w1 ⟨⟨b, rfl⟩, hb1⟩
    have hb1' : Below (w.heap.size + 1) (w.alloc (.cells #[.int .u16 r.ty, .int .u16 r.cl, .int .u32 r.ttl, .string r.data] 29)) w1 := by simpa using hb1
    have HB1 : Hid (Below w.heap.size w w1) := HBX.out.trans (hb1'.mono (by omega))
    clear hb1 hb1'
    cases b
    · go_wp2
      go_ret
      exact ⟨rfl, HB1.out⟩
    · go_wp2
      go_ret
      exact ⟨rfl, HB1.out⟩
  have d12 : decide ((4096 : Int) < (n : Int)) = false := decide_eq_false h12
  have hp : (p < 0) ∨ (decide (p < 0) = false ∧ (n : Int) < p) := by
    by_cases h : p < 0
    · exact .inl h
    · exact .inr ⟨decide_eq_false h, by omega⟩
  clear hin
  rcases hp with g1 | ⟨g1, g2⟩
  all_goals
    go_enter Try.func4, Try.ntmps4
    go_wp2_with fail
    refine (bytes10_any a n cap rs p r t _ HN.out (HR.out.below HBX.out) (by unfold maxLen; omega)).mono ?_
    rintro e w1 ⟨⟨b, rfl⟩, hb1⟩
    have hb1' : Below (w.heap.size + 1) (w.alloc (.cells #[.int .u16 r.ty, .int .u16 r.cl, .int .u32 r.ttl, .string r.data] 29)) w1 := by simpa using hb1
    obtain ⟨e0, e1, e2, e3⟩ := box_cells hb1'
    have HB1 : Hid (Below w.heap.size w w1) := HBX.out.trans (hb1'.mono (by omega))
    clear hb1 hb1'
    cases b
    · go_wp2
      go_ret
      exact ⟨rfl, HB1.out⟩
    by_cases hd : (1048576 : Int) < (r.data.size : Int)
    · go_wp2
      go_ret
      exact ⟨rfl, HB1.out⟩
    have hdd : decide ((1048576 : Int) < (r.data.size : Int)) = false := decide_eq_false hd
    go_wp2_with fail
    refine (bytes7_any a n cap rs _ _ HN.out (HR.out.below HB1.out) (by unfold maxLen; omega)).mono ?_
    rintro e w1 ⟨⟨z, rfl⟩, rfl⟩
    by_cases hzn : z < 0
    · go_wp2
      go_ret
      exact ⟨rfl, HB1.out⟩
    have hzd : decide (z < 0) = false := decide_eq_false hzn
    go_wp2
    go_ret
    exact ⟨rfl, HB1.out⟩

set_option maxRecDepth 100000 in
theorem lifted (os : Os) (started : os.Started) (H : Type) (enc : TypeId × Value → H) :
    ReturnsInHanded {} Try.checked os 4 .any (Rows.fnCountInsertAtAnyPlaceSpec.pre6 enc Try.prog Try.f4 Rows.fnCountInsertAtAnyPlaceRow.domain false) (Rows.fnCountInsertAtAnyPlaceSpec.post enc Try.prog Try.f4 false true false false) := by
  refine returnsInHanded_of_change (C := Try.checked) own started (by kernel_rfl) Try.func4
    (ChangeSpec.witness6 (enc := enc) (C := Try.checked) false ⟨#[], #[.slice none 0 0, .int .i64 0, .agg #[.int .u16 0, .int .u16 0, .int .u32 0, .string ByteArray.empty], .int .u16 0], []⟩ 8 (by kernel_rfl) (by kernel_rfl) (by kernel_rfl) (by kernel_rfl)) ?_
  intro W base args ds gs before hval0 hW hcnd _
  have hval : ∀ (j : Nat) t v, Try.f4.params[j]? = some t → args[j]? = some v → Value.okWide Try.prog W .any base t v := hval0
  have hW' := hW
  obtain ⟨p, q, hA0, hV, rfl, hfz, hnd⟩ := hW
  have hA : DataW.TrodAll enc Try.prog W 0 (fun _ => true) true Try.f4.params.toList args.toList ds p := hA0
  rw [Try.params4] at hA hval
  obtain ⟨v0, vs0, d0, ds0, p0, q0, hargs, rfl, rfl, h0, r0⟩ := trodAll_cons hA
  obtain ⟨v1, vs1, d1, ds1, p1, q1, rfl, rfl, rfl, h1, r1⟩ := trodAll_cons r0
  obtain ⟨v2, vs2, d2, ds2, p2, q2, rfl, rfl, rfl, h2, r2⟩ := trodAll_cons r1
  obtain ⟨v3, vs3, d3, ds3, p3, q3, rfl, rfl, rfl, h3, r3⟩ := trodAll_cons r2
  obtain ⟨rfl, rfl, rfl⟩ := trodAll_nil r3
  obtain rfl : args = #[v0, v1, v2, v3] := by cases args; simp_all
  obtain ⟨rfl, rfl⟩ := trodVars_none hV
  obtain ⟨a0, len0, cap0, rfl⟩ := okWide_slice Try.underlying22 (hval 0 22 v0 rfl rfl)
  have k0 := h0
  have lt0 : ∀ x ∈ p0, x.block < W.heap.size := by obtain ⟨m, hm⟩ := k0; exact DataW.trod_lt m _ _ _ hm
  obtain ⟨rs, hlen, hrecs, hlc, hcm, hnone⟩ := open_recs h0
  obtain ⟨a1, rfl, rfl, rfl, w1⟩ := open_int Try.underlying3 (hval 1 3 v1 rfl rfl) h1
  have k2 := h2
  have lt2 : ∀ x ∈ p2, x.block < W.heap.size := by obtain ⟨m, hm⟩ := k2; exact DataW.trod_lt m _ _ _ hm
  obtain ⟨r, rfl⟩ := open_recv (hval 2 29 v2 rfl rfl) h2
  obtain ⟨a3, rfl, rfl, rfl, w3⟩ := open_int Try.underlying23 (hval 3 23 v3 rfl rfl) h3
  clear hA0 hval0
  refine (walk a0 len0 cap0 rs a1 r a3 W hlen hrecs hlc hcm hnone).mono fun e W' ⟨he, bel⟩ => ?_
  subst he
  exact ⟨_, rfl, _, _, _, [], _, [], hW', trodAll_mk1 (shut_bool Try.underlying4 _), (trodAll_cons_mk (Below.trod laidOut (by kernel_rfl) (of_decide_eq_true (by kernel_rfl)) k0 bel lt0) (trodAll_cons_mk (shut_int Try.underlying3 w1) (trodAll_cons_mk (Below.trod laidOut (by kernel_rfl) (of_decide_eq_true (by kernel_rfl)) k2 bel lt2) (trodAll_cons_mk (shut_int Try.underlying23 w3) trodAll_mk0)))), rfl, bel.frame _, fun h => by cases h⟩

theorem over : Rows.fnCountInsertAtAnyPlaceRow.holds Try.pinned (OpenSpec.ofChange Rows.fnCountInsertAtAnyPlaceSpec) :=
  OpenClaim.holds_of_wide 4 Try.f4 rfl rfl rfl rfl rfl rfl rfl ⟨rfl, rfl, rfl, rfl, rfl⟩ rfl rfl rfl rfl rfl (by kernel_rfl) Try.func4 (by kernel_rfl)
    (of_decide_eq_true (by kernel_rfl)) (by unfold Func.isWrapper; first | (rw [if_pos (by decide +kernel)]; kernel_rfl) | (rw [if_neg (by decide +kernel)]; exact ⟨rfl, rfl⟩))
    (fun os started H enc _ => lifted os started H enc)

theorem proved : Rows.FnCountInsertAtAnyPlaceSaid :=
  over
#print axioms proved
end Go.Proofs.Qxb6618071a.fnCountInsertAtAnyPlace
