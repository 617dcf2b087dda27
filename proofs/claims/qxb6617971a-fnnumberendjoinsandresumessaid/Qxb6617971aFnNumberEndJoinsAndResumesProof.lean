/-
  THE PROOF OF 'Rows.FnNumberEndJoinsAndResumesSaid': the seat's shell, its walk filled.
-/
import Derived.Test.Qxb6617971aRows
import Derived.WalkKit
import Derived.ProofKit
import Derived.OpenShut
import Derived.ShutString
import Derived.Test.Qxb6617971aNumEnd
namespace Go.Proofs.Qxb6617971a.fnNumberEndJoinsAndResumes
open Go.ChangeShapes Go.WideShapes Go.ChangeAt Go.RowKit
open Go.ChangeMaps (open_string shut_string)
open Go.Proofs.Qxb6617971a.Plain
set_option linter.unusedVariables false      -- a walk need not use every 'w<i>' (that an integer argument fits its kind)

theorem own : ownKnob Try.prog.godebug = none := by kernel_rfl

theorem inNumber_is (s : ByteArray) (k : Nat) (w : World) (b : Bool) (hs : s.size ≤ 131072) (hk : k < s.size) (hb : inNum s.data.toList k = b) :
    Calls Try.prog 11 #[.string s, .int .i64 k] w fun e w' => e = .returned (.bool b) ∧ w' = w := by
  rw [← hb]; exact inNumber_any s k w hs hk

def SomeBool (e : Ending) : Prop := ∃ b, e = .returned (.bool b)
theorem bytesJoin_any (q t : ByteArray) (a b : Int) (w : World) :
    Calls Try.prog 12 #[.string q, .string t, .int .i64 a, .int .i64 b] w fun e w' => SomeBool e ∧ w' = w := by
  by_cases h1 : (1048576 : Int) < (q.size : Int)
  · go_enter Try.func12, Try.ntmps12
    go_wp2
    go_ret
    exact ⟨⟨_, rfl⟩, rfl⟩
  by_cases h2 : (1048576 : Int) < (t.size : Int)
  · go_enter Try.func12, Try.ntmps12
    go_wp2
    go_ret
    exact ⟨⟨_, rfl⟩, rfl⟩
  by_cases h3 : (1048576 : Int) < (q.size : Int) + (t.size : Int)
  · go_enter Try.func12, Try.ntmps12
    go_wp2
    go_ret
    exact ⟨⟨_, rfl⟩, rfl⟩
  go_enter Try.func12, Try.ntmps12
  go_wp2
  go_ret
  exact ⟨⟨_, rfl⟩, rfl⟩

theorem join_lt {a0 a1 S : ByteArray} {st r rj : Nat} (hl : S.data.toList = a0.data.toList ++ a1.data.toList) (h : NE a0.data.toList st r) (hj : NE S.data.toList st rj) (hr : r < a0.size) : rj = r :=
  NE.join_lt h (hl ▸ hj) (by simpa using hr)
theorem join_ge {a0 a1 S : ByteArray} {st r rj r2 : Nat} (hl : S.data.toList = a0.data.toList ++ a1.data.toList) (h : NE a0.data.toList st r) (hj : NE S.data.toList st rj) (hr : ¬ r < a0.size) (h2 : NE S.data.toList a0.size r2) : rj = r2 :=
  NE.join_ge h (hl ▸ hj) (by simpa using hr) (by rw [hl] at h2; simpa using h2)
/-- the ways behind the second call: what the tests say. -/
theorem tail_ways (S : ByteArray) (st rj : Nat) (h : NE S.data.toList st rj) :
    (rj < S.size ∧ st < S.size ∧ inNum S.data.toList rj = false ∧ inNum S.data.toList st = true ∧ rj ≠ st) ∨
    (rj < S.size ∧ st < S.size ∧ inNum S.data.toList rj = false ∧ inNum S.data.toList st = false) ∨
    (¬ rj < S.size ∧ st < S.size ∧ inNum S.data.toList st = true ∧ rj ≠ st) ∨
    (¬ rj < S.size ∧ st < S.size ∧ inNum S.data.toList st = false) ∨
    (¬ rj < S.size ∧ ¬ st < S.size) := by
  have h1 := h.1
  have h2 : rj ≤ S.size := by simpa using h.2.1
  by_cases a : rj < S.size
  · have b : st < S.size := by omega
    have c := h.2.2.2 (by simpa using a)
    cases d : inNum S.data.toList st with
    | true => exact .inl ⟨a, b, c, rfl, h.past (by simpa using b) d⟩
    | false => exact .inr (.inl ⟨a, b, c, rfl⟩)
  · by_cases b : st < S.size
    · cases d : inNum S.data.toList st with
      | true => exact .inr (.inr (.inl ⟨a, b, rfl, h.past (by simpa using b) d⟩))
      | false => exact .inr (.inr (.inr (.inl ⟨a, b, rfl⟩)))
    · exact .inr (.inr (.inr (.inr ⟨a, b⟩)))

set_option maxHeartbeats 4000000 in
theorem main_way (a0 a1 S : ByteArray) (st : Nat) (a3 : Int) (w : World) (hs : a0.size ≤ 65536) (ht : a1.size ≤ 65536) (hst : st ≤ a0.size)
    (hS : a0 ++ a1 = S) 
    (hne : st = 0 → ∀ h : 0 < S.size, (S[0].toNat : Int) ≠ 43 ∧ (S[0].toNat : Int) ≠ 45) :
    Calls Try.prog 5 #[.string a0, .string a1, .int .i64 st, .int .i64 a3] w fun e w' => e = .returned (.bool true) ∧ Grown w w' := by
  have hz1 : S.size ≤ a0.size + a1.size := by rw [← hS]; simp
  have hz2 : a0.size + a1.size ≤ S.size := by rw [← hS]; simp
  have h16 : decide ((65536 : Int) < (a0.size : Int)) = false := decide_eq_false (by omega)
  have h17 : decide ((65536 : Int) < (a1.size : Int)) = false := decide_eq_false (by omega)
  have d1 : decide ((st : Int) < 0) = false := decide_eq_false (by omega)
  have d2 : decide (a0.size < st) = false := decide_eq_false (by omega)
  have HNE : Hid (st = 0 → ∀ h : 0 < S.size, (S[0].toNat : Int) ≠ 43 ∧ (S[0].toNat : Int) ≠ 45) := hne
  clear hne
  have HL : Hid (S.data.toList = a0.data.toList ++ a1.data.toList) := by rw [← hS]; show _ = _; simp
  have HNE0 : Hid (st = 0 → ∀ h : 0 < a0.size, (a0[0].toNat : Int) ≠ 43 ∧ (a0[0].toNat : Int) ≠ 45) := by
    intro h0 h
    have := HNE.out h0 (by omega)
    rwa [← byteAt_get S 0 (by omega), HL.out, byteAt_append _ _ _ (by simpa using h), byteAt_get a0 0 h] at this
  have HNE2 : Hid (a0.size = 0 → ∀ h : 0 < S.size, (S[0].toNat : Int) ≠ 43 ∧ (S[0].toNat : Int) ≠ 45) := fun h0 h => HNE.out (by omega) h
  have hway : ((st : Int) == 0) = false ∨ (((st : Int) == 0) = true ∧ decide (0 < S.size) = false ∧ ¬ 0 < S.size) ∨ (((st : Int) == 0) = true ∧ decide (0 < S.size) = true ∧ ∃ h : 0 < S.size, ((S[0].toNat : Int) == 43) = false ∧ ((S[0].toNat : Int) == 45) = false) := by
    by_cases h0 : st = 0
    · by_cases h : 0 < S.size
      · exact .inr (.inr ⟨beq_iff_eq.2 (by omega), decide_eq_true (by omega), h, beq_eq_false_iff_ne.2 (HNE.out h0 h).1, beq_eq_false_iff_ne.2 (HNE.out h0 h).2⟩)
      · exact .inr (.inl ⟨beq_iff_eq.2 (by omega), decide_eq_false (by omega), h⟩)
    · exact .inl (beq_eq_false_iff_ne.2 (by omega))
  have hadd : ∀ w, Sem.run Try.prog (Op.stringOp .add a0 a1) w = .ok (.string S) w := fun w => by rw [← hS]; exact run_string_add_sum w a0 a1 (by omega)
  have HS : Hid (a0 ++ a1 = S) := hS
  clear hS
  rcases hway with g1 | ⟨g1, g2, g2'⟩ | ⟨g1, g2, hp, g3, g4⟩
  all_goals
    go_enter Try.func5, Try.ntmps5
    go_wp2_with fail
    refine (bytesJoin_any _ _ _ _ _).mono ?_
    rintro e w' ⟨⟨r, rfl⟩, rfl⟩
    cases r
    · go_wp2
      go_ret
      exact ⟨rfl, Grown.refl _⟩
    · go_wp2_with fail
      refine (zzNumberEnd_any a0 st _ (by omega) hst HNE0.out).mono ?_
      rintro e w' ⟨⟨r, rfl, hr⟩, rfl⟩
      have HR : Hid (NE a0.data.toList st r) := hr
      clear hr
      go_wp2_with fail
      refine (zzNumberEnd_any S st _ (by omega) (by omega) HNE.out).mono ?_
      rintro e w' ⟨⟨rj, rfl, hrj⟩, rfl⟩
      have hr1 : st ≤ rj := hrj.1
      have hr2 : rj ≤ S.size := by simpa using hrj.2.1
      have HRJ : Hid (NE S.data.toList st rj) := hrj
      clear hrj
      have d3 : decide (rj < st) = false := decide_eq_false (by omega)
      have d4 : decide (S.size < rj) = false := decide_eq_false (by omega)
      have mway : decide ((st : Int) ≤ a3) = false ∨ (decide ((st : Int) ≤ a3) = true ∧ decide (a3 ≤ (rj : Int)) = false) ∨ (∃ m : Nat, a3 = (m : Int) ∧ st ≤ m ∧ m ≤ rj) := by
        by_cases h1 : (st : Int) ≤ a3
        · by_cases h2 : a3 ≤ (rj : Int)
          · exact .inr (.inr ⟨a3.toNat, by omega, by omega, by omega⟩)
          · exact .inr (.inl ⟨decide_eq_true h1, decide_eq_false h2⟩)
        · exact .inl (decide_eq_false h1)
      by_cases hrl : r < a0.size
      · have heq : rj = r := join_lt HL.out HR.out HRJ.out hrl
        subst heq
        rcases tail_ways S st rj HRJ.out with ⟨t1, t2, t3, t4, t5⟩ | ⟨t1, t2, t3, t4⟩ | ⟨t1, t2, t4, t5⟩ | ⟨t1, t2, t4⟩ | ⟨t1, t2⟩
        · have q1 : ((rj : Int) == (st : Int)) = false := beq_eq_false_iff_ne.2 (by omega)
          have T3 : Hid (inNum S.data.toList rj = false) := t3
          have T4 : Hid (inNum S.data.toList st = true) := t4
          clear t3 t4 t5
          rcases mway with m1 | ⟨m1, m2⟩ | ⟨m, m0, m1, m2⟩
          · go_wp2_with fail
            refine (inNumber_is S rj _ false (by omega) t1 T3.out).mono ?_
            rintro e w' ⟨rfl, rfl⟩
            go_wp2_with fail
            refine (inNumber_is S st _ true (by omega) t2 T4.out).mono ?_
            rintro e w' ⟨rfl, rfl⟩
            go_wp2
            go_ret
            exact ⟨rfl, Grown.refl _⟩
          · go_wp2_with fail
            refine (inNumber_is S rj _ false (by omega) t1 T3.out).mono ?_
            rintro e w' ⟨rfl, rfl⟩
            go_wp2_with fail
            refine (inNumber_is S st _ true (by omega) t2 T4.out).mono ?_
            rintro e w' ⟨rfl, rfl⟩
            go_wp2
            go_ret
            exact ⟨rfl, Grown.refl _⟩
          · subst m0
            have m3 : decide (st ≤ m) = true := decide_eq_true m1
            have m4 : decide (m ≤ rj) = true := decide_eq_true m2
            go_wp2_with fail
            refine (inNumber_is S rj _ false (by omega) t1 T3.out).mono ?_
            rintro e w' ⟨rfl, rfl⟩
            go_wp2_with fail
            refine (inNumber_is S st _ true (by omega) t2 T4.out).mono ?_
            rintro e w' ⟨rfl, rfl⟩
            go_wp2_with fail
            refine (zzNumberEnd_any S m _ (by omega) (by omega) (fun h0 h => HNE.out (by omega) h)).mono ?_
            rintro e w' ⟨⟨r3, rfl, hr3⟩, rfl⟩
            have heq3 : r3 = rj := NE.resume HRJ.out (by omega) (by omega) hr3
            clear hr3
            subst heq3
            go_wp2
            go_ret
            exact ⟨rfl, Grown.refl _⟩
        · have T3 : Hid (inNum S.data.toList rj = false) := t3
          have T4 : Hid (inNum S.data.toList st = false) := t4
          clear t3 t4
          rcases mway with m1 | ⟨m1, m2⟩ | ⟨m, m0, m1, m2⟩
          · go_wp2_with fail
            refine (inNumber_is S rj _ false (by omega) t1 T3.out).mono ?_
            rintro e w' ⟨rfl, rfl⟩
            go_wp2_with fail
            refine (inNumber_is S st _ false (by omega) t2 T4.out).mono ?_
            rintro e w' ⟨rfl, rfl⟩
            go_wp2
            go_ret
            exact ⟨rfl, Grown.refl _⟩
          · go_wp2_with fail
            refine (inNumber_is S rj _ false (by omega) t1 T3.out).mono ?_
            rintro e w' ⟨rfl, rfl⟩
            go_wp2_with fail
            refine (inNumber_is S st _ false (by omega) t2 T4.out).mono ?_
            rintro e w' ⟨rfl, rfl⟩
            go_wp2
            go_ret
            exact ⟨rfl, Grown.refl _⟩
          · subst m0
            have m3 : decide (st ≤ m) = true := decide_eq_true m1
            have m4 : decide (m ≤ rj) = true := decide_eq_true m2
            go_wp2_with fail
            refine (inNumber_is S rj _ false (by omega) t1 T3.out).mono ?_
            rintro e w' ⟨rfl, rfl⟩
            go_wp2_with fail
            refine (inNumber_is S st _ false (by omega) t2 T4.out).mono ?_
            rintro e w' ⟨rfl, rfl⟩
            go_wp2_with fail
            refine (zzNumberEnd_any S m _ (by omega) (by omega) (fun h0 h => HNE.out (by omega) h)).mono ?_
            rintro e w' ⟨⟨r3, rfl, hr3⟩, rfl⟩
            have heq3 : r3 = rj := NE.resume HRJ.out (by omega) (by omega) hr3
            clear hr3
            subst heq3
            go_wp2
            go_ret
            exact ⟨rfl, Grown.refl _⟩
        · have q1 : ((rj : Int) == (st : Int)) = false := beq_eq_false_iff_ne.2 (by omega)
          have T4 : Hid (inNum S.data.toList st = true) := t4
          clear t4 t5
          rcases mway with m1 | ⟨m1, m2⟩ | ⟨m, m0, m1, m2⟩
          · go_wp2_with fail
            refine (inNumber_is S st _ true (by omega) t2 T4.out).mono ?_
            rintro e w' ⟨rfl, rfl⟩
            go_wp2
            go_ret
            exact ⟨rfl, Grown.refl _⟩
          · go_wp2_with fail
            refine (inNumber_is S st _ true (by omega) t2 T4.out).mono ?_
            rintro e w' ⟨rfl, rfl⟩
            go_wp2
            go_ret
            exact ⟨rfl, Grown.refl _⟩
          · subst m0
            have m3 : decide (st ≤ m) = true := decide_eq_true m1
            have m4 : decide (m ≤ rj) = true := decide_eq_true m2
            go_wp2_with fail
            refine (inNumber_is S st _ true (by omega) t2 T4.out).mono ?_
            rintro e w' ⟨rfl, rfl⟩
            go_wp2_with fail
            refine (zzNumberEnd_any S m _ (by omega) (by omega) (fun h0 h => HNE.out (by omega) h)).mono ?_
            rintro e w' ⟨⟨r3, rfl, hr3⟩, rfl⟩
            have heq3 : r3 = rj := NE.resume HRJ.out (by omega) (by omega) hr3
            clear hr3
            subst heq3
            go_wp2
            go_ret
            exact ⟨rfl, Grown.refl _⟩
        · have T4 : Hid (inNum S.data.toList st = false) := t4
          clear t4
          rcases mway with m1 | ⟨m1, m2⟩ | ⟨m, m0, m1, m2⟩
          · go_wp2_with fail
            refine (inNumber_is S st _ false (by omega) t2 T4.out).mono ?_
            rintro e w' ⟨rfl, rfl⟩
            go_wp2
            go_ret
            exact ⟨rfl, Grown.refl _⟩
          · go_wp2_with fail
            refine (inNumber_is S st _ false (by omega) t2 T4.out).mono ?_
            rintro e w' ⟨rfl, rfl⟩
            go_wp2
            go_ret
            exact ⟨rfl, Grown.refl _⟩
          · subst m0
            have m3 : decide (st ≤ m) = true := decide_eq_true m1
            have m4 : decide (m ≤ rj) = true := decide_eq_true m2
            go_wp2_with fail
            refine (inNumber_is S st _ false (by omega) t2 T4.out).mono ?_
            rintro e w' ⟨rfl, rfl⟩
            go_wp2_with fail
            refine (zzNumberEnd_any S m _ (by omega) (by omega) (fun h0 h => HNE.out (by omega) h)).mono ?_
            rintro e w' ⟨⟨r3, rfl, hr3⟩, rfl⟩
            have heq3 : r3 = rj := NE.resume HRJ.out (by omega) (by omega) hr3
            clear hr3
            subst heq3
            go_wp2
            go_ret
            exact ⟨rfl, Grown.refl _⟩
        · rcases mway with m1 | ⟨m1, m2⟩ | ⟨m, m0, m1, m2⟩
          · go_wp2
            go_ret
            exact ⟨rfl, Grown.refl _⟩
          · go_wp2
            go_ret
            exact ⟨rfl, Grown.refl _⟩
          · subst m0
            have m3 : decide (st ≤ m) = true := decide_eq_true m1
            have m4 : decide (m ≤ rj) = true := decide_eq_true m2
            go_wp2_with fail
            refine (zzNumberEnd_any S m _ (by omega) (by omega) (fun h0 h => HNE.out (by omega) h)).mono ?_
            rintro e w' ⟨⟨r3, rfl, hr3⟩, rfl⟩
            have heq3 : r3 = rj := NE.resume HRJ.out (by omega) (by omega) hr3
            clear hr3
            subst heq3
            go_wp2
            go_ret
            exact ⟨rfl, Grown.refl _⟩
      · have hrl' : decide (r < a0.size) = false := decide_eq_false hrl
        go_wp2_with fail
        refine (zzNumberEnd_any S a0.size _ (by omega) (by omega) HNE2.out).mono ?_
        rintro e w' ⟨⟨r2, rfl, hr2'⟩, rfl⟩
        have heq : rj = r2 := join_ge HL.out HR.out HRJ.out hrl hr2'
        clear hr2'
        subst heq
        rcases tail_ways S st rj HRJ.out with ⟨t1, t2, t3, t4, t5⟩ | ⟨t1, t2, t3, t4⟩ | ⟨t1, t2, t4, t5⟩ | ⟨t1, t2, t4⟩ | ⟨t1, t2⟩
        · have q1 : ((rj : Int) == (st : Int)) = false := beq_eq_false_iff_ne.2 (by omega)
          have T3 : Hid (inNum S.data.toList rj = false) := t3
          have T4 : Hid (inNum S.data.toList st = true) := t4
          clear t3 t4 t5
          rcases mway with m1 | ⟨m1, m2⟩ | ⟨m, m0, m1, m2⟩
          · go_wp2_with fail
            refine (inNumber_is S rj _ false (by omega) t1 T3.out).mono ?_
            rintro e w' ⟨rfl, rfl⟩
            go_wp2_with fail
            refine (inNumber_is S st _ true (by omega) t2 T4.out).mono ?_
            rintro e w' ⟨rfl, rfl⟩
            go_wp2
            go_ret
            exact ⟨rfl, Grown.refl _⟩
          · go_wp2_with fail
            refine (inNumber_is S rj _ false (by omega) t1 T3.out).mono ?_
            rintro e w' ⟨rfl, rfl⟩
            go_wp2_with fail
            refine (inNumber_is S st _ true (by omega) t2 T4.out).mono ?_
            rintro e w' ⟨rfl, rfl⟩
            go_wp2
            go_ret
            exact ⟨rfl, Grown.refl _⟩
          · subst m0
            have m3 : decide (st ≤ m) = true := decide_eq_true m1
            have m4 : decide (m ≤ rj) = true := decide_eq_true m2
            go_wp2_with fail
            refine (inNumber_is S rj _ false (by omega) t1 T3.out).mono ?_
            rintro e w' ⟨rfl, rfl⟩
            go_wp2_with fail
            refine (inNumber_is S st _ true (by omega) t2 T4.out).mono ?_
            rintro e w' ⟨rfl, rfl⟩
            go_wp2_with fail
            refine (zzNumberEnd_any S m _ (by omega) (by omega) (fun h0 h => HNE.out (by omega) h)).mono ?_
            rintro e w' ⟨⟨r3, rfl, hr3⟩, rfl⟩
            have heq3 : r3 = rj := NE.resume HRJ.out (by omega) (by omega) hr3
            clear hr3
            subst heq3
            go_wp2
            go_ret
            exact ⟨rfl, Grown.refl _⟩
        · have T3 : Hid (inNum S.data.toList rj = false) := t3
          have T4 : Hid (inNum S.data.toList st = false) := t4
          clear t3 t4
          rcases mway with m1 | ⟨m1, m2⟩ | ⟨m, m0, m1, m2⟩
          · go_wp2_with fail
            refine (inNumber_is S rj _ false (by omega) t1 T3.out).mono ?_
            rintro e w' ⟨rfl, rfl⟩
            go_wp2_with fail
            refine (inNumber_is S st _ false (by omega) t2 T4.out).mono ?_
            rintro e w' ⟨rfl, rfl⟩
            go_wp2
            go_ret
            exact ⟨rfl, Grown.refl _⟩
          · go_wp2_with fail
            refine (inNumber_is S rj _ false (by omega) t1 T3.out).mono ?_
            rintro e w' ⟨rfl, rfl⟩
            go_wp2_with fail
            refine (inNumber_is S st _ false (by omega) t2 T4.out).mono ?_
            rintro e w' ⟨rfl, rfl⟩
            go_wp2
            go_ret
            exact ⟨rfl, Grown.refl _⟩
          · subst m0
            have m3 : decide (st ≤ m) = true := decide_eq_true m1
            have m4 : decide (m ≤ rj) = true := decide_eq_true m2
            go_wp2_with fail
            refine (inNumber_is S rj _ false (by omega) t1 T3.out).mono ?_
            rintro e w' ⟨rfl, rfl⟩
            go_wp2_with fail
            refine (inNumber_is S st _ false (by omega) t2 T4.out).mono ?_
            rintro e w' ⟨rfl, rfl⟩
            go_wp2_with fail
            refine (zzNumberEnd_any S m _ (by omega) (by omega) (fun h0 h => HNE.out (by omega) h)).mono ?_
            rintro e w' ⟨⟨r3, rfl, hr3⟩, rfl⟩
            have heq3 : r3 = rj := NE.resume HRJ.out (by omega) (by omega) hr3
            clear hr3
            subst heq3
            go_wp2
            go_ret
            exact ⟨rfl, Grown.refl _⟩
        · have q1 : ((rj : Int) == (st : Int)) = false := beq_eq_false_iff_ne.2 (by omega)
          have T4 : Hid (inNum S.data.toList st = true) := t4
          clear t4 t5
          rcases mway with m1 | ⟨m1, m2⟩ | ⟨m, m0, m1, m2⟩
          · go_wp2_with fail
            refine (inNumber_is S st _ true (by omega) t2 T4.out).mono ?_
            rintro e w' ⟨rfl, rfl⟩
            go_wp2
            go_ret
            exact ⟨rfl, Grown.refl _⟩
          · go_wp2_with fail
            refine (inNumber_is S st _ true (by omega) t2 T4.out).mono ?_
            rintro e w' ⟨rfl, rfl⟩
            go_wp2
            go_ret
            exact ⟨rfl, Grown.refl _⟩
          · subst m0
            have m3 : decide (st ≤ m) = true := decide_eq_true m1
            have m4 : decide (m ≤ rj) = true := decide_eq_true m2
            go_wp2_with fail
            refine (inNumber_is S st _ true (by omega) t2 T4.out).mono ?_
            rintro e w' ⟨rfl, rfl⟩
            go_wp2_with fail
            refine (zzNumberEnd_any S m _ (by omega) (by omega) (fun h0 h => HNE.out (by omega) h)).mono ?_
            rintro e w' ⟨⟨r3, rfl, hr3⟩, rfl⟩
            have heq3 : r3 = rj := NE.resume HRJ.out (by omega) (by omega) hr3
            clear hr3
            subst heq3
            go_wp2
            go_ret
            exact ⟨rfl, Grown.refl _⟩
        · have T4 : Hid (inNum S.data.toList st = false) := t4
          clear t4
          rcases mway with m1 | ⟨m1, m2⟩ | ⟨m, m0, m1, m2⟩
          · go_wp2_with fail
            refine (inNumber_is S st _ false (by omega) t2 T4.out).mono ?_
            rintro e w' ⟨rfl, rfl⟩
            go_wp2
            go_ret
            exact ⟨rfl, Grown.refl _⟩
          · go_wp2_with fail
            refine (inNumber_is S st _ false (by omega) t2 T4.out).mono ?_
            rintro e w' ⟨rfl, rfl⟩
            go_wp2
            go_ret
            exact ⟨rfl, Grown.refl _⟩
          · subst m0
            have m3 : decide (st ≤ m) = true := decide_eq_true m1
            have m4 : decide (m ≤ rj) = true := decide_eq_true m2
            go_wp2_with fail
            refine (inNumber_is S st _ false (by omega) t2 T4.out).mono ?_
            rintro e w' ⟨rfl, rfl⟩
            go_wp2_with fail
            refine (zzNumberEnd_any S m _ (by omega) (by omega) (fun h0 h => HNE.out (by omega) h)).mono ?_
            rintro e w' ⟨⟨r3, rfl, hr3⟩, rfl⟩
            have heq3 : r3 = rj := NE.resume HRJ.out (by omega) (by omega) hr3
            clear hr3
            subst heq3
            go_wp2
            go_ret
            exact ⟨rfl, Grown.refl _⟩
        · rcases mway with m1 | ⟨m1, m2⟩ | ⟨m, m0, m1, m2⟩
          · go_wp2
            go_ret
            exact ⟨rfl, Grown.refl _⟩
          · go_wp2
            go_ret
            exact ⟨rfl, Grown.refl _⟩
          · subst m0
            have m3 : decide (st ≤ m) = true := decide_eq_true m1
            have m4 : decide (m ≤ rj) = true := decide_eq_true m2
            go_wp2_with fail
            refine (zzNumberEnd_any S m _ (by omega) (by omega) (fun h0 h => HNE.out (by omega) h)).mono ?_
            rintro e w' ⟨⟨r3, rfl, hr3⟩, rfl⟩
            have heq3 : r3 = rj := NE.resume HRJ.out (by omega) (by omega) hr3
            clear hr3
            subst heq3
            go_wp2
            go_ret
            exact ⟨rfl, Grown.refl _⟩

/-! ### STEP 1: THE WALK: the Go text returns true. 'Grown w w'': the world has at most new blocks (Derived/RowKit3.lean). Part the cases AHEAD of 'go_enter' where a test parts the walk; take each callee by a contract of your own. -/
theorem walk (a0 : ByteArray) (a1 : ByteArray) (a2 : Int) (a3 : Int) (w0 : a0.size ≤ maxLen) (w1 : a1.size ≤ maxLen) (w2 : (Lit.int .i64 a2).wf = true) (w3 : (Lit.int .i64 a3).wf = true) (w : World) :
    Calls Try.prog 5 #[.string a0, .string a1, .int .i64 a2, .int .i64 a3] w fun e w' => e = .returned (.bool true) ∧ Grown w w' := by
  by_cases h16 : (65536 : Int) < (a0.size : Int)
  · go_enter Try.func5, Try.ntmps5
    go_wp2_with fail
    refine (bytesJoin_any _ _ _ _ _).mono ?_
    rintro e w' ⟨⟨r, rfl⟩, rfl⟩
    cases r
    · go_wp2
      go_ret
      exact ⟨rfl, Grown.refl _⟩
    · go_wp2
      go_ret
      exact ⟨rfl, Grown.refl _⟩
  by_cases h17 : (65536 : Int) < (a1.size : Int)
  · go_enter Try.func5, Try.ntmps5
    go_wp2_with fail
    refine (bytesJoin_any _ _ _ _ _).mono ?_
    rintro e w' ⟨⟨r, rfl⟩, rfl⟩
    cases r
    · go_wp2
      go_ret
      exact ⟨rfl, Grown.refl _⟩
    · go_wp2
      go_ret
      exact ⟨rfl, Grown.refl _⟩
  by_cases hneg : a2 < 0
  · go_enter Try.func5, Try.ntmps5
    go_wp2_with fail
    refine (bytesJoin_any _ _ _ _ _).mono ?_
    rintro e w' ⟨⟨r, rfl⟩, rfl⟩
    cases r
    · go_wp2
      go_ret
      exact ⟨rfl, Grown.refl _⟩
    · go_wp2
      go_ret
      exact ⟨rfl, Grown.refl _⟩
  by_cases hbig : (a0.size : Int) < a2
  · go_enter Try.func5, Try.ntmps5
    go_wp2_with fail
    refine (bytesJoin_any _ _ _ _ _).mono ?_
    rintro e w' ⟨⟨r, rfl⟩, rfl⟩
    cases r
    · go_wp2
      go_ret
      exact ⟨rfl, Grown.refl _⟩
    · go_wp2
      go_ret
      exact ⟨rfl, Grown.refl _⟩
  obtain ⟨st, rfl⟩ := Int.eq_ofNat_of_zero_le (show 0 ≤ a2 by omega)
  have hst : st ≤ a0.size := by omega
  obtain ⟨S, hS⟩ : ∃ S, a0 ++ a1 = S := ⟨_, rfl⟩
  by_cases hsg : st = 0 ∧ ∃ h : 0 < S.size, (S[0].toNat : Int) = 43 ∨ (S[0].toNat : Int) = 45
  · obtain ⟨rfl, hp, hs2⟩ := hsg
    have d1 : decide (a0.size < 0) = false := decide_eq_false (by omega)
    have hs3 : (((S[0].toNat : Int) == 43) = true) ∨ (((S[0].toNat : Int) == 43) = false ∧ ((S[0].toNat : Int) == 45) = true) := by
      rcases hs2 with h | h
      · exact .inl (beq_iff_eq.2 h)
      · exact .inr ⟨beq_eq_false_iff_ne.2 (by omega), beq_iff_eq.2 h⟩
    have hadd : ∀ w, Sem.run Try.prog (Op.stringOp .add a0 a1) w = .ok (.string S) w := fun w => by rw [← hS]; exact run_string_add_sum w a0 a1 (by omega)
    have dp : decide (0 < S.size) = true := decide_eq_true hp
    clear hs2 hS
    rcases hs3 with g1 | ⟨g1, g2⟩
    all_goals
      go_enter Try.func5, Try.ntmps5
      go_wp2_with fail
      refine (bytesJoin_any _ _ _ _ _).mono ?_
      rintro e w' ⟨⟨r, rfl⟩, rfl⟩
      cases r
      · go_wp2
        go_ret
        exact ⟨rfl, Grown.refl _⟩
      · go_wp2
        go_ret
        exact ⟨rfl, Grown.refl _⟩
  exact main_way a0 a1 S st a3 w (by omega) (by omega) hst hS (fun h0 h => ⟨fun c => hsg ⟨h0, h, .inl c⟩, fun c => hsg ⟨h0, h, .inr c⟩⟩)

/-! ### THE ROW's STEP: WRITTEN OUT: LEAVE IT -/
set_option maxRecDepth 100000 in
theorem lifted (os : Os) (started : os.Started) (H : Type) (enc : TypeId × Value → H) :
    ReturnsInHanded {} Try.checked os 5 .any (Rows.fnNumberEndJoinsAndResumesSpec.pre6 enc Try.prog Try.f5 Rows.fnNumberEndJoinsAndResumesRow.domain false) (Rows.fnNumberEndJoinsAndResumesSpec.post enc Try.prog Try.f5 false true false false) := by
  refine returnsInHanded_of_change (C := Try.checked) own started (by kernel_rfl) Try.func5
    (ChangeSpec.witness6 (enc := enc) (C := Try.checked) false ⟨#[], #[.string ByteArray.empty, .string ByteArray.empty, .int .i64 0, .int .i64 0], []⟩ 8 (by kernel_rfl) (by kernel_rfl) (by kernel_rfl) (by kernel_rfl)) ?_
  intro W base args ds gs before hval0 hW hcnd _
  have hval : ∀ (j : Nat) t v, Try.f5.params[j]? = some t → args[j]? = some v → Value.okWide Try.prog W .any base t v := hval0
  have hW' := hW
  obtain ⟨p, q, hA0, hV, rfl, hfz, hnd⟩ := hW
  have hA : DataW.TrodAll enc Try.prog W 0 (fun _ => true) true Try.f5.params.toList args.toList ds p := hA0
  rw [Try.params5] at hA hval
  obtain ⟨v0, vs0, d0, ds0, p0, q0, hargs, rfl, rfl, h0, r0⟩ := trodAll_cons hA
  obtain ⟨v1, vs1, d1, ds1, p1, q1, rfl, rfl, rfl, h1, r1⟩ := trodAll_cons r0
  obtain ⟨v2, vs2, d2, ds2, p2, q2, rfl, rfl, rfl, h2, r2⟩ := trodAll_cons r1
  obtain ⟨v3, vs3, d3, ds3, p3, q3, rfl, rfl, rfl, h3, r3⟩ := trodAll_cons r2
  obtain ⟨rfl, rfl, rfl⟩ := trodAll_nil r3
  obtain rfl : args = #[v0, v1, v2, v3] := by cases args; simp_all
  obtain ⟨rfl, rfl⟩ := trodVars_none hV
  obtain ⟨a0, rfl, rfl, rfl, w0⟩ := open_string Try.underlying9 (hval 0 9 v0 rfl rfl) h0
  obtain ⟨a1, rfl, rfl, rfl, w1⟩ := open_string Try.underlying9 (hval 1 9 v1 rfl rfl) h1
  obtain ⟨a2, rfl, rfl, rfl, w2⟩ := open_int Try.underlying3 (hval 2 3 v2 rfl rfl) h2
  obtain ⟨a3, rfl, rfl, rfl, w3⟩ := open_int Try.underlying3 (hval 3 3 v3 rfl rfl) h3
  clear hA0 hval0
  simp only [List.append_nil] at hW'
  refine (walk a0 a1 a2 a3 w0 w1 w2 w3 W).mono fun e W' ⟨he, hg⟩ => ?_
  subst he
  exact ⟨_, rfl, post_of_same (pa := []) (pv := []) hW' (fun _ _ _ => (trodAll_cons_mk (shut_bool Try.underlying4 _) trodAll_mk0)) (fun sp _ => (trodAll_cons_mk (shut_string Try.underlying9 w0) (trodAll_cons_mk (shut_string Try.underlying9 w1) (trodAll_cons_mk (shut_int Try.underlying3 w2) (trodAll_cons_mk (shut_int Try.underlying3 w3) trodAll_mk0))))) (fun _ _ => rfl) rfl
    (hg.frame _) hg.2.1 (ok_one (by kernel_rfl) rfl (okWide_bool_mk Try.underlying4 _))⟩

theorem over : Rows.fnNumberEndJoinsAndResumesRow.holds Try.pinned (OpenSpec.ofChange Rows.fnNumberEndJoinsAndResumesSpec) :=
  OpenClaim.holds_of_wide 5 Try.f5 rfl rfl rfl rfl rfl rfl rfl ⟨rfl, rfl, rfl, rfl, rfl⟩ rfl rfl rfl rfl rfl (by kernel_rfl) Try.func5 (by kernel_rfl)
    (of_decide_eq_true (by kernel_rfl)) (by unfold Func.isWrapper; first | (rw [if_pos (by decide +kernel)]; kernel_rfl) | (rw [if_neg (by decide +kernel)]; exact ⟨rfl, rfl⟩))
    (fun os started H enc _ => lifted os started H enc)

/-- ████ THE STATEMENT ████ -/
theorem proved : Rows.FnNumberEndJoinsAndResumesSaid :=
  over
#print axioms proved
end Go.Proofs.Qxb6617971a.fnNumberEndJoinsAndResumes
