import Derived.Test.Qxb6617971aNum
namespace Go.Proofs.Qxb6617971a
open Go.RowKit
open Go.Proofs.Qxb6617971a.Plain
set_option linter.unusedVariables false

def OkTo (l : List UInt8) (st k : Nat) : Prop := ∀ j, st ≤ j → j < k → inNum l j = true
theorem OkTo.snoc {l : List UInt8} {st k : Nat} (h : OkTo l st k) (hk : inNum l k = true) : OkTo l st (k + 1) := by
  intro j a b
  by_cases c : j = k
  · subst c; exact hk
  · exact h j a (by omega)
theorem OkTo.ends {s : ByteArray} {st k : Nat} (h : OkTo s.data.toList st k) (h1 : st ≤ k) (h2 : k ≤ s.size) (h3 : k < s.size → inNum s.data.toList k = false) : NE s.data.toList st k :=
  ⟨h1, by simpa using h2, h, fun hk => h3 (by simpa using hk)⟩

set_option maxHeartbeats 2000000 in
/-- numberEnd -/
theorem numberEnd_any (s : ByteArray) (st : Nat) (w : World) (hs : s.size ≤ 131072) (hst : st ≤ s.size)
    (hne : st = 0 → ∀ h : 0 < s.size, (s[0].toNat : Int) ≠ 43 ∧ (s[0].toNat : Int) ≠ 45) :
    Calls Try.prog 14 #[.string s, .int .i64 st] w fun e w' => (∃ r : Nat, e = .returned (.int .i64 r) ∧ NE s.data.toList st r) ∧ w' = w := by
  have HNE : Hid (st = 0 → ∀ h : 0 < s.size, (s[0].toNat : Int) ≠ 43 ∧ (s[0].toNat : Int) ≠ 45) := hne
  clear hne
  go_enter Try.func14, Try.ntmps14
  go_wp2
  go_loop [5] (fun i => ∃ k : Nat, st ≤ k ∧ k ≤ s.size ∧ i = .int .i64 k ∧ OkTo s.data.toList st k) (fun i => s.size - (intOf i).toNat)
  case atStart => exact ⟨st, Nat.le_refl _, hst, rfl, fun j a b => by omega⟩
  case round =>
    obtain ⟨k, hk1, hk2, rfl, hok⟩ := hrel
    by_cases hlt : k < s.size
    · have hb := byteAt_get s k hlt
      have hlim := byte_lt s k hlt
      have Hb : Hid (byteAt s.data.toList k = (s[k].toNat : Int)) := hb
      clear hb
      cases hL : letB (s[k].toNat : Int) with
      | true =>
        have HP : Hid (inNum s.data.toList k = true) := inNum_plain Hb.out (plainB_true (.inl hL))
        go_wp2_with (go_at_call 15; refine (isLetter_any _ _).mono ?_; rintro e w' ⟨rfl, rfl⟩)
        go_round
        case rel => exact ⟨k + 1, by omega, by omega, by go_num, hok.snoc HP.out⟩
        case measure => simp [intOf]; omega
      | false =>
        cases hD : digB (s[k].toNat : Int) with
        | true =>
          have HP : Hid (inNum s.data.toList k = true) := inNum_plain Hb.out (plainB_true (.inr (.inl hD)))
          go_wp2_with (first | (go_at_call 15; refine (isLetter_any _ _).mono ?_; rintro e w' ⟨rfl, rfl⟩) | (go_at_call 16; refine (isDigit_any _ _).mono ?_; rintro e w' ⟨rfl, rfl⟩))
          go_round
          case rel => exact ⟨k + 1, by omega, by omega, by go_num, hok.snoc HP.out⟩
          case measure => simp [intOf]; omega
        | false =>
          by_cases hdot : (s[k].toNat : Int) = 46
          · have HP : Hid (inNum s.data.toList k = true) := inNum_plain Hb.out (plainB_true (.inr (.inr (.inl hdot))))
            have q46 : ((s[k].toNat : Int) == 46) = true := beq_iff_eq.2 hdot
            clear hdot
            go_wp2_with (first | (go_at_call 15; refine (isLetter_any _ _).mono ?_; rintro e w' ⟨rfl, rfl⟩) | (go_at_call 16; refine (isDigit_any _ _).mono ?_; rintro e w' ⟨rfl, rfl⟩))
            go_round
            case rel => exact ⟨k + 1, by omega, by omega, by go_num, hok.snoc HP.out⟩
            case measure => simp [intOf]; omega
          · have q46 : ((s[k].toNat : Int) == 46) = false := beq_eq_false_iff_ne.2 hdot
            by_cases hus : (s[k].toNat : Int) = 95
            · have HP : Hid (inNum s.data.toList k = true) := inNum_plain Hb.out (plainB_true (.inr (.inr (.inr hus))))
              have q95 : ((s[k].toNat : Int) == 95) = true := beq_iff_eq.2 hus
              clear hus hdot
              go_wp2_with (first | (go_at_call 15; refine (isLetter_any _ _).mono ?_; rintro e w' ⟨rfl, rfl⟩) | (go_at_call 16; refine (isDigit_any _ _).mono ?_; rintro e w' ⟨rfl, rfl⟩))
              go_round
              case rel => exact ⟨k + 1, by omega, by omega, by go_num, hok.snoc HP.out⟩
              case measure => simp [intOf]; omega
            · have q95 : ((s[k].toNat : Int) == 95) = false := beq_eq_false_iff_ne.2 hus
              have hpl : plainB (s[k].toNat : Int) = false := plainB_false hL hD hdot hus
              have HPL := show Hid (plainB (s[k].toNat : Int) = false) from hpl
              clear hus hdot hpl
              by_cases hsg : (s[k].toNat : Int) = 43 ∨ (s[k].toNat : Int) = 45
              · -- a sign
                have hk0 : k ≠ 0 := by
                  rintro rfl
                  have := HNE.out (by omega) hlt
                  omega
                obtain ⟨m, rfl⟩ : ∃ m, k = m + 1 := ⟨k - 1, by omega⟩
                have hm : m < s.size := by omega
                have HP : Hid (inNum s.data.toList (m + 1) = expB (s[m].toNat : Int)) := (inNum_sign Hb.out hsg).trans (by rw [byteAt_get s m hm])
                have hsb : (((s[m + 1].toNat : Int) == 43) = true) ∨ (((s[m + 1].toNat : Int) == 43) = false ∧ ((s[m + 1].toNat : Int) == 45) = true) := by
                  rcases hsg with h | h
                  · exact .inl (beq_iff_eq.2 h)
                  · exact .inr ⟨beq_eq_false_iff_ne.2 (by omega), beq_iff_eq.2 h⟩
                clear hsg HPL
                by_cases hx1 : (s[m].toNat : Int) = 101
                · have hxb : ((s[m].toNat : Int) == 101) = true := beq_iff_eq.2 hx1
                  have HX : Hid (inNum s.data.toList (m + 1) = true) := HP.out.trans (by simp [expB, hx1])
                  clear hx1
                  rcases hsb with g1 | ⟨g1, g2⟩
                  all_goals
                    go_wp2_with (first | (go_at_call 15; refine (isLetter_any _ _).mono ?_; rintro e w' ⟨rfl, rfl⟩) | (go_at_call 16; refine (isDigit_any _ _).mono ?_; rintro e w' ⟨rfl, rfl⟩))
                    go_round
                    case rel => exact ⟨m + 1 + 1, by omega, by omega, by go_num, hok.snoc HX.out⟩
                    case measure => simp [intOf]; omega
                · have hxb : ((s[m].toNat : Int) == 101) = false := beq_eq_false_iff_ne.2 hx1
                  by_cases hx2 : (s[m].toNat : Int) = 69
                  · have hxc : ((s[m].toNat : Int) == 69) = true := beq_iff_eq.2 hx2
                    have HX : Hid (inNum s.data.toList (m + 1) = true) := HP.out.trans (by simp [expB, hx2])
                    clear hx1 hx2
                    rcases hsb with g1 | ⟨g1, g2⟩
                    all_goals
                      go_wp2_with (first | (go_at_call 15; refine (isLetter_any _ _).mono ?_; rintro e w' ⟨rfl, rfl⟩) | (go_at_call 16; refine (isDigit_any _ _).mono ?_; rintro e w' ⟨rfl, rfl⟩))
                      go_round
                      case rel => exact ⟨m + 1 + 1, by omega, by omega, by go_num, hok.snoc HX.out⟩
                      case measure => simp [intOf]; omega
                  · have hxc : ((s[m].toNat : Int) == 69) = false := beq_eq_false_iff_ne.2 hx2
                    have HX : Hid (inNum s.data.toList (m + 1) = false) := HP.out.trans (by simp [expB, hx1, hx2])
                    clear hx1 hx2
                    rcases hsb with g1 | ⟨g1, g2⟩
                    all_goals
                      go_wp2_with (first | (go_at_call 15; refine (isLetter_any _ _).mono ?_; rintro e w' ⟨rfl, rfl⟩) | (go_at_call 16; refine (isDigit_any _ _).mono ?_; rintro e w' ⟨rfl, rfl⟩))
                      go_ret
                      exact ⟨⟨m + 1, rfl, hok.ends hk1 hk2 (fun _ => HX.out)⟩, rfl⟩
              · have g1 : ((s[k].toNat : Int) == 43) = false := beq_eq_false_iff_ne.2 (by omega)
                have g2 : ((s[k].toNat : Int) == 45) = false := beq_eq_false_iff_ne.2 (by omega)
                have HX : Hid (inNum s.data.toList k = false) := inNum_other Hb.out HPL.out (by omega) (by omega)
                clear hsg HPL
                go_wp2_with (first | (go_at_call 15; refine (isLetter_any _ _).mono ?_; rintro e w' ⟨rfl, rfl⟩) | (go_at_call 16; refine (isDigit_any _ _).mono ?_; rintro e w' ⟨rfl, rfl⟩))
                go_ret
                exact ⟨⟨k, rfl, hok.ends hk1 hk2 (fun _ => HX.out)⟩, rfl⟩
    · go_wp2
      go_ret
      exact ⟨⟨k, rfl, hok.ends hk1 hk2 (fun h => absurd h hlt)⟩, rfl⟩

/-- ZZnumberEnd -/
theorem zzNumberEnd_any (s : ByteArray) (st : Nat) (w : World) (hs : s.size ≤ 131072) (hst : st ≤ s.size)
    (hne : st = 0 → ∀ h : 0 < s.size, (s[0].toNat : Int) ≠ 43 ∧ (s[0].toNat : Int) ≠ 45) :
    Calls Try.prog 10 #[.string s, .int .i64 st] w fun e w' => (∃ r : Nat, e = .returned (.int .i64 r) ∧ NE s.data.toList st r) ∧ w' = w := by
  have HNE : Hid (st = 0 → ∀ h : 0 < s.size, (s[0].toNat : Int) ≠ 43 ∧ (s[0].toNat : Int) ≠ 45) := hne
  clear hne
  go_enter Try.func10, Try.ntmps10
  go_wp2_with fail
  refine (numberEnd_any s st _ hs hst HNE.out).mono ?_
  rintro e w' ⟨⟨r, rfl, hr⟩, rfl⟩
  have HR : Hid (NE s.data.toList st r) := hr
  clear hr
  go_wp2
  go_ret
  exact ⟨⟨r, rfl, HR.out⟩, rfl⟩
end Go.Proofs.Qxb6617971a
