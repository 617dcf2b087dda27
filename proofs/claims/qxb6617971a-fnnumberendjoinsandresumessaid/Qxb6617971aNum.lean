import Derived.Test.Qxb6617971aProg
import Derived.Test.Qxb6617971aPlain
import Derived.WalkKit
import Derived.ProofKit
import Derived.WalkLawsBesides
import Derived.WalkSpells
namespace Go.Proofs.Qxb6617971a
open Go.RowKit
open Go.Proofs.Qxb6617971a.Plain
set_option linter.unusedVariables false

theorem ret_bool {a b : Bool} (h : a = b) : Ending.returned (.bool a) = .returned (.bool b) := by rw [h]
theorem ret_int {k : IntKind} {a b : Int} (h : a = b) : Ending.returned (.int k a) = .returned (.int k b) := by rw [h]

theorem letB_true {c : Int} (h : (97 ≤ c ∧ c ≤ 122) ∨ (65 ≤ c ∧ c ≤ 90)) : letB c = true := by simpa [letB] using h
theorem letB_false {c : Int} (h : ¬ ((97 ≤ c ∧ c ≤ 122) ∨ (65 ≤ c ∧ c ≤ 90))) : letB c = false := by
  simp only [letB, Bool.or_eq_false_iff, Bool.and_eq_false_iff, decide_eq_false_iff_not]; omega
theorem digB_true {c : Int} (h : 48 ≤ c ∧ c ≤ 57) : digB c = true := by simpa [digB] using h
theorem digB_false {c : Int} (h : ¬ (48 ≤ c ∧ c ≤ 57)) : digB c = false := by
  simp only [digB, Bool.and_eq_false_iff, decide_eq_false_iff_not]; omega

theorem isLetter_any (c : Int) (w : World) :
    Calls Try.prog 15 #[.int .u8 c] w fun e w' => e = .returned (.bool (letB c)) ∧ w' = w := by
  by_cases h1 : 97 ≤ c <;> by_cases h2 : c ≤ 122 <;> by_cases h3 : 65 ≤ c <;> by_cases h4 : c ≤ 90 <;>
    first
    | omega
    | (go_enter Try.func15, Try.ntmps15
       go_wp2
       go_ret
       first
       | exact ⟨ret_bool (letB_true (by omega)).symm, rfl⟩
       | exact ⟨ret_bool (letB_false (by omega)).symm, rfl⟩)

theorem isDigit_any (c : Int) (w : World) :
    Calls Try.prog 16 #[.int .u8 c] w fun e w' => e = .returned (.bool (digB c)) ∧ w' = w := by
  by_cases h1 : 48 ≤ c <;> by_cases h2 : c ≤ 57 <;>
    first
    | omega
    | (go_enter Try.func16, Try.ntmps16
       go_wp2
       go_ret
       first
       | exact ⟨ret_bool (digB_true (by omega)).symm, rfl⟩
       | exact ⟨ret_bool (digB_false (by omega)).symm, rfl⟩)

theorem byteAt_get (s : ByteArray) (k : Nat) (h : k < s.size) : byteAt s.data.toList k = (s[k].toNat : Int) := by
  have h' : k < s.data.size := h
  simp only [byteAt, List.getD_eq_getElem?_getD, Array.getElem?_toList]
  rw [Array.getElem?_eq_getElem h']; rfl

theorem plainB_true {c : Int} (h : letB c = true ∨ digB c = true ∨ c = 46 ∨ c = 95) : plainB c = true := by
  unfold plainB; rcases h with h | h | h | h <;> simp [h]
theorem plainB_false {c : Int} (h : letB c = false) (h2 : digB c = false) (h3 : c ≠ 46) (h4 : c ≠ 95) : plainB c = false := by
  unfold plainB; simp [h, h2, h3, h4]

/-- zzb1InNumber -/
theorem inNumber_plain (s : ByteArray) (k : Nat) (w : World) (hs : s.size ≤ 131072) (hk : k < s.size)
    (h : (97 ≤ (s[k].toNat : Int) ∧ (s[k].toNat : Int) ≤ 122) ∨ (65 ≤ (s[k].toNat : Int) ∧ (s[k].toNat : Int) ≤ 90) ∨ (48 ≤ (s[k].toNat : Int) ∧ (s[k].toNat : Int) ≤ 57) ∨ (46 ≤ (s[k].toNat : Int) ∧ (s[k].toNat : Int) ≤ 46) ∨ (95 ≤ (s[k].toNat : Int) ∧ (s[k].toNat : Int) ≤ 95)) :
    Calls Try.prog 11 #[.string s, .int .i64 k] w fun e w' => e = .returned (.bool true) ∧ w' = w := by
  rcases h with ⟨h1, h2⟩ | ⟨h1, h2⟩ | ⟨h1, h2⟩ | ⟨h1, h2⟩ | ⟨h1, h2⟩
  · have da : decide (97 ≤ (s[k].toNat : Int)) = true := decide_eq_true (by omega)
    have db : decide ((s[k].toNat : Int) ≤ 122) = true := decide_eq_true (by omega)
    have dc : decide (65 ≤ (s[k].toNat : Int)) = true := decide_eq_true (by omega)
    have dd : decide ((s[k].toNat : Int) ≤ 90) = false := decide_eq_false (by omega)
    have de : decide (48 ≤ (s[k].toNat : Int)) = true := decide_eq_true (by omega)
    have df : decide ((s[k].toNat : Int) ≤ 57) = false := decide_eq_false (by omega)
    have q46 : ((s[k].toNat : Int) == 46) = false := beq_eq_false_iff_ne.2 (by omega)
    have q95 : ((s[k].toNat : Int) == 95) = false := beq_eq_false_iff_ne.2 (by omega)
    have q43 : ((s[k].toNat : Int) == 43) = false := beq_eq_false_iff_ne.2 (by omega)
    have q45 : ((s[k].toNat : Int) == 45) = false := beq_eq_false_iff_ne.2 (by omega)
    go_enter Try.func11, Try.ntmps11
    go_wp2
    go_ret
    exact ⟨rfl, rfl⟩
  · have da : decide (97 ≤ (s[k].toNat : Int)) = false := decide_eq_false (by omega)
    have db : decide ((s[k].toNat : Int) ≤ 122) = true := decide_eq_true (by omega)
    have dc : decide (65 ≤ (s[k].toNat : Int)) = true := decide_eq_true (by omega)
    have dd : decide ((s[k].toNat : Int) ≤ 90) = true := decide_eq_true (by omega)
    have de : decide (48 ≤ (s[k].toNat : Int)) = true := decide_eq_true (by omega)
    have df : decide ((s[k].toNat : Int) ≤ 57) = false := decide_eq_false (by omega)
    have q46 : ((s[k].toNat : Int) == 46) = false := beq_eq_false_iff_ne.2 (by omega)
    have q95 : ((s[k].toNat : Int) == 95) = false := beq_eq_false_iff_ne.2 (by omega)
    have q43 : ((s[k].toNat : Int) == 43) = false := beq_eq_false_iff_ne.2 (by omega)
    have q45 : ((s[k].toNat : Int) == 45) = false := beq_eq_false_iff_ne.2 (by omega)
    go_enter Try.func11, Try.ntmps11
    go_wp2
    go_ret
    exact ⟨rfl, rfl⟩
  · have da : decide (97 ≤ (s[k].toNat : Int)) = false := decide_eq_false (by omega)
    have db : decide ((s[k].toNat : Int) ≤ 122) = true := decide_eq_true (by omega)
    have dc : decide (65 ≤ (s[k].toNat : Int)) = false := decide_eq_false (by omega)
    have dd : decide ((s[k].toNat : Int) ≤ 90) = true := decide_eq_true (by omega)
    have de : decide (48 ≤ (s[k].toNat : Int)) = true := decide_eq_true (by omega)
    have df : decide ((s[k].toNat : Int) ≤ 57) = true := decide_eq_true (by omega)
    have q46 : ((s[k].toNat : Int) == 46) = false := beq_eq_false_iff_ne.2 (by omega)
    have q95 : ((s[k].toNat : Int) == 95) = false := beq_eq_false_iff_ne.2 (by omega)
    have q43 : ((s[k].toNat : Int) == 43) = false := beq_eq_false_iff_ne.2 (by omega)
    have q45 : ((s[k].toNat : Int) == 45) = false := beq_eq_false_iff_ne.2 (by omega)
    go_enter Try.func11, Try.ntmps11
    go_wp2
    go_ret
    exact ⟨rfl, rfl⟩
  · have da : decide (97 ≤ (s[k].toNat : Int)) = false := decide_eq_false (by omega)
    have db : decide ((s[k].toNat : Int) ≤ 122) = true := decide_eq_true (by omega)
    have dc : decide (65 ≤ (s[k].toNat : Int)) = false := decide_eq_false (by omega)
    have dd : decide ((s[k].toNat : Int) ≤ 90) = true := decide_eq_true (by omega)
    have de : decide (48 ≤ (s[k].toNat : Int)) = false := decide_eq_false (by omega)
    have df : decide ((s[k].toNat : Int) ≤ 57) = true := decide_eq_true (by omega)
    have q46 : ((s[k].toNat : Int) == 46) = true := beq_iff_eq.2 (by omega)
    have q95 : ((s[k].toNat : Int) == 95) = false := beq_eq_false_iff_ne.2 (by omega)
    have q43 : ((s[k].toNat : Int) == 43) = false := beq_eq_false_iff_ne.2 (by omega)
    have q45 : ((s[k].toNat : Int) == 45) = false := beq_eq_false_iff_ne.2 (by omega)
    go_enter Try.func11, Try.ntmps11
    go_wp2
    go_ret
    exact ⟨rfl, rfl⟩
  · have da : decide (97 ≤ (s[k].toNat : Int)) = false := decide_eq_false (by omega)
    have db : decide ((s[k].toNat : Int) ≤ 122) = true := decide_eq_true (by omega)
    have dc : decide (65 ≤ (s[k].toNat : Int)) = true := decide_eq_true (by omega)
    have dd : decide ((s[k].toNat : Int) ≤ 90) = false := decide_eq_false (by omega)
    have de : decide (48 ≤ (s[k].toNat : Int)) = true := decide_eq_true (by omega)
    have df : decide ((s[k].toNat : Int) ≤ 57) = false := decide_eq_false (by omega)
    have q46 : ((s[k].toNat : Int) == 46) = false := beq_eq_false_iff_ne.2 (by omega)
    have q95 : ((s[k].toNat : Int) == 95) = true := beq_iff_eq.2 (by omega)
    have q43 : ((s[k].toNat : Int) == 43) = false := beq_eq_false_iff_ne.2 (by omega)
    have q45 : ((s[k].toNat : Int) == 45) = false := beq_eq_false_iff_ne.2 (by omega)
    go_enter Try.func11, Try.ntmps11
    go_wp2
    go_ret
    exact ⟨rfl, rfl⟩

theorem inNumber_other (s : ByteArray) (k : Nat) (w : World) (hs : s.size ≤ 131072) (hk : k < s.size)
    (h : (0 ≤ (s[k].toNat : Int) ∧ (s[k].toNat : Int) ≤ 42) ∨ (44 ≤ (s[k].toNat : Int) ∧ (s[k].toNat : Int) ≤ 44) ∨ (47 ≤ (s[k].toNat : Int) ∧ (s[k].toNat : Int) ≤ 47) ∨ (58 ≤ (s[k].toNat : Int) ∧ (s[k].toNat : Int) ≤ 64) ∨ (91 ≤ (s[k].toNat : Int) ∧ (s[k].toNat : Int) ≤ 94) ∨ (96 ≤ (s[k].toNat : Int) ∧ (s[k].toNat : Int) ≤ 96) ∨ (123 ≤ (s[k].toNat : Int) ∧ (s[k].toNat : Int) ≤ 255)) :
    Calls Try.prog 11 #[.string s, .int .i64 k] w fun e w' => e = .returned (.bool false) ∧ w' = w := by
  rcases h with ⟨h1, h2⟩ | ⟨h1, h2⟩ | ⟨h1, h2⟩ | ⟨h1, h2⟩ | ⟨h1, h2⟩ | ⟨h1, h2⟩ | ⟨h1, h2⟩
  · have da : decide (97 ≤ (s[k].toNat : Int)) = false := decide_eq_false (by omega)
    have db : decide ((s[k].toNat : Int) ≤ 122) = true := decide_eq_true (by omega)
    have dc : decide (65 ≤ (s[k].toNat : Int)) = false := decide_eq_false (by omega)
    have dd : decide ((s[k].toNat : Int) ≤ 90) = true := decide_eq_true (by omega)
    have de : decide (48 ≤ (s[k].toNat : Int)) = false := decide_eq_false (by omega)
    have df : decide ((s[k].toNat : Int) ≤ 57) = true := decide_eq_true (by omega)
    have q46 : ((s[k].toNat : Int) == 46) = false := beq_eq_false_iff_ne.2 (by omega)
    have q95 : ((s[k].toNat : Int) == 95) = false := beq_eq_false_iff_ne.2 (by omega)
    have q43 : ((s[k].toNat : Int) == 43) = false := beq_eq_false_iff_ne.2 (by omega)
    have q45 : ((s[k].toNat : Int) == 45) = false := beq_eq_false_iff_ne.2 (by omega)
    go_enter Try.func11, Try.ntmps11
    go_wp2
    go_ret
    exact ⟨rfl, rfl⟩
  · have da : decide (97 ≤ (s[k].toNat : Int)) = false := decide_eq_false (by omega)
    have db : decide ((s[k].toNat : Int) ≤ 122) = true := decide_eq_true (by omega)
    have dc : decide (65 ≤ (s[k].toNat : Int)) = false := decide_eq_false (by omega)
    have dd : decide ((s[k].toNat : Int) ≤ 90) = true := decide_eq_true (by omega)
    have de : decide (48 ≤ (s[k].toNat : Int)) = false := decide_eq_false (by omega)
    have df : decide ((s[k].toNat : Int) ≤ 57) = true := decide_eq_true (by omega)
    have q46 : ((s[k].toNat : Int) == 46) = false := beq_eq_false_iff_ne.2 (by omega)
    have q95 : ((s[k].toNat : Int) == 95) = false := beq_eq_false_iff_ne.2 (by omega)
    have q43 : ((s[k].toNat : Int) == 43) = false := beq_eq_false_iff_ne.2 (by omega)
    have q45 : ((s[k].toNat : Int) == 45) = false := beq_eq_false_iff_ne.2 (by omega)
    go_enter Try.func11, Try.ntmps11
    go_wp2
    go_ret
    exact ⟨rfl, rfl⟩
  · have da : decide (97 ≤ (s[k].toNat : Int)) = false := decide_eq_false (by omega)
    have db : decide ((s[k].toNat : Int) ≤ 122) = true := decide_eq_true (by omega)
    have dc : decide (65 ≤ (s[k].toNat : Int)) = false := decide_eq_false (by omega)
    have dd : decide ((s[k].toNat : Int) ≤ 90) = true := decide_eq_true (by omega)
    have de : decide (48 ≤ (s[k].toNat : Int)) = false := decide_eq_false (by omega)
    have df : decide ((s[k].toNat : Int) ≤ 57) = true := decide_eq_true (by omega)
    have q46 : ((s[k].toNat : Int) == 46) = false := beq_eq_false_iff_ne.2 (by omega)
    have q95 : ((s[k].toNat : Int) == 95) = false := beq_eq_false_iff_ne.2 (by omega)
    have q43 : ((s[k].toNat : Int) == 43) = false := beq_eq_false_iff_ne.2 (by omega)
    have q45 : ((s[k].toNat : Int) == 45) = false := beq_eq_false_iff_ne.2 (by omega)
    go_enter Try.func11, Try.ntmps11
    go_wp2
    go_ret
    exact ⟨rfl, rfl⟩
  · have da : decide (97 ≤ (s[k].toNat : Int)) = false := decide_eq_false (by omega)
    have db : decide ((s[k].toNat : Int) ≤ 122) = true := decide_eq_true (by omega)
    have dc : decide (65 ≤ (s[k].toNat : Int)) = false := decide_eq_false (by omega)
    have dd : decide ((s[k].toNat : Int) ≤ 90) = true := decide_eq_true (by omega)
    have de : decide (48 ≤ (s[k].toNat : Int)) = true := decide_eq_true (by omega)
    have df : decide ((s[k].toNat : Int) ≤ 57) = false := decide_eq_false (by omega)
    have q46 : ((s[k].toNat : Int) == 46) = false := beq_eq_false_iff_ne.2 (by omega)
    have q95 : ((s[k].toNat : Int) == 95) = false := beq_eq_false_iff_ne.2 (by omega)
    have q43 : ((s[k].toNat : Int) == 43) = false := beq_eq_false_iff_ne.2 (by omega)
    have q45 : ((s[k].toNat : Int) == 45) = false := beq_eq_false_iff_ne.2 (by omega)
    go_enter Try.func11, Try.ntmps11
    go_wp2
    go_ret
    exact ⟨rfl, rfl⟩
  · have da : decide (97 ≤ (s[k].toNat : Int)) = false := decide_eq_false (by omega)
    have db : decide ((s[k].toNat : Int) ≤ 122) = true := decide_eq_true (by omega)
    have dc : decide (65 ≤ (s[k].toNat : Int)) = true := decide_eq_true (by omega)
    have dd : decide ((s[k].toNat : Int) ≤ 90) = false := decide_eq_false (by omega)
    have de : decide (48 ≤ (s[k].toNat : Int)) = true := decide_eq_true (by omega)
    have df : decide ((s[k].toNat : Int) ≤ 57) = false := decide_eq_false (by omega)
    have q46 : ((s[k].toNat : Int) == 46) = false := beq_eq_false_iff_ne.2 (by omega)
    have q95 : ((s[k].toNat : Int) == 95) = false := beq_eq_false_iff_ne.2 (by omega)
    have q43 : ((s[k].toNat : Int) == 43) = false := beq_eq_false_iff_ne.2 (by omega)
    have q45 : ((s[k].toNat : Int) == 45) = false := beq_eq_false_iff_ne.2 (by omega)
    go_enter Try.func11, Try.ntmps11
    go_wp2
    go_ret
    exact ⟨rfl, rfl⟩
  · have da : decide (97 ≤ (s[k].toNat : Int)) = false := decide_eq_false (by omega)
    have db : decide ((s[k].toNat : Int) ≤ 122) = true := decide_eq_true (by omega)
    have dc : decide (65 ≤ (s[k].toNat : Int)) = true := decide_eq_true (by omega)
    have dd : decide ((s[k].toNat : Int) ≤ 90) = false := decide_eq_false (by omega)
    have de : decide (48 ≤ (s[k].toNat : Int)) = true := decide_eq_true (by omega)
    have df : decide ((s[k].toNat : Int) ≤ 57) = false := decide_eq_false (by omega)
    have q46 : ((s[k].toNat : Int) == 46) = false := beq_eq_false_iff_ne.2 (by omega)
    have q95 : ((s[k].toNat : Int) == 95) = false := beq_eq_false_iff_ne.2 (by omega)
    have q43 : ((s[k].toNat : Int) == 43) = false := beq_eq_false_iff_ne.2 (by omega)
    have q45 : ((s[k].toNat : Int) == 45) = false := beq_eq_false_iff_ne.2 (by omega)
    go_enter Try.func11, Try.ntmps11
    go_wp2
    go_ret
    exact ⟨rfl, rfl⟩
  · have da : decide (97 ≤ (s[k].toNat : Int)) = true := decide_eq_true (by omega)
    have db : decide ((s[k].toNat : Int) ≤ 122) = false := decide_eq_false (by omega)
    have dc : decide (65 ≤ (s[k].toNat : Int)) = true := decide_eq_true (by omega)
    have dd : decide ((s[k].toNat : Int) ≤ 90) = false := decide_eq_false (by omega)
    have de : decide (48 ≤ (s[k].toNat : Int)) = true := decide_eq_true (by omega)
    have df : decide ((s[k].toNat : Int) ≤ 57) = false := decide_eq_false (by omega)
    have q46 : ((s[k].toNat : Int) == 46) = false := beq_eq_false_iff_ne.2 (by omega)
    have q95 : ((s[k].toNat : Int) == 95) = false := beq_eq_false_iff_ne.2 (by omega)
    have q43 : ((s[k].toNat : Int) == 43) = false := beq_eq_false_iff_ne.2 (by omega)
    have q45 : ((s[k].toNat : Int) == 45) = false := beq_eq_false_iff_ne.2 (by omega)
    go_enter Try.func11, Try.ntmps11
    go_wp2
    go_ret
    exact ⟨rfl, rfl⟩

theorem inNumber_sign0 (s : ByteArray) (k : Nat) (w : World) (hs : s.size ≤ 131072) (hk : k < s.size) (hz : ¬ 1 ≤ k)
    (h : (43 ≤ (s[k].toNat : Int) ∧ (s[k].toNat : Int) ≤ 43) ∨ (45 ≤ (s[k].toNat : Int) ∧ (s[k].toNat : Int) ≤ 45)) :
    Calls Try.prog 11 #[.string s, .int .i64 k] w fun e w' => e = .returned (.bool false) ∧ w' = w := by
  have dz : decide ((1 : Int) ≤ (k : Int)) = false := decide_eq_false (by omega)
  rcases h with ⟨h1, h2⟩ | ⟨h1, h2⟩
  · have da : decide (97 ≤ (s[k].toNat : Int)) = false := decide_eq_false (by omega)
    have db : decide ((s[k].toNat : Int) ≤ 122) = true := decide_eq_true (by omega)
    have dc : decide (65 ≤ (s[k].toNat : Int)) = false := decide_eq_false (by omega)
    have dd : decide ((s[k].toNat : Int) ≤ 90) = true := decide_eq_true (by omega)
    have de : decide (48 ≤ (s[k].toNat : Int)) = false := decide_eq_false (by omega)
    have df : decide ((s[k].toNat : Int) ≤ 57) = true := decide_eq_true (by omega)
    have q46 : ((s[k].toNat : Int) == 46) = false := beq_eq_false_iff_ne.2 (by omega)
    have q95 : ((s[k].toNat : Int) == 95) = false := beq_eq_false_iff_ne.2 (by omega)
    have q43 : ((s[k].toNat : Int) == 43) = true := beq_iff_eq.2 (by omega)
    have q45 : ((s[k].toNat : Int) == 45) = false := beq_eq_false_iff_ne.2 (by omega)
    go_enter Try.func11, Try.ntmps11
    go_wp2
    go_ret
    exact ⟨rfl, rfl⟩
  · have da : decide (97 ≤ (s[k].toNat : Int)) = false := decide_eq_false (by omega)
    have db : decide ((s[k].toNat : Int) ≤ 122) = true := decide_eq_true (by omega)
    have dc : decide (65 ≤ (s[k].toNat : Int)) = false := decide_eq_false (by omega)
    have dd : decide ((s[k].toNat : Int) ≤ 90) = true := decide_eq_true (by omega)
    have de : decide (48 ≤ (s[k].toNat : Int)) = false := decide_eq_false (by omega)
    have df : decide ((s[k].toNat : Int) ≤ 57) = true := decide_eq_true (by omega)
    have q46 : ((s[k].toNat : Int) == 46) = false := beq_eq_false_iff_ne.2 (by omega)
    have q95 : ((s[k].toNat : Int) == 95) = false := beq_eq_false_iff_ne.2 (by omega)
    have q43 : ((s[k].toNat : Int) == 43) = false := beq_eq_false_iff_ne.2 (by omega)
    have q45 : ((s[k].toNat : Int) == 45) = true := beq_iff_eq.2 (by omega)
    go_enter Try.func11, Try.ntmps11
    go_wp2
    go_ret
    exact ⟨rfl, rfl⟩

theorem inNumber_sign (s : ByteArray) (k : Nat) (w : World) (hs : s.size ≤ 131072) (hk : k + 1 < s.size)
    (h : (43 ≤ (s[k + 1].toNat : Int) ∧ (s[k + 1].toNat : Int) ≤ 43) ∨ (45 ≤ (s[k + 1].toNat : Int) ∧ (s[k + 1].toNat : Int) ≤ 45)) :
    Calls Try.prog 11 #[.string s, .int .i64 ((k + 1 : Nat) : Int)] w fun e w' => e = .returned (.bool (expB (s[k].toNat : Int))) ∧ w' = w := by
  have dz : decide ((1 : Int) ≤ ((k + 1 : Nat) : Int)) = true := decide_eq_true (by omega)
  rcases h with ⟨h1, h2⟩ | ⟨h1, h2⟩
  · have da : decide (97 ≤ (s[k + 1].toNat : Int)) = false := decide_eq_false (by omega)
    have db : decide ((s[k + 1].toNat : Int) ≤ 122) = true := decide_eq_true (by omega)
    have dc : decide (65 ≤ (s[k + 1].toNat : Int)) = false := decide_eq_false (by omega)
    have dd : decide ((s[k + 1].toNat : Int) ≤ 90) = true := decide_eq_true (by omega)
    have de : decide (48 ≤ (s[k + 1].toNat : Int)) = false := decide_eq_false (by omega)
    have df : decide ((s[k + 1].toNat : Int) ≤ 57) = true := decide_eq_true (by omega)
    have q46 : ((s[k + 1].toNat : Int) == 46) = false := beq_eq_false_iff_ne.2 (by omega)
    have q95 : ((s[k + 1].toNat : Int) == 95) = false := beq_eq_false_iff_ne.2 (by omega)
    have q43 : ((s[k + 1].toNat : Int) == 43) = true := beq_iff_eq.2 (by omega)
    have q45 : ((s[k + 1].toNat : Int) == 45) = false := beq_eq_false_iff_ne.2 (by omega)
    go_enter Try.func11, Try.ntmps11
    go_wp2
    · have h101 : (s[k].toNat : Int) = 101 := by assumption
      go_ret
      exact ⟨ret_bool (by simp [expB, h101]), rfl⟩
    · go_ret
      exact ⟨rfl, rfl⟩
  · have da : decide (97 ≤ (s[k + 1].toNat : Int)) = false := decide_eq_false (by omega)
    have db : decide ((s[k + 1].toNat : Int) ≤ 122) = true := decide_eq_true (by omega)
    have dc : decide (65 ≤ (s[k + 1].toNat : Int)) = false := decide_eq_false (by omega)
    have dd : decide ((s[k + 1].toNat : Int) ≤ 90) = true := decide_eq_true (by omega)
    have de : decide (48 ≤ (s[k + 1].toNat : Int)) = false := decide_eq_false (by omega)
    have df : decide ((s[k + 1].toNat : Int) ≤ 57) = true := decide_eq_true (by omega)
    have q46 : ((s[k + 1].toNat : Int) == 46) = false := beq_eq_false_iff_ne.2 (by omega)
    have q95 : ((s[k + 1].toNat : Int) == 95) = false := beq_eq_false_iff_ne.2 (by omega)
    have q43 : ((s[k + 1].toNat : Int) == 43) = false := beq_eq_false_iff_ne.2 (by omega)
    have q45 : ((s[k + 1].toNat : Int) == 45) = true := beq_iff_eq.2 (by omega)
    go_enter Try.func11, Try.ntmps11
    go_wp2
    · have h101 : (s[k].toNat : Int) = 101 := by assumption
      go_ret
      exact ⟨ret_bool (by simp [expB, h101]), rfl⟩
    · go_ret
      exact ⟨rfl, rfl⟩

theorem byte_lt (s : ByteArray) (k : Nat) (h : k < s.size) : (s[k].toNat : Int) ≤ 255 := by have := s[k].toNat_lt; omega

theorem inNum_plain {l : List UInt8} {j : Nat} {c : Int} (hc : byteAt l j = c) (h : plainB c = true) : inNum l j = true := by
  unfold inNum; rw [hc, h]; rfl
theorem inNum_sign {l : List UInt8} {j : Nat} {c : Int} (hc : byteAt l (j + 1) = c) (h : c = 43 ∨ c = 45) : inNum l (j + 1) = expB (byteAt l j) := by
  unfold inNum; rw [hc]; rcases h with rfl | rfl <;> simp [plainB, letB, digB, signB]
theorem inNum_sign0 {l : List UInt8} {c : Int} (hc : byteAt l 0 = c) (h : c = 43 ∨ c = 45) : inNum l 0 = false := by
  unfold inNum; rw [hc]; rcases h with rfl | rfl <;> simp [plainB, letB, digB]
theorem inNum_other {l : List UInt8} {j : Nat} {c : Int} (hc : byteAt l j = c) (h : plainB c = false) (h1 : c ≠ 43) (h2 : c ≠ 45) : inNum l j = false := by
  unfold inNum; rw [hc, h]; simp [signB, h1, h2]

theorem inNumber_any (s : ByteArray) (k : Nat) (w : World) (hs : s.size ≤ 131072) (hk : k < s.size) :
    Calls Try.prog 11 #[.string s, .int .i64 k] w fun e w' => e = .returned (.bool (inNum s.data.toList k)) ∧ w' = w := by
  have hb := byteAt_get s k hk
  have hlt := byte_lt s k hk
  by_cases h1 : (97 ≤ (s[k].toNat : Int) ∧ (s[k].toNat : Int) ≤ 122) ∨ (65 ≤ (s[k].toNat : Int) ∧ (s[k].toNat : Int) ≤ 90) ∨ (48 ≤ (s[k].toNat : Int) ∧ (s[k].toNat : Int) ≤ 57) ∨ (46 ≤ (s[k].toNat : Int) ∧ (s[k].toNat : Int) ≤ 46) ∨ (95 ≤ (s[k].toNat : Int) ∧ (s[k].toNat : Int) ≤ 95)
  · have hp : plainB (s[k].toNat : Int) = true := by
      refine plainB_true ?_
      rcases h1 with h | h | h | h | h
      · exact .inl (letB_true (.inl h))
      · exact .inl (letB_true (.inr h))
      · exact .inr (.inl (digB_true h))
      · exact .inr (.inr (.inl (by omega)))
      · exact .inr (.inr (.inr (by omega)))
    rw [inNum_plain hb hp]
    exact inNumber_plain s k w hs hk h1
  · by_cases h2 : (43 ≤ (s[k].toNat : Int) ∧ (s[k].toNat : Int) ≤ 43) ∨ (45 ≤ (s[k].toNat : Int) ∧ (s[k].toNat : Int) ≤ 45)
    · cases k with
      | zero =>
        rw [inNum_sign0 hb (by omega)]
        exact inNumber_sign0 s 0 w hs hk (by omega) h2
      | succ k =>
        rw [inNum_sign hb (by omega), byteAt_get s k (by omega)]
        exact inNumber_sign s k w hs hk h2
    · have hp : plainB (s[k].toNat : Int) = false := plainB_false (letB_false (by omega)) (digB_false (by omega)) (by omega) (by omega)
      rw [inNum_other hb hp (by omega) (by omega)]
      exact inNumber_other s k w hs hk (by omega)

end Go.Proofs.Qxb6617971a
