import Derived.Test.Qxb6618071aProg
import Derived.Test.Qxb6618071aMem
namespace Go.Proofs.Qxb6618071a
open Go.RowKit
set_option linter.unusedVariables false

def SomeInt (v : Value) : Prop := ∃ n : Int, v = .int .i64 n
def SomeBool (e : Ending) : Prop := ∃ b, e = .returned (.bool b)
def SomeIntE (e : Ending) : Prop := ∃ n : Int, e = .returned (.int .i64 n)
def AtN (n : Nat) (v : Value) : Prop := ∃ k : Nat, k ≤ n ∧ v = .int .i64 k


theorem bytes6_any (a : Option Addr) (n cap : Nat) (rs : List Rec) (t : Int) (w : World) (hn : rs.length = n) (hr : Recs w a rs) (hmax : n ≤ maxLen) :
    Calls Try.prog 6 #[.slice a n cap, .int .u16 t] w fun e w' => SomeBool e ∧ w' = w := by
  unfold maxLen at hmax
  have HN : Hid (rs.length = n) := hn
  have HR : Hid (Recs w a rs) := hr
  clear hn hr
  by_cases h1 : (1048576 : Int) < (n : Int)
  · go_enter Try.func6, Try.ntmps6
    go_wp2
    go_ret
    exact ⟨⟨_, rfl⟩, rfl⟩
  have h1' : decide ((1048576 : Int) < (n : Int)) = false := decide_eq_false h1
  go_enter Try.func6, Try.ntmps6
  go_wp2
  go_loop [5, 6] (fun z i => SomeInt z ∧ AtN n i) (fun _ i => n - (intOf i).toNat)
  case atStart => exact ⟨⟨_, rfl⟩, 0, Nat.zero_le _, rfl⟩
  case round =>
    obtain ⟨⟨z, rfl⟩, k, hk, rfl⟩ := hrel
    by_cases hlt : k < n
    · have hkr : k < rs.length := by rw [HN.out]; exact hlt
      obtain ⟨b, off, hA, hc⟩ := HR.out (by omega)
      cases hA
      have hs := (hc k hkr).c3
      clear hc
      go_wp2
      · go_ret
        exact ⟨⟨_, rfl⟩, rfl⟩
      · go_ret
        exact ⟨⟨_, rfl⟩, rfl⟩
      · go_round
        case rel => exact ⟨⟨_, rfl⟩, k + 1, by omega, by go_num⟩
        case measure => simp [intOf]; omega
    · go_wp2
      go_ret
      exact ⟨⟨_, rfl⟩, rfl⟩

theorem bytes11_any (a : Option Addr) (n cap : Nat) (rs : List Rec) (k0 i0 t : Int) (w : World) (hn : rs.length = n) (hr : Recs w a rs) (hmax : n ≤ maxLen) :
    Calls Try.prog 11 #[.slice a n cap, .int .i64 k0, .int .i64 i0, .int .u32 t] w fun e w' => SomeBool e ∧ w' = w := by
  unfold maxLen at hmax
  have HN : Hid (rs.length = n) := hn
  have HR : Hid (Recs w a rs) := hr
  clear hn hr
  by_cases h1 : (1048576 : Int) < (n : Int)
  · go_enter Try.func11, Try.ntmps11
    go_wp2
    go_ret
    exact ⟨⟨_, rfl⟩, rfl⟩
  have h1' : decide ((1048576 : Int) < (n : Int)) = false := decide_eq_false h1
  go_enter Try.func11, Try.ntmps11
  go_wp2
  go_loop [9, 10] (fun z i => SomeInt z ∧ AtN n i) (fun _ i => n - (intOf i).toNat)
  case atStart => exact ⟨⟨_, rfl⟩, 0, Nat.zero_le _, rfl⟩
  case round =>
    obtain ⟨⟨z, rfl⟩, k, hk, rfl⟩ := hrel
    by_cases hlt : k < n
    · have hkr : k < rs.length := by rw [HN.out]; exact hlt
      obtain ⟨b, off, hA, hc⟩ := HR.out (by omega)
      cases hA
      have hs := (hc k hkr).c3
      clear hc
      go_wp2
      · go_ret
        exact ⟨⟨_, rfl⟩, rfl⟩
      · go_ret
        exact ⟨⟨_, rfl⟩, rfl⟩
      · go_round
        case rel => exact ⟨⟨_, rfl⟩, k + 1, by omega, by go_num⟩
        case measure => simp [intOf]; omega
    · go_wp2
      go_ret
      exact ⟨⟨_, rfl⟩, rfl⟩

theorem bytes7_any (a : Option Addr) (n cap : Nat) (rs : List Rec) (st : Int) (w : World) (hn : rs.length = n) (hr : Recs w a rs) (hmax : n ≤ maxLen) :
    Calls Try.prog 7 #[.slice a n cap, .int .i64 st] w fun e w' => SomeIntE e ∧ w' = w := by
  unfold maxLen at hmax
  have HN : Hid (rs.length = n) := hn
  have HR : Hid (Recs w a rs) := hr
  clear hn hr
  by_cases h1 : st < 0
  · go_enter Try.func7, Try.ntmps7
    go_wp2
    go_ret
    exact ⟨⟨_, rfl⟩, rfl⟩
  by_cases h2 : (1048576 : Int) < st
  · go_enter Try.func7, Try.ntmps7
    go_wp2
    go_ret
    exact ⟨⟨_, rfl⟩, rfl⟩
  have h1' : decide (st < 0) = false := decide_eq_false h1
  have h2' : decide ((1048576 : Int) < st) = false := decide_eq_false h2
  go_enter Try.func7, Try.ntmps7
  go_wp2
  go_loop [5, 6] (fun z i => SomeInt z ∧ AtN n i) (fun _ i => n - (intOf i).toNat)
  case atStart => exact ⟨⟨_, rfl⟩, 0, Nat.zero_le _, rfl⟩
  case round =>
    obtain ⟨⟨z, rfl⟩, k, hk, rfl⟩ := hrel
    by_cases hlt : k < n
    · have hkr : k < rs.length := by rw [HN.out]; exact hlt
      obtain ⟨b, off, hA, hc⟩ := HR.out (by omega)
      cases hA
      have hs := (hc k hkr).c3
      clear hc
      go_wp2
      · go_ret
        exact ⟨⟨_, rfl⟩, rfl⟩
      · go_ret
        exact ⟨⟨_, rfl⟩, rfl⟩
      · go_round
        case rel => exact ⟨⟨_, rfl⟩, k + 1, by omega, by go_num⟩
        case measure => simp [intOf]; omega
    · go_wp2
      go_ret
      exact ⟨⟨_, rfl⟩, rfl⟩

theorem bytes10_any (a : Option Addr) (n cap : Nat) (rs : List Rec) (p : Int) (r : Rec) (t : Int) (w : World) (hn : rs.length = n) (hr : Recs w a rs) (hmax : n ≤ maxLen) :
    Calls Try.prog 10 #[.slice a n cap, .int .i64 p, .agg #[.int .u16 r.ty, .int .u16 r.cl, .int .u32 r.ttl, .string r.data], .int .u16 t] w fun e w' => SomeBool e ∧ Below w.heap.size w w' := by
  unfold maxLen at hmax
  have HN : Hid (rs.length = n) := hn
  have HB : Hid (∀ C T, Below w.heap.size w (w.alloc (.cells C T))) := fun C T => (Below.refl _ _).alloc (Nat.le_refl _) _
  have HR : Hid (Recs w a rs) := hr
  clear hn hr
  by_cases h1 : (1048576 : Int) < (n : Int)
  · go_enter Try.func10, Try.ntmps10
    go_wp2
    go_ret
    exact ⟨⟨_, rfl⟩, HB.out _ _⟩
  have h1' : decide ((1048576 : Int) < (n : Int)) = false := decide_eq_false h1
  go_enter Try.func10, Try.ntmps10
  go_wp2
  go_loop [9, 10] (fun z i => SomeInt z ∧ AtN n i) (fun _ i => n - (intOf i).toNat)
  case atStart => exact ⟨⟨_, rfl⟩, 0, Nat.zero_le _, rfl⟩
  case round =>
    obtain ⟨⟨z, rfl⟩, k, hk, rfl⟩ := hrel
    by_cases hlt : k < n
    · have hkr : k < rs.length := by rw [HN.out]; exact hlt
      obtain ⟨b, off, hA, hc⟩ := HR.out (by omega)
      cases hA
      have hs := (hc k hkr).c3
      have hbl := block_lt_of_cell hs
      simp only at hbl
      clear hc
      go_wp2
      · go_ret
        exact ⟨⟨_, rfl⟩, HB.out _ _⟩
      · go_ret
        exact ⟨⟨_, rfl⟩, HB.out _ _⟩
      · go_round
        case rel => exact ⟨⟨_, rfl⟩, k + 1, by omega, by go_num⟩
        case measure => simp [intOf]; omega
    · go_wp2
      all_goals
        go_ret
        exact ⟨⟨_, rfl⟩, HB.out _ _⟩
end Go.Proofs.Qxb6618071a
