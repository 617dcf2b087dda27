import Derived.Test.Qxb6618071aProg
import Derived.Test.Qxb6618071aMem
import Derived.BigRegion
import Derived.RegionTactic
namespace Go.Proofs.Qxb6618071a
open Go.RowKit
set_option linter.unusedVariables false

theorem Try.info37 : (Try.prog.info? 37).map (fun i => (i.zero, i.size, i.bytes)) = some (some (.agg #[.int .u16 0, .int .u16 0, .int .u32 0, .string ByteArray.empty]), 4, 24) := by kernel_rfl
theorem Try.info29 : (Try.prog.info? 29).map (fun i => (i.zero, i.size, i.bytes)) = some (some (.agg #[.int .u16 0, .int .u16 0, .int .u32 0, .string ByteArray.empty]), 4, 24) := by kernel_rfl
theorem Try.info48 : (Try.prog.info? 48).map (fun i => (i.zero, i.size, i.bytes)) = some (some (.agg #[.string ByteArray.empty, .int .u16 0, .int .u16 0, .int .u32 0, .string ByteArray.empty]), 5, 40) := by kernel_rfl

/-! ### zzToUpdate -/
theorem toUpdate_nil (n cap : Nat) (w : World) :
    Calls Try.prog 8 #[.slice none n cap] w fun e w' => e = .returned (.slice none 0 0) ∧ w' = w := by
  have hnil := fun w => Lib.run_eql_slice_nil (P := Try.prog) w 22 29 none n cap 0 0 Try.underlying22
  go_enter Try.func8, Try.ntmps8
  go_wp2
  go_ret
  exact ⟨rfl, rfl⟩

theorem toUpdate_some (A : Addr) (n cap : Nat) (rs : List Rec) (w : World) (hn : rs.length = n) (hb : n ≤ 100000) (hr : Recs w (some A) rs) :
    Calls Try.prog 8 #[.slice (some A) n cap] w fun e w' => e = .returned (.slice (some ⟨w.heap.size, 0, none⟩) n n) ∧ Recs w' (some ⟨w.heap.size, 0, none⟩) rs ∧ Below w.heap.size w w' := by
  have hnil := fun w => Lib.run_eql_slice_nil (P := Try.prog) w 22 29 (some A) n cap 0 0 Try.underlying22
  have hmk := run_make_rows (P := Try.prog) 30 37 _ 4 24 Try.underlying30 Try.info37 .i64 .i64 n (by omega) (by omega)
  have HN : Hid (rs.length = n) := hn
  have HR : Hid (Recs w (some A) rs) := hr
  clear hn hr
  go_enter Try.func8, Try.ntmps8
  go_wp2
  go_loopw [4] (fun i wr => ∃ k : Nat, k ≤ n ∧ i = .int .i64 k ∧ Half4 w wr 37 rs k) (fun i _ => n - (intOf i).toNat)
  case atStart => exact ⟨0, Nat.zero_le _, rfl, Half4.start _ _ _ _ _ (by rw [HN.out])⟩
  case round =>
    obtain ⟨k, hk, rfl, hh⟩ := hrel
    by_cases hlt : k < n
    · have hkr : k < rs.length := by rw [HN.out]; exact hlt
      obtain ⟨b, off, hA, hc⟩ := HR.out (by omega)
      cases hA
      have hck := (hc k hkr).below hh.1 (Nat.le_refl _)
      obtain ⟨h0, h1, h2, h3⟩ := hck
      obtain ⟨⟨x0, f0⟩, g0⟩ := hh.room hkr 0 (by omega)
      obtain ⟨⟨x1, f1⟩, g1⟩ := hh.room hkr 1 (by omega)
      obtain ⟨⟨x2, f2⟩, g2⟩ := hh.room hkr 2 (by omega)
      obtain ⟨⟨x3, f3⟩, g3⟩ := hh.room hkr 3 (by omega)
      have HST := show Hid _ from hh.step hkr
      simp only [Nat.add_zero] at f0 g0
      clear hc hh
      go_wp2
      go_roundw
      case rel => exact ⟨k + 1, by omega, by go_num, HST.out⟩
      case measure => simp [intOf]; omega
    · have hke : k = rs.length := by rw [HN.out]; omega
      have HD : Hid (Recs wr (some ⟨w.heap.size, 0, none⟩) rs) := by subst hke; exact hh.done
      have HB : Hid (Below w.heap.size w wr) := hh.1
      clear hh hke
      go_wp2
      go_ret
      exact ⟨rfl, HD.out, HB.out⟩

theorem toUpdate_any (a : Option Addr) (n cap : Nat) (rs : List Rec) (w : World) (hn : rs.length = n) (hb : n ≤ 100000) (hr : Recs w a rs) :
    Calls Try.prog 8 #[.slice a n cap] w fun e w' => (∃ a' c', e = .returned (.slice a' n c') ∧ Recs w' a' rs) ∧ Below w.heap.size w w' := by
  cases a with
  | none =>
    have h0 : rs.length = 0 := by
      rcases Nat.eq_zero_or_pos rs.length with h | h
      · exact h
      · obtain ⟨b, off, h2, _⟩ := hr h; cases h2
    have h00 : n = 0 := by omega
    subst h00
    refine (toUpdate_nil 0 cap w).mono fun e w' ⟨he, hw⟩ => ?_
    subst he; subst hw
    exact ⟨⟨none, 0, rfl, hr⟩, Below.refl _ _⟩
  | some A =>
    refine (toUpdate_some A n cap rs w hn hb hr).mono fun e w' ⟨he, h1, h2⟩ => ?_
    exact ⟨⟨_, _, he, h1⟩, h2⟩

/-! ### zzRRs -/
theorem rrs_nil (n cap : Nat) (w : World) :
    Calls Try.prog 15 #[.slice none n cap] w fun e w' => e = .returned (.slice none 0 0) ∧ w' = w := by
  have hnil := fun w => Lib.run_eql_slice_nil (P := Try.prog) w 30 37 none n cap 0 0 Try.underlying30
  go_enter Try.func15, Try.ntmps15
  go_wp2
  go_ret
  exact ⟨rfl, rfl⟩

set_option maxHeartbeats 1000000 in
theorem rrs_some (A : Addr) (n cap : Nat) (rs : List Rec) (w : World) (hn : rs.length = n) (hb : n ≤ 100000) (hr : Recs w (some A) rs) :
    Calls Try.prog 15 #[.slice (some A) n cap] w fun e w' => e = .returned (.slice (some ⟨w.heap.size, 0, none⟩) n n) ∧ RRs w' (some ⟨w.heap.size, 0, none⟩) rs ∧ Below w.heap.size w w' := by
  have hnil := fun w => Lib.run_eql_slice_nil (P := Try.prog) w 30 37 (some A) n cap 0 0 Try.underlying30
  have hmk := run_make_rows (P := Try.prog) 39 48 _ 5 40 Try.underlying39 Try.info48 .i64 .i64 n (by omega) (by omega)
  have HN : Hid (rs.length = n) := hn
  have HR : Hid (Recs w (some A) rs) := hr
  clear hn hr
  go_enter Try.func15, Try.ntmps15
  go_wp2
  go_loopw [4] (fun i wr => ∃ k : Nat, k ≤ n ∧ i = .int .i64 k ∧ Half5 w wr 48 rs k) (fun i _ => n - (intOf i).toNat)
  case atStart => exact ⟨0, Nat.zero_le _, rfl, Half5.start _ _ _ _ _ (by rw [HN.out])⟩
  case round =>
    obtain ⟨k, hk, rfl, hh⟩ := hrel
    by_cases hlt : k < n
    · have hkr : k < rs.length := by rw [HN.out]; exact hlt
      obtain ⟨b, off, hA, hc⟩ := HR.out (by omega)
      cases hA
      have hck := (hc k hkr).below hh.1 (Nat.le_refl _)
      obtain ⟨h0, h1, h2, h3⟩ := hck
      obtain ⟨⟨x0, f0⟩, g0⟩ := hh.room hkr 0 (by omega)
      obtain ⟨⟨x1, f1⟩, g1⟩ := hh.room hkr 1 (by omega)
      obtain ⟨⟨x2, f2⟩, g2⟩ := hh.room hkr 2 (by omega)
      obtain ⟨⟨x3, f3⟩, g3⟩ := hh.room hkr 3 (by omega)
      obtain ⟨⟨x4, f4⟩, g4⟩ := hh.room hkr 4 (by omega)
      have HST := show Hid _ from hh.step hkr
      simp only [Nat.add_zero] at f0 g0
      clear hc hh
      have hki : (k : Int) < (n : Int) := by omega
      have hki0 : (0 : Int) ≤ (k : Int) := by omega
      go_wp2
      go_region
      go_wp2
      go_roundw
      case rel => exact ⟨k + 1, by omega, by go_num, Half5.drew HST.out⟩
      case measure => simp [intOf]; omega
    · have hke : k = rs.length := by rw [HN.out]; omega
      have HD : Hid (RRs wr (some ⟨w.heap.size, 0, none⟩) rs) := by subst hke; exact hh.done
      have HB : Hid (Below w.heap.size w wr) := hh.1
      clear hh hke
      go_wp2
      go_ret
      exact ⟨rfl, HD.out, HB.out⟩

theorem rrs_any (a : Option Addr) (n cap : Nat) (rs : List Rec) (w : World) (hn : rs.length = n) (hb : n ≤ 100000) (hr : Recs w a rs) :
    Calls Try.prog 15 #[.slice a n cap] w fun e w' => (∃ a' c', e = .returned (.slice a' n c') ∧ RRs w' a' rs) ∧ Below w.heap.size w w' := by
  cases a with
  | none =>
    have h0 : rs.length = 0 := by
      rcases Nat.eq_zero_or_pos rs.length with h | h
      · exact h
      · obtain ⟨b, off, h2, _⟩ := hr h; cases h2
    have h00 : n = 0 := by omega
    subst h00
    refine (rrs_nil 0 cap w).mono fun e w' ⟨he, hw⟩ => ?_
    subst he; subst hw
    have h3 : rs = [] := List.eq_nil_of_length_eq_zero h0
    subst h3
    exact ⟨⟨none, 0, rfl, RRs.nil _ _⟩, Below.refl _ _⟩
  | some A =>
    refine (rrs_some A n cap rs w hn hb hr).mono fun e w' ⟨he, h1, h2⟩ => ?_
    exact ⟨⟨_, _, he, h1⟩, h2⟩

/-! ### count -/
def cnt (t : Int) (rs : List Rec) : Nat := rs.countP (fun r => r.ty == t)
theorem cnt_take (t : Int) (rs : List Rec) (k : Nat) (hk : k < rs.length) : cnt t (rs.take (k + 1)) = cnt t (rs.take k) + if rs[k].ty == t then 1 else 0 := by
  unfold cnt
  rw [List.take_succ_eq_append_getElem hk, List.countP_append]
  simp [List.countP_cons]
theorem cnt_le (t : Int) (rs : List Rec) : cnt t rs ≤ rs.length := List.countP_le_length

set_option maxHeartbeats 1000000 in
theorem count_any (a : Option Addr) (n cap : Nat) (rs : List Rec) (t : Int) (w : World) (hn : rs.length = n) (hb : n ≤ 100000) (hr : RRs w a rs) :
    Calls Try.prog 14 #[.slice a n cap, .int .u16 t] w fun e w' => e = .returned (.int .i64 (cnt t rs : Int)) ∧ Below w.heap.size w w' := by
  have HN : Hid (rs.length = n) := hn
  have HR : Hid (RRs w a rs) := hr
  clear hn hr
  go_enter Try.func14, Try.ntmps14
  go_wp2
  go_loopw [5, 10] (fun c i wr => ∃ k : Nat, k ≤ n ∧ i = .int .i64 k ∧ c = .int .i64 (cnt t (rs.take k) : Int) ∧ Below w.heap.size w wr) (fun _ i _ => n - (intOf i).toNat)
  case atStart => exact ⟨0, Nat.zero_le _, rfl, rfl, Below.refl _ _⟩
  case round =>
    obtain ⟨k, hk, rfl, rfl, hbl⟩ := hrel
    by_cases hlt : k < n
    · have hkr : k < rs.length := by rw [HN.out]; exact hlt
      obtain ⟨b, off, hA, hc⟩ := HR.out (by omega)
      cases hA
      have hck := (hc k hkr).below hbl (Nat.le_refl _)
      obtain ⟨h0, h1, h2, h3, h4⟩ := hck
      have hct := cnt_take t rs k hkr
      have hcl := cnt_le t (rs.take k)
      have hcl2 : cnt t (rs.take k) ≤ 100000 := by have := List.length_take_le k rs; omega
      have hwb : w.heap.size ≤ wr.heap.size := hbl.size
      have HB := show Hid _ from hbl
      clear hcl hc hbl
      cases q : (rs[k].ty == t) with
      | true =>
        rw [q] at hct
        have HC := show Hid _ from hct
        clear hct
        go_wp2
        go_roundw
        case rel => exact ⟨k + 1, by omega, by go_num, by rw [HC.out]; simp, HB.out.alloc hwb _⟩
        case measure => simp [intOf]; omega
      | false =>
        rw [q] at hct
        have HC := show Hid _ from hct
        clear hct
        go_wp2
        go_roundw
        case rel => exact ⟨k + 1, by omega, by go_num, by rw [HC.out]; simp, HB.out.alloc hwb _⟩
        case measure => simp [intOf]; omega
    · have hkn : k = n := by omega
      subst hkn
      have HC : Hid (rs.take k = rs) := List.take_of_length_le (by rw [HN.out]; omega)
      have HB := show Hid _ from hbl
      clear hbl
      go_wp2
      go_ret
      exact ⟨ret_int (by rw [HC.out]), HB.out⟩

/-! ### ZZCount -/
theorem zzCount_any (a : Option Addr) (n cap : Nat) (rs : List Rec) (t : Int) (w : World) (hn : rs.length = n) (hb : n ≤ 100000) (hr : Recs w a rs) :
    Calls Try.prog 9 #[.slice a n cap, .int .u16 t] w fun e w' => e = .returned (.int .i64 (cnt t rs : Int)) ∧ Below w.heap.size w w' := by
  go_enter Try.func9, Try.ntmps9
  go_wp2_with fail
  refine (rrs_any a n cap rs _ hn hb hr).mono ?_
  rintro e w1 ⟨⟨a', c', rfl, hr1⟩, hb1⟩
  have HR1 : Hid (RRs w1 a' rs) := hr1
  have HB1 := show Hid _ from hb1
  have HN := show Hid _ from hn
  clear hr1 hb1 hr hn
  go_wp2_with fail
  refine (count_any a' n c' rs t _ HN.out hb HR1.out).mono ?_
  rintro e w2 ⟨rfl, hb2⟩
  have HB2 := show Hid _ from hb2
  clear hb2
  go_wp2
  go_ret
  exact ⟨rfl, HB1.out.trans (HB2.out.mono HB1.out.size)⟩
end Go.Proofs.Qxb6618071a
