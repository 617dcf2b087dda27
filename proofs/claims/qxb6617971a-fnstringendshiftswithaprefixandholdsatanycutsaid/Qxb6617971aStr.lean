import Derived.Test.Qxb6617971aProg
import Derived.Test.Qxb6617971aPlain
import Derived.WalkKit
import Derived.ProofKit
import Derived.WalkLawsBesides
import Derived.WalkSpells
import Derived.Deep.OwnRows
namespace Go.Proofs.Qxb6617971a
open Go.RowKit
open Go.Proofs.Qxb6617971a.Plain
set_option linter.unusedVariables false

/-- What stringEnd hands back. -/
def outOf : Option Nat → Value
  | some e => .tuple #[.int .i64 e, .bool true]
  | none => .tuple #[.int .i64 0, .bool false]

theorem getD_get (s : ByteArray) (k : Nat) (h : k < s.size) : s.data.toList.getD k 0 = s[k] := by
  have h' : k < s.data.size := h
  simp only [List.getD_eq_getElem?_getD, Array.getElem?_toList]
  rw [Array.getElem?_eq_getElem h']; rfl
theorem lget (s : ByteArray) (k : Nat) (h : k < s.size) (h' : k < s.data.toList.length) : s.data.toList[k] = s[k] := by simp; rfl

theorem u8_eq {a b : UInt8} : ((a.toNat : Int) == (b.toNat : Int)) = true ↔ a = b := by
  rw [beq_iff_eq, ← UInt8.toNat_inj]; omega
theorem u8_ne {a b : UInt8} : ((a.toNat : Int) == (b.toNat : Int)) = false ↔ a ≠ b := by
  rw [beq_eq_false_iff_ne, ne_eq, ne_eq, ← UInt8.toNat_inj]; omega
theorem u8_92 {a : UInt8} (h : (a.toNat : Int) = 92) : a = 92 := by
  rw [← UInt8.toNat_inj]; show a.toNat = 92; omega
theorem u8_96 {a : UInt8} (h : (a.toNat : Int) ≠ 96) : a ≠ 96 := by
  rw [ne_eq, ← UInt8.toNat_inj]; show ¬ a.toNat = 96; omega
theorem u8_92' {a : UInt8} (h : (a.toNat : Int) ≠ 92) : a ≠ 92 := by
  rw [ne_eq, ← UInt8.toNat_inj]; show ¬ a.toNat = 92; omega
theorem u8_96' {a : UInt8} (h : (a.toNat : Int) = 96) : a = 96 := by
  rw [← UInt8.toNat_inj]; show a.toNat = 96; omega

/-- stringEnd's loop: what is still to be read from k on gives the answer. -/
def Rest (s : ByteArray) (st k : Nat) : Prop := seAt s.data.toList st = se (s.data.toList.getD st 0) false (s.data.toList.drop k) k

theorem Rest.hit {s : ByteArray} {st k : Nat} (h : Rest s st k) (hst : st < s.size) (hk : k < s.size) (e : s[k] = s[st]) : seAt s.data.toList st = some (k + 1) := by
  rw [h, getD_get s st hst]
  exact se_hit _ _ _ (by simpa using hk) (by rw [lget s k hk]; exact e)
theorem Rest.esc {s : ByteArray} {st k : Nat} (h : Rest s st k) (hst : st < s.size) (hk : k < s.size) (e : s[k] ≠ s[st]) (h1 : s[k] = 92) (h2 : s[st] ≠ 96) : Rest s st (k + 2) := by
  unfold Rest at h ⊢
  rw [h, getD_get s st hst]
  exact se_esc _ _ _ (by simpa using hk) (by rw [lget s k hk]; exact e) (by rw [lget s k hk]; exact h1) h2
theorem Rest.on {s : ByteArray} {st k : Nat} (h : Rest s st k) (hst : st < s.size) (hk : k < s.size) (e : s[k] ≠ s[st]) (h1 : ¬ (s[k] = 92 ∧ s[st] ≠ 96)) : Rest s st (k + 1) := by
  unfold Rest at h ⊢
  rw [h, getD_get s st hst]
  exact se_on _ _ _ (by simpa using hk) (by rw [lget s k hk]; exact e) (by rw [lget s k hk]; exact h1)
theorem Rest.out {s : ByteArray} {st k : Nat} (h : Rest s st k) (hk : ¬ k < s.size) : seAt s.data.toList st = none := by
  rw [h]; exact se_out _ _ _ (by simpa using hk)

def AtR (s : ByteArray) (st : Nat) (i : Value) : Prop := ∃ k : Nat, st < k ∧ k ≤ s.size + 1 ∧ i = .int .i64 k ∧ Rest s st k

set_option maxHeartbeats 1000000 in
theorem stringEnd_any (s : ByteArray) (st : Nat) (w : World) (hs : s.size ≤ 262144) (hst : st < s.size) :
    Calls Try.prog 13 #[.string s, .int .i64 st] w fun e w' => e = .returned (outOf (seAt s.data.toList st)) ∧ w' = w := by
  go_enter Try.func13, Try.ntmps13
  go_wp2
  go_loop [7] (fun i => AtR s st i) (fun i => s.size + 1 - (intOf i).toNat)
  case atStart => exact ⟨st + 1, by omega, by omega, by go_num, rfl⟩
  case round =>
    obtain ⟨k, hk1, hk2, rfl, hr⟩ := hrel
    by_cases hlt : k < s.size
    · cases q1 : ((s[k].toNat : Int) == (s[st].toNat : Int)) with
      | true =>
        have HO : Hid (seAt s.data.toList st = some (k + 1)) := hr.hit hst hlt (u8_eq.1 q1)
        go_wp2
        go_ret2
        exact ⟨by rw [HO.out]; rfl, rfl⟩
      | false =>
        cases q2 : ((s[k].toNat : Int) == 92) with
        | false =>
          have HO : Hid (Rest s st (k + 1)) := hr.on hst hlt (u8_ne.1 q1) (fun c => u8_92' (beq_eq_false_iff_ne.1 q2) c.1)
          go_wp2
          go_round
          case rel => exact ⟨k + 1, by omega, by omega, by go_num, HO.out⟩
          case measure => simp [intOf]; omega
        | true =>
          cases q3 : ((s[st].toNat : Int) != 96) with
          | false =>
            have HO : Hid (Rest s st (k + 1)) := hr.on hst hlt (u8_ne.1 q1) (fun c => c.2 (u8_96' (by simpa using q3)))
            go_wp2
            go_round
            case rel => exact ⟨k + 1, by omega, by omega, by go_num, HO.out⟩
            case measure => simp [intOf]; omega
          | true =>
            have HO : Hid (Rest s st (k + 2)) := hr.esc hst hlt (u8_ne.1 q1) (u8_92 (beq_iff_eq.1 q2)) (u8_96 (by simpa using q3))
            go_wp2
            go_round
            case rel => exact ⟨k + 2, by omega, by omega, by go_num, HO.out⟩
            case measure => simp [intOf]; omega
    · have HO : Hid (seAt s.data.toList st = none) := hr.out hlt
      go_wp2
      go_ret2
      exact ⟨by rw [HO.out]; rfl, rfl⟩

/-- ZZstringEnd -/
theorem zzStringEnd_some (s : ByteArray) (st e0 : Nat) (w : World) (hs : s.size ≤ 262144) (hst : st < s.size) (he : seAt s.data.toList st = some e0) :
    Calls Try.prog 7 #[.string s, .int .i64 st] w fun e w' => e = .returned (.tuple #[.int .i64 e0, .bool true]) ∧ w' = w := by
  have HE : Hid (seAt s.data.toList st = some e0) := he
  clear he
  go_enter Try.func7, Try.ntmps7
  go_wp2_with fail
  refine (stringEnd_any s st _ hs hst).mono ?_
  rintro e w' ⟨rfl, rfl⟩
  rw [HE.out]
  simp only [outOf]
  go_wp2
  go_ret2
  exact ⟨rfl, rfl⟩
theorem zzStringEnd_none (s : ByteArray) (st : Nat) (w : World) (hs : s.size ≤ 262144) (hst : st < s.size) (he : seAt s.data.toList st = none) :
    Calls Try.prog 7 #[.string s, .int .i64 st] w fun e w' => e = .returned (.tuple #[.int .i64 0, .bool false]) ∧ w' = w := by
  have HE : Hid (seAt s.data.toList st = none) := he
  clear he
  go_enter Try.func7, Try.ntmps7
  go_wp2_with fail
  refine (stringEnd_any s st _ hs hst).mono ?_
  rintro e w' ⟨rfl, rfl⟩
  rw [HE.out]
  simp only [outOf]
  go_wp2
  go_ret2
  exact ⟨rfl, rfl⟩

/-! ### zzb1AppendByte -/
theorem Try.info5 : (Try.prog.info? 5).map (fun i => (i.zero, i.size, i.bytes)) = some (some (.int .u8 0), 1, 1) := by kernel_rfl

/-- the row: the first k bytes of l, then zeros. -/
def fill (l : List UInt8) (k j : Nat) : Value := .int .u8 (((l.take k).getD j 0).toNat : Int)
theorem fill_zero (l : List UInt8) (j : Nat) : fill l 0 j = .int .u8 0 := by simp [fill]
theorem fill_step (l : List UInt8) (k j : Nat) (hk : k < l.length) : (if j = k then Value.int .u8 (l[k].toNat : Int) else fill l k j) = fill l (k + 1) j := by
  unfold fill
  by_cases h : j = k
  · subst h; rw [if_pos rfl]; simp [hk]
  · rw [if_neg h]
    by_cases h2 : j < k
    · simp [h2, show j < k + 1 by omega]
    · simp [List.getElem?_take, h2, show ¬ j < k + 1 by omega]
theorem fill_at (l : List UInt8) (k : Nat) : ∃ n : Int, fill l k k = .int .u8 n := ⟨_, rfl⟩
theorem fill_all (l : List UInt8) (j : Nat) (hj : j < l.length) : fill l l.length j = .int .u8 (l[j].toNat : Int) := by
  simp [fill, hj]

theorem addr_zero (b j : Nat) : (⟨b, 0, none⟩ : Addr).add j = ⟨b, j, none⟩ := by
  unfold Addr.add; split <;> simp_all
/-- what holds at each round's head. -/
def Filling (w : World) (l : List UInt8) (wr : World) (k : Nat) : Prop := wr.rowIs w.heap.size 5 l.length (fill l k) ∧ Grown w wr
theorem Filling.start (w : World) (l : List UInt8) : Filling w l (w.alloc (.cells (madeCells #[.int .u8 0] l.length) 5)) 0 :=
  ⟨(World.rowIs_made w _ _ _).congr (fun i _ => (fill_zero l i).symm), (Grown.refl w).alloc _ _⟩
theorem Filling.step {w : World} {l : List UInt8} {wr : World} {k : Nat} (h : Filling w l wr k) (hk : k < l.length) {n : Int} (hn : n = (l[k].toNat : Int)) : Filling w l (wr.setCell ⟨w.heap.size, k, none⟩ (.int .u8 n)) (k + 1) := by
  subst hn
  exact ⟨(h.1.set k _).congr (fun i _ => fill_step l k i hk), h.2.setCell (Nat.le_refl _) _⟩

set_option maxHeartbeats 1000000 in
theorem appendByte_any (s : ByteArray) (c : UInt8) (S : ByteArray) (w : World) (hs : s.size ≤ 65536) (hS : S.data.toList = s.data.toList ++ [c, c]) :
    Calls Try.prog 8 #[.string s, .int .u8 (c.toNat : Int), .int .i64 2] w fun e w' => e = .returned (.string S) ∧ Grown w w' := by
  have hl : S.data.toList.length = s.size + 2 := by rw [hS]; simp
  have hmk := run_make_row' (P := Try.prog) 28 5 (.int .u8 0) 1 Try.underlying28 Try.info5 rfl .i64 .i64 (s.size + 2) (by omega) (by omega)
  rw [show ((s.size + 2 : Nat) : Int) = (s.size : Int) + 2 from by omega] at hmk
  have HS : Hid (S.data.toList = s.data.toList ++ [c, c]) := hS
  have HL : Hid (S.data.toList.length = s.size + 2) := hl
  clear hS hl
  go_enter Try.func8, Try.ntmps8
  go_wp2
  go_loopw [8] (fun i wr => ∃ k : Nat, k ≤ s.size ∧ i = .int .i64 k ∧ Filling w S.data.toList wr k) (fun i _ => s.size - (intOf i).toNat)
  case atStart => exact ⟨0, Nat.zero_le _, rfl, by have := Filling.start w S.data.toList; rw [HL.out] at this; exact this⟩
  case round =>
    obtain ⟨k, hk, rfl, hf⟩ := hrel
    by_cases hlt : k < s.size
    · have hkl : k < S.data.toList.length := by rw [HL.out]; omega
      have HST : Hid (Filling w S.data.toList (wr.setCell ⟨w.heap.size, k, none⟩ (.int .u8 (s[k].toNat : Int))) (k + 1)) := hf.step hkl (by
        rw [← getD_get s k hlt]
        have e : S.data.toList[k] = s.data.toList.getD k 0 := by
          have := HS.out
          rw [List.getElem_of_eq this, List.getElem_append_left (by simpa using hlt)]
          simp; rw [Array.getElem?_eq_getElem (by exact hlt)]; rfl
        rw [e])
      have hc : wr.cell? ⟨w.heap.size, k, none⟩ = some (fill S.data.toList k k) := hf.1.cell hkl
      have hz : wr.frozen? ⟨w.heap.size, k, none⟩ = false := hf.1.frozen k
      obtain ⟨n0, hn0⟩ := fill_at S.data.toList k
      rw [hn0] at hc
      clear hn0
      go_wp2
      go_roundw
      case rel => exact ⟨k + 1, by omega, by go_num, HST.out⟩
      case measure => simp [intOf]; omega
    · have hke : k = s.size := by omega
      subst hke
      go_wp2
      go_loopw [9] (fun i wr => ∃ k : Nat, s.size ≤ k ∧ k ≤ s.size + 2 ∧ i = .int .i64 k ∧ Filling w S.data.toList wr k) (fun i _ => s.size + 2 - (intOf i).toNat)
      case atStart => exact ⟨s.size, Nat.le_refl _, by omega, rfl, hf⟩
      case round =>
        clear hf hk hlt
        obtain ⟨k, hk1, hk2, rfl, hf⟩ := hrel
        by_cases hlt : k < s.size + 2
        · have hkl : k < S.data.toList.length := by rw [HL.out]; omega
          have HST : Hid (Filling w S.data.toList (wr.setCell ⟨w.heap.size, k, none⟩ (.int .u8 (c.toNat : Int))) (k + 1)) := hf.step hkl (by
            have e : S.data.toList[k] = c := by
              have := HS.out
              rw [List.getElem_of_eq this, List.getElem_append_right (by simpa using hk1)]
              have : k - s.size = 0 ∨ k - s.size = 1 := by omega
              rcases this with h | h <;> simp [h]
            rw [e])
          have hc : wr.cell? ⟨w.heap.size, k, none⟩ = some (fill S.data.toList k k) := hf.1.cell hkl
          have hz : wr.frozen? ⟨w.heap.size, k, none⟩ = false := hf.1.frozen k
          obtain ⟨n0, hn0⟩ := fill_at S.data.toList k
          rw [hn0] at hc
          clear hn0
          go_wp2
          go_roundw
          case rel => exact ⟨k + 1, by omega, by omega, by go_num, HST.out⟩
          case measure => simp [intOf]; omega
        · have hke : k = s.size + 2 := by omega
          subst hke
          have hconv := run_convert_bytes_back (P := Try.prog) wr 28 9 5 ⟨w.heap.size, 0, none⟩ (s.size + 2) S.data.toList Try.underlying28 Try.underlying5 Try.underlying9 (fun j hj => by
            have := hf.1.cell hj
            rw [← HL.out, fill_all S.data.toList j hj] at this
            rw [addr_zero]
            exact this)
          rw [HL.out] at hconv
          have HG : Hid (Grown w wr) := hf.2
          clear hf
          go_wp2
          go_ret
          exact ⟨rfl, HG.out⟩
end Go.Proofs.Qxb6617971a
