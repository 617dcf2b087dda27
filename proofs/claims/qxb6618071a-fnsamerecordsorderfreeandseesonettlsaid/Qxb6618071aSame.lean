import Derived.Test.Qxb6618071aConv
import Derived.Test.Qxb6618071aRow
import Derived.Deep.RegionWith
namespace Go.Proofs.Qxb6618071a
open Go.RowKit
set_option linter.unusedVariables false

/-- the same record: type, TTL, data byte for byte. -/
def keyB (p q : Rec) : Bool := (p.ty == q.ty) && ((p.ttl == q.ttl) && (p.data.toList == q.data.toList))

theorem keyEq_any (p q : Rec) (w : World) :
    Calls Try.prog 16 #[.agg #[.int .u16 p.ty, .int .u16 p.cl, .int .u32 p.ttl, .string p.data], .agg #[.int .u16 q.ty, .int .u16 q.cl, .int .u32 q.ttl, .string q.data]] w fun e w' => e = .returned (.bool (keyB p q)) ∧ Below w.heap.size w w' := by
  have HB : Hid (∀ o1 o2, Below w.heap.size w ((w.alloc o1).alloc o2)) := fun o1 o2 => ((Below.refl _ _).alloc (Nat.le_refl _) _).alloc (by simp) _
  cases h1 : (p.ty == q.ty) <;> cases h2 : (p.ttl == q.ttl) <;> cases h3 : (p.data.toList == q.data.toList)
  all_goals
    have HK := show Hid _ from (show keyB p q = _ by unfold keyB; rw [h1, h2, h3])
    go_enter Try.func16, Try.ntmps16
    go_wp2
    go_ret
    exact ⟨ret_bool (by rw [HK.out]; rfl), HB.out _ _⟩

/-- the literal inside sameRecords. -/
theorem clos_any (p q : Rec) (B : Nat) (w : World) (h : RRAt w B 0 q) :
    Calls Try.prog 19 #[.agg #[.string ByteArray.empty, .int .u16 p.ty, .int .u16 p.cl, .int .u32 p.ttl, .string p.data], .pointer (some ⟨B, 0, none⟩)] w fun e w' => e = .returned (.bool (keyB p q)) ∧ Below w.heap.size w w' := by
  obtain ⟨h0, h1, h2, h3, h4⟩ := h
  simp only [Nat.zero_add] at h0 h1 h2 h3 h4
  have hb : B < w.heap.size := block_lt_of_cell h0
  have HB : Hid (∀ o1, Below w.heap.size w (w.alloc o1)) := fun o1 => (Below.refl _ _).alloc (Nat.le_refl _) _
  cases k1 : (p.ty == q.ty) <;> cases k2 : (p.ttl == q.ttl) <;> cases k3 : (p.data.toList == q.data.toList)
  all_goals
    have HK := show Hid _ from (show keyB p q = _ by unfold keyB; rw [k1, k2, k3])
    go_enter Try.func19, Try.ntmps19
    go_wp2
    go_ret
    exact ⟨ret_bool (by rw [HK.out]; rfl), HB.out _⟩

/-- no record of the first k is the same as q. -/
def NoneTo (rs : List Rec) (q : Rec) (k : Nat) : Prop := ∀ i (h : i < rs.length), i < k → keyB rs[i] q = false
theorem NoneTo.step {rs : List Rec} {q : Rec} {k : Nat} (h : NoneTo rs q k) (hk : k < rs.length) (hq : keyB rs[k] q = false) : NoneTo rs q (k + 1) := by
  intro i hi hik
  by_cases e : i = k
  · subst e; exact hq
  · exact h i hi (by omega)
theorem NoneTo.any {rs : List Rec} {q : Rec} {k : Nat} (h : NoneTo rs q k) (hk : rs.length ≤ k) : rs.any (fun r => keyB r q) = false := by
  rw [List.any_eq_false]
  intro r hr
  obtain ⟨i, hi, rfl⟩ := List.mem_iff_getElem.1 hr
  rw [h i hi (by omega)]; simp
theorem any_hit {rs : List Rec} {q : Rec} {k : Nat} (hk : k < rs.length) (hq : keyB rs[k] q = true) : rs.any (fun r => keyB r q) = true := by
  rw [List.any_eq_true]
  exact ⟨rs[k], List.getElem_mem hk, hq⟩

/-- what slices.IndexFunc hands back. -/
def Idx (rs : List Rec) (q : Rec) (e : Ending) : Prop := ∃ z : Int, e = .returned (.int .i64 z) ∧ decide (0 ≤ z) = rs.any (fun r => keyB r q)

set_option maxHeartbeats 1000000 in
theorem indexFunc_any (a : Option Addr) (n cap : Nat) (rs : List Rec) (q : Rec) (B : Nat) (w : World) (hn : rs.length = n) (hb : n ≤ 100000) (hr : RRs w a rs) (hq : RRAt w B 0 q) :
    Calls Try.prog 20 #[.slice a n cap, .func (.func 19) #[] #[.pointer (some ⟨B, 0, none⟩)]] w fun e w' => Idx rs q e ∧ Below w.heap.size w w' := by
  have HN : Hid (rs.length = n) := hn
  have HR : Hid (RRs w a rs) := hr
  have HQ : Hid (RRAt w B 0 q) := hq
  clear hn hr hq
  go_enter Try.func20, Try.ntmps20
  go_wp2
  go_loopw [8] (fun i wr => ∃ k : Nat, k ≤ n ∧ i = .int .i64 k ∧ NoneTo rs q k ∧ Below w.heap.size w wr) (fun i _ => n - (intOf i).toNat)
  case atStart => exact ⟨0, Nat.zero_le _, rfl, fun i _ h => absurd h (Nat.not_lt_zero _), Below.refl _ _⟩
  case round =>
    obtain ⟨k, hk, rfl, hno, hbl⟩ := hrel
    by_cases hlt : k < n
    · have hkr : k < rs.length := by rw [HN.out]; exact hlt
      obtain ⟨b, off, hA, hc⟩ := HR.out (by omega)
      cases hA
      obtain ⟨h0, h1, h2, h3, h4⟩ := (hc k hkr).below hbl (Nat.le_refl _)
      have HQ1 : Hid (RRAt wr B 0 q) := HQ.out.below hbl (Nat.le_refl _)
      have HB : Hid (Below w.heap.size w wr) := hbl
      have HNO : Hid (NoneTo rs q k) := hno
      clear hc hbl hno
      go_wp2_with fail
      refine (clos_any rs[k] q B _ HQ1.out).mono ?_
      rintro e w1 ⟨rfl, hb1⟩
      have HB1 : Hid (Below w.heap.size w w1) := HB.out.trans (hb1.mono HB.out.size)
      clear hb1
      cases hkb : keyB rs[k] q with
      | true =>
        have HA : Hid (rs.any (fun r => keyB r q) = true) := any_hit hkr hkb
        go_wp2
        go_ret
        exact ⟨⟨k, rfl, by rw [HA.out]; simp⟩, HB1.out⟩
      | false =>
        have HNO1 := show Hid (NoneTo rs q (k + 1)) from HNO.out.step hkr hkb
        go_wp2
        go_roundw
        case rel => exact ⟨k + 1, by omega, by go_num, HNO1.out, HB1.out⟩
        case measure => simp [intOf]; omega
    · have HA : Hid (rs.any (fun r => keyB r q) = false) := hno.any (by rw [HN.out]; omega)
      have HB : Hid (Below w.heap.size w wr) := hbl
      clear hno hbl
      go_wp2
      go_ret
      exact ⟨⟨-1, rfl, by rw [HA.out]; rfl⟩, HB.out⟩

theorem containsFunc_any (a : Option Addr) (n cap : Nat) (rs : List Rec) (q : Rec) (B : Nat) (w : World) (hn : rs.length = n) (hb : n ≤ 100000) (hr : RRs w a rs) (hq : RRAt w B 0 q) :
    Calls Try.prog 18 #[.slice a n cap, .func (.func 19) #[] #[.pointer (some ⟨B, 0, none⟩)]] w fun e w' => e = .returned (.bool (rs.any (fun r => keyB r q))) ∧ Below w.heap.size w w' := by
  have HN : Hid (rs.length = n) := hn
  have HR : Hid (RRs w a rs) := hr
  have HQ : Hid (RRAt w B 0 q) := hq
  clear hn hr hq
  go_enter Try.func18, Try.ntmps18
  go_wp2_with fail
  refine (indexFunc_any a n cap rs q B _ HN.out hb HR.out HQ.out).mono ?_
  rintro e w1 ⟨⟨z, rfl, hz⟩, hb1⟩
  have HB := show Hid (Below w.heap.size w w1) from hb1
  have HZ := show Hid _ from hz
  clear hb1 hz
  go_wp2
  go_ret
  exact ⟨ret_bool HZ.out, HB.out⟩

/-- sameRecords: as many, and each of the first among the second. -/
def sameB (xs ys : List Rec) : Bool := decide (xs.length = ys.length) && xs.all (fun r => ys.any (fun o => keyB o r))
def AllTo (xs ys : List Rec) (k : Nat) : Prop := ∀ i (h : i < xs.length), i < k → ys.any (fun o => keyB o xs[i]) = true
theorem AllTo.step {xs ys : List Rec} {k : Nat} (h : AllTo xs ys k) (hk : k < xs.length) (hq : ys.any (fun o => keyB o xs[k]) = true) : AllTo xs ys (k + 1) := by
  intro i hi hik
  by_cases e : i = k
  · subst e; exact hq
  · exact h i hi (by omega)
theorem AllTo.all {xs ys : List Rec} {k : Nat} (h : AllTo xs ys k) (hk : xs.length ≤ k) (hl : xs.length = ys.length) : sameB xs ys = true := by
  unfold sameB
  rw [Bool.and_eq_true]
  refine ⟨decide_eq_true hl, ?_⟩
  rw [List.all_eq_true]
  intro r hr
  obtain ⟨i, hi, rfl⟩ := List.mem_iff_getElem.1 hr
  exact h i hi (by omega)
theorem same_miss {xs ys : List Rec} {k : Nat} (hk : k < xs.length) (hq : ys.any (fun o => keyB o xs[k]) = false) : sameB xs ys = false := by
  unfold sameB
  rw [Bool.and_eq_false_iff]
  right
  rw [List.all_eq_false]
  exact ⟨xs[k], List.getElem_mem hk, by rw [hq]; simp⟩

theorem rr_box (w : World) (r : Rec) : RRAt (w.alloc (.cells #[.string ByteArray.empty, .int .u16 r.ty, .int .u16 r.cl, .int .u32 r.ttl, .string r.data] 48)) w.heap.size 0 r := by
  have k : ∀ j, (w.alloc (.cells #[.string ByteArray.empty, .int .u16 r.ty, .int .u16 r.cl, .int .u32 r.ttl, .string r.data] 48)).cell? ⟨w.heap.size, 0 + j, none⟩ = (#[.string ByteArray.empty, .int .u16 r.ty, .int .u16 r.cl, .int .u32 r.ttl, .string r.data] : Array Value)[j]? := fun j => by
    rw [Nat.zero_add]; exact World.cell?_alloc_at _ _ _ _ rfl
  exact ⟨k 0, k 1, k 2, k 3, k 4⟩

set_option maxHeartbeats 1000000 in
theorem sameRecords_any (a : Option Addr) (n cap : Nat) (xs : List Rec) (a' : Option Addr) (n' cap' : Nat) (ys : List Rec) (w : World) (hn : xs.length = n) (hn' : ys.length = n') (hb : n ≤ 100000) (hb' : n' ≤ 100000) (hr : RRs w a xs) (hr' : RRs w a' ys) :
    Calls Try.prog 17 #[.slice a n cap, .slice a' n' cap'] w fun e w' => e = .returned (.bool (sameB xs ys)) ∧ Below w.heap.size w w' := by
  have HN : Hid (xs.length = n) := hn
  have HN' : Hid (ys.length = n') := hn'
  have HR : Hid (RRs w a xs) := hr
  have HR' : Hid (RRs w a' ys) := hr'
  clear hn hn' hr hr'
  by_cases hnn : n = n'
  · subst hnn
    go_enter Try.func17, Try.ntmps17
    go_wp2
    go_loopw [14] (fun i wr => ∃ k : Nat, k ≤ n ∧ i = .int .i64 k ∧ AllTo xs ys k ∧ Below w.heap.size w wr) (fun i _ => n - (intOf i).toNat)
    case atStart => exact ⟨0, Nat.zero_le _, rfl, fun i _ h => absurd h (Nat.not_lt_zero _), Below.refl _ _⟩
    case round =>
      obtain ⟨k, hk, rfl, hall, hbl⟩ := hrel
      by_cases hlt : k < n
      · have hkr : k < xs.length := by rw [HN.out]; exact hlt
        obtain ⟨b, off, hA, hc⟩ := HR.out (by omega)
        cases hA
        obtain ⟨h0, h1, h2, h3, h4⟩ := (hc k hkr).below hbl (Nat.le_refl _)
        have HB : Hid (Below w.heap.size w wr) := hbl
        have HR1 : Hid (RRs wr a' ys) := HR'.out.below hbl
        have hwb : w.heap.size ≤ wr.heap.size := hbl.size
        have HAL : Hid (AllTo xs ys k) := hall
        clear hc hbl hall
        go_wp2_with fail
        refine (containsFunc_any a' n cap' ys xs[k] wr.heap.size _ HN'.out (by omega) (HR1.out.below ((Below.refl _ _).alloc (Nat.le_refl _) _)) (rr_box wr xs[k])).mono ?_
        rintro e w1 ⟨rfl, hb1⟩
        have HB1 : Hid (Below w.heap.size w w1) := (HB.out.alloc hwb _).trans (hb1.mono (by simp; omega))
        clear hb1
        cases hkb : ys.any (fun o => keyB o xs[k]) with
        | true =>
          have HAL1 := show Hid (AllTo xs ys (k + 1)) from HAL.out.step hkr hkb
          clear hkb
          go_wp2
          go_roundw
          case rel => exact ⟨k + 1, by omega, by go_num, HAL1.out, HB1.out⟩
          case measure => simp [intOf]; omega
        | false =>
          have HA : Hid (sameB xs ys = false) := same_miss hkr hkb
          clear hkb
          go_wp2
          go_ret
          exact ⟨ret_bool (by rw [HA.out]), HB1.out⟩
      · have HA : Hid (sameB xs ys = true) := hall.all (by rw [HN.out]; omega) (by rw [HN.out, HN'.out])
        have HB : Hid (Below w.heap.size w wr) := hbl
        clear hall hbl
        go_wp2
        go_ret
        exact ⟨ret_bool (by rw [HA.out]), HB.out⟩
  · have HA : Hid (sameB xs ys = false) := by
      unfold sameB
      rw [show decide (xs.length = ys.length) = false from decide_eq_false (by rw [HN.out, HN'.out]; exact hnn)]; rfl
    have hnb : ((n : Int) != (n' : Int)) = true := by rw [bne_iff_ne]; omega
    clear hnn
    go_enter Try.func17, Try.ntmps17
    go_wp2
    go_ret
    exact ⟨ret_bool (by rw [HA.out]), Below.refl _ _⟩

/-- ZZSameRecords -/
theorem zzSame_any (a : Option Addr) (n cap : Nat) (xs : List Rec) (a' : Option Addr) (n' cap' : Nat) (ys : List Rec) (w : World) (hn : xs.length = n) (hn' : ys.length = n') (hb : n ≤ 100000) (hb' : n' ≤ 100000) (hr : Recs w a xs) (hr' : Recs w a' ys) :
    Calls Try.prog 13 #[.slice a n cap, .slice a' n' cap'] w fun e w' => e = .returned (.bool (sameB xs ys)) ∧ Below w.heap.size w w' := by
  have HN : Hid (xs.length = n) := hn
  have HN' : Hid (ys.length = n') := hn'
  have HR : Hid (Recs w a xs) := hr
  have HR' : Hid (Recs w a' ys) := hr'
  clear hn hn' hr hr'
  go_enter Try.func13, Try.ntmps13
  go_wp2_with fail
  refine (rrs_any a n cap xs _ HN.out hb HR.out).mono ?_
  rintro e w1 ⟨⟨b1, c1, rfl, hr1⟩, hb1⟩
  have HR1 : Hid (RRs w1 b1 xs) := hr1
  have HR1' : Hid (Recs w1 a' ys) := HR'.out.below hb1
  have HB1 : Hid (Below w.heap.size w w1) := hb1
  clear hr1 hb1
  go_wp2_with fail
  refine (rrs_any a' n' cap' ys _ HN'.out hb' HR1'.out).mono ?_
  rintro e w2 ⟨⟨b2, c2, rfl, hr2⟩, hb2⟩
  have HR2 : Hid (RRs w2 b2 ys) := hr2
  have HR2' : Hid (RRs w2 b1 xs) := HR1.out.below hb2
  have HB2 : Hid (Below w.heap.size w w2) := HB1.out.trans (hb2.mono HB1.out.size)
  clear hr2 hb2
  go_wp2_with fail
  refine (sameRecords_any b1 n c1 xs b2 n' c2 ys _ HN.out HN'.out hb hb' HR2'.out HR2.out).mono ?_
  rintro e w3 ⟨rfl, hb3⟩
  have HB3 : Hid (Below w.heap.size w w3) := HB2.out.trans (hb3.mono HB2.out.size)
  clear hb3
  go_wp2
  go_ret
  exact ⟨rfl, HB3.out⟩
end Go.Proofs.Qxb6618071a
