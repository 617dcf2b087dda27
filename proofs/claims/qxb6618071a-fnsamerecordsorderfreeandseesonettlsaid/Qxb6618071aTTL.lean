import Derived.Test.Qxb6618071aCopy
import Derived.Test.Qxb6618071aBytes
namespace Go.Proofs.Qxb6618071a.fnSameRecordsOrderFreeAndSeesOneTTL
open Go.RowKit
set_option linter.unusedVariables false

theorem hide {p : Prop} (h : p) : Hid p := h

theorem slice_one (a : Option Addr) (n cap : Nat) (hp : 1 ≤ n) (hc : n ≤ cap) :
    ∃ a2, (∀ w, (Instr.slice 30 (.slice a n cap) (some (.int .i64 1)) none none).run Try.prog w = .ok (.slice a2 (n - 1) (cap - 1)) w) ∧
      (∀ w rs, rs.length = n → Recs w a rs → Recs w a2 (rs.drop 1)) := by
  refine ⟨if cap = 1 then a else a.map (·.add (1 * 4)), fun w => ?_, fun w rs hl hr hpos => ?_⟩
  · have hsz : (sizeOf (Try.prog.elem 30)).run Try.prog w = .ok 4 w := by kernel_rfl
    rw [run_slice_l (P := Try.prog) w 30 a n cap (by kernel_rfl) .i64 1 (by omega) (by omega), hsz]
    simp [Result.andThen, sliced]
  · have hlt : (rs.drop 1).length = n - 1 := by simp [hl]
    obtain ⟨b, off, h1, h2⟩ := hr (by omega)
    subst h1
    refine ⟨b, off + 1 * 4, ?_, fun i hi => ?_⟩
    · rw [if_neg (by omega)]
      simp [add_flat]
    · have := h2 (i + 1) (by omega)
      rw [show off + (i + 1) * 4 = off + 1 * 4 + i * 4 by omega] at this
      simpa using this

theorem flat_take_len {rs : List Rec} {n pos : Nat} (h : rs.length = n) (hp : pos ≤ n) : (flat (rs.take pos)).length = pos * 4 := by
  rw [flat_length, List.length_take, h, Nat.min_eq_left hp]
theorem flat_drop_len {rs : List Rec} {n pos : Nat} (h : rs.length = n) : (flat (rs.drop pos)).length = (n - pos) * 4 := by
  rw [flat_length, List.length_drop, h]

/-- zzToUpdate, the capacity told. -/
theorem toUpdate_cap (a : Option Addr) (n cap : Nat) (rs : List Rec) (w : World) (hn : rs.length = n) (hb : n ≤ 100000) (hr : Recs w a rs) :
    Calls Try.prog 8 #[.slice a n cap] w fun e w' => (∃ a' c', e = .returned (.slice a' n c') ∧ Recs w' a' rs ∧ n ≤ c') ∧ Below w.heap.size w w' := by
  cases a with
  | none =>
    have h0 : rs.length = 0 := by
      rcases Nat.eq_zero_or_pos rs.length with h | h
      · exact h
      · obtain ⟨b, off, h2, _⟩ := hr h; cases h2
    have h00 : n = 0 := by omega
    subst h00
    refine (toUpdate_nil 0 cap w).mono fun e w' ⟨he, hw⟩ => ?_
    subst he; subst hw
    exact ⟨⟨none, 0, rfl, hr, Nat.le_refl _⟩, Below.refl _ _⟩
  | some A =>
    refine (toUpdate_some A n cap rs w hn hb hr).mono fun e w' ⟨he, h1, h2⟩ => ?_
    exact ⟨⟨_, _, he, h1, Nat.le_refl _⟩, h2⟩

set_option maxRecDepth 100000 in
set_option maxHeartbeats 4000000 in
theorem main_pos (a : Option Addr) (n cap k : Nat) (j : Nat) (rs : List Rec) (v : Int) (w : World) (hn : rs.length = n) (hr : Recs w a rs) (hc : n ≤ cap) (hz : a = none → cap = 0) (h12 : n ≤ 4096) (hk : k ≤ n) (hj : j < n) :
    Calls Try.prog 5 #[.slice a n cap, .int .i64 (k : Int), .int .i64 (j : Int), .int .u32 v] w fun e w' => e = .returned (.bool true) ∧ Below w.heap.size w w' := by
  have HN : Hid (rs.length = n) := hn
  have HR : Hid (Recs w a rs) := hr
  have HZ : Hid (a = none → cap = 0) := hz
  clear hn hr hz
  obtain ⟨i0, hi0, hz0, hz1, hz2⟩ := info_parts Try.info29
  obtain ⟨a1, hsl1, hf1, hn1⟩ := slice_front a n cap k (by omega)
  obtain ⟨a2, hsl2, hf2, hn2⟩ := slice_back a n cap k hk hc
  have HF1 := hide hf1
  have HF2 := hide hf2
  have HN1 := hide hn1
  have HN2 := hide hn2
  clear hf1 hf2 hn1 hn2
  have d12 : decide ((4096 : Int) < (n : Int)) = false := decide_eq_false (by omega)
  have d1 : decide ((k : Int) < 0) = false := decide_eq_false (by omega)
  have d2 : decide (n < k) = false := decide_eq_false (by omega)
  have h0 : 0 < n := by omega
  have q1 : decide (0 < n) = true := decide_eq_true h0
  have q2 : ((n : Int) == 0) = false := beq_eq_false_iff_ne.2 (by omega)
  have q3 : decide ((j : Int) < 0) = false := decide_eq_false (by omega)
  have q4 : decide (n ≤ j) = false := decide_eq_false (by omega)
  go_enter Try.func5, Try.ntmps5
  go_wp2_with fail
  refine (bytes11_any a n cap rs k (j : Int) v _ HN.out HR.out (by unfold maxLen; omega)).mono ?_
  rintro e w' ⟨⟨b, rfl⟩, rfl⟩
  cases b
  · go_wp2
    go_ret
    exact ⟨rfl, Below.refl _ _⟩
  go_wp2_with fail
  refine (bytes7_any a n cap rs 0 _ HN.out HR.out (by unfold maxLen; omega)).mono ?_
  rintro e w' ⟨⟨z, rfl⟩, rfl⟩
  by_cases hzn : z < 0
  · go_wp2
    go_ret
    exact ⟨rfl, Below.refl _ _⟩
  have hzd : decide (z < 0) = false := decide_eq_false hzn
  clear hzn
  rename World => w
  go_wp2_with fail
  refine (distinct_any a n cap rs _ HN.out (by omega) HR.out).mono ?_
  rintro e w1 ⟨⟨b, rfl, hdist⟩, hb1⟩
  have HB1 : Hid (Below w.heap.size w w1) := hb1
  cases b
  · clear hdist hb1
    go_wp2
    go_ret
    exact ⟨rfl, HB1.out⟩
  have HD : Hid (Distinct rs) := hdist.1 rfl
  have HR1 : Hid (Recs w1 a rs) := HR.out.below hb1
  clear hdist hb1
  go_wp2_with (at_make; refine wpList_make_own _ rfl _ _ 22 rfl w1.heap.size 29 i0 _ 4 Try.underlying22 hi0 hz0 hz1 _ _ _ n rfl rfl (by omega) ?b2 ?b3 (Nat.le_refl _) ?_)
  case b2 => rw [hz2]; omega
  case b3 => unfold maxLen; omega
  intro w2 hown2 hg2
  have HB2 : Hid (Below w1.heap.size w1 w2) := (Below.refl _ _).grown hg2 (Nat.le_refl _) (fun _ h => by cases h)
  have HC1 := hide ((HF2.out w2 rs HN.out (HR1.out.below HB2.out)).cells)
  have HL1 : Hid ((flat (rs.drop k)).length = (n - k) * 4) := flat_drop_len HN.out
  have HA1 : Hid (a2 = none → n - k = 0 ∧ cap - k = 0) := fun h => by have := HZ.out (HN2.out h); omega
  have hs2 : w1.heap.size ≤ w2.heap.size := hg2.size
  have HO2 := hide hown2
  clear hown2 hg2
  go_wp2_with (at_builtin; refine wpList_append_fits_any _ rfl (.tmp 55) (.tmp 58) 22 rfl w1.heap.size 29 i0 4 Try.underlying22 hi0 hz1 w1.heap.size 0 n [] rfl HO2.out a2 (n - k) (cap - k) (flat (rs.drop k)) rfl HL1.out HA1.out HC1.out (flat_oneCell _) (by omega) ?_)
  intro w3 hown3 hg3
  have HB3 : Hid (Below w1.heap.size w1 w3) := HB2.out.grown hg3 hs2 (fun k h => by cases h; exact Nat.le_refl _)
  have hs3 : w2.heap.size ≤ w3.heap.size := hg3.size
  have HC2 := hide ((HF1.out w3 rs HN.out hk (HR1.out.below HB3.out)).cells)
  have HL2 : Hid ((flat (rs.take k)).length = k * 4) := flat_take_len HN.out hk
  have HA2 : Hid (a1 = none → k = 0 ∧ cap = 0) := fun h => by have := HZ.out (HN1.out h); omega
  have HO3 := hide hown3
  clear hown3 hg3
  go_wp2_with (at_builtin; refine wpList_append_fits_any _ rfl (.tmp 60) (.tmp 63) 22 rfl w1.heap.size 29 i0 4 Try.underlying22 hi0 hz1 w1.heap.size (n - k) n (flat (rs.drop k)) rfl HO3.out a1 k cap (flat (rs.take k)) rfl HL2.out HA2.out HC2.out (flat_oneCell _) (by omega) ?_)
  intro w4 hown4 hg4
  have HB4 : Hid (Below w1.heap.size w1 w4) := HB3.out.grown hg4 (by omega) (fun k h => by cases h; exact Nat.le_refl _)
  have hown4' : w4.ownsRow w1.heap.size 29 4 (.slice (some ⟨w1.heap.size, 0, none⟩) n n) n (flat (rot rs k)) := by unfold rot; rw [flat_append]; exact hown4
  have HRL : Hid ((rot rs k).length = n) := (rot_len rs k).trans HN.out
  have RO : Hid (Recs w4 (some ⟨w1.heap.size, 0, none⟩) (rot rs k)) := recs_of_owns hown4' HRL.out
  have RA : Hid (Recs w4 a rs) := HR1.out.below HB4.out
  have HW0 : Hid (Below w.heap.size w w4) := HB1.out.trans (HB4.out.mono HB1.out.size)
  clear hown4 hown4' hg4 HO2 HO3 HC1 HC2 HB2 HB3 HB4 HB1 HL1 HL2 HA1 HA2 HR1
  go_wp2_with fail
  refine (toUpdate_cap a n cap rs _ HN.out (by omega) RA.out).mono ?_
  rintro e y1 ⟨⟨ba, ca, rfl, hra, hca⟩, hb1⟩
  have RA1 : Hid (Recs y1 a rs) := RA.out.below hb1
  have RO1 : Hid (Recs y1 (some ⟨w1.heap.size, 0, none⟩) (rot rs k)) := RO.out.below hb1
  have HW1 : Hid (Below w.heap.size w y1) := HW0.out.trans (hb1.mono HW0.out.size)
  have RZ : Hid (Recs y1 ba rs) := hra
  clear hra hb1
  go_wp2_with fail
  refine (toUpdate_cap (some ⟨w1.heap.size, 0, none⟩) n n (rot rs k) _ HRL.out (by omega) RO1.out).mono ?_
  rintro e y2 ⟨⟨br, cr, rfl, hrr, hcr⟩, hb2⟩
  have RA2 : Hid (Recs y2 a rs) := RA1.out.below hb2
  have RZ2 : Hid (Recs y2 ba rs) := RZ.out.below hb2
  have HW2 : Hid (Below w.heap.size w y2) := HW1.out.trans (hb2.mono HW1.out.size)
  have RR : Hid (Recs y2 br (rot rs k)) := hrr
  clear hrr hb2
  go_wp2_with fail
  refine (zzSame_any ba n ca rs br n cr (rot rs k) _ HN.out HRL.out (by omega) (by omega) RZ2.out RR.out).mono ?_
  rintro e y3 ⟨rfl, hb3⟩
  have RA3 : Hid (Recs y3 a rs) := RA2.out.below hb3
  have RZ3 : Hid (Recs y3 ba rs) := RZ2.out.below hb3
  have RR3 : Hid (Recs y3 br (rot rs k)) := RR.out.below hb3
  have HW3 : Hid (Below w.heap.size w y3) := HW2.out.trans (hb3.mono HW2.out.size)
  rw [same_rot]
  clear hb3
  go_wp2_with fail
  refine (zzSame_any br n cr (rot rs k) ba n ca rs _ HRL.out HN.out (by omega) (by omega) RR3.out RZ3.out).mono ?_
  rintro e y4 ⟨rfl, hb4⟩
  have RA4 : Hid (Recs y4 a rs) := RA3.out.below hb4
  have RZ4 : Hid (Recs y4 ba rs) := RZ3.out.below hb4
  have RR4 : Hid (Recs y4 br (rot rs k)) := RR3.out.below hb4
  have HW4 : Hid (Below w.heap.size w y4) := HW3.out.trans (hb4.mono HW3.out.size)
  rw [rot_same]
  clear hb4
  obtain ⟨bs, hsl3, hf3⟩ := slice_one br n cr h0 hcr
  have RS : Hid (Recs y4 bs ((rot rs k).drop 1)) := hf3 _ _ HRL.out RR4.out
  have HSL : Hid (((rot rs k).drop 1).length = n - 1) := (short_len rs k).trans (by rw [HN.out])
  have hrp : 0 < rs.length := by rw [HN.out]; exact h0
  have HRP := hide hrp
  clear hf3 hrp
  go_wp2_with fail
  refine (zzSame_any ba n ca rs bs (n - 1) (cr - 1) ((rot rs k).drop 1) _ HN.out HSL.out (by omega) (by omega) RZ4.out RS.out).mono ?_
  rintro e y5 ⟨rfl, hb5⟩
  have RA5 : Hid (Recs y5 a rs) := RA4.out.below hb5
  have RZ5 : Hid (Recs y5 ba rs) := RZ4.out.below hb5
  have RS5 : Hid (Recs y5 bs ((rot rs k).drop 1)) := RS.out.below hb5
  have HW5 : Hid (Below w.heap.size w y5) := HW4.out.trans (hb5.mono HW4.out.size)
  rw [same_short rs k HRP.out]
  clear hb5
  go_wp2_with fail
  refine (zzSame_any bs (n - 1) (cr - 1) ((rot rs k).drop 1) ba n ca rs _ HSL.out HN.out (by omega) (by omega) RS5.out RZ5.out).mono ?_
  rintro e y6 ⟨rfl, hb6⟩
  have RA6 : Hid (Recs y6 a rs) := RA5.out.below hb6
  have RZ6 : Hid (Recs y6 ba rs) := RZ5.out.below hb6
  have RS6 : Hid (Recs y6 bs ((rot rs k).drop 1)) := RS5.out.below hb6
  have HW6 : Hid (Below w.heap.size w y6) := HW5.out.trans (hb6.mono HW5.out.size)
  rw [short_same rs k HRP.out]
  clear hb6
  have hjr : j < rs.length := by rw [HN.out]; exact hj
  obtain ⟨ab, ao, hA, hcA⟩ := RA6.out HRP.out
  subst hA
  obtain ⟨W2, hcopy, hfull, hbc, hsz⟩ := copy_ways y6 ⟨ab, ao, none⟩ n cap rs HN.out RA6.out
  have hmk := run_make_rows (P := Try.prog) 22 29 _ 4 24 Try.underlying22 Try.info29 .i64 .i64 n (by omega) (by omega)
  have RAc : Hid (Recs W2 (some ⟨ab, ao, none⟩) rs) := RA6.out.below hbc
  have RZc : Hid (Recs W2 ba rs) := RZ6.out.below hbc
  have HWc : Hid (Below w.heap.size w W2) := HW6.out.trans (hbc.mono HW6.out.size)
  obtain ⟨ff, hrow, hff⟩ := id hfull
  have hcc : W2.cell? ⟨y6.heap.size, j * 4 + 2, none⟩ = some (.int .u32 rs[j].ttl) := by rw [hrow.cell (by omega), (hff j hjr).2.2.1]
  have hfz : W2.frozen? ⟨y6.heap.size, j * 4 + 2, none⟩ = false := hrow.frozen _
  have HFU := hide hfull
  have hyw : w.heap.size ≤ y6.heap.size := HW6.out.size
  have habl : ab < y6.heap.size := block_lt_of_cell (hcA j hjr).c0
  have HCA := hide ((hcA j hjr).below hbc (Nat.le_refl _))
  have HBC := hide hbc
  clear hrow hff hfull hbc hcA
  go_wp2_with fail
  have hfu3 := Full.ttl HFU.out j hjr v
  have hbc3 : Below y6.heap.size y6 (W2.setCell ⟨y6.heap.size, j * 4 + 2, none⟩ (.int .u32 v)) := Below.setCell HBC.out (Nat.le_refl _) _
  revert hfu3 hbc3
  generalize W2.setCell ⟨y6.heap.size, j * 4 + 2, none⟩ (.int .u32 v) = W3
  intro hfu3 hbc3
  have RC : Hid (Recs W3 (some ⟨y6.heap.size, 0, none⟩) (setTTL rs j v)) := hfu3.recs
  have RA' : Hid (Recs W3 (some ⟨ab, ao, none⟩) rs) := RA6.out.below hbc3
  have RZ' : Hid (Recs W3 ba rs) := RZ6.out.below hbc3
  have HWd : Hid (Below w.heap.size w W3) := HW6.out.trans (hbc3.mono HW6.out.size)
  have HCL : Hid ((setTTL rs j v).length = n) := (setTTL_len rs j v).trans HN.out
  clear hfu3 hbc3 hcopy hcc hfz RAc RZc HWc HFU HBC HCA
  go_wp2_with fail
  refine (toUpdate_any (some ⟨y6.heap.size, 0, none⟩) n n (setTTL rs j v) _ HCL.out (by omega) RC.out).mono ?_
  rintro e y7 ⟨⟨bc, cc, rfl, hrc⟩, hb7⟩
  have RC7 : Hid (Recs y7 (some ⟨y6.heap.size, 0, none⟩) (setTTL rs j v)) := RC.out.below hb7
  have RX7 : Hid (Recs y7 (some ⟨ab, ao, none⟩) rs) := RA'.out.below hb7
  have RZ7 : Hid (Recs y7 ba rs) := RZ'.out.below hb7
  have HW7 : Hid (Below w.heap.size w y7) := HWd.out.trans (hb7.mono HWd.out.size)
  have RT : Hid (Recs y7 bc (setTTL rs j v)) := hrc
  clear hrc hb7
  obtain ⟨ab', ao', hA', hcA'⟩ := RX7.out HRP.out
  cases hA'
  have htt := (hcA' j hjr).c2
  clear hcA'
  go_wp2_with fail
  refine (zzSame_any ba n ca rs bc n cc (setTTL rs j v) _ HN.out HCL.out (by omega) (by omega) RZ7.out RT.out).mono ?_
  rintro e y8 ⟨rfl, hb8⟩
  have RC8 : Hid (Recs y8 (some ⟨y6.heap.size, 0, none⟩) (setTTL rs j v)) := RC7.out.below hb8
  have RX8 : Hid (Recs y8 (some ⟨ab, ao, none⟩) rs) := RX7.out.below hb8
  have RZ8 : Hid (Recs y8 ba rs) := RZ7.out.below hb8
  have RT8 : Hid (Recs y8 bc (setTTL rs j v)) := RT.out.below hb8
  have HW8 : Hid (Below w.heap.size w y8) := HW7.out.trans (hb8.mono HW7.out.size)
  rw [same_ch rs j v hjr HD.out]
  clear hb8
  have HCS := hide (ch_same rs j v hjr)
  cases qw : (v == rs[j].ttl)
  all_goals
    go_wp2_with fail
    refine (distinct_any (some ⟨y6.heap.size, 0, none⟩) n n (setTTL rs j v) _ HCL.out (by omega) RC8.out).mono ?_
    rintro e y9 ⟨⟨b, rfl, hdist⟩, hb9⟩
    have RC9 : Hid (Recs y9 (some ⟨y6.heap.size, 0, none⟩) (setTTL rs j v)) := RC8.out.below hb9
    have RX9 : Hid (Recs y9 (some ⟨ab, ao, none⟩) rs) := RX8.out.below hb9
    have RZ9 : Hid (Recs y9 ba rs) := RZ8.out.below hb9
    have RT9 : Hid (Recs y9 bc (setTTL rs j v)) := RT8.out.below hb9
    have HW9 : Hid (Below w.heap.size w y9) := HW8.out.trans (hb9.mono HW8.out.size)
    clear hb9
    cases b
    · clear hdist
      go_wp2
      go_ret
      exact ⟨rfl, HW9.out⟩
    have HD2 : Hid (Distinct (setTTL rs j v)) := hdist.1 rfl
    clear hdist
    go_wp2_with fail
    refine (zzSame_any bc n cc (setTTL rs j v) ba n ca rs _ HCL.out HN.out (by omega) (by omega) RT9.out RZ9.out).mono ?_
    rintro e y10 ⟨rfl, hb10⟩
    have RC10 : Hid (Recs y10 (some ⟨y6.heap.size, 0, none⟩) (setTTL rs j v)) := RC9.out.below hb10
    have RX10 : Hid (Recs y10 (some ⟨ab, ao, none⟩) rs) := RX9.out.below hb10
    have RZ10 : Hid (Recs y10 ba rs) := RZ9.out.below hb10
    have RT10 : Hid (Recs y10 bc (setTTL rs j v)) := RT9.out.below hb10
    have HW10 : Hid (Below w.heap.size w y10) := HW9.out.trans (hb10.mono HW9.out.size)
    rw [HCS.out HD2.out, qw]
    clear hb10
    go_wp2
    go_ret
    exact ⟨rfl, HW10.out⟩

set_option maxRecDepth 100000 in
set_option maxHeartbeats 4000000 in
theorem main_zero (a : Option Addr) (n cap k : Nat) (i : Int) (rs : List Rec) (v : Int) (w : World) (hn : rs.length = n) (hr : Recs w a rs) (hc : n ≤ cap) (hz : a = none → cap = 0) (h12 : n ≤ 4096) (hk : k ≤ n) (hn0 : n ≤ 0) :
    Calls Try.prog 5 #[.slice a n cap, .int .i64 (k : Int), .int .i64 i, .int .u32 v] w fun e w' => e = .returned (.bool true) ∧ Below w.heap.size w w' := by
  have HN : Hid (rs.length = n) := hn
  have HR : Hid (Recs w a rs) := hr
  have HZ : Hid (a = none → cap = 0) := hz
  clear hn hr hz
  obtain ⟨i0, hi0, hz0, hz1, hz2⟩ := info_parts Try.info29
  obtain ⟨a1, hsl1, hf1, hn1⟩ := slice_front a n cap k (by omega)
  obtain ⟨a2, hsl2, hf2, hn2⟩ := slice_back a n cap k hk hc
  have HF1 := hide hf1
  have HF2 := hide hf2
  have HN1 := hide hn1
  have HN2 := hide hn2
  clear hf1 hf2 hn1 hn2
  have d12 : decide ((4096 : Int) < (n : Int)) = false := decide_eq_false (by omega)
  have d1 : decide ((k : Int) < 0) = false := decide_eq_false (by omega)
  have d2 : decide (n < k) = false := decide_eq_false (by omega)
  have q1 : decide (0 < n) = false := decide_eq_false (by omega)
  have q1' : ¬ 0 < n := by omega
  have q2 : ((n : Int) == 0) = true := beq_iff_eq.2 (by omega)
  go_enter Try.func5, Try.ntmps5
  go_wp2_with fail
  refine (bytes11_any a n cap rs k i v _ HN.out HR.out (by unfold maxLen; omega)).mono ?_
  rintro e w' ⟨⟨b, rfl⟩, rfl⟩
  cases b
  · go_wp2
    go_ret
    exact ⟨rfl, Below.refl _ _⟩
  go_wp2_with fail
  refine (bytes7_any a n cap rs 0 _ HN.out HR.out (by unfold maxLen; omega)).mono ?_
  rintro e w' ⟨⟨z, rfl⟩, rfl⟩
  by_cases hzn : z < 0
  · go_wp2
    go_ret
    exact ⟨rfl, Below.refl _ _⟩
  have hzd : decide (z < 0) = false := decide_eq_false hzn
  clear hzn
  rename World => w
  go_wp2_with fail
  refine (distinct_any a n cap rs _ HN.out (by omega) HR.out).mono ?_
  rintro e w1 ⟨⟨b, rfl, hdist⟩, hb1⟩
  have HB1 : Hid (Below w.heap.size w w1) := hb1
  cases b
  · clear hdist hb1
    go_wp2
    go_ret
    exact ⟨rfl, HB1.out⟩
  have HD : Hid (Distinct rs) := hdist.1 rfl
  have HR1 : Hid (Recs w1 a rs) := HR.out.below hb1
  clear hdist hb1
  go_wp2_with (at_make; refine wpList_make_own _ rfl _ _ 22 rfl w1.heap.size 29 i0 _ 4 Try.underlying22 hi0 hz0 hz1 _ _ _ n rfl rfl (by omega) ?b2 ?b3 (Nat.le_refl _) ?_)
  case b2 => rw [hz2]; omega
  case b3 => unfold maxLen; omega
  intro w2 hown2 hg2
  have HB2 : Hid (Below w1.heap.size w1 w2) := (Below.refl _ _).grown hg2 (Nat.le_refl _) (fun _ h => by cases h)
  have HC1 := hide ((HF2.out w2 rs HN.out (HR1.out.below HB2.out)).cells)
  have HL1 : Hid ((flat (rs.drop k)).length = (n - k) * 4) := flat_drop_len HN.out
  have HA1 : Hid (a2 = none → n - k = 0 ∧ cap - k = 0) := fun h => by have := HZ.out (HN2.out h); omega
  have hs2 : w1.heap.size ≤ w2.heap.size := hg2.size
  have HO2 := hide hown2
  clear hown2 hg2
  go_wp2_with (at_builtin; refine wpList_append_fits_any _ rfl (.tmp 55) (.tmp 58) 22 rfl w1.heap.size 29 i0 4 Try.underlying22 hi0 hz1 w1.heap.size 0 n [] rfl HO2.out a2 (n - k) (cap - k) (flat (rs.drop k)) rfl HL1.out HA1.out HC1.out (flat_oneCell _) (by omega) ?_)
  intro w3 hown3 hg3
  have HB3 : Hid (Below w1.heap.size w1 w3) := HB2.out.grown hg3 hs2 (fun k h => by cases h; exact Nat.le_refl _)
  have hs3 : w2.heap.size ≤ w3.heap.size := hg3.size
  have HC2 := hide ((HF1.out w3 rs HN.out hk (HR1.out.below HB3.out)).cells)
  have HL2 : Hid ((flat (rs.take k)).length = k * 4) := flat_take_len HN.out hk
  have HA2 : Hid (a1 = none → k = 0 ∧ cap = 0) := fun h => by have := HZ.out (HN1.out h); omega
  have HO3 := hide hown3
  clear hown3 hg3
  go_wp2_with (at_builtin; refine wpList_append_fits_any _ rfl (.tmp 60) (.tmp 63) 22 rfl w1.heap.size 29 i0 4 Try.underlying22 hi0 hz1 w1.heap.size (n - k) n (flat (rs.drop k)) rfl HO3.out a1 k cap (flat (rs.take k)) rfl HL2.out HA2.out HC2.out (flat_oneCell _) (by omega) ?_)
  intro w4 hown4 hg4
  have HB4 : Hid (Below w1.heap.size w1 w4) := HB3.out.grown hg4 (by omega) (fun k h => by cases h; exact Nat.le_refl _)
  have hown4' : w4.ownsRow w1.heap.size 29 4 (.slice (some ⟨w1.heap.size, 0, none⟩) n n) n (flat (rot rs k)) := by unfold rot; rw [flat_append]; exact hown4
  have HRL : Hid ((rot rs k).length = n) := (rot_len rs k).trans HN.out
  have RO : Hid (Recs w4 (some ⟨w1.heap.size, 0, none⟩) (rot rs k)) := recs_of_owns hown4' HRL.out
  have RA : Hid (Recs w4 a rs) := HR1.out.below HB4.out
  have HW0 : Hid (Below w.heap.size w w4) := HB1.out.trans (HB4.out.mono HB1.out.size)
  clear hown4 hown4' hg4 HO2 HO3 HC1 HC2 HB2 HB3 HB4 HB1 HL1 HL2 HA1 HA2 HR1
  go_wp2_with fail
  refine (toUpdate_cap a n cap rs _ HN.out (by omega) RA.out).mono ?_
  rintro e y1 ⟨⟨ba, ca, rfl, hra, hca⟩, hb1⟩
  have RA1 : Hid (Recs y1 a rs) := RA.out.below hb1
  have RO1 : Hid (Recs y1 (some ⟨w1.heap.size, 0, none⟩) (rot rs k)) := RO.out.below hb1
  have HW1 : Hid (Below w.heap.size w y1) := HW0.out.trans (hb1.mono HW0.out.size)
  have RZ : Hid (Recs y1 ba rs) := hra
  clear hra hb1
  go_wp2_with fail
  refine (toUpdate_cap (some ⟨w1.heap.size, 0, none⟩) n n (rot rs k) _ HRL.out (by omega) RO1.out).mono ?_
  rintro e y2 ⟨⟨br, cr, rfl, hrr, hcr⟩, hb2⟩
  have RA2 : Hid (Recs y2 a rs) := RA1.out.below hb2
  have RZ2 : Hid (Recs y2 ba rs) := RZ.out.below hb2
  have HW2 : Hid (Below w.heap.size w y2) := HW1.out.trans (hb2.mono HW1.out.size)
  have RR : Hid (Recs y2 br (rot rs k)) := hrr
  clear hrr hb2
  go_wp2_with fail
  refine (zzSame_any ba n ca rs br n cr (rot rs k) _ HN.out HRL.out (by omega) (by omega) RZ2.out RR.out).mono ?_
  rintro e y3 ⟨rfl, hb3⟩
  have RA3 : Hid (Recs y3 a rs) := RA2.out.below hb3
  have RZ3 : Hid (Recs y3 ba rs) := RZ2.out.below hb3
  have RR3 : Hid (Recs y3 br (rot rs k)) := RR.out.below hb3
  have HW3 : Hid (Below w.heap.size w y3) := HW2.out.trans (hb3.mono HW2.out.size)
  rw [same_rot]
  clear hb3
  go_wp2_with fail
  refine (zzSame_any br n cr (rot rs k) ba n ca rs _ HRL.out HN.out (by omega) (by omega) RR3.out RZ3.out).mono ?_
  rintro e y4 ⟨rfl, hb4⟩
  have RA4 : Hid (Recs y4 a rs) := RA3.out.below hb4
  have RZ4 : Hid (Recs y4 ba rs) := RZ3.out.below hb4
  have RR4 : Hid (Recs y4 br (rot rs k)) := RR3.out.below hb4
  have HW4 : Hid (Below w.heap.size w y4) := HW3.out.trans (hb4.mono HW3.out.size)
  rw [rot_same]
  clear hb4
  go_wp2
  go_ret
  exact ⟨rfl, HW4.out⟩
end Go.Proofs.Qxb6618071a.fnSameRecordsOrderFreeAndSeesOneTTL
