import Derived.Test.Qxb6618071aConv
import Derived.Test.Qxb6618071aBytes
import Derived.Test.Qxb6618071aRow
namespace Go.Proofs.Qxb6618071a.fnCountInsertAtAnyPlace
open Go.RowKit
set_option linter.unusedVariables false

theorem box_cells {w w1 : World} {r : Rec} (hb : Below (w.heap.size + 1) (w.alloc (.cells #[.int .u16 r.ty, .int .u16 r.cl, .int .u32 r.ttl, .string r.data] 29)) w1) :
    w1.cell? ⟨w.heap.size, 0, none⟩ = some (.int .u16 r.ty) ∧ w1.cell? ⟨w.heap.size, 1, none⟩ = some (.int .u16 r.cl) ∧ w1.cell? ⟨w.heap.size, 2, none⟩ = some (.int .u32 r.ttl) ∧ w1.cell? ⟨w.heap.size, 3, none⟩ = some (.string r.data) := by
  have k : ∀ j, w1.cell? ⟨w.heap.size, j, none⟩ = (#[.int .u16 r.ty, .int .u16 r.cl, .int .u32 r.ttl, .string r.data] : Array Value)[j]? := fun j => by
    rw [hb.cell (p := ⟨w.heap.size, j, none⟩) (Nat.lt_succ_self _)]
    exact World.cell?_alloc_at _ _ _ _ rfl
  exact ⟨k 0, k 1, k 2, k 3⟩

theorem flat_take_len {rs : List Rec} {n pos : Nat} (h : rs.length = n) (hp : pos ≤ n) : (flat (rs.take pos)).length = pos * 4 := by
  rw [flat_length, List.length_take, h, Nat.min_eq_left hp]
theorem flat_drop_len {rs : List Rec} {n pos : Nat} (h : rs.length = n) : (flat (rs.drop pos)).length = (n - pos) * 4 := by
  rw [flat_length, List.length_drop, h]

theorem own_cells (w : World) (r : Rec) : ∀ j u, (Rec.cells r)[j]? = some u → (w.alloc (.cells #[.int .u16 r.ty, .int .u16 r.cl, .int .u32 r.ttl, .string r.data] 29)).cell? ((⟨w.heap.size, 0, none⟩ : Addr).add j) = some u := by
  intro j u h
  rw [add_flat, Nat.zero_add, World.cell?_alloc_at _ _ _ _ rfl, ← h]
  simp [Rec.cells]
theorem cells_oneCell (r : Rec) : ∀ u ∈ Rec.cells r, u.oneCell' = true := fun u hu => flat_oneCell [r] u (by rw [flat_one]; exact hu)

theorem take_len {rs : List Rec} {n pos : Nat} (h : rs.length = n) (hp : pos ≤ n) : (rs.take pos).length = pos := by
  rw [List.length_take, h, Nat.min_eq_left hp]
theorem drop_len {rs : List Rec} {n pos : Nat} (h : rs.length = n) : (rs.drop pos).length = n - pos := by
  rw [List.length_drop, h]
theorem ins_len {rs : List Rec} {r : Rec} {n pos : Nat} (h : rs.length = n) (hp : pos ≤ n) : (rs.take pos ++ r :: rs.drop pos).length = pos + 1 + (n - pos) := by
  rw [List.length_append, List.length_cons, take_len h hp, drop_len h]; omega
theorem ins_flat (rs : List Rec) (r : Rec) (pos : Nat) : flat (rs.take pos ++ r :: rs.drop pos) = flat (rs.take pos) ++ (Rec.cells r ++ flat (rs.drop pos)) := by
  rw [flat_append]; rfl

theorem cnt_cut (t : Int) (rs : List Rec) (pos : Nat) : cnt t rs = cnt t (rs.take pos) + cnt t (rs.drop pos) := by
  unfold cnt
  rw [← List.countP_append, List.take_append_drop]
theorem cnt_ins (t : Int) (rs : List Rec) (r : Rec) (pos : Nat) : cnt t (rs.take pos ++ r :: rs.drop pos) = cnt t rs + if r.ty == t then 1 else 0 := by
  rw [cnt_cut t rs pos]
  unfold cnt
  rw [List.countP_append, List.countP_cons]
  omega

set_option maxHeartbeats 2000000 in
theorem main_way (a : Option Addr) (n cap pos : Nat) (rs : List Rec) (r : Rec) (t : Int) (w : World) (hn : rs.length = n) (hr : Recs w a rs) (hc : n ≤ cap) (hz : a = none → cap = 0) (h12 : n ≤ 4096) (hpos : pos ≤ n) :
    Calls Try.prog 4 #[.slice a n cap, .int .i64 (pos : Int), .agg #[.int .u16 r.ty, .int .u16 r.cl, .int .u32 r.ttl, .string r.data], .int .u16 t] w fun e w' => e = .returned (.bool true) ∧ Below w.heap.size w w' := by
  have HN : Hid (rs.length = n) := hn
  have HR : Hid (Recs w a rs) := hr
  have HZ : Hid (a = none → cap = 0) := hz
  clear hn hr hz
  obtain ⟨i0, hi, hz0, hz1, hz2⟩ := info_parts Try.info29
  obtain ⟨a1, hsl1, hf1, hn1⟩ := slice_front a n cap pos (by omega)
  obtain ⟨a2, hsl2, hf2, hn2⟩ := slice_back a n cap pos hpos hc
  have HF1 := show Hid _ from hf1
  have HF2 := show Hid _ from hf2
  have HN1 := show Hid _ from hn1
  have HN2 := show Hid _ from hn2
  clear hf1 hf2 hn1 hn2
  have d12 : decide ((4096 : Int) < (n : Int)) = false := decide_eq_false (by omega)
  have d1 : decide ((pos : Int) < 0) = false := decide_eq_false (by omega)
  have d2 : decide (n < pos) = false := decide_eq_false (by omega)
  go_enter Try.func4, Try.ntmps4
  go_wp2_with fail
  have HBX : Hid (Below w.heap.size w (w.alloc (.cells #[.int .u16 r.ty, .int .u16 r.cl, .int .u32 r.ttl, .string r.data] 29))) := (Below.refl _ _).alloc (Nat.le_refl _) _
  refine (bytes10_any a n cap rs pos r t _ HN.out (HR.out.below HBX.out) (by unfold maxLen; omega)).mono ?_
  rintro e w1 ⟨⟨b, rfl⟩, hb1⟩
  have hb1' : Below (w.heap.size + 1) (w.alloc (.cells #[.int .u16 r.ty, .int .u16 r.cl, .int .u32 r.ttl, .string r.data] 29)) w1 := by simpa using hb1
  obtain ⟨e0, e1, e2, e3⟩ := box_cells hb1'
  have HB1 : Hid (Below w.heap.size w w1) := HBX.out.trans (hb1'.mono (by omega))
  have hs1 : w.heap.size + 1 ≤ w1.heap.size := by have := hb1'.size; simp at this; omega
  clear hb1 hb1'
  cases b
  · go_wp2
    go_ret
    exact ⟨rfl, HB1.out⟩
  by_cases hd : (1048576 : Int) < (r.data.size : Int)
  · go_wp2
    go_ret
    exact ⟨rfl, HB1.out⟩
  have hdd : decide ((1048576 : Int) < (r.data.size : Int)) = false := decide_eq_false hd
  go_wp2_with fail
  refine (bytes7_any a n cap rs _ _ HN.out (HR.out.below HB1.out) (by unfold maxLen; omega)).mono ?_
  rintro e w1 ⟨⟨z, rfl⟩, rfl⟩
  by_cases hzn : z < 0
  · go_wp2
    go_ret
    exact ⟨rfl, HB1.out⟩
  have hzd : decide (z < 0) = false := decide_eq_false hzn
  go_wp2_with (at_make; refine wpList_make_own _ rfl _ _ 22 rfl w1.heap.size 29 i0 _ 4 Try.underlying22 hi hz0 hz1 _ _ _ (n + 1) rfl rfl (by omega) ?b2 ?b3 (Nat.le_refl _) ?_)
  case b2 => rw [hz2]; omega
  case b3 => unfold maxLen; omega
  intro w2 hown2 hg2
  have HB2 : Hid (Below w.heap.size w w2) := HB1.out.grown hg2 (by omega) (fun _ h => by cases h)
  have HC1 := show Hid _ from (HF1.out w2 rs HN.out hpos (HR.out.below HB2.out)).cells
  have HL1 : Hid ((flat (rs.take pos)).length = pos * 4) := flat_take_len HN.out hpos
  have HA1 : Hid (a1 = none → pos = 0 ∧ cap = 0) := fun h => by have := HZ.out (HN1.out h); omega
  have f0 : w2.cell? ⟨w.heap.size, 0, none⟩ = some (.int .u16 r.ty) := hg2.cell e0 (by simp)
  have f1 : w2.cell? ⟨w.heap.size, 1, none⟩ = some (.int .u16 r.cl) := hg2.cell e1 (by simp)
  have f2 : w2.cell? ⟨w.heap.size, 2, none⟩ = some (.int .u32 r.ttl) := hg2.cell e2 (by simp)
  have f3 : w2.cell? ⟨w.heap.size, 3, none⟩ = some (.string r.data) := hg2.cell e3 (by simp)
  have hs2 : w1.heap.size ≤ w2.heap.size := hg2.size
  have HO2 := show Hid _ from hown2
  clear hown2 hg2 e0 e1 e2 e3
  go_wp2_with (at_builtin; refine wpList_append_fits_any _ rfl (.tmp 47) (.tmp 50) 22 rfl w1.heap.size 29 i0 4 Try.underlying22 hi hz1 w1.heap.size 0 (n + 1) [] rfl HO2.out a1 pos cap (flat (rs.take pos)) rfl HL1.out HA1.out HC1.out (flat_oneCell _) (by omega) ?_)
  intro w3 hown3 hg3
  have HB3 : Hid (Below w.heap.size w w3) := HB2.out.grown hg3 (by omega) (fun k h => by cases h; omega)
  have hneb : some w.heap.size ≠ some w1.heap.size := by simp; omega
  have e0 : w3.cell? ⟨w.heap.size, 0, none⟩ = some (.int .u16 r.ty) := hg3.cell f0 hneb
  have e1 : w3.cell? ⟨w.heap.size, 1, none⟩ = some (.int .u16 r.cl) := hg3.cell f1 hneb
  have e2 : w3.cell? ⟨w.heap.size, 2, none⟩ = some (.int .u32 r.ttl) := hg3.cell f2 hneb
  have e3 : w3.cell? ⟨w.heap.size, 3, none⟩ = some (.string r.data) := hg3.cell f3 hneb
  have hs3 : w2.heap.size ≤ w3.heap.size := hg3.size
  have HO3 := show Hid _ from hown3
  have HX3 := show Hid _ from own_cells w3 r
  clear hown3 hg3 f0 f1 f2 f3 hneb
  go_wp2_with (at_builtin; refine wpList_append_fits _ rfl (.tmp 52) (.tmp 54) 22 rfl w1.heap.size 29 i0 4 Try.underlying22 hi hz1 w1.heap.size pos (n + 1) (flat (rs.take pos)) rfl (World.ownsRow.alloc HO3.out _) ⟨w3.heap.size, 0, none⟩ 1 1 (Rec.cells r) rfl rfl HX3.out (cells_oneCell r) (by omega) ?_)
  intro w4 hown4 hg4
  have HB4 : Hid (Below w.heap.size w w4) := (HB3.out.alloc (by omega) _).grown hg4 (by simp; omega) (fun k h => by cases h; omega)
  have hneb : some w.heap.size ≠ some w1.heap.size := by simp; omega
  have f0 : w4.cell? ⟨w.heap.size, 0, none⟩ = some (.int .u16 r.ty) := hg4.cell ((World.cell?_alloc_past _ _ _ (by omega)).trans e0) hneb
  have hs4 : w3.heap.size + 1 ≤ w4.heap.size := by have := hg4.size; simpa using this
  have HO4 := show Hid _ from hown4
  clear hown4 hg4 e0 e1 e2 e3 hneb
  have HC2 := show Hid _ from (HF2.out w4 rs HN.out (HR.out.below HB4.out)).cells
  have HL2 : Hid ((flat (rs.drop pos)).length = (n - pos) * 4) := flat_drop_len HN.out
  have HA2 : Hid (a2 = none → n - pos = 0 ∧ cap - pos = 0) := fun h => by have := HZ.out (HN2.out h); omega
  go_wp2_with (at_builtin; refine wpList_append_fits_any _ rfl (.tmp 56) (.tmp 59) 22 rfl w1.heap.size 29 i0 4 Try.underlying22 hi hz1 w1.heap.size (pos + 1) (n + 1) (flat (rs.take pos) ++ Rec.cells r) rfl HO4.out a2 (n - pos) (cap - pos) (flat (rs.drop pos)) rfl HL2.out HA2.out HC2.out (flat_oneCell _) (by omega) ?_)
  intro w5 hown5 hg5
  have HB5 : Hid (Below w.heap.size w w5) := HB4.out.grown hg5 (by omega) (fun k h => by cases h; omega)
  have hneb : some w.heap.size ≠ some w1.heap.size := by simp; omega
  have g0 : w5.cell? ⟨w.heap.size, 0, none⟩ = some (.int .u16 r.ty) := hg5.cell f0 hneb
  have hs5 : w4.heap.size ≤ w5.heap.size := hg5.size
  have HRI : Hid (Recs w5 (some ⟨w1.heap.size, 0, none⟩) (rs.take pos ++ r :: rs.drop pos)) := recs_of_owns (by rw [ins_flat]; exact hown5) (ins_len HN.out hpos)
  have HLI : Hid ((rs.take pos ++ r :: rs.drop pos).length = pos + 1 + (n - pos)) := ins_len HN.out hpos
  have HRW : Hid (Recs w5 a rs) := HR.out.below HB5.out
  have HR1 : Hid (Recs w5 a1 (rs.take pos)) := HF1.out w5 rs HN.out hpos HRW.out
  have HR2 : Hid (Recs w5 a2 (rs.drop pos)) := HF2.out w5 rs HN.out HRW.out
  have HLT : Hid ((rs.take pos).length = pos) := take_len HN.out hpos
  have HLD : Hid ((rs.drop pos).length = n - pos) := drop_len HN.out
  clear hown5 hg5 f0 hneb HO2 HO3 HO4 HC1 HC2 HX3 HB1 HB2 HB3 HB4
  have HZ0 : Hid (Below w5.heap.size w5 w5) := Below.refl _ _
  go_wp2_with fail
  refine (toUpdate_any a n cap rs _ HN.out (by omega) (HRW.out.below HZ0.out)).mono ?_
  rintro e y1 ⟨⟨b1, c1, rfl, hx1⟩, hy1⟩
  have HX1 : Hid (Recs y1 b1 rs) := hx1
  have HY1 : Hid (Below w5.heap.size w5 y1) := (HZ0.out).trans (hy1.mono (HZ0.out).size)
  clear hx1 hy1
  go_wp2_with fail
  refine (zzCount_any b1 n c1 rs t _ HN.out (by omega) HX1.out).mono ?_
  rintro e z1 ⟨rfl, hz1'⟩
  have HZ1 : Hid (Below w5.heap.size w5 z1) := HY1.out.trans (hz1'.mono HY1.out.size)
  clear hz1'
  go_wp2_with fail
  refine (toUpdate_any (some ⟨w1.heap.size, 0, none⟩) (pos + 1 + (n - pos)) _ (rs.take pos ++ r :: rs.drop pos) _ HLI.out (by omega) (HRI.out.below HZ1.out)).mono ?_
  rintro e y2 ⟨⟨b2, c2, rfl, hx2⟩, hy2⟩
  have HX2 : Hid (Recs y2 b2 (rs.take pos ++ r :: rs.drop pos)) := hx2
  have HY2 : Hid (Below w5.heap.size w5 y2) := (HZ1.out).trans (hy2.mono (HZ1.out).size)
  clear hx2 hy2
  go_wp2_with fail
  refine (zzCount_any b2 (pos + 1 + (n - pos)) c2 (rs.take pos ++ r :: rs.drop pos) t _ HLI.out (by omega) HX2.out).mono ?_
  rintro e z2 ⟨rfl, hz2'⟩
  have HZ2 : Hid (Below w5.heap.size w5 z2) := HY2.out.trans (hz2'.mono HY2.out.size)
  clear hz2'
  go_wp2_with fail
  refine (toUpdate_any a1 pos _ (rs.take pos) _ HLT.out (by omega) (HR1.out.below HZ2.out)).mono ?_
  rintro e y3 ⟨⟨b3, c3, rfl, hx3⟩, hy3⟩
  have HX3 : Hid (Recs y3 b3 (rs.take pos)) := hx3
  have HY3 : Hid (Below w5.heap.size w5 y3) := (HZ2.out).trans (hy3.mono (HZ2.out).size)
  clear hx3 hy3
  go_wp2_with fail
  refine (zzCount_any b3 pos c3 (rs.take pos) t _ HLT.out (by omega) HX3.out).mono ?_
  rintro e z3 ⟨rfl, hz3'⟩
  have HZ3 : Hid (Below w5.heap.size w5 z3) := HY3.out.trans (hz3'.mono HY3.out.size)
  clear hz3'
  go_wp2_with fail
  refine (toUpdate_any a2 (n - pos) _ (rs.drop pos) _ HLD.out (by omega) (HR2.out.below HZ3.out)).mono ?_
  rintro e y4 ⟨⟨b4, c4, rfl, hx4⟩, hy4⟩
  have HX4 : Hid (Recs y4 b4 (rs.drop pos)) := hx4
  have HY4 : Hid (Below w5.heap.size w5 y4) := (HZ3.out).trans (hy4.mono (HZ3.out).size)
  clear hx4 hy4
  go_wp2_with fail
  refine (zzCount_any b4 (n - pos) c4 (rs.drop pos) t _ HLD.out (by omega) HX4.out).mono ?_
  rintro e z4 ⟨rfl, hz4'⟩
  have HZ4 : Hid (Below w5.heap.size w5 z4) := HY4.out.trans (hz4'.mono HY4.out.size)
  clear hz4'
  have g4 : z4.cell? ⟨w.heap.size, 0, none⟩ = some (.int .u16 r.ty) := (HZ4.out.cell (p := ⟨w.heap.size, 0, none⟩) (by simp only; omega)).trans g0
  have HFIN : Hid (Below w.heap.size w z4) := HB5.out.trans (HZ4.out.mono (by omega))
  have hsum := cnt_cut t rs pos
  have hins := cnt_ins t rs r pos
  have hl1 : cnt t (rs.take pos) ≤ pos := by have := cnt_le t (rs.take pos); rw [HLT.out] at this; exact this
  have hl2 : cnt t (rs.drop pos) ≤ n - pos := by have := cnt_le t (rs.drop pos); rw [HLD.out] at this; exact this
  have hl0 : cnt t rs ≤ n := by have := cnt_le t rs; rw [HN.out] at this; exact this
  revert hsum hins hl1 hl2 hl0
  generalize cnt t rs = cb
  generalize cnt t (rs.take pos ++ r :: rs.drop pos) = ca
  generalize cnt t (rs.take pos) = cl
  generalize cnt t (rs.drop pos) = cr
  intro hsum hins hl1 hl2 hl0
  have k1 : ((cl : Int) + (cr : Int) == (cb : Int)) = true := beq_iff_eq.2 (by omega)
  have k2 : decide (cl ≤ pos) = true := decide_eq_true hl1
  have k3 : decide ((cr : Int) ≤ (n : Int) - (pos : Int)) = true := decide_eq_true (by omega)
  clear HX1 HX2 HX3 HX4 HY1 HY2 HY3 HY4 HZ0 HZ1 HZ2 HZ3 HZ4 HRI HRW HR1 HR2 HLI HLT HLD
  cases q : (r.ty == t) with
  | true =>
    rw [q] at hins
    have k4 : ((ca : Int) == (cb : Int) + 1) = true := beq_iff_eq.2 (by simp at hins; omega)
    clear hins hsum
    go_wp2
    go_ret
    exact ⟨rfl, HFIN.out⟩
  | false =>
    rw [q] at hins
    have k4 : ((ca : Int) == (cb : Int)) = true := beq_iff_eq.2 (by simp at hins; omega)
    clear hins hsum
    go_wp2
    go_ret
    exact ⟨rfl, HFIN.out⟩
end Go.Proofs.Qxb6618071a.fnCountInsertAtAnyPlace
