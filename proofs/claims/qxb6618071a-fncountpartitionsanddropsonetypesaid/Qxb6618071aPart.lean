import Derived.Test.Qxb6618071aTypes
import Derived.Test.Qxb6618071aBytes
namespace Go.Proofs.Qxb6618071a.fnCountPartitionsAndDropsOneType
open Go.RowKit
set_option linter.unusedVariables false

theorem Try.info23 : (Try.prog.info? 23).map (fun i => (i.zero, i.size, i.bytes)) = some (some (.int .u16 0), 1, 2) := by kernel_rfl

/-- the slice 'types' of the call's own. -/
def TyR (B : Nat) (w : World) (v : Value) (T : List Int) : Prop := w.ownsRow B 23 1 v T.length (T.map (Value.int .u16))
/-- the slice 'rest' of the call's own. -/
def ReR (B : Nat) (w : World) (v : Value) (rs : List Rec) : Prop := w.ownsRow B 29 4 v rs.length (flat rs)

theorem owns_shape {w : World} {B : Nat} {e : TypeId} {sz : Nat} {v : Value} {n : Nat} {xs : List Value} (h : w.ownsRow B e sz v n xs) :
    ∃ a c, v = .slice a n c ∧ (0 < n → ∃ g, a = some ⟨g, 0, none⟩) := by
  rcases h.2 with ⟨rfl, rfl⟩ | ⟨g, cap, cur, rfl, _⟩
  · exact ⟨none, 0, rfl, fun h => absurd h (Nat.lt_irrefl _)⟩
  · exact ⟨_, _, rfl, fun _ => ⟨g, rfl⟩⟩

theorem TyR.cell {B : Nat} {w : World} {g n c : Nat} {T : List Int} (h : TyR B w (.slice (some ⟨g, 0, none⟩) n c) T) (hn : T.length = n) (j : Nat) (hj : j < T.length) : w.cell? ⟨g, j, none⟩ = some (.int .u16 T[j]) := by
  subst hn
  have := World.ownsRow.cellAt h j (by omega)
  rw [this]
  simp [hj]
theorem TyR.drew {B : Nat} {w : World} {v : Value} {T : List Int} (h : TyR B w v T) : TyR B w.drew v T := World.ownsRow.drew h

/-- what holds at the head of the inner loop's round q. -/
def Inner (B : Nat) (w : World) (v : Value) (T : List Int) (ty : Int) (q : Nat) (wr : World) : Prop :=
  TyR B wr v T ∧ Below B w wr ∧ ∀ i (h : i < T.length), i < q → T[i] ≠ ty
theorem Inner.step {B : Nat} {w : World} {v : Value} {T : List Int} {ty : Int} {q : Nat} {wr : World} (h : Inner B w v T ty q wr) (hq : q < T.length) (hne : T[q] ≠ ty) : Inner B w v T ty (q + 1) wr.drew :=
  ⟨h.1.drew, h.2.1.drew, fun i hi hiq => by
    by_cases e : i = q
    · subst e; exact hne
    · exact h.2.2 i hi (by omega)⟩

/-- the types as they lie in memory. -/
def TysAt (w : World) (a : Option Addr) (T : List Int) : Prop := 0 < T.length → ∃ g, a = some ⟨g, 0, none⟩ ∧ ∀ j (h : j < T.length), w.cell? ⟨g, j, none⟩ = some (.int .u16 T[j])
theorem TysAt.below {w w' : World} {a : Option Addr} {T : List Int} (h : TysAt w a T) (hb : Below w.heap.size w w') : TysAt w' a T := by
  intro hp
  obtain ⟨g, ha, hc⟩ := h hp
  exact ⟨g, ha, fun j hj => (hb.cell (p := ⟨g, j, none⟩) (block_lt_of_cell (hc j hj))).trans (hc j hj)⟩

theorem own_cells (w : World) (r : Rec) : ∀ j u, (Rec.cells r)[j]? = some u → (w.alloc (.cells #[.int .u16 r.ty, .int .u16 r.cl, .int .u32 r.ttl, .string r.data] 29)).cell? ((⟨w.heap.size, 0, none⟩ : Addr).add j) = some u := by
  intro j u h
  rw [add_flat, Nat.zero_add, World.cell?_alloc_at _ _ _ _ rfl, ← h]
  simp [Rec.cells]
theorem cells_oneCell (r : Rec) : ∀ u ∈ Rec.cells r, u.oneCell' = true := fun u hu => flat_oneCell [r] u (by rw [flat_one]; exact hu)

theorem ReR.own {B : Nat} {w : World} {v : Value} {rs : List Rec} {m : Nat} (h : ReR B w v rs) (hm : rs.length = m) : w.ownsRow B 29 4 v m (flat rs) := by
  subst hm; exact h
theorem contains_take (t : Int) (T : List Int) (q : Nat) (h : q < T.length) : (T.take (q + 1)).contains t = ((T.take q).contains t || (T[q] == t)) := by
  rw [List.take_succ_eq_append_getElem h, List.contains_append, List.contains_cons]
  simp only [List.contains_nil, Bool.or_false]
  rw [BEq.comm]
theorem hide {p : Prop} (h : p) : Hid p := h

set_option maxRecDepth 100000 in
set_option maxHeartbeats 4000000 in
theorem main_way (a : Option Addr) (n cap : Nat) (rs : List Rec) (t : Int) (w : World) (hn : rs.length = n) (hr : Recs w a rs) (h12 : n ≤ 4096) :
    Calls Try.prog 3 #[.slice a n cap, .int .u16 t] w fun e w' => e = .returned (.bool true) ∧ Below w.heap.size w w' := by
  have HN : Hid (rs.length = n) := hn
  have HR : Hid (Recs w a rs) := hr
  clear hn hr
  obtain ⟨i0, hi, hz0, hz1, hz2⟩ := info_parts Try.info29
  obtain ⟨i1, hi', hz0', hz1', hz2'⟩ := info_parts Try.info23
  have d12 : decide ((4096 : Int) < (n : Int)) = false := decide_eq_false (by omega)
  go_enter Try.func3, Try.ntmps3
  go_wp2_with fail
  refine (bytes6_any a n cap rs t _ HN.out HR.out (by unfold maxLen; omega)).mono ?_
  rintro e w' ⟨⟨b, rfl⟩, rfl⟩
  cases b
  · go_wp2
    go_ret
    exact ⟨rfl, Below.refl _ _⟩
  go_wp2_with fail
  refine (bytes7_any a n cap rs 0 _ HN.out HR.out (by unfold maxLen; omega)).mono ?_
  rintro e w' ⟨⟨z, rfl⟩, rfl⟩
  by_cases hzn : z < 0
  · go_wp2
    go_ret
    exact ⟨rfl, Below.refl _ _⟩
  have hzd : decide (z < 0) = false := decide_eq_false hzn
  clear hzn
  rename World => w
  go_wp2
  go_loopw [5, 6] (fun v i wr => ∃ k : Nat, k ≤ n ∧ i = .int .i64 k ∧ TyR w.heap.size wr v (tys (rs.take k)) ∧ Below w.heap.size w wr) (fun _ i _ => n - (intOf i).toNat)
  case atStart => exact ⟨0, Nat.zero_le _, rfl, World.ownsRow_nil _ _ _ _, Below.refl _ _⟩
  case round =>
    obtain ⟨k, hk, rfl, hown, hbl⟩ := hrel
    by_cases hlt : k < n
    · have hkr : k < rs.length := by rw [HN.out]; exact hlt
      obtain ⟨b, off, hA, hc⟩ := HR.out (by omega)
      cases hA
      have hck := (hc k hkr).c0
      have HCK : Hid (∀ wq, Below w.heap.size w wq → wq.cell? ⟨b, off + k * 4, none⟩ = some (.int .u16 rs[k].ty)) := fun wq hq => ((hc k hkr).below hq (Nat.le_refl _)).c0
      have htt := tys_take rs k hkr
      have hTl : (tys (rs.take k)).length ≤ 4096 := by have := tys_len (rs.take k); have := List.length_take_le k rs; omega
      have HTT := show Hid _ from htt
      clear htt hc hck
      generalize rs[k].ty = ty at *
      generalize tys (rs.take k) = T at *
      obtain ⟨ta, tc, rfl, htg⟩ := owns_shape hown
      obtain ⟨m, hm⟩ : ∃ m, T.length = m := ⟨_, rfl⟩
      rw [hm] at htg hTl
      have hown' : TyR w.heap.size wr (.slice ta m tc) T := by rw [← hm]; exact hown
      rw [hm]
      have HM : Hid (T.length = m) := hm
      have HI : Hid (Inner w.heap.size w (.slice ta m tc) T ty 0 wr) := ⟨hown', hbl, fun i _ h => absurd h (Nat.not_lt_zero _)⟩
      clear hown hbl hm hown'
      have HTG : Hid (0 < m → ∃ g, ta = some ⟨g, 0, none⟩) := htg
      clear htg
      go_wp2
      go_loopw [7, 8] (fun s j wr => s = .bool false ∧ ∃ q : Nat, q ≤ m ∧ j = .int .i64 q ∧ Inner w.heap.size w (.slice ta m tc) T ty q wr) (fun _ j _ => m - (intOf j).toNat)
      case atStart => exact ⟨rfl, 0, Nat.zero_le _, rfl, HI.out⟩
      case round =>
        clear HI
        obtain ⟨rfl, q, hq, rfl, hin⟩ := hrel
        by_cases hqm : q < m
        · obtain ⟨g, rfl⟩ := HTG.out (by omega)
          have hqT : q < T.length := by rw [HM.out]; exact hqm
          have hcq := hin.1.cell HM.out q hqT
          have hck := HCK.out _ hin.2.1
          have HIN := show Hid _ from hin
          clear hin
          have hqi : (q : Int) < (m : Int) := by omega
          have hki : (k : Int) < (n : Int) := by omega
          cases qe : (T[q] == ty) with
          | true =>
            have HT : Hid (tys (rs.take (k + 1)) = T) := HTT.out.trans (if_pos (by simp; exact List.mem_iff_getElem.2 ⟨q, hqT, beq_iff_eq.1 qe⟩))
            go_wp2
            go_region
            go_wp2
            go_roundw
            case rel => exact ⟨k + 1, by omega, by go_num, by rw [HT.out]; exact TyR.drew HIN.out.1, HIN.out.2.1.drew⟩
            case measure => simp [intOf]; omega
          | false =>
            have HST := show Hid _ from Inner.step HIN.out hqT (by simpa using qe)
            go_wp2
            go_region
            go_wp2
            go_roundw
            case rel => exact ⟨rfl, q + 1, by omega, by go_num, HST.out⟩
            case measure => simp [intOf]; omega
        · have hqe : q = T.length := by rw [HM.out]; omega
          have HT : Hid (tys (rs.take (k + 1)) = T ++ [ty]) := HTT.out.trans (if_neg (by
            simp only [List.contains_iff_mem]
            intro hmem
            obtain ⟨i, hi, he⟩ := List.mem_iff_getElem.1 hmem
            exact hin.2.2 i hi (by omega) he))
          have hck := HCK.out _ hin.2.1
          have HB := show Hid _ from hin.2.1
          have hwb : w.heap.size ≤ wr.heap.size := hin.2.1.size
          have HO : Hid (wr.ownsRow w.heap.size 23 1 (.slice ta m tc) m (T.map (Value.int .u16))) := by have h1 := hin.1; unfold TyR at h1; rw [HM.out] at h1; exact h1
          clear hin hqe
          go_wp2_with (at_builtin; refine wpList_append_own _ rfl (.tmp 54) (.tmp 60) 26 rfl w.heap.size 23 i1 (.int .u16 0) 1 2 Try.underlying26 hi' hz0' hz1' hz2' rfl (by decide) (.slice ta m tc) m (T.map (Value.int .u16)) rfl (World.ownsRow.alloc HO.out _) ⟨wr.heap.size, 0, none⟩ 1 1 [.int .u16 ty] rfl rfl ?c1 ?c2 ?c3 ?c4 ?c5 ?_)
          case c1 => exact cell_one_new _ _ _
          case c2 => intro u hu; simp at hu; subst hu; rfl
          case c3 => unfold maxLen; omega
          case c4 => omega
          case c5 => simp; omega
          intro v' w1 hown' hgrow _
          have HO' : Hid (TyR w.heap.size w1 v' (tys (rs.take (k + 1)))) := by rw [HT.out]; unfold TyR; rw [List.length_append, HM.out, List.map_append]; exact hown'
          have HB' : Hid (Below w.heap.size w w1) := (HB.out.alloc hwb _).grown hgrow (by simp; omega) (fun g hg => (World.ownsRow.lt HO.out g hg).1)
          clear hown' hgrow
          go_wp2
          go_roundw
          case rel => exact ⟨k + 1, by omega, by go_num, HO'.out, HB'.out⟩
          case measure => simp [intOf]; omega
    · have hke : rs.take k = rs := List.take_of_length_le (by rw [HN.out]; omega)
      rw [hke] at hown
      clear hke
      obtain ⟨ta, tc, rfl, htg⟩ := owns_shape hown
      obtain ⟨m, hm⟩ : ∃ m, (tys rs).length = m := ⟨_, rfl⟩
      rw [hm] at htg
      rw [hm]
      have HM : Hid ((tys rs).length = m) := hm
      have hml : m ≤ 4096 := by rw [← hm]; exact Nat.le_trans (tys_len rs) (by rw [HN.out]; exact h12)
      have HTY : Hid (TysAt wr ta (tys rs)) := by
        intro hp
        obtain ⟨g, rfl⟩ := htg (by omega)
        exact ⟨g, rfl, fun j hj => TyR.cell (n := m) (by rw [← hm]; exact hown) hm j hj⟩
      have HB1 : Hid (Below w.heap.size w wr) := hbl
      have HRX : Hid (Recs wr a rs) := HR.out.below hbl
      clear hown hbl hm htg
      go_wp2
      clear hlt hk
      obtain ⟨x, hx⟩ : ∃ x, wr = x := ⟨_, rfl⟩
      subst hx
      rename World => x
      go_loopw [9, 10] (fun v i wr => ∃ k : Nat, k ≤ n ∧ i = .int .i64 k ∧ ReR x.heap.size wr v (rest t (rs.take k)) ∧ Below x.heap.size x wr) (fun _ i _ => n - (intOf i).toNat)
      case atStart => exact ⟨0, Nat.zero_le _, rfl, World.ownsRow_nil _ _ _ _, Below.refl _ _⟩
      case round =>
        obtain ⟨k, hk, rfl, hown, hbl⟩ := hrel
        by_cases hlt : k < n
        · have hkr : k < rs.length := by rw [HN.out]; exact hlt
          obtain ⟨b, off, hA, hc⟩ := HRX.out (by omega)
          cases hA
          obtain ⟨e0, e1, e2, e3⟩ := (hc k hkr).below hbl (Nat.le_refl _)
          have HTT := show Hid _ from rest_take t rs k hkr
          have hTl : (rest t (rs.take k)).length ≤ 4096 := by have := rest_len t (rs.take k); have := List.length_take_le k rs; omega
          have HO : Hid (ReR x.heap.size wr _ _) := hown
          have HB : Hid (Below x.heap.size x wr) := hbl
          have hwb : x.heap.size ≤ wr.heap.size := hbl.size
          clear hc hown hbl
          cases qe : (rs[k].ty != t) with
          | true =>
            have HT : Hid (rest t (rs.take (k + 1)) = rest t (rs.take k) ++ [rs[k]]) := HTT.out.trans (if_pos qe)
            have HX := show Hid _ from own_cells wr rs[k]
            obtain ⟨m9, hm9⟩ : ∃ m9, (rest t (rs.take k)).length = m9 := ⟨_, rfl⟩
            have ho9 := ReR.own HO.out hm9
            have HO9 := hide ho9
            clear ho9
            have HM9 : Hid ((rest t (rs.take k)).length = m9) := hm9
            rw [hm9] at hTl
            clear hm9
            go_wp2_with (at_builtin; refine wpList_append_own _ rfl (.tmp 75) (.tmp 80) 22 rfl x.heap.size 29 i0 _ 4 24 Try.underlying22 hi hz0 hz1 hz2 rfl (by decide) _ m9 (flat (rest t (rs.take k))) rfl (World.ownsRow.alloc HO9.out _) ⟨wr.heap.size, 0, none⟩ 1 1 (Rec.cells rs[k]) rfl rfl HX.out (cells_oneCell _) ?c3 ?c4 ?c5 ?_)
            case c3 => unfold maxLen; omega
            case c4 => omega
            case c5 => simp; omega
            intro v' w1 hown' hgrow _
            have HO' : Hid (ReR x.heap.size w1 v' (rest t (rs.take (k + 1)))) := by rw [HT.out]; unfold ReR; rw [List.length_append, HM9.out, flat_append, flat_one]; exact hown'
            have HB' : Hid (Below x.heap.size x w1) := (HB.out.alloc hwb _).grown hgrow (by simp; omega) (fun g hg => (World.ownsRow.lt HO9.out g hg).1)
            clear hown' hgrow
            go_wp2
            go_roundw
            case rel => exact ⟨k + 1, by omega, by go_num, HO'.out, HB'.out⟩
            case measure => simp [intOf]; omega
          | false =>
            have HT : Hid (rest t (rs.take (k + 1)) = rest t (rs.take k)) := HTT.out.trans (if_neg (by simp [qe]))
            go_wp2
            go_roundw
            case rel => exact ⟨k + 1, by omega, by go_num, by rw [HT.out]; exact HO.out, HB.out⟩
            case measure => simp [intOf]; omega
        · have hke : rs.take k = rs := List.take_of_length_le (by rw [HN.out]; omega)
          rw [hke] at hown
          clear hke
          obtain ⟨ra, rc, rfl, hrg⟩ := owns_shape hown
          obtain ⟨m9, hm9⟩ : ∃ m9, (rest t rs).length = m9 := ⟨_, rfl⟩
          have HM9 : Hid ((rest t rs).length = m9) := hm9
          have hm9l : m9 ≤ 4096 := by rw [← hm9]; exact Nat.le_trans (rest_len t rs) (by rw [HN.out]; exact h12)
          have HRR : Hid (Recs wr ra (rest t rs)) := by
            intro hp
            obtain ⟨g, hg⟩ := hrg hp
            subst hg
            exact recs_of_owns hown rfl hp
          rw [hm9]
          have HB2 : Hid (Below x.heap.size x wr) := hbl
          have HRY : Hid (Recs wr a rs) := HRX.out.below hbl
          have HTY2 : Hid (TysAt wr ta (tys rs)) := HTY.out.below hbl
          have HBW : Hid (Below w.heap.size w wr) := HB1.out.trans (hbl.mono HB1.out.size)
          clear hown hrg hm9 hbl
          go_wp2_with fail
          refine (toUpdate_any a n cap rs _ HN.out (by omega) HRY.out).mono ?_
          rintro e y ⟨⟨a8, c8, rfl, hr8⟩, hb8⟩
          have HR8 := hide hr8
          have HRR8 : Hid (Recs y ra (rest t rs)) := HRR.out.below hb8
          have HTY8 : Hid (TysAt y ta (tys rs)) := HTY2.out.below hb8
          have HBY : Hid (Below w.heap.size w y) := HBW.out.trans (hb8.mono HBW.out.size)
          clear hr8 hb8
          go_wp2_with fail
          refine (toUpdate_any ra m9 rc (rest t rs) _ HM9.out (by omega) HRR8.out).mono ?_
          rintro e z ⟨⟨a9, c9, rfl, hr9⟩, hb9⟩
          have HR9 := hide hr9
          have HR8z : Hid (Recs z a8 rs) := Recs.below HR8.out hb9
          have HTYz : Hid (TysAt z ta (tys rs)) := HTY8.out.below hb9
          have HBZ : Hid (Below w.heap.size w z) := HBY.out.trans (hb9.mono HBY.out.size)
          clear hr9 hb9 HRX HTY HB1 HRR HB2 HRY HTY2 HBW HR8 HRR8 HTY8 HBY
          go_wp2
          go_loopw [13, 14, 15, 16] (fun s1 s2 pr j wr => ∃ q : Nat, q ≤ m ∧ j = .int .i64 q ∧ s1 = .int .i64 (sums ((tys rs).take q) rs : Int) ∧ s2 = .int .i64 (sums ((tys rs).take q) (rest t rs) : Int) ∧ pr = .bool (((tys rs).take q).contains t) ∧ Below z.heap.size z wr) (fun _ _ _ j _ => m - (intOf j).toNat)
          case atStart => exact ⟨0, Nat.zero_le _, rfl, rfl, rfl, rfl, Below.refl _ _⟩
          case round =>
            obtain ⟨q, hq, rfl, rfl, rfl, rfl, hbl⟩ := hrel
            by_cases hqm : q < m
            · have hqT : q < (tys rs).length := by rw [HM.out]; exact hqm
              obtain ⟨g, hg, hcells⟩ := HTYz.out (by omega)
              cases hg
              have hcq := (hbl.cell (p := ⟨g, q, none⟩) (block_lt_of_cell (hcells q hqT))).trans (hcells q hqT)
              have hmem : (tys rs)[q] ∈ tys rs := List.getElem_mem hqT
              have hc1 := cnt_pos _ rs hmem
              have hc2 : cnt (tys rs)[q] rs ≤ n := by have := cnt_le (tys rs)[q] rs; rw [HN.out] at this; exact this
              have HS1 := hide (sums_take (tys rs) rs q hqT)
              have HS2 := hide (sums_take (tys rs) (rest t rs) q hqT)
              have hl1 := sums_le ((tys rs).take q) rs 0 (by have := List.length_take_le q (tys rs); omega) (by rw [HN.out]; omega)
              have hl2 := sums_le ((tys rs).take q) (rest t rs) 0 (by have := List.length_take_le q (tys rs); omega) (by rw [HM9.out]; omega)
              have HCT := hide (contains_take t (tys rs) q hqT)
              have HRc : Hid ((tys rs)[q] = t → cnt (tys rs)[q] (rest t rs) = 0) := fun h => by rw [h]; exact cnt_rest_same t rs
              have HRd : Hid ((tys rs)[q] ≠ t → cnt (tys rs)[q] (rest t rs) = cnt (tys rs)[q] rs) := fun h => cnt_rest_other t _ rs h
              clear hmem hcells
              have HBL := hide hbl
              have HR8q : Hid (Recs wr a8 rs) := HR8z.out.below hbl
              clear hbl
              revert hcq hc1 hc2 HS1 HS2 HCT HRc HRd
              generalize hu : (tys rs)[q] = u
              have HU := hide hu
              clear hu
              generalize hcu : cnt u rs = cu
              have HCU := hide hcu
              clear hcu
              generalize hcv : cnt u (rest t rs) = cv
              have HCV := hide hcv
              clear hcv
              intro hcq hc1 hc2 HS1 HS2 HCT HRc HRd
              have hcv2 : cv ≤ 4096 := by rw [← HCV.out]; exact Nat.le_trans (cnt_le u (rest t rs)) (by rw [HM9.out]; exact hm9l)
              go_wp2_with fail
              refine (zzCount_any a8 n c8 rs u _ HN.out (by omega) HR8q.out).mono ?_
              rintro e y1 ⟨rfl, hb1⟩
              rw [HCU.out]
              have HR9q : Hid (Recs y1 a9 (rest t rs)) := (Recs.below HR9.out HBL.out).below hb1
              have HB1 : Hid (Below z.heap.size z y1) := Below.trans HBL.out (hb1.mono (Below.size HBL.out))
              clear hb1
              go_wp2_with fail
              refine (zzCount_any a9 m9 c9 (rest t rs) u _ HM9.out (by omega) HR9q.out).mono ?_
              rintro e y2 ⟨rfl, hb2⟩
              rw [HCV.out]
              have HB2 : Hid (Below z.heap.size z y2) := HB1.out.trans (hb2.mono HB1.out.size)
              clear hb2
              have k1 : decide ((cu : Int) < 1) = false := decide_eq_false (by omega)
              have k2 : decide (n < cu) = false := decide_eq_false (by omega)
              cases qe : (u == t) with
              | true =>
                have hcv0 := HRc.out (by simpa using qe)
                subst hcv0
                go_wp2
                go_roundw
                case rel => exact ⟨q + 1, by omega, by go_num, by rw [HS1.out]; go_num, by rw [HS2.out]; go_num, by rw [HCT.out, qe]; simp, HB2.out⟩
                case measure => simp [intOf]; omega
              | false =>
                have hcv0 := HRd.out (by simpa using qe)
                subst hcv0
                go_wp2
                go_roundw
                case rel => exact ⟨q + 1, by omega, by go_num, by rw [HS1.out]; go_num, by rw [HS2.out]; go_num, by rw [HCT.out, qe]; simp, HB2.out⟩
                case measure => simp [intOf]; omega
            · have hke : (tys rs).take q = tys rs := List.take_of_length_le (by rw [HM.out]; omega)
              have hS1 : sums ((tys rs).take q) rs = n := by rw [hke, sums_tys, HN.out]
              have hS2 : sums ((tys rs).take q) (rest t rs) = m9 := by rw [hke, sums_rest, HM9.out]
              rw [hS1, hS2, hke]
              clear hS1 hS2 hke
              have HBL := hide hbl
              have HR8q : Hid (Recs wr a8 rs) := HR8z.out.below hbl
              have HBF : Hid (Below w.heap.size w wr) := HBZ.out.trans (hbl.mono HBZ.out.size)
              clear hbl
              cases hct : (tys rs).contains t with
              | true =>
                go_wp2
                go_ret
                exact ⟨rfl, HBF.out⟩
              | false =>
                have hc0 : cnt t rs = 0 := cnt_zero t rs (by simpa using hct)
                have HC0 := hide hc0
                clear hc0 hct
                go_wp2_with fail
                refine (zzCount_any a8 n c8 rs t _ HN.out (by omega) HR8q.out).mono ?_
                rintro e y1 ⟨rfl, hb1⟩
                rw [HC0.out]
                have HBF2 : Hid (Below w.heap.size w y1) := HBF.out.trans (hb1.mono HBF.out.size)
                clear hb1
                go_wp2
                go_ret
                exact ⟨rfl, HBF2.out⟩
end Go.Proofs.Qxb6618071a.fnCountPartitionsAndDropsOneType
