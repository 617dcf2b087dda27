import Derived.WalkKit
import Derived.ProofKit
import Derived.WalkLawsBesides
import Derived.WalkSpells
import Derived.Deep.OwnRows
namespace Go.Proofs.Qxb6618071a
open Go.RowKit
set_option linter.unusedVariables false

theorem ret_bool {a b : Bool} (h : a = b) : Ending.returned (.bool a) = .returned (.bool b) := by rw [h]
theorem ret_int {k : IntKind} {a b : Int} (h : a = b) : Ending.returned (.int k a) = .returned (.int k b) := by rw [h]

/-! ### The records, and how they lie in memory -/
structure Rec where
  ty : Int
  cl : Int
  ttl : Int
  data : ByteArray

/-- Four cells: a Rec, a ZZRec. -/
structure RecAt (w : World) (b o : Nat) (r : Rec) : Prop where
  c0 : w.cell? ⟨b, o, none⟩ = some (.int .u16 r.ty)
  c1 : w.cell? ⟨b, o + 1, none⟩ = some (.int .u16 r.cl)
  c2 : w.cell? ⟨b, o + 2, none⟩ = some (.int .u32 r.ttl)
  c3 : w.cell? ⟨b, o + 3, none⟩ = some (.string r.data)
/-- Five cells: a dns.RR whose name is the zero Name. -/
structure RRAt (w : World) (b o : Nat) (r : Rec) : Prop where
  c0 : w.cell? ⟨b, o, none⟩ = some (.string ByteArray.empty)
  c1 : w.cell? ⟨b, o + 1, none⟩ = some (.int .u16 r.ty)
  c2 : w.cell? ⟨b, o + 2, none⟩ = some (.int .u16 r.cl)
  c3 : w.cell? ⟨b, o + 3, none⟩ = some (.int .u32 r.ttl)
  c4 : w.cell? ⟨b, o + 4, none⟩ = some (.string r.data)

def Recs (w : World) (a : Option Addr) (rs : List Rec) : Prop :=
  0 < rs.length → ∃ b off, a = some ⟨b, off, none⟩ ∧ ∀ i (h : i < rs.length), RecAt w b (off + i * 4) rs[i]
def RRs (w : World) (a : Option Addr) (rs : List Rec) : Prop :=
  0 < rs.length → ∃ b off, a = some ⟨b, off, none⟩ ∧ ∀ i (h : i < rs.length), RRAt w b (off + i * 5) rs[i]

theorem RecAt.below {w w' : World} {B b o : Nat} {r : Rec} (h : RecAt w b o r) (hb : Below B w w') (hB : w.heap.size ≤ B) : RecAt w' b o r := by
  have hlt : b < B := Nat.lt_of_lt_of_le (block_lt_of_cell h.c0) hB
  exact ⟨(hb.cell (p := ⟨b, _, none⟩) hlt).trans h.c0, (hb.cell (p := ⟨b, _, none⟩) hlt).trans h.c1, (hb.cell (p := ⟨b, _, none⟩) hlt).trans h.c2, (hb.cell (p := ⟨b, _, none⟩) hlt).trans h.c3⟩
theorem RRAt.below {w w' : World} {B b o : Nat} {r : Rec} (h : RRAt w b o r) (hb : Below B w w') (hB : w.heap.size ≤ B) : RRAt w' b o r := by
  have hlt : b < B := Nat.lt_of_lt_of_le (block_lt_of_cell h.c0) hB
  exact ⟨(hb.cell (p := ⟨b, _, none⟩) hlt).trans h.c0, (hb.cell (p := ⟨b, _, none⟩) hlt).trans h.c1, (hb.cell (p := ⟨b, _, none⟩) hlt).trans h.c2, (hb.cell (p := ⟨b, _, none⟩) hlt).trans h.c3, (hb.cell (p := ⟨b, _, none⟩) hlt).trans h.c4⟩
theorem Recs.below {w w' : World} {a : Option Addr} {rs : List Rec} (h : Recs w a rs) (hb : Below w.heap.size w w') : Recs w' a rs := by
  intro hp
  obtain ⟨b, off, ha, hc⟩ := h hp
  exact ⟨b, off, ha, fun i hi => (hc i hi).below hb (Nat.le_refl _)⟩
theorem RRs.below {w w' : World} {a : Option Addr} {rs : List Rec} (h : RRs w a rs) (hb : Below w.heap.size w w') : RRs w' a rs := by
  intro hp
  obtain ⟨b, off, ha, hc⟩ := h hp
  exact ⟨b, off, ha, fun i hi => (hc i hi).below hb (Nat.le_refl _)⟩
theorem Recs.nil (w : World) (a : Option Addr) : Recs w a [] := fun h => absurd h (by simp)
theorem RRs.nil (w : World) (a : Option Addr) : RRs w a [] := fun h => absurd h (by simp)

/-! ### 'make([]T, n)', an element of several cells -/
theorem run_make_rows {P : Program} (t e : TypeId) (z : Value) (sz bytes : Nat) (ht : P.underlying t = some (.slice e)) (hinfo : (P.info? e).map (fun i => (i.zero, i.size, i.bytes)) = some (some z, sz, bytes))
    (kl kc : IntKind) (n : Nat) (hbytes : bytes * n ≤ 281474976710656) (h63 : n ≤ 9223372036854775807) (w : World) :
    (Instr.makeSlice t (.int kl (n : Int)) (.int kc (n : Int))).run P w = .ok (.slice (some ⟨w.heap.size, 0, none⟩) n n) (w.alloc (.cells (madeCells z.cells (n * sz)) e)) := by
  obtain ⟨i, hi, hzz⟩ := Option.map_eq_some_iff.1 hinfo
  simp only [Prod.mk.injEq] at hzz
  obtain ⟨hz, hs, hb⟩ := hzz
  have hb' : (i.bytes : Int) * (n : Int) ≤ 281474976710656 := by
    have h : ((i.bytes * n : Nat) : Int) ≤ 281474976710656 := by rw [hb]; omega
    rwa [Int.natCast_mul] at h
  have hr := run_make (P := P) w t e i z ht hi hz kl kc n n (by omega) (Int.le_refl _) hb' (by omega)
  simp only [Int.toNat_natCast, hs] at hr
  exact hr

theorem rowIs_madeAny (w : World) (z : Array Value) (n : Nat) (t : TypeId) : ∃ f, (w.alloc (.cells (madeCells z n) t)).rowIs w.heap.size t n f :=
  ⟨fun i => z[i % z.size]!, _, heap_alloc_new _ _, size_madeCells _ _, fun i hi => by simp [madeCells, hi]⟩

/-! ### A row of the call's own that is filled, element by element -/
def Half4 (w wr : World) (t : TypeId) (rs : List Rec) (k : Nat) : Prop :=
  Below w.heap.size w wr ∧ ∃ f, wr.rowIs w.heap.size t (rs.length * 4) f ∧
    ∀ i (h : i < rs.length), i < k → f (i * 4) = .int .u16 rs[i].ty ∧ f (i * 4 + 1) = .int .u16 rs[i].cl ∧ f (i * 4 + 2) = .int .u32 rs[i].ttl ∧ f (i * 4 + 3) = .string rs[i].data
def Half5 (w wr : World) (t : TypeId) (rs : List Rec) (k : Nat) : Prop :=
  Below w.heap.size w wr ∧ ∃ f, wr.rowIs w.heap.size t (rs.length * 5) f ∧
    ∀ i (h : i < rs.length), i < k → f (i * 5) = .string ByteArray.empty ∧ f (i * 5 + 1) = .int .u16 rs[i].ty ∧ f (i * 5 + 2) = .int .u16 rs[i].cl ∧ f (i * 5 + 3) = .int .u32 rs[i].ttl ∧ f (i * 5 + 4) = .string rs[i].data

theorem Half4.start (w : World) (z : Array Value) (t : TypeId) (rs : List Rec) (n : Nat) (hn : n = rs.length * 4) : Half4 w (w.alloc (.cells (madeCells z n) t)) t rs 0 := by
  subst hn
  obtain ⟨f, hf⟩ := rowIs_madeAny w z (rs.length * 4) t
  exact ⟨(Below.refl _ _).alloc (Nat.le_refl _) _, f, hf, fun i _ h => absurd h (Nat.not_lt_zero _)⟩
theorem Half5.start (w : World) (z : Array Value) (t : TypeId) (rs : List Rec) (n : Nat) (hn : n = rs.length * 5) : Half5 w (w.alloc (.cells (madeCells z n) t)) t rs 0 := by
  subst hn
  obtain ⟨f, hf⟩ := rowIs_madeAny w z (rs.length * 5) t
  exact ⟨(Below.refl _ _).alloc (Nat.le_refl _) _, f, hf, fun i _ h => absurd h (Nat.not_lt_zero _)⟩
theorem Half5.drew {w wr : World} {t : TypeId} {rs : List Rec} {k : Nat} (h : Half5 w wr t rs k) : Half5 w wr.drew t rs k := ⟨h.1.drew, h.2⟩

/-- The cells into which the next element goes. -/
theorem Half4.room {w wr : World} {t : TypeId} {rs : List Rec} {k : Nat} (h : Half4 w wr t rs k) (hk : k < rs.length) (j : Nat) (hj : j < 4) :
    (∃ v, wr.cell? ⟨w.heap.size, k * 4 + j, none⟩ = some v) ∧ wr.frozen? ⟨w.heap.size, k * 4 + j, none⟩ = false := by
  obtain ⟨_, f, hf, _⟩ := h
  exact ⟨⟨_, hf.cell (by omega)⟩, hf.frozen _⟩
theorem Half5.room {w wr : World} {t : TypeId} {rs : List Rec} {k : Nat} (h : Half5 w wr t rs k) (hk : k < rs.length) (j : Nat) (hj : j < 5) :
    (∃ v, wr.cell? ⟨w.heap.size, k * 5 + j, none⟩ = some v) ∧ wr.frozen? ⟨w.heap.size, k * 5 + j, none⟩ = false := by
  obtain ⟨_, f, hf, _⟩ := h
  exact ⟨⟨_, hf.cell (by omega)⟩, hf.frozen _⟩

theorem Half4.step {w wr : World} {t : TypeId} {rs : List Rec} {k : Nat} (h : Half4 w wr t rs k) (hk : k < rs.length) :
    Half4 w ((((wr.setCell ⟨w.heap.size, k * 4, none⟩ (.int .u16 rs[k].ty)).setCell ⟨w.heap.size, k * 4 + 1, none⟩ (.int .u16 rs[k].cl)).setCell ⟨w.heap.size, k * 4 + 2, none⟩ (.int .u32 rs[k].ttl)).setCell ⟨w.heap.size, k * 4 + 3, none⟩ (.string rs[k].data)) t rs (k + 1) := by
  obtain ⟨hb, f, hf, hc⟩ := h
  refine ⟨(((hb.setCell (Nat.le_refl _) _).setCell (Nat.le_refl _) _).setCell (Nat.le_refl _) _).setCell (Nat.le_refl _) _, _, (((hf.set _ _).set _ _).set _ _).set _ _, fun i hi hik => ?_⟩
  by_cases e : i = k
  · subst e
    simp
  · obtain ⟨h0, h1, h2, h3⟩ := hc i hi (by omega)
    have n0 : ∀ a b : Nat, a < 4 → b < 4 → ¬ (i * 4 + a = k * 4 + b) := fun a b ha hb => by omega
    have m00 := n0 0 0 (by omega) (by omega); have m01 := n0 0 1 (by omega) (by omega); have m02 := n0 0 2 (by omega) (by omega); have m03 := n0 0 3 (by omega) (by omega)
    have m10 := n0 1 0 (by omega) (by omega); have m11 := n0 1 1 (by omega) (by omega); have m12 := n0 1 2 (by omega) (by omega); have m13 := n0 1 3 (by omega) (by omega)
    have m20 := n0 2 0 (by omega) (by omega); have m21 := n0 2 1 (by omega) (by omega); have m22 := n0 2 2 (by omega) (by omega); have m23 := n0 2 3 (by omega) (by omega)
    have m30 := n0 3 0 (by omega) (by omega); have m31 := n0 3 1 (by omega) (by omega); have m32 := n0 3 2 (by omega) (by omega); have m33 := n0 3 3 (by omega) (by omega)
    simp only [Nat.add_zero] at m00 m01 m02 m03 m10 m20 m30
    refine ⟨?_, ?_, ?_, ?_⟩
    · show (if i * 4 = k * 4 + 3 then _ else if i * 4 = k * 4 + 2 then _ else if i * 4 = k * 4 + 1 then _ else if i * 4 = k * 4 then _ else f (i * 4)) = _
      rw [if_neg m03, if_neg m02, if_neg m01, if_neg m00]; exact h0
    · show (if i * 4 + 1 = k * 4 + 3 then _ else if i * 4 + 1 = k * 4 + 2 then _ else if i * 4 + 1 = k * 4 + 1 then _ else if i * 4 + 1 = k * 4 then _ else f (i * 4 + 1)) = _
      rw [if_neg m13, if_neg m12, if_neg m11, if_neg m10]; exact h1
    · show (if i * 4 + 2 = k * 4 + 3 then _ else if i * 4 + 2 = k * 4 + 2 then _ else if i * 4 + 2 = k * 4 + 1 then _ else if i * 4 + 2 = k * 4 then _ else f (i * 4 + 2)) = _
      rw [if_neg m23, if_neg m22, if_neg m21, if_neg m20]; exact h2
    · show (if i * 4 + 3 = k * 4 + 3 then _ else if i * 4 + 3 = k * 4 + 2 then _ else if i * 4 + 3 = k * 4 + 1 then _ else if i * 4 + 3 = k * 4 then _ else f (i * 4 + 3)) = _
      rw [if_neg m33, if_neg m32, if_neg m31, if_neg m30]; exact h3

theorem Half5.step {w wr : World} {t : TypeId} {rs : List Rec} {k : Nat} (h : Half5 w wr t rs k) (hk : k < rs.length) :
    Half5 w (((((wr.setCell ⟨w.heap.size, k * 5, none⟩ (.string ByteArray.empty)).setCell ⟨w.heap.size, k * 5 + 1, none⟩ (.int .u16 rs[k].ty)).setCell ⟨w.heap.size, k * 5 + 2, none⟩ (.int .u16 rs[k].cl)).setCell ⟨w.heap.size, k * 5 + 3, none⟩ (.int .u32 rs[k].ttl)).setCell ⟨w.heap.size, k * 5 + 4, none⟩ (.string rs[k].data)) t rs (k + 1) := by
  obtain ⟨hb, f, hf, hc⟩ := h
  refine ⟨((((hb.setCell (Nat.le_refl _) _).setCell (Nat.le_refl _) _).setCell (Nat.le_refl _) _).setCell (Nat.le_refl _) _).setCell (Nat.le_refl _) _, _, ((((hf.set _ _).set _ _).set _ _).set _ _).set _ _, fun i hi hik => ?_⟩
  by_cases e : i = k
  · subst e
    simp
  · have hs := hc i hi (by omega)
    have n0 : ∀ a b : Nat, a < 5 → b < 5 → ¬ (i * 5 + a = k * 5 + b) := fun a b ha hb => by omega
    have z0 : ∀ b : Nat, b < 5 → ¬ (i * 5 = k * 5 + b) := fun b hb => by omega
    have keep : ∀ j, (∀ b, b < 5 → ¬ (j = k * 5 + b)) → (if j = k * 5 + 4 then (.string rs[k].data : Value) else if j = k * 5 + 3 then .int .u32 rs[k].ttl else if j = k * 5 + 2 then .int .u16 rs[k].cl else if j = k * 5 + 1 then .int .u16 rs[k].ty else if j = k * 5 then .string ByteArray.empty else f j) = f j := fun j hj => by
      rw [if_neg (hj 4 (by omega)), if_neg (hj 3 (by omega)), if_neg (hj 2 (by omega)), if_neg (hj 1 (by omega)), if_neg (by simpa using hj 0 (by omega))]
    exact ⟨(keep _ (fun b hb => z0 b hb)).trans hs.1, (keep _ (fun b hb => n0 1 b (by omega) hb)).trans hs.2.1, (keep _ (fun b hb => n0 2 b (by omega) hb)).trans hs.2.2.1, (keep _ (fun b hb => n0 3 b (by omega) hb)).trans hs.2.2.2.1, (keep _ (fun b hb => n0 4 b (by omega) hb)).trans hs.2.2.2.2⟩

theorem Half4.done {w wr : World} {t : TypeId} {rs : List Rec} (h : Half4 w wr t rs rs.length) : Recs wr (some ⟨w.heap.size, 0, none⟩) rs := by
  obtain ⟨hb, f, hf, hc⟩ := h
  refine fun _ => ⟨w.heap.size, 0, rfl, fun i hi => ?_⟩
  obtain ⟨h0, h1, h2, h3⟩ := hc i hi hi
  rw [Nat.zero_add]
  exact ⟨by rw [hf.cell (by omega), h0], by rw [hf.cell (by omega), h1], by rw [hf.cell (by omega), h2], by rw [hf.cell (by omega), h3]⟩
theorem Half5.done {w wr : World} {t : TypeId} {rs : List Rec} (h : Half5 w wr t rs rs.length) : RRs wr (some ⟨w.heap.size, 0, none⟩) rs := by
  obtain ⟨hb, f, hf, hc⟩ := h
  refine fun _ => ⟨w.heap.size, 0, rfl, fun i hi => ?_⟩
  obtain ⟨h0, h1, h2, h3, h4⟩ := hc i hi hi
  rw [Nat.zero_add]
  exact ⟨by rw [hf.cell (by omega), h0], by rw [hf.cell (by omega), h1], by rw [hf.cell (by omega), h2], by rw [hf.cell (by omega), h3], by rw [hf.cell (by omega), h4]⟩
end Go.Proofs.Qxb6618071a
