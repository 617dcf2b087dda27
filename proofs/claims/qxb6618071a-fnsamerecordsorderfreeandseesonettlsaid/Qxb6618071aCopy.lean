import Derived.Test.Qxb6618071aRot
import Derived.Laws.CopyOwn
namespace Go.Proofs.Qxb6618071a
open Go.RowKit
set_option linter.unusedVariables false

/-! ### 'copy(dst, src)', elements of several cells, both as long, dst a whole row of the call's own -/
theorem run_copy_rows {P : Program} (w : World) (dT sT ty elem : TypeId) (g n dCap : Nat) (a : Addr) (sCap : Nat) (cur : Array Value) (t : TypeId) (cs : List Value) (sz : Nat)
    (hu : P.underlying dT = some (.slice elem)) (hs : (P.info? elem).map (fun i => i.size) = some sz)
    (hg : w.heap[g]? = some (.cells cur t (0, 0))) (hn : cs.length = n * sz)
    (hsrc : ∀ j v, cs[j]? = some v → w.cell? (a.add j) = some v) (hfit : cs.length = cur.size) (h1 : ∀ v ∈ cs, v.oneCell' = true) :
    (Builtin.copy_ #[dT, sT] ty #[.slice (some ⟨g, 0, none⟩) n dCap, .slice (some a) n sCap]).run P w = .ok (goInt n) (w.setRow g cs.toArray) := by
  have hl := run_loadCells_list (P := P) w a cs hsrc
  have hst := run_storeCells_at P g 0 t cs 0 cur w hg (by simp; omega) h1
  have e : (cur.toList.take (0 + 0) ++ cs ++ cur.toList.drop (0 + 0 + cs.length)).toArray = cs.toArray := by
    rw [List.drop_eq_nil_of_le (by simp; omega)]; simp
  rw [e] at hst
  cases hq : P.info? elem with
  | none => simp [hq] at hs
  | some i =>
    have hi : i.size = sz := by simpa [hq] using hs
    simp [Builtin.copy_, run_underlying hu, Builtin.lenOf, Builtin.firstCells, sizeOf, typeInfo, hq, hi, ← hn, hl, hst]

/-- a whole row of records. -/
def Full (w : World) (g : Nat) (rs : List Rec) : Prop :=
  ∃ f, w.rowIs g 29 (rs.length * 4) f ∧ ∀ i (h : i < rs.length), f (i * 4) = .int .u16 rs[i].ty ∧ f (i * 4 + 1) = .int .u16 rs[i].cl ∧ f (i * 4 + 2) = .int .u32 rs[i].ttl ∧ f (i * 4 + 3) = .string rs[i].data
theorem Full.recs {w : World} {g : Nat} {rs : List Rec} (h : Full w g rs) : Recs w (some ⟨g, 0, none⟩) rs := by
  obtain ⟨f, hf, hc⟩ := h
  refine fun _ => ⟨g, 0, rfl, fun i hi => ?_⟩
  obtain ⟨h0, h1, h2, h3⟩ := hc i hi
  rw [Nat.zero_add]
  exact ⟨by rw [hf.cell (by omega), h0], by rw [hf.cell (by omega), h1], by rw [hf.cell (by omega), h2], by rw [hf.cell (by omega), h3]⟩
theorem Full.ttl {w : World} {g : Nat} {rs : List Rec} (h : Full w g rs) (i : Nat) (hi : i < rs.length) (v : Int) : Full (w.setCell ⟨g, i * 4 + 2, none⟩ (.int .u32 v)) g (setTTL rs i v) := by
  obtain ⟨f, hf, hc⟩ := h
  refine ⟨_, by rw [setTTL_len]; exact hf.set _ _, fun j hj => ?_⟩
  have hj' : j < rs.length := by rw [setTTL_len] at hj; exact hj
  obtain ⟨h0, h1, h2, h3⟩ := hc j hj'
  rw [setTTL_at rs i v j hj hj']
  have k0 : ¬ (j * 4 = i * 4 + 2) := by omega
  have k1 : ¬ (j * 4 + 1 = i * 4 + 2) := by omega
  have k3 : ¬ (j * 4 + 3 = i * 4 + 2) := by omega
  by_cases e : i = j
  · subst e
    rw [if_pos rfl]
    exact ⟨(if_neg k0).trans h0, (if_neg k1).trans h1, if_pos rfl, (if_neg k3).trans h3⟩
  · rw [if_neg e]
    have k2 : ¬ (j * 4 + 2 = i * 4 + 2) := by omega
    exact ⟨(if_neg k0).trans h0, (if_neg k1).trans h1, (if_neg k2).trans h2, (if_neg k3).trans h3⟩
theorem full_of_flat {w : World} {g : Nat} {rs : List Rec} (h : w.heap[g]? = some (.cells (flat rs).toArray 29 (0, 0))) : Full w g rs := by
  refine ⟨fun j => (flat rs).getD j (.bool false), ⟨_, h, by simp [flat_length], fun i hi => ?_⟩, fun i hi => ?_⟩
  · have hi' : i < (flat rs).length := by rw [flat_length]; exact hi
    simp [hi']
  · have k : ∀ c (hc : c < 4), (flat rs).getD (i * 4 + c) (.bool false) = (Rec.cells rs[i]).getD c (.bool false) := fun c hc => by
      simp only [List.getD_eq_getElem?_getD, flat_at rs i c hi hc]
    exact ⟨by simpa [Rec.cells] using k 0 (by omega), by simpa [Rec.cells] using k 1 (by omega), by simpa [Rec.cells] using k 2 (by omega), by simpa [Rec.cells] using k 3 (by omega)⟩

/-- 'ch := make([]Rec, len(a)); copy(ch, a)': the world behind it. -/
theorem copy_ways (w : World) (A : Addr) (n cap : Nat) (rs : List Rec) (hn : rs.length = n) (hr : Recs w (some A) rs) :
    ∃ W2, (∀ ty, (Builtin.copy_ #[22, 22] ty #[.slice (some ⟨w.heap.size, 0, none⟩) n n, .slice (some A) n cap]).run Try.prog (w.alloc (.cells (madeCells #[.int .u16 0, .int .u16 0, .int .u32 0, .string ByteArray.empty] (n * 4)) 29)) = .ok (.int .i64 n) W2) ∧
      Full W2 w.heap.size rs ∧ Below w.heap.size w W2 ∧ w.heap.size + 1 ≤ W2.heap.size := by
  have hb : Below w.heap.size w (w.alloc (.cells (madeCells #[.int .u16 0, .int .u16 0, .int .u32 0, .string ByteArray.empty] (n * 4)) 29)) := (Below.refl _ _).alloc (Nat.le_refl _) _
  have hg := heap_alloc_new w (.cells (madeCells #[.int .u16 0, .int .u16 0, .int .u32 0, .string ByteArray.empty] (n * 4)) 29)
  refine ⟨_, fun ty => run_copy_rows (P := Try.prog) _ 22 22 ty 29 w.heap.size n n A cap _ 29 (flat rs) 4 Try.underlying22 (by kernel_rfl) hg (by rw [flat_length, hn]) ((hr.below hb).cells A rfl) (by rw [flat_length, hn, size_madeCells]) (flat_oneCell rs), ?_, ?_, ?_⟩
  · exact full_of_flat (setRow_heap _ _ _ _ _ _ hg)
  · exact below_setRow hb (Nat.le_refl _) _
  · simp
end Go.Proofs.Qxb6618071a
