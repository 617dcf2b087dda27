import Derived.Test.Qxb6618071aProg
import Derived.Test.Qxb6618071aMem
namespace Go.Proofs.Qxb6618071a
open Go.RowKit
set_option linter.unusedVariables false

/-! ### The cells of a list of records, one behind the other -/
def Rec.cells (r : Rec) : List Value := [.int .u16 r.ty, .int .u16 r.cl, .int .u32 r.ttl, .string r.data]
def flat (rs : List Rec) : List Value := rs.flatMap Rec.cells
theorem flat_length (rs : List Rec) : (flat rs).length = rs.length * 4 := by
  induction rs with
  | nil => rfl
  | cons r rs ih => simp only [flat, List.flatMap_cons, List.length_append, List.length_cons] at *; rw [ih]; simp [Rec.cells]; omega
theorem flat_append (a b : List Rec) : flat (a ++ b) = flat a ++ flat b := by simp [flat]
theorem flat_one (r : Rec) : flat [r] = Rec.cells r := by simp [flat]
theorem flat_oneCell (rs : List Rec) : ∀ u ∈ flat rs, u.oneCell' = true := by
  intro u hu
  simp only [flat, List.mem_flatMap] at hu
  obtain ⟨r, _, h⟩ := hu
  simp only [Rec.cells, List.mem_cons, List.not_mem_nil, or_false] at h
  rcases h with rfl | rfl | rfl | rfl <;> rfl
theorem flat_at : ∀ (rs : List Rec) (i c : Nat) (hi : i < rs.length) (hc : c < 4), (flat rs)[i * 4 + c]? = (Rec.cells rs[i])[c]?
  | [], i, c, hi, hc => absurd hi (by simp)
  | r :: rs, 0, c, hi, hc => by
    simp only [flat, List.flatMap_cons]
    rw [List.getElem?_append_left (by simp [Rec.cells]; omega)]
    simp
  | r :: rs, i + 1, c, hi, hc => by
    have ih := flat_at rs i c (by simpa using hi) hc
    simp only [flat, List.flatMap_cons]
    rw [List.getElem?_append_right (by simp [Rec.cells]; omega)]
    have e : (i + 1) * 4 + c - (Rec.cells r).length = i * 4 + c := by simp [Rec.cells]; omega
    rw [e]
    simpa [flat] using ih
theorem add_flat (b off j : Nat) : (⟨b, off, none⟩ : Addr).add j = ⟨b, off + j, none⟩ := by
  unfold Addr.add; split <;> simp_all

/-- what an append reads. -/
theorem Recs.cells {w : World} {a : Option Addr} {rs : List Rec} (h : Recs w a rs) : ∀ ad, a = some ad → ∀ j u, (flat rs)[j]? = some u → w.cell? (ad.add j) = some u := by
  intro ad ha j u hu
  have hj : j < rs.length * 4 := by rw [← flat_length]; exact (List.getElem?_eq_some_iff.1 hu).1
  obtain ⟨b, off, h1, h2⟩ := h (by omega)
  rw [ha] at h1
  cases h1
  rw [add_flat]
  have hi : j / 4 < rs.length := by omega
  have hjj : j = (j / 4) * 4 + j % 4 := by omega
  have hr := h2 (j / 4) hi
  have hf := flat_at rs (j / 4) (j % 4) hi (by omega)
  rw [← hjj, hu] at hf
  rw [show off + j = off + j / 4 * 4 + j % 4 by omega]
  have hm : j % 4 = 0 ∨ j % 4 = 1 ∨ j % 4 = 2 ∨ j % 4 = 3 := by omega
  rcases hm with e | e | e | e <;> rw [e] at hf ⊢ <;> simp [Rec.cells] at hf <;> rw [hf]
  · exact hr.c0
  · exact hr.c1
  · exact hr.c2
  · exact hr.c3

/-- a row of the call's own, as records. -/
theorem recs_of_owns {w : World} {base g n cap : Nat} {rs : List Rec} (h : w.ownsRow base 29 4 (.slice (some ⟨g, 0, none⟩) n cap) n (flat rs)) (hn : rs.length = n) : Recs w (some ⟨g, 0, none⟩) rs := by
  refine fun _ => ⟨g, 0, rfl, fun i hi => ?_⟩
  have key : ∀ c (hc : c < 4), w.cell? ⟨g, 0 + i * 4 + c, none⟩ = (Rec.cells rs[i])[c]? := fun c hc => by
    rw [Nat.zero_add, h.cellAt (i * 4 + c) (by omega), flat_at rs i c hi hc]
  exact ⟨by simpa [Rec.cells] using key 0 (by omega), by simpa [Rec.cells] using key 1 (by omega), by simpa [Rec.cells] using key 2 (by omega), by simpa [Rec.cells] using key 3 (by omega)⟩

/-! ### Slicing -/
theorem slice_front (a : Option Addr) (n cap pos : Nat) (hp : pos ≤ cap) :
    ∃ a1, (∀ w, (Instr.slice 22 (.slice a n cap) none (some (.int .i64 (pos : Int))) none).run Try.prog w = .ok (.slice a1 pos cap) w) ∧
      (∀ w rs, rs.length = n → pos ≤ n → Recs w a rs → Recs w a1 (rs.take pos)) ∧ (a1 = none → a = none) := by
  refine ⟨if cap = 0 then a else a.map (·.add (0 * 4)), fun w => ?_, fun w rs hl hpn hr hpos => ?_, fun h => ?_⟩
  · have hsz : (sizeOf (Try.prog.elem 22)).run Try.prog w = .ok 4 w := by kernel_rfl
    rw [run_slice_h (P := Try.prog) w 22 a n cap (by kernel_rfl) .i64 (pos : Int) (by omega) (by omega), hsz]
    simp [Result.andThen, sliced]
  · have hlt : (rs.take pos).length ≤ rs.length := List.length_take_le' _ _
    obtain ⟨b, off, h1, h2⟩ := hr (by omega)
    subst h1
    refine ⟨b, off, ?_, fun i hi => ?_⟩
    · split
      · rfl
      · simp [Addr.add]
    · have := h2 i (by omega)
      simpa using this
  · split at h
    · exact h
    · simpa using h

theorem slice_back (a : Option Addr) (n cap pos : Nat) (hp : pos ≤ n) (hc : n ≤ cap) :
    ∃ a2, (∀ w, (Instr.slice 22 (.slice a n cap) (some (.int .i64 (pos : Int))) none none).run Try.prog w = .ok (.slice a2 (n - pos) (cap - pos)) w) ∧
      (∀ w rs, rs.length = n → Recs w a rs → Recs w a2 (rs.drop pos)) ∧ (a2 = none → a = none) := by
  refine ⟨if cap = pos then a else a.map (·.add (pos * 4)), fun w => ?_, fun w rs hl hr hpos => ?_, fun h => ?_⟩
  · have hsz : (sizeOf (Try.prog.elem 22)).run Try.prog w = .ok 4 w := by kernel_rfl
    rw [run_slice_l (P := Try.prog) w 22 a n cap (by kernel_rfl) .i64 (pos : Int) (by omega) (by omega), hsz]
    simp [Result.andThen, sliced]
  · have hlt : (rs.drop pos).length = n - pos := by simp [hl]
    obtain ⟨b, off, h1, h2⟩ := hr (by omega)
    subst h1
    refine ⟨b, off + pos * 4, ?_, fun i hi => ?_⟩
    · rw [if_neg (by omega)]
      simp [add_flat]
    · have := h2 (pos + i) (by omega)
      rw [show off + (pos + i) * 4 = off + pos * 4 + i * 4 by omega] at this
      simpa using this
  · split at h
    · exact h
    · simpa using h
end Go.Proofs.Qxb6618071a
