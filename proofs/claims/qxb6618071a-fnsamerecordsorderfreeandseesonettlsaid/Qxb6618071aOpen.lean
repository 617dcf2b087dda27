import Derived.Test.Qxb6618071aRows
import Derived.Test.Qxb6618071aRow
import Derived.OpenShut
import Derived.ShutString
import Derived.ChangeOld
import Derived.Below
import Derived.Deep.Slices
namespace Go.Proofs.Qxb6618071a
open Go.ChangeShapes Go.WideShapes Go.ChangeAt Go.RowKit
set_option linter.unusedVariables false

theorem own : ownKnob Try.prog.godebug = none := by kernel_rfl
theorem laidOut : laidOutB Try.prog = true := by kernel_rfl
theorem Try.cells29 : Try.prog.cellsOf 29 = 4 := by kernel_rfl
theorem Try.cells23 : Try.prog.cellsOf 23 = 1 := by kernel_rfl
theorem Try.cells27 : Try.prog.cellsOf 27 = 1 := by kernel_rfl
theorem Try.cells9 : Try.prog.cellsOf 9 = 1 := by kernel_rfl

section
variable {H : Type} {enc : TypeId × Value → H} {W : World} {base : Nat} {sp : Nat → Bool} {held : Bool}

theorem open_rec {fuel : Nat} {cs : List Value} {x : DataW H × List MemPlace} (h : DataW.trod enc Try.prog W base sp held fuel 29 cs = some x) : ∃ r : Rec, cs = Rec.cells r := by
  obtain ⟨xs, n, _, rfl, hl, hlen, hf⟩ := DataW.trod_struct Try.underlying29 h
  rw [Try.cells29] at hl
  match cs, hl with
  | [c0, c1, c2, c3], _ =>
    match xs, hlen with
    | [y0, y1, y2, y3], _ =>
      have h0 := hf 0 _ rfl
      have h1 := hf 1 _ rfl
      have h2 := hf 2 _ rfl
      have h3 := hf 3 _ rfl
      simp [Try.cells23, Try.cells27, Try.cells9] at h0 h1 h2 h3
      obtain ⟨n0, e0, _, _⟩ := DataW.trod_int Try.underlying23 h0
      obtain ⟨n1, e1, _, _⟩ := DataW.trod_int Try.underlying23 h1
      obtain ⟨n2, e2, _, _⟩ := DataW.trod_int Try.underlying27 h2
      obtain ⟨n3, e3, _, _⟩ := DataW.trod_string Try.underlying9 h3
      simp at e0 e1 e2 e3
      subst e0 e1 e2 e3
      exact ⟨⟨n0, n1, n2, n3⟩, rfl⟩

theorem open_recs {a : Option Addr} {n cap : Nat} {d : DataW H} {p : List MemPlace} (h : DataW.Trod enc Try.prog W 0 (fun _ => true) true 22 (.slice a n cap) d p) :
    ∃ rs : List Rec, rs.length = n ∧ Recs W a rs ∧ n ≤ cap ∧ cap ≤ maxLen ∧ (a = none → cap = 0) := by
  obtain ⟨fuel, hf⟩ := h
  rcases Deep.open_slice Try.underlying22 hf with ⟨hcs, _⟩ | ⟨A, len, cp, m, k, D, Pl, hcs, _, hl, hm, hmm, _, hx⟩
  · simp [Value.cells] at hcs
    obtain ⟨rfl, rfl, rfl⟩ := hcs
    exact ⟨[], rfl, Recs.nil _ _, Nat.le_refl _, Nat.zero_le _, fun _ => rfl⟩
  · simp [Value.cells] at hcs
    obtain ⟨rfl, rfl, rfl⟩ := hcs
    simp only [if_true] at hmm
    rw [Try.cells29] at hx
    obtain ⟨R, hR⟩ := @Deep.choose_lt Rec ⟨⟨0, 0, 0, ByteArray.empty⟩⟩ n (fun i r => ∀ j, j < 4 → W.cell? ((A.add (i * 4)).add j) = (Rec.cells r)[j]?) (fun i hi => by
      obtain ⟨cs', h1, h2⟩ := hx i (by omega)
      obtain ⟨r, rfl⟩ := open_rec h2
      obtain ⟨_, _, hc⟩ := World.cells?_some h1
      exact ⟨r, hc⟩)
    refine ⟨(List.range n).map R, by simp, fun hp => ?_, hl, hm, fun h => by cases h⟩
    simp at hp
    obtain ⟨b, off, spot⟩ := A
    have hspot : spot = none := by simpa [Addr.add] using World.cell?_spot (v := .int .u16 (R 0).ty) ((hR 0 hp 0 (by omega)).trans (by simp [Rec.cells]))
    subst hspot
    refine ⟨b, off, rfl, fun i hi => ?_⟩
    have hi' : i < n := by simpa using hi
    have key := hR i hi'
    simp only [add_flat] at key
    have e : ((List.range n).map R)[i] = R i := by simp
    rw [e]
    exact ⟨by simpa [Rec.cells] using key 0 (by omega), by simpa [Rec.cells] using key 1 (by omega), by simpa [Rec.cells] using key 2 (by omega), by simpa [Rec.cells] using key 3 (by omega)⟩

/-- a record by value. -/
theorem open_recv {r0 : Reach} {b0 : Nat} {v : Value} {d : DataW H} {p : List MemPlace} (hv : Value.okWide Try.prog W r0 b0 29 v) (h : DataW.Trod enc Try.prog W base sp held 29 v d p) :
    ∃ r : Rec, v = .agg #[.int .u16 r.ty, .int .u16 r.cl, .int .u32 r.ttl, .string r.data] := by
  obtain ⟨cs, rfl, hsz⟩ := okWide_struct Try.underlying29 hv
  obtain ⟨fuel, hf⟩ := h
  obtain ⟨r, hr⟩ := open_rec hf
  refine ⟨r, ?_⟩
  simp [Value.cells, Rec.cells] at hr
  rw [show cs = #[.int .u16 r.ty, .int .u16 r.cl, .int .u32 r.ttl, .string r.data] from by cases cs; simp_all]
end
end Go.Proofs.Qxb6618071a
