import Derived.Test.Qxb6618071aSame
import Derived.Deep.RegionWith
namespace Go.Proofs.Qxb6618071a
open Go.RowKit
set_option linter.unusedVariables false

/-- no record twice. -/
def Distinct (rs : List Rec) : Prop := ∀ i j (hi : i < rs.length) (hj : j < rs.length), i < j → keyB rs[i] rs[j] = false
def DistTo (rs : List Rec) (x : Nat) : Prop := ∀ i j (hi : i < rs.length) (hj : j < rs.length), i < x → i < j → keyB rs[i] rs[j] = false
def DistIn (rs : List Rec) (x y : Nat) : Prop := DistTo rs x ∧ ∀ j (hx : x < rs.length) (hj : j < rs.length), x < j → j < y → keyB rs[x] rs[j] = false
theorem DistIn.step {rs : List Rec} {x y : Nat} (h : DistIn rs x y) (hx : x < rs.length) (hy : y < rs.length) (hk : keyB rs[x] rs[y] = false) : DistIn rs x (y + 1) :=
  ⟨h.1, fun j hx' hj hxj hjy => by
    by_cases e : j = y
    · subst e; exact hk
    · exact h.2 j hx' hj hxj (by omega)⟩
theorem DistIn.done {rs : List Rec} {x y : Nat} (h : DistIn rs x y) (hy : rs.length ≤ y) : DistTo rs (x + 1) := by
  intro i j hi hj hix hij
  by_cases e : i = x
  · subst e; exact h.2 j hi hj hij (by omega)
  · exact h.1 i j hi hj (by omega) hij
theorem DistTo.done {rs : List Rec} {x : Nat} (h : DistTo rs x) (hx : rs.length ≤ x) : Distinct rs := fun i j hi hj hij => h i j hi hj (by omega) hij
theorem not_distinct {rs : List Rec} {x y : Nat} (hx : x < rs.length) (hy : y < rs.length) (hxy : x < y) (hk : keyB rs[x] rs[y] = true) : ¬ Distinct rs := fun h => by
  have := h x y hx hy hxy
  rw [hk] at this; cases this
def SaysDistinct (rs : List Rec) (e : Ending) : Prop := ∃ b : Bool, e = .returned (.bool b) ∧ (b = true ↔ Distinct rs)

set_option maxHeartbeats 1000000 in
theorem distinct_any (a : Option Addr) (n cap : Nat) (rs : List Rec) (w : World) (hn : rs.length = n) (hb : n ≤ 100000) (hr : Recs w a rs) :
    Calls Try.prog 12 #[.slice a n cap] w fun e w' => SaysDistinct rs e ∧ Below w.heap.size w w' := by
  have HN : Hid (rs.length = n) := hn
  have HR : Hid (Recs w a rs) := hr
  clear hn hr
  go_enter Try.func12, Try.ntmps12
  go_wp2
  go_loopw [3] (fun i wr => ∃ x : Nat, x ≤ n ∧ i = .int .i64 x ∧ DistTo rs x ∧ Below w.heap.size w wr) (fun i _ => n - (intOf i).toNat)
  case atStart => exact ⟨0, Nat.zero_le _, rfl, fun i _ _ _ h => absurd h (Nat.not_lt_zero _), Below.refl _ _⟩
  case round =>
    obtain ⟨x, hx, rfl, hdt, hbl⟩ := hrel
    by_cases hlt : x < n
    · have hxr : x < rs.length := by rw [HN.out]; exact hlt
      obtain ⟨b, off, hA, hc⟩ := HR.out (by omega)
      cases hA
      have HC : Hid (∀ i (h : i < rs.length) wq, Below w.heap.size w wq → RecAt wq b (off + i * 4) rs[i]) := fun i h wq hq => (hc i h).below hq (Nat.le_refl _)
      have HI : Hid (DistIn rs x (x + 1)) := ⟨hdt, fun j _ _ h1 h2 => by omega⟩
      have HB : Hid (Below w.heap.size w wr) := hbl
      clear hc hdt hbl
      go_wp2
      go_loopw [4] (fun j wr => ∃ y : Nat, x < y ∧ y ≤ n ∧ j = .int .i64 y ∧ DistIn rs x y ∧ Below w.heap.size w wr) (fun j _ => n - (intOf j).toNat)
      case atStart => exact ⟨x + 1, by omega, by omega, by go_num, HI.out, HB.out⟩
      case round =>
        clear HI HB
        obtain ⟨y, hy1, hy2, rfl, hdi, hbl⟩ := hrel
        by_cases hyl : y < n
        · have hyr : y < rs.length := by rw [HN.out]; exact hyl
          obtain ⟨h0, h1, h2, h3⟩ := HC.out x hxr _ hbl
          obtain ⟨g0, g1, g2, g3⟩ := HC.out y hyr _ hbl
          have HB : Hid (Below w.heap.size w wr) := hbl
          have HD : Hid (DistIn rs x y) := hdi
          clear hbl hdi
          have hxi : (x : Int) < (n : Int) := by omega
          have hyi : (y : Int) < (n : Int) := by omega
          cases hkb : keyB rs[x] rs[y] with
          | true =>
            go_wp2
            go_region_with (go_at_call 16; refine (keyEq_any rs[x] rs[y] _).mono ?_; rintro e w1 ⟨rfl, hb1⟩)
            all_goals
              have HB1 : Hid (Below w.heap.size w _) := (HB.out.drew).trans (hb1.mono HB.out.size)
              have HND : Hid (¬ Distinct rs) := not_distinct hxr hyr hy1 hkb
              clear hb1
              go_wp2
              go_ret
              exact ⟨⟨false, rfl, Iff.intro (fun h => Bool.noConfusion h) (fun h => absurd h HND.out)⟩, HB1.out⟩
          | false =>
            go_wp2
            go_region_with (go_at_call 16; refine (keyEq_any rs[x] rs[y] _).mono ?_; rintro e w1 ⟨rfl, hb1⟩)
            all_goals
              have HB1 : Hid (Below w.heap.size w _) := (HB.out.drew).trans (hb1.mono HB.out.size)
              have HD1 : Hid (DistIn rs x (y + 1)) := HD.out.step hxr hyr hkb
              clear hb1
              go_wp2
              go_roundw
              case rel => exact ⟨y + 1, by omega, by omega, by go_num, HD1.out, HB1.out⟩
              case measure => simp [intOf]; omega
        · have HD1 : Hid (DistTo rs (x + 1)) := hdi.done (by rw [HN.out]; omega)
          have HB : Hid (Below w.heap.size w wr) := hbl
          clear hdi hbl
          go_wp2
          go_roundw
          case rel => exact ⟨x + 1, by omega, by go_num, HD1.out, HB.out⟩
          case measure => simp [intOf]; omega
    · have HD : Hid (Distinct rs) := hdt.done (by rw [HN.out]; omega)
      have HB : Hid (Below w.heap.size w wr) := hbl
      clear hdt hbl
      go_wp2
      go_ret
      exact ⟨⟨true, rfl, fun _ => HD.out, fun _ => rfl⟩, HB.out⟩
end Go.Proofs.Qxb6618071a
