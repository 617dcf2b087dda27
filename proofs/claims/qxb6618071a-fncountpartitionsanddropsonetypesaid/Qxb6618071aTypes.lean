import Derived.Test.Qxb6618071aConv
import Derived.Test.Qxb6618071aRow
namespace Go.Proofs.Qxb6618071a
open Go.RowKit
set_option linter.unusedVariables false

/-! ### The plain law: the types met, in the order of their first record -/
def dd : List Rec → List Int → List Int
  | [], acc => acc
  | r :: rs, acc => dd rs (if acc.contains r.ty then acc else acc ++ [r.ty])
def tys (rs : List Rec) : List Int := dd rs []

theorem dd_append : ∀ (xs ys : List Rec) (acc : List Int), dd (xs ++ ys) acc = dd ys (dd xs acc)
  | [], _, _ => rfl
  | x :: xs, ys, acc => by simp only [List.cons_append, dd]; exact dd_append xs ys _
theorem tys_take (rs : List Rec) (k : Nat) (hk : k < rs.length) : tys (rs.take (k + 1)) = if (tys (rs.take k)).contains rs[k].ty then tys (rs.take k) else tys (rs.take k) ++ [rs[k].ty] := by
  unfold tys
  rw [List.take_succ_eq_append_getElem hk, dd_append]
  rfl
theorem dd_nodup : ∀ (rs : List Rec) (acc : List Int), acc.Nodup → (dd rs acc).Nodup
  | [], acc, h => h
  | r :: rs, acc, h => by
    simp only [dd]
    refine dd_nodup rs _ ?_
    split
    · exact h
    · rename_i hc
      rw [List.nodup_append]
      refine ⟨h, by simp, fun a ha b hb => ?_⟩
      simp at hb hc
      subst hb
      intro e
      subst e
      exact hc ha
theorem dd_mem (u : Int) : ∀ (rs : List Rec) (acc : List Int), u ∈ dd rs acc ↔ u ∈ acc ∨ ∃ r ∈ rs, r.ty = u
  | [], acc => by simp [dd]
  | r :: rs, acc => by
    simp only [dd]
    rw [dd_mem u rs]
    split
    · rename_i hc
      simp at hc
      constructor
      · rintro (h | ⟨x, hx, e⟩)
        · exact .inl h
        · exact .inr ⟨x, List.mem_cons_of_mem _ hx, e⟩
      · rintro (h | ⟨x, hx, e⟩)
        · exact .inl h
        · rcases List.mem_cons.1 hx with rfl | hx
          · exact .inl (e ▸ hc)
          · exact .inr ⟨x, hx, e⟩
    · constructor
      · rintro (h | ⟨x, hx, e⟩)
        · rcases List.mem_append.1 h with h | h
          · exact .inl h
          · simp at h; exact .inr ⟨r, List.mem_cons_self, h.symm⟩
        · exact .inr ⟨x, List.mem_cons_of_mem _ hx, e⟩
      · rintro (h | ⟨x, hx, e⟩)
        · exact .inl (List.mem_append_left _ h)
        · rcases List.mem_cons.1 hx with rfl | hx
          · exact .inl (List.mem_append_right _ (by simp [e]))
          · exact .inr ⟨x, hx, e⟩
theorem dd_len : ∀ (rs : List Rec) (acc : List Int), (dd rs acc).length ≤ acc.length + rs.length
  | [], acc => by simp [dd]
  | r :: rs, acc => by
    simp only [dd]
    refine Nat.le_trans (dd_len rs _) ?_
    split <;> simp <;> omega
theorem tys_len (rs : List Rec) : (tys rs).length ≤ rs.length := by have := dd_len rs []; simpa [tys] using this
theorem tys_nodup (rs : List Rec) : (tys rs).Nodup := dd_nodup rs [] List.nodup_nil
theorem tys_mem (u : Int) (rs : List Rec) : u ∈ tys rs ↔ ∃ r ∈ rs, r.ty = u := by have := dd_mem u rs []; simpa [tys] using this

/-- the counts of the types of a list, added up. -/
def sums (us : List Int) (rs : List Rec) : Nat := (us.map fun u => cnt u rs).sum
theorem sums_take (us : List Int) (rs : List Rec) (j : Nat) (hj : j < us.length) : sums (us.take (j + 1)) rs = sums (us.take j) rs + cnt us[j] rs := by
  unfold sums
  rw [List.take_succ_eq_append_getElem hj, List.map_append, List.sum_append]
  simp
theorem cnt_cons (u : Int) (r : Rec) (rs : List Rec) : cnt u (r :: rs) = cnt u rs + if r.ty == u then 1 else 0 := by
  unfold cnt; rw [List.countP_cons]
theorem sums_cons (us : List Int) (r : Rec) (rs : List Rec) : sums us (r :: rs) = sums us rs + us.count r.ty := by
  unfold sums
  induction us with
  | nil => rfl
  | cons u us ih =>
    simp only [List.map_cons, List.sum_cons]
    rw [ih, cnt_cons, List.count_cons]
    have : (r.ty == u) = (u == r.ty) := BEq.comm
    rw [this]
    omega
theorem sums_all (us : List Int) (hn : us.Nodup) : ∀ (rs : List Rec), (∀ r ∈ rs, r.ty ∈ us) → sums us rs = rs.length
  | [], _ => by
    clear hn
    unfold sums
    induction us with
    | nil => rfl
    | cons u us ih => simp only [List.map_cons, List.sum_cons]; rw [ih (by simp)]; rfl
  | r :: rs, h => by
    rw [sums_cons, sums_all us hn rs (fun x hx => h x (List.mem_cons_of_mem _ hx)), List.length_cons]
    have hm := h r List.mem_cons_self
    have hc : us.count r.ty = 1 := by
      have h1 := List.nodup_iff_count.1 hn r.ty
      have h2 := List.one_le_count_iff.2 hm
      omega
    rw [hc]
theorem sums_le (us : List Int) (rs : List Rec) (n : Nat) (hl : us.length ≤ 5000) (hr : rs.length ≤ 5000) : sums us rs ≤ 25000000 := by
  have key : ∀ us : List Int, sums us rs ≤ us.length * 5000 := by
    intro us
    unfold sums
    induction us with
    | nil => simp
    | cons u us ih => simp only [List.map_cons, List.sum_cons, List.length_cons]; have := cnt_le u rs; omega
  have := key us
  omega

/-- the records of another type. -/
def rest (t : Int) (rs : List Rec) : List Rec := rs.filter (fun r => r.ty != t)
theorem rest_take (t : Int) (rs : List Rec) (k : Nat) (hk : k < rs.length) : rest t (rs.take (k + 1)) = if rs[k].ty != t then rest t (rs.take k) ++ [rs[k]] else rest t (rs.take k) := by
  unfold rest
  rw [List.take_succ_eq_append_getElem hk, List.filter_append]
  simp only [List.filter_cons, List.filter_nil]
  split <;> simp
theorem rest_len (t : Int) (rs : List Rec) : (rest t rs).length ≤ rs.length := List.length_filter_le _ _
theorem cnt_rest_same (t : Int) (rs : List Rec) : cnt t (rest t rs) = 0 := by
  unfold cnt rest
  rw [List.countP_eq_zero]
  intro r hr
  simp at hr ⊢
  exact hr.2
theorem cnt_rest_other (t u : Int) (rs : List Rec) (h : u ≠ t) : cnt u (rest t rs) = cnt u rs := by
  unfold cnt rest
  rw [List.countP_filter]
  apply List.countP_congr
  intro r _
  simp
  intro e
  rw [e]; exact h
theorem cnt_pos (u : Int) (rs : List Rec) (h : u ∈ tys rs) : 1 ≤ cnt u rs := by
  obtain ⟨r, hr, e⟩ := (tys_mem u rs).1 h
  unfold cnt
  exact List.countP_pos_iff.2 ⟨r, hr, by simp [e]⟩
theorem cnt_zero (u : Int) (rs : List Rec) (h : u ∉ tys rs) : cnt u rs = 0 := by
  unfold cnt
  rw [List.countP_eq_zero]
  intro r hr
  simp
  intro e
  exact h ((tys_mem u rs).2 ⟨r, hr, e⟩)
theorem sums_tys (rs : List Rec) : sums (tys rs) rs = rs.length := sums_all _ (tys_nodup rs) rs (fun r hr => (tys_mem _ _).2 ⟨r, hr, rfl⟩)
theorem sums_rest (t : Int) (rs : List Rec) : sums (tys rs) (rest t rs) = (rest t rs).length :=
  sums_all _ (tys_nodup rs) _ (fun r hr => (tys_mem _ _).2 ⟨r, (List.mem_filter.1 hr).1, rfl⟩)
end Go.Proofs.Qxb6618071a
