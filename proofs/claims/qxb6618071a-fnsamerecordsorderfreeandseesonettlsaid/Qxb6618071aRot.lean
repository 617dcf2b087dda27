import Derived.Test.Qxb6618071aDist
namespace Go.Proofs.Qxb6618071a
open Go.RowKit
set_option linter.unusedVariables false

/-! ### The plain law of sameRecords -/
theorem keyB_refl (r : Rec) : keyB r r = true := by simp [keyB]
theorem keyB_iff {p q : Rec} : keyB p q = true ↔ p.ty = q.ty ∧ p.ttl = q.ttl ∧ p.data.toList = q.data.toList := by
  simp only [keyB, Bool.and_eq_true, beq_iff_eq]
theorem keyB_comm (p q : Rec) : keyB p q = keyB q p := by
  rw [Bool.eq_iff_iff, keyB_iff, keyB_iff]
  exact ⟨fun ⟨a, b, c⟩ => ⟨a.symm, b.symm, c.symm⟩, fun ⟨a, b, c⟩ => ⟨a.symm, b.symm, c.symm⟩⟩
theorem keyB_ttl {p q : Rec} (h : p.ttl ≠ q.ttl) : keyB p q = false := by
  cases e : keyB p q with
  | false => rfl
  | true => exact absurd (keyB_iff.1 e).2.1 h

theorem sameB_of_sub {xs ys : List Rec} (hl : xs.length = ys.length) (hs : ∀ r ∈ xs, r ∈ ys) : sameB xs ys = true := by
  unfold sameB
  rw [Bool.and_eq_true]
  refine ⟨decide_eq_true hl, ?_⟩
  rw [List.all_eq_true]
  intro r hr
  rw [List.any_eq_true]
  exact ⟨r, hs r hr, keyB_refl r⟩
theorem sameB_len {xs ys : List Rec} (h : xs.length ≠ ys.length) : sameB xs ys = false := by
  unfold sameB
  rw [decide_eq_false h]; rfl

def rot (rs : List Rec) (k : Nat) : List Rec := rs.drop k ++ rs.take k
theorem rot_len (rs : List Rec) (k : Nat) : (rot rs k).length = rs.length := by
  unfold rot; rw [List.length_append, List.length_drop, List.length_take]; omega
theorem rot_mem (rs : List Rec) (k : Nat) (r : Rec) : r ∈ rot rs k ↔ r ∈ rs := by
  unfold rot
  rw [List.mem_append, or_comm, ← List.mem_append, List.take_append_drop]
theorem same_rot (rs : List Rec) (k : Nat) : sameB rs (rot rs k) = true := sameB_of_sub (rot_len rs k).symm (fun r hr => (rot_mem rs k r).2 hr)
theorem rot_same (rs : List Rec) (k : Nat) : sameB (rot rs k) rs = true := sameB_of_sub (rot_len rs k) (fun r hr => (rot_mem rs k r).1 hr)
theorem short_len (rs : List Rec) (k : Nat) : ((rot rs k).drop 1).length = rs.length - 1 := by rw [List.length_drop, rot_len]
theorem same_short (rs : List Rec) (k : Nat) (h : 0 < rs.length) : sameB rs ((rot rs k).drop 1) = false := sameB_len (by rw [short_len]; omega)
theorem short_same (rs : List Rec) (k : Nat) (h : 0 < rs.length) : sameB ((rot rs k).drop 1) rs = false := sameB_len (by rw [short_len]; omega)

/-- one record's TTL set anew. -/
def setTTL (rs : List Rec) (i : Nat) (v : Int) : List Rec := rs.modify i (fun r => { r with ttl := v })
theorem setTTL_len (rs : List Rec) (i : Nat) (v : Int) : (setTTL rs i v).length = rs.length := by simp [setTTL]
theorem setTTL_at (rs : List Rec) (i : Nat) (v : Int) (j : Nat) (h : j < (setTTL rs i v).length) (h' : j < rs.length) :
    (setTTL rs i v)[j] = if i = j then { rs[j] with ttl := v } else rs[j] := by
  simp only [setTTL, List.getElem_modify]
theorem distinct_ne {rs : List Rec} (h : Distinct rs) {i j : Nat} (hi : i < rs.length) (hj : j < rs.length) (hij : i ≠ j) : keyB rs[i] rs[j] = false := by
  rcases Nat.lt_or_gt_of_ne hij with c | c
  · exact h i j hi hj c
  · rw [keyB_comm]; exact h j i hj hi c
theorem setTTL_same (rs : List Rec) (i : Nat) (h : i < rs.length) : setTTL rs i rs[i].ttl = rs := by
  apply List.ext_getElem
  · exact setTTL_len _ _ _
  · intro j h1 h2
    rw [setTTL_at rs i _ j h1 h2]
    split
    · rename_i e; subst e; rfl
    · rfl

theorem same_ch (rs : List Rec) (i : Nat) (v : Int) (h : i < rs.length) (hd : Distinct rs) : sameB rs (setTTL rs i v) = (v == rs[i].ttl) := by
  by_cases e : v = rs[i].ttl
  · subst e
    rw [setTTL_same rs i h, sameB_of_sub rfl (fun r hr => hr)]; simp
  · rw [beq_eq_false_iff_ne.2 e]
    refine same_miss h ?_
    rw [List.any_eq_false]
    intro o ho
    obtain ⟨j, hj, rfl⟩ := List.mem_iff_getElem.1 ho
    have hj' : j < rs.length := by rw [setTTL_len] at hj; exact hj
    rw [setTTL_at rs i v j hj hj']
    split
    · rename_i e2
      subst e2
      rw [keyB_ttl (show ({ rs[i] with ttl := v } : Rec).ttl ≠ rs[i].ttl from e)]; simp
    · rename_i e2
      rw [distinct_ne hd hj' h (fun c => e2 c.symm)]; simp
theorem ch_same (rs : List Rec) (i : Nat) (v : Int) (h : i < rs.length) (hd : Distinct (setTTL rs i v)) : sameB (setTTL rs i v) rs = (v == rs[i].ttl) := by
  by_cases e : v = rs[i].ttl
  · subst e
    rw [setTTL_same rs i h, sameB_of_sub rfl (fun r hr => hr)]; simp
  · rw [beq_eq_false_iff_ne.2 e]
    have hi : i < (setTTL rs i v).length := by rw [setTTL_len]; exact h
    refine same_miss hi ?_
    rw [List.any_eq_false]
    intro o ho
    obtain ⟨j, hj, rfl⟩ := List.mem_iff_getElem.1 ho
    have hj' : j < (setTTL rs i v).length := by rw [setTTL_len]; exact hj
    by_cases e2 : i = j
    · subst e2
      rw [setTTL_at rs i v i hi h, if_pos rfl]
      rw [keyB_ttl (show rs[i].ttl ≠ ({ rs[i] with ttl := v } : Rec).ttl from fun c => e c.symm)]; simp
    · have hx := distinct_ne hd hj' hi (fun c => e2 c.symm)
      rw [setTTL_at rs i v j hj' hj, if_neg e2] at hx
      rw [hx]; simp
end Go.Proofs.Qxb6618071a
