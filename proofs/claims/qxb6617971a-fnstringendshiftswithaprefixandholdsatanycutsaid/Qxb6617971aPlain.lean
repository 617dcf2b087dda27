namespace Go.Proofs.Qxb6617971a.Plain

def letB (c : Int) : Bool := (decide (97 ≤ c) && decide (c ≤ 122)) || (decide (65 ≤ c) && decide (c ≤ 90))
def digB (c : Int) : Bool := decide (48 ≤ c) && decide (c ≤ 57)
def plainB (c : Int) : Bool := letB c || digB c || c == 46 || c == 95
def signB (c : Int) : Bool := c == 43 || c == 45
def expB (c : Int) : Bool := c == 101 || c == 69
def byteAt (l : List UInt8) (j : Nat) : Int := ((l.getD j 0).toNat : Int)
def inNum (l : List UInt8) (j : Nat) : Bool := plainB (byteAt l j) || (signB (byteAt l j) && decide (1 ≤ j) && expB (byteAt l (j - 1)))

/-- 'r' is where the number that starts at 's' ends. -/
def NE (l : List UInt8) (s r : Nat) : Prop := s ≤ r ∧ r ≤ l.length ∧ (∀ j, s ≤ j → j < r → inNum l j = true) ∧ (r < l.length → inNum l r = false)

theorem NE.unique {l : List UInt8} {s r r' : Nat} (h : NE l s r) (h' : NE l s r') : r = r' := by
  obtain ⟨h1, h2, h3, h4⟩ := h
  obtain ⟨g1, g2, g3, g4⟩ := h'
  rcases Nat.lt_trichotomy r r' with c | c | c
  · have a := g3 r h1 c
    have b := h4 (by omega)
    rw [a] at b; cases b
  · exact c
  · have a := h3 r' g1 c
    have b := g4 (by omega)
    rw [a] at b; cases b

theorem byteAt_append (l m : List UInt8) (j : Nat) (h : j < l.length) : byteAt (l ++ m) j = byteAt l j := by
  simp [byteAt, List.getElem?_append_left h]

theorem inNum_append (l m : List UInt8) (j : Nat) (h : j < l.length) : inNum (l ++ m) j = inNum l j := by
  unfold inNum
  rw [byteAt_append l m j h, byteAt_append l m (j - 1) (by omega)]

/-- The end in 'l ++ m' is the end in 'l' where that lies before its end. -/
theorem NE.join_lt {l m : List UInt8} {s r rj : Nat} (h : NE l s r) (hj : NE (l ++ m) s rj) (hr : r < l.length) : rj = r := by
  refine NE.unique hj ⟨h.1, by simp; omega, fun j a b => ?_, fun _ => ?_⟩
  · rw [inNum_append l m j (by omega)]; exact h.2.2.1 j a b
  · rw [inNum_append l m r hr]; exact h.2.2.2 hr

/-- Else it is the end read on from 'l's end. -/
theorem NE.join_ge {l m : List UInt8} {s r rj r2 : Nat} (h : NE l s r) (hj : NE (l ++ m) s rj) (hr : ¬ r < l.length) (h2 : NE (l ++ m) l.length r2) : rj = r2 := by
  have hr' : r = l.length := by have := h.2.1; omega
  subst hr'
  refine NE.unique hj ⟨by have := h.1; have := h2.1; omega, h2.2.1, fun j a b => ?_, h2.2.2.2⟩
  by_cases c : j < l.length
  · rw [inNum_append l m j c]; exact h.2.2.1 j a c
  · exact h2.2.2.1 j (by omega) b

/-- Reading on from any place inside gives the same end. -/
theorem NE.resume {l : List UInt8} {s r m r2 : Nat} (h : NE l s r) (hm : s ≤ m) (hr : m ≤ r) (h2 : NE l m r2) : r2 = r :=
  NE.unique h2 ⟨hr, h.2.1, fun j a b => h.2.2.1 j (by omega) b, h.2.2.2⟩

theorem NE.past {l : List UInt8} {s r : Nat} (h : NE l s r) (hs : s < l.length) (hi : inNum l s = true) : r ≠ s := by
  rintro rfl
  have := h.2.2.2 hs
  rw [hi] at this; cases this

/-! ### strings -/
/-- The end of the string whose quote is 'c', read over 'l' from place 'i' on; 'sk': the first byte is escaped. -/
def se (c : UInt8) : Bool → List UInt8 → Nat → Option Nat
  | _, [], _ => none
  | true, _ :: r, i => se c false r (i + 1)
  | false, x :: r, i => if x = c then some (i + 1) else se c (x == 92 && c != 96) r (i + 1)
/-- whether the byte behind 'l' is escaped. -/
def es (c : UInt8) : Bool → List UInt8 → Bool
  | sk, [] => sk
  | true, _ :: r => es c false r
  | false, x :: r => es c (x == 92 && c != 96) r

theorem se_append (c : UInt8) (m : List UInt8) : ∀ (l : List UInt8) (sk : Bool) (i : Nat), se c sk (l ++ m) i = (se c sk l i).or (se c (es c sk l) m (i + l.length))
  | [], sk, i => by cases sk <;> simp [se, es]
  | x :: r, true, i => by
    have := se_append c m r false (i + 1)
    simp only [List.cons_append, se, es, this, List.length_cons]
    rw [show i + 1 + r.length = i + (r.length + 1) from by omega]
  | x :: r, false, i => by
    have := se_append c m r (x == 92 && c != 96) (i + 1)
    simp only [List.cons_append, se, es, this, List.length_cons]
    rw [show i + 1 + r.length = i + (r.length + 1) from by omega]
    split <;> simp

theorem se_bd (c : UInt8) : ∀ (l : List UInt8) (sk : Bool) (i e : Nat), se c sk l i = some e → i < e ∧ e ≤ i + l.length
  | [], sk, i, e, h => by cases sk <;> simp [se] at h
  | x :: r, true, i, e, h => by
    simp only [se] at h
    have := se_bd c r false (i + 1) e h
    simp only [List.length_cons]; omega
  | x :: r, false, i, e, h => by
    simp only [se] at h
    split at h
    · simp at h; simp only [List.length_cons]; omega
    · have := se_bd c r _ (i + 1) e h
      simp only [List.length_cons]; omega

theorem se_shift (c : UInt8) (k : Nat) : ∀ (l : List UInt8) (sk : Bool) (i : Nat), se c sk l (i + k) = (se c sk l i).map (· + k)
  | [], sk, i => by cases sk <;> simp [se]
  | x :: r, true, i => by
    have := se_shift c k r false (i + 1)
    simp only [se]; rw [← this]; congr 1; omega
  | x :: r, false, i => by
    have := se_shift c k r (x == 92 && c != 96) (i + 1)
    simp only [se]
    split
    · simp; omega
    · rw [← this]; congr 1; omega

theorem se_two (c : UInt8) (sk : Bool) (i : Nat) : se c sk [c, c] i = some (if sk then i + 2 else i + 1) := by
  cases sk <;> simp [se]

/-- What stringEnd answers: the end, and whether there is one. -/
def seAt (l : List UInt8) (s : Nat) : Option Nat := se (l.getD s 0) false (l.drop (s + 1)) (s + 1)

theorem seAt_two (l : List UInt8) (s : Nat) (hs : s < l.length) (c : UInt8) (hc : c = l.getD s 0) :
    ∃ e2, seAt (l ++ [c, c]) s = some e2 ∧ (∀ e, seAt l s = some e → e2 = e) ∧ (seAt l s = none → e2 = l.length + 1 ∨ e2 = l.length + 2) := by
  subst hc
  have e1 : (l ++ [l.getD s 0, l.getD s 0]).getD s 0 = l.getD s 0 := by simp [List.getElem?_append_left hs]
  have e2 : (l ++ [l.getD s 0, l.getD s 0]).drop (s + 1) = l.drop (s + 1) ++ [l.getD s 0, l.getD s 0] := List.drop_append_of_le_length (by omega)
  have e3 : s + 1 + (l.drop (s + 1)).length = l.length := by simp; omega
  unfold seAt
  rw [e1, e2, se_append, se_two, e3]
  generalize l.getD s 0 = c
  cases h : se c false (l.drop (s + 1)) (s + 1) with
  | none =>
    refine ⟨_, rfl, fun e he => (by simp at he), fun _ => ?_⟩
    split <;> omega
  | some e => exact ⟨e, rfl, fun e' he => (by simpa using he), fun he => (by simp at he)⟩

theorem seAt_pre (p l : List UInt8) (s : Nat) : seAt (p ++ l) (p.length + s) = (seAt l s).map (· + p.length) := by
  unfold seAt
  have e1 : (p ++ l).getD (p.length + s) 0 = l.getD s 0 := by simp [List.getElem?_append_right]
  have e2 : (p ++ l).drop (p.length + s + 1) = l.drop (s + 1) := by rw [Nat.add_assoc, List.drop_length_add_append]
  rw [e1, e2, ← se_shift]
  congr 1; omega

theorem seAt_cut (l : List UInt8) (s k : Nat) (hs : s < k) (hk : k ≤ l.length) :
    (∀ e, seAt l s = some e → e ≤ k → seAt (l.take k) s = some e) ∧ ((∀ e, seAt l s = some e → ¬ e ≤ k) → seAt (l.take k) s = none) := by
  have e1 : (l.take k).getD s 0 = l.getD s 0 := by simp [hs]
  have e2 : (l.take k).drop (s + 1) = (l.drop (s + 1)).take (k - (s + 1)) := by rw [List.drop_take]
  have e4 : s + 1 + ((l.drop (s + 1)).take (k - (s + 1))).length = k := by simp; omega
  have h := se_append (l.getD s 0) ((l.drop (s + 1)).drop (k - (s + 1))) ((l.drop (s + 1)).take (k - (s + 1))) false (s + 1)
  rw [List.take_append_drop, e4] at h
  unfold seAt
  rw [e1, e2]
  generalize l.getD s 0 = c at *
  cases ht : se c false ((l.drop (s + 1)).take (k - (s + 1))) (s + 1) with
  | some e =>
    rw [ht] at h
    simp at h
    have hb := se_bd _ _ _ _ _ ht
    rw [e4] at hb
    refine ⟨fun e' he _ => ?_, fun hn => ?_⟩
    · rw [h] at he; simpa using he
    · exact absurd hb.2 (hn e h)
  | none =>
    rw [ht] at h
    simp only [Option.none_or] at h
    refine ⟨fun e' he hle => ?_, fun _ => rfl⟩
    rw [h] at he
    have hb := se_bd _ _ _ _ _ he
    omega

/-- The loop's steps. -/
theorem se_hit (c : UInt8) (l : List UInt8) (i : Nat) (h : i < l.length) (hc : l[i] = c) : se c false (l.drop i) i = some (i + 1) := by
  rw [List.drop_eq_getElem_cons h]; simp [se, hc]
theorem se_esc (c : UInt8) (l : List UInt8) (i : Nat) (h : i < l.length) (hc : l[i] ≠ c) (h1 : l[i] = 92) (h2 : c ≠ 96) : se c false (l.drop i) i = se c false (l.drop (i + 2)) (i + 2) := by
  rw [List.drop_eq_getElem_cons h]
  simp only [se, h1]
  rw [show ((92 : UInt8) == 92 && c != 96) = true from by simp [h2], if_neg (by rw [← h1]; exact hc)]
  by_cases h3 : i + 1 < l.length
  · rw [List.drop_eq_getElem_cons h3]; simp [se]
  · rw [List.drop_eq_nil_of_le (by omega), List.drop_eq_nil_of_le (by omega)]; simp [se]
theorem se_on (c : UInt8) (l : List UInt8) (i : Nat) (h : i < l.length) (hc : l[i] ≠ c) (h1 : ¬ (l[i] = 92 ∧ c ≠ 96)) : se c false (l.drop i) i = se c false (l.drop (i + 1)) (i + 1) := by
  rw [List.drop_eq_getElem_cons h]
  simp only [se, hc, if_false]
  rw [show (l[i] == 92 && c != 96) = false from by simpa using h1]
theorem se_out (c : UInt8) (l : List UInt8) (i : Nat) (h : ¬ i < l.length) : se c false (l.drop i) i = none := by
  rw [List.drop_eq_nil_of_le (by omega)]; simp [se]
end Go.Proofs.Qxb6617971a.Plain
