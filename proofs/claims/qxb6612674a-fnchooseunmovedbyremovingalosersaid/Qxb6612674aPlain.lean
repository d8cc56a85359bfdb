import Derived.Below
/-! The plain laws of the seat: the least candidate by count, then by id; no Go in sight. -/
namespace Go.Proofs.Qxb6612674a.Plain

def U64 (x : Int) : Prop := 0 ≤ x ∧ x < 18446744073709551616

/-- a comes before b: a smaller count, or an equal count and a smaller id. -/
def less (f : Int → Int) (a b : Int) : Prop := f a < f b ∨ (f a = f b ∧ a < b)

/-- m is one of xs, and none of xs comes before it. -/
def IsMin (f : Int → Int) (xs : List Int) (m : Int) : Prop := m ∈ xs ∧ ∀ y ∈ xs, ¬ less f y m

theorem less_trans {f : Int → Int} {a b c : Int} (h : less f a b) (k : less f b c) : less f a c := by
  unfold less at *; omega
theorem less_irrefl (f : Int → Int) (a : Int) : ¬ less f a a := by unfold less; omega
theorem less_total (f : Int → Int) (a b : Int) : less f a b ∨ a = b ∨ less f b a := by unfold less; omega

theorem IsMin.one (f : Int → Int) (x : Int) : IsMin f [x] x :=
  ⟨by simp, fun y hy => by simp at hy; subst hy; exact less_irrefl f y⟩

theorem IsMin.take {f : Int → Int} {xs : List Int} {m : Int} (h : IsMin f (xs.take 1) m) (h0 : 0 < xs.length) : m = xs[0] := by
  obtain ⟨hm, _⟩ := h
  cases xs with
  | nil => simp at h0
  | cons a as => simpa using hm

theorem IsMin.less {f : Int → Int} {xs : List Int} {m x : Int} (h : IsMin f xs m) (hl : Plain.less f x m) : IsMin f (xs ++ [x]) x := by
  refine ⟨by simp, fun y hy => ?_⟩
  rcases List.mem_append.1 hy with hy | hy
  · intro hyx
    exact h.2 y hy (less_trans hyx hl)
  · simp at hy; subst hy; exact less_irrefl f y

theorem IsMin.keep {f : Int → Int} {xs : List Int} {m x : Int} (h : IsMin f xs m) (hl : ¬ Plain.less f x m) : IsMin f (xs ++ [x]) m := by
  refine ⟨by simp [h.1], fun y hy => ?_⟩
  rcases List.mem_append.1 hy with hy | hy
  · exact h.2 y hy
  · simp at hy; subst hy; exact hl

/-- The least one is one. -/
theorem IsMin.same {f : Int → Int} {xs : List Int} {m m' : Int} (h : IsMin f xs m) (h' : IsMin f xs m') : m = m' := by
  rcases less_total f m m' with k | k | k
  · exact absurd k (h'.2 m h.1)
  · exact k
  · exact absurd k (h.2 m' h'.1)

theorem IsMin.congr {f g : Int → Int} {xs : List Int} {m : Int} (h : IsMin f xs m) (hfg : ∀ x ∈ xs, f x = g x) : IsMin g xs m := by
  refine ⟨h.1, fun y hy hl => h.2 y hy ?_⟩
  unfold Plain.less at *
  rw [hfg y hy, hfg m h.1]
  exact hl

/-- Between the choices of two parts the choice is the whole's. -/
theorem IsMin.parts {f : Int → Int} {xs ys : List Int} {a b m r : Int} (ha : IsMin f xs a) (hb : IsMin f ys b) (hm : IsMin f (xs ++ ys) m) (hr : IsMin f [a, b] r) : r = m := by
  refine IsMin.same (f := f) (xs := xs ++ ys) ⟨?_, fun y hy hl => ?_⟩ hm
  · have := hr.1
    simp at this
    rcases this with rfl | rfl
    · exact List.mem_append.2 (.inl ha.1)
    · exact List.mem_append.2 (.inr hb.1)
  · rcases List.mem_append.1 hy with hy | hy
    · rcases less_total f a r with k | k | k
      · exact hr.2 a (by simp) k
      · subst k; exact ha.2 y hy hl
      · exact ha.2 y hy (less_trans hl k)
    · rcases less_total f b r with k | k | k
      · exact hr.2 b (by simp) k
      · subst k; exact hb.2 y hy hl
      · exact hb.2 y hy (less_trans hl k)

/-- Removing one that is not the least leaves the least. -/
theorem IsMin.without {f : Int → Int} {xs ys : List Int} {m r : Int} (hm : IsMin f xs m) (hs : ∀ y ∈ ys, y ∈ xs) (hin : m ∈ ys) (hr : IsMin f ys r) : r = m :=
  IsMin.same hr ⟨hin, fun y hy => hm.2 y (hs y hy)⟩

/-- Between the least and another one the least is named. -/
theorem IsMin.pair {f : Int → Int} {xs : List Int} {m y r : Int} (hm : IsMin f xs m) (hy : y ∈ xs) (hr : IsMin f [m, y] r) : r = m := by
  refine IsMin.same hr ⟨by simp, fun z hz => ?_⟩
  simp at hz
  rcases hz with rfl | rfl
  · exact less_irrefl f z
  · exact hm.2 z hy

/-! ### what cmp.Compare and cmp.Or give -/
def cmp3 (a b : Int) : Int := if a < b then -1 else if b < a then 1 else 0
def or3 (a b : Int) : Int := if a = 0 then b else a

theorem or3_less (f : Int → Int) (a b : Int) : or3 (cmp3 (f a) (f b)) (cmp3 a b) < 0 ↔ less f a b := by
  unfold or3 cmp3 less
  repeat (first | split | omega)
  all_goals omega

theorem cmp3_bd (a b : Int) : -1 ≤ cmp3 a b ∧ cmp3 a b ≤ 1 := by
  unfold cmp3; split <;> (try split) <;> omega

/-! ### rising lists -/
/-- each one greater than the one before it -/
def Rising (xs : List Int) : Prop := ∀ i j (hi : i < xs.length) (hj : j < xs.length), i < j → xs[i] < xs[j]

theorem rising_of_steps (xs : List Int) (h : ∀ i (hi : i + 1 < xs.length), xs[i] < xs[i + 1]) : Rising xs := by
  intro i j hi hj hij
  induction j with
  | zero => omega
  | succ j ih =>
    by_cases e : i = j
    · subst e; exact h i hj
    · exact Int.lt_trans (ih (by omega) (by omega)) (h j hj)

theorem Rising.inj {xs : List Int} (h : Rising xs) {i j : Nat} (hi : i < xs.length) (hj : j < xs.length) (e : xs[i] = xs[j]) : i = j := by
  rcases Nat.lt_trichotomy i j with k | k | k
  · have := h i j hi hj k; omega
  · exact k
  · have := h j i hj hi k; omega

theorem mem_eraseIdx_of_ne {xs : List Int} {k : Nat} {m : Int} (hk : k < xs.length) (hm : m ∈ xs) (hne : xs[k] ≠ m) : m ∈ xs.eraseIdx k := by
  obtain ⟨i, hi, rfl⟩ := List.mem_iff_getElem.1 hm
  rw [List.mem_eraseIdx_iff_getElem]
  refine ⟨i, hi, ?_, rfl⟩
  rintro rfl
  exact hne rfl

theorem not_mem_eraseIdx {xs : List Int} (h : Rising xs) {k : Nat} (hk : k < xs.length) : xs[k] ∉ xs.eraseIdx k := by
  rw [List.mem_eraseIdx_iff_getElem]
  rintro ⟨i, hi, hne, e⟩
  exact hne (h.inj hi hk e)

/-! ### the list without its k-th element, as the loop builds it -/
def rm (xs : List Int) (k i : Nat) : List Int := (xs.take i).eraseIdx k

theorem rm_zero (xs : List Int) (k : Nat) : rm xs k 0 = [] := by simp [rm]
theorem rm_all (xs : List Int) (k n : Nat) (h : xs.length = n) : rm xs k n = xs.eraseIdx k := by
  rw [rm, List.take_of_length_le (by omega)]
theorem rm_skip (xs : List Int) (k : Nat) (h : k < xs.length) : rm xs k (k + 1) = rm xs k k := by
  have hl : (xs.take k).length = k := by rw [List.length_take, Nat.min_eq_left (Nat.le_of_lt h)]
  have e : (xs.take k ++ [xs[k]]).eraseIdx k = xs.take k := by
    rw [List.eraseIdx_append_of_length_le (by omega), hl, Nat.sub_self]
    simp
  rw [rm, rm, List.take_succ_eq_append_getElem h, e, List.eraseIdx_of_length_le (by omega)]
theorem rm_push (xs : List Int) (k i : Nat) (h : i < xs.length) (hne : i ≠ k) : rm xs k (i + 1) = rm xs k i ++ [xs[i]] := by
  rw [rm, rm, List.take_succ_eq_append_getElem h]
  by_cases hlt : k < i
  · rw [List.eraseIdx_append_of_lt_length (by simp; omega)]
  · rw [List.eraseIdx_of_length_le (by simp; omega), List.eraseIdx_of_length_le (by simp; omega)]
theorem rm_le (xs : List Int) (k i : Nat) : (rm xs k i).length ≤ i := by
  rw [rm]
  exact Nat.le_trans (List.length_eraseIdx_le _ _) (List.length_take_le _ _)
end Go.Proofs.Qxb6612674a.Plain
