import Derived.Below
/-! The plain laws of the seat: bytes of a 64-bit number, most significant first; no Go in sight. -/
namespace Go.Proofs.Qxb6612646a.Plain

/-- The eight bytes of v, the greatest first, as the walk writes them. -/
def bytes8 (v : Int) : List Int :=
  [v / 72057594037927936, v / 281474976710656 % 256, v / 1099511627776 % 256, v / 4294967296 % 256, v / 16777216 % 256, v / 65536 % 256, v / 256 % 256, v % 256]

theorem length8 (v : Int) : (bytes8 v).length = 8 := rfl

def Byte (x : Int) : Prop := 0 ≤ x ∧ x ≤ 255

theorem bytes8_byte (v : Int) (h0 : 0 ≤ v) (h1 : v < 18446744073709551616) : ∀ x ∈ bytes8 v, Byte x := by
  intro x hx
  simp only [bytes8, List.mem_cons, List.not_mem_nil, or_false] at hx
  unfold Byte
  rcases hx with rfl | rfl | rfl | rfl | rfl | rfl | rfl | rfl <;> omega

/-- What the bytes spell, on top of 'a'. -/
def beF (a : Int) : List Int → Int
  | [] => a
  | x :: xs => beF (a * 256 + x) xs

theorem beF_snoc (a : Int) (xs : List Int) (x : Int) : beF a (xs ++ [x]) = beF a xs * 256 + x := by
  induction xs generalizing a with
  | nil => rfl
  | cons y ys ih => exact ih _

theorem be_bytes8 (v : Int) : beF 0 (bytes8 v) = v := by
  simp only [bytes8, beF]
  omega

/-- The order of byte strings. -/
def cmpL : List Int → List Int → Int
  | [], [] => 0
  | [], _ :: _ => -1
  | _ :: _, [] => 1
  | a :: as, b :: bs => if a < b then -1 else if b < a then 1 else cmpL as bs

theorem beF_lt (xs : List Int) : ∀ (ys : List Int) (a b : Int), xs.length = ys.length → (∀ x ∈ xs, Byte x) → (∀ y ∈ ys, Byte y) → a < b → beF a xs < beF b ys := by
  induction xs with
  | nil =>
    intro ys a b hl _ _ h
    cases ys with
    | nil => exact h
    | cons y ys => simp at hl
  | cons x xs ih =>
    intro ys a b hl hx hy h
    cases ys with
    | nil => simp at hl
    | cons y ys =>
      have bx := hx x (by simp)
      have by' := hy y (by simp)
      unfold Byte at bx by'
      exact ih ys _ _ (by simpa using hl) (fun z hz => hx z (by simp [hz])) (fun z hz => hy z (by simp [hz])) (by omega)

theorem cmp_beF (xs : List Int) : ∀ (ys : List Int) (a : Int), xs.length = ys.length → (∀ x ∈ xs, Byte x) → (∀ y ∈ ys, Byte y) →
    cmpL xs ys = if beF a xs < beF a ys then -1 else if beF a ys < beF a xs then 1 else 0 := by
  induction xs with
  | nil =>
    intro ys a hl _ _
    cases ys with
    | nil => simp [cmpL, beF]
    | cons y ys => simp at hl
  | cons x xs ih =>
    intro ys a hl hx hy
    cases ys with
    | nil => simp at hl
    | cons y ys =>
      have hl' : xs.length = ys.length := by simpa using hl
      have hxs : ∀ z ∈ xs, Byte z := fun z hz => hx z (by simp [hz])
      have hys : ∀ z ∈ ys, Byte z := fun z hz => hy z (by simp [hz])
      show (if x < y then (-1 : Int) else if y < x then 1 else cmpL xs ys) = if beF (a * 256 + x) xs < beF (a * 256 + y) ys then -1 else if beF (a * 256 + y) ys < beF (a * 256 + x) xs then 1 else 0
      by_cases h : x < y
      · have := beF_lt xs ys (a * 256 + x) (a * 256 + y) hl' hxs hys (by omega)
        rw [if_pos h, if_pos this]
      · by_cases h' : y < x
        · have := beF_lt ys xs (a * 256 + y) (a * 256 + x) hl'.symm hys hxs (by omega)
          rw [if_neg h, if_pos h', if_neg (by omega), if_pos this]
        · obtain rfl : x = y := by omega
          rw [if_neg h, if_neg h']
          exact ih ys _ hl' hxs hys

/-- The eight bytes compare as the numbers do. -/
theorem cmp_bytes8 (v w : Int) (h0 : 0 ≤ v) (h1 : v < 18446744073709551616) (g0 : 0 ≤ w) (g1 : w < 18446744073709551616) :
    cmpL (bytes8 v) (bytes8 w) = if v < w then -1 else if w < v then 1 else 0 := by
  rw [cmp_beF (bytes8 v) (bytes8 w) 0 rfl (bytes8_byte v h0 h1) (bytes8_byte w g0 g1), be_bytes8 v, be_bytes8 w]

theorem cmp_drop (xs ys : List Int) (k : Nat) (hx : k < xs.length) (hy : k < ys.length) :
    cmpL (xs.drop k) (ys.drop k) = if xs[k] < ys[k] then -1 else if ys[k] < xs[k] then 1 else cmpL (xs.drop (k + 1)) (ys.drop (k + 1)) := by
  rw [List.drop_eq_getElem_cons hx, List.drop_eq_getElem_cons hy]
  rfl

theorem cmp_end (xs ys : List Int) (k : Nat) (hx : xs.length = k) (hy : ys.length = k) : cmpL (xs.drop k) (ys.drop k) = 0 := by
  rw [List.drop_of_length_le (by omega), List.drop_of_length_le (by omega)]
  rfl

theorem beF_take (xs : List Int) (k : Nat) (h : k < xs.length) : beF 0 (xs.take (k + 1)) = beF 0 (xs.take k) * 256 + xs[k] := by
  rw [List.take_succ_eq_append_getElem h, beF_snoc]

def pw : Nat → Int
  | 0 => 1
  | n + 1 => 256 * pw n
theorem pw_pos (n : Nat) : 1 ≤ pw n := by
  induction n with
  | zero => exact Int.le_refl _
  | succ n ih => show 1 ≤ 256 * pw n; omega
theorem pw_mono {m n : Nat} (h : m ≤ n) : pw m ≤ pw n := by
  induction h with
  | refl => exact Int.le_refl _
  | step _ ih => rename_i k _; have := pw_pos k; show pw m ≤ 256 * pw k; omega

theorem beF_bound (xs : List Int) (a : Int) (h0 : 0 ≤ a) (hx : ∀ x ∈ xs, Byte x) : 0 ≤ beF a xs ∧ beF a xs < (a + 1) * pw xs.length := by
  induction xs generalizing a with
  | nil => simp only [beF, List.length_nil, pw]; omega
  | cons x xs ih =>
    have bx := hx x (by simp)
    unfold Byte at bx
    have h := ih (a * 256 + x) (by omega) (fun z hz => hx z (by simp [hz]))
    refine ⟨h.1, Int.lt_of_lt_of_le h.2 ?_⟩
    show (a * 256 + x + 1) * pw xs.length ≤ (a + 1) * (256 * pw xs.length)
    rw [← Int.mul_assoc]
    exact Int.mul_le_mul_of_nonneg_right (by omega) (by have := pw_pos xs.length; omega)

theorem take_byte (xs : List Int) (hx : ∀ x ∈ xs, Byte x) (k : Nat) : ∀ x ∈ xs.take k, Byte x := fun x h => hx x (List.mem_of_mem_take h)

/-- Seven bytes spell less than 2^56. -/
theorem beF_small (xs : List Int) (hx : ∀ x ∈ xs, Byte x) (k : Nat) (hk : k ≤ 7) : 0 ≤ beF 0 (xs.take k) ∧ beF 0 (xs.take k) < 72057594037927936 := by
  have h := beF_bound (xs.take k) 0 (by omega) (take_byte xs hx k)
  refine ⟨h.1, Int.lt_of_lt_of_le h.2 ?_⟩
  have e : pw (xs.take k).length ≤ pw 7 := pw_mono (by have := List.length_take_le k xs; omega)
  have e7 : pw 7 = 72057594037927936 := by simp only [pw]; omega
  omega
end Go.Proofs.Qxb6612646a.Plain
