import Derived.Test.Qxb6612674aChooseWalks
import Derived.Lib.LazyBuf
namespace Go.Proofs.Qxb6612674a.W
open Go.RowKit Go.Maps Plain

theorem info32 : (Try.prog.info? 32).map (fun i => (i.zero, i.size, i.bytes)) = some (some (.int .u64 0), 1, 8) := by kernel_rfl

theorem made_zeros (n : Nat) : (madeCells #[Value.int .u64 0] n).toList = (List.replicate n (0 : Int)).map (Value.int .u64) := by
  rw [List.map_replicate]
  exact toList_madeCells_one (Value.int .u64 0) n

/-- After k rounds: the first k numbers copied, the rest zero. -/
def part (xs : List Int) (n k : Nat) : List Int := xs.take k ++ List.replicate (n - k) 0

theorem part_zero (xs : List Int) (n : Nat) : part xs n 0 = List.replicate n 0 := by simp [part]
theorem part_all (xs : List Int) (n : Nat) (h : xs.length = n) : part xs n n = xs := by
  simp [part, List.take_of_length_le (Nat.le_of_eq h)]
theorem part_step (xs : List Int) (n k : Nat) (h : xs.length = n) (hk : k < n) : (part xs n k).set k (xs.getD k 0) = part xs n (k + 1) := by
  have hx : xs.getD k 0 = xs[k] := by simp [List.getD, List.getElem?_eq_getElem (show k < xs.length by omega)]
  have hr : List.replicate (n - k) (0 : Int) = 0 :: List.replicate (n - (k + 1)) 0 := by
    rw [show n - k = (n - (k + 1)) + 1 by omega, List.replicate_succ]
  rw [part, part, hx, hr, List.take_succ_eq_append_getElem (by omega), List.append_assoc, List.set_append_right _ _ (by simp; omega)]
  simp [List.length_take, Nat.min_eq_left (show k ≤ xs.length by omega)]

/-- What owns at least one number: where it lies, and that its cells are the numbers. -/
theorem ownsRow_rd {w : World} {B : Nat} {v : Value} {n : Nat} {xs : List Int} (h : w.ownsRow B 32 1 v n (xs.map (Value.int .u64))) (hn : 0 < n) :
    ∃ g cap, v = .slice (some ⟨g, 0, none⟩) n cap ∧ n ≤ cap ∧ cap ≤ maxLen ∧ xs.length = n ∧ Rd w ⟨g, 0, none⟩ xs := by
  have hl : xs.length = n := by have := h.1; simpa using this
  rcases h.2 with ⟨_, h0⟩ | ⟨g, cap, cur, rfl, hb, hg, hc, hm, hs, ht⟩
  · omega
  · refine ⟨g, cap, rfl, hc, hm, hl, fun i x hx => ?_⟩
    have hi : i < n := by rw [← hl]; exact (List.getElem?_eq_some_iff.1 hx).1
    have := h.cellAt i (by omega)
    rw [List.getElem?_map, hx] at this
    rw [Addr.add_lit, Nat.zero_add]
    simpa using this

/-- zzIDs at a slice that is not nil: a new row that holds the same numbers. -/
theorem ids8 (g o n cap : Nat) (xs : List Int) (hl : xs.length = n) (h0 : 0 < n) (hn : n ≤ 10000000) (w : World) (hr : Rd w ⟨g, o, none⟩ xs) :
    Calls Try.prog 8 #[.slice (some ⟨g, o, none⟩) n cap] w fun e w' => ∃ g', e = .returned (.slice (some ⟨g', 0, none⟩) n n) ∧ Rd w' ⟨g', 0, none⟩ xs ∧ Below w.heap.size w w' := by
  obtain ⟨i0, hi, hz0, hz1, hz2⟩ := info_parts info32
  have hg : g < w.heap.size := by
    have := hr 0 xs[0] (List.getElem?_eq_getElem (by omega))
    exact World.block_lt_of_cell? w _ this
  have hnil := fun (w : World) => run_eql_slice_nil (P := Try.prog) w 26 22 (some ⟨g, o, none⟩) n cap Try.underlying26
  go_enter Try.func8, Try.ntmps8
  go_wp2_with (at_make; refine wpList_make_full _ rfl (.tmp 8) (.tmp 8) 28 rfl w.heap.size 32 i0 (.int .u64 0) 1 Try.underlying28 hi hz0 hz1 .i64 .i64 _ _ n rfl rfl rfl rfl (by rw [hz2]; omega) (by unfold maxLen; omega) (Nat.le_refl _) ?_)
  intro w1 hown hgrow
  rw [made_zeros, ← part_zero xs n] at hown
  have hb1 : Below w.heap.size w w1 := (Below.refl _ _).grown hgrow (Nat.le_refl _) (fun k hk => by cases hk)
  clear hgrow hnil
  go_wp2
  go_loopw [4] (fun i wr => ∃ k : Nat, k ≤ n ∧ i = .int .i64 k ∧ wr.ownsRow w.heap.size 32 1 (.slice (some ⟨w.heap.size, 0, none⟩) n n) n ((part xs n k).map (Value.int .u64)) ∧ Below w.heap.size w wr) (fun i _ => n - (intOf i).toNat)
  case atStart => exact ⟨0, by omega, rfl, hown, hb1⟩
  case round =>
    clear hown hb1
    obtain ⟨k, hk, rfl, hown, hb⟩ := hrel
    by_cases hlt : k < n
    · have hx : xs[k]? = some (xs.getD k 0) := by rw [List.getElem?_eq_getElem (by omega)]; simp [List.getD, List.getElem?_eq_getElem (show k < xs.length by omega)]
      have hc : wr.cell? ⟨g, o + k, none⟩ = some (.int .u64 (xs.getD k 0)) := by
        rw [hb.cell (p := ⟨g, o + k, none⟩) hg, ← Addr.add_lit]
        exact hr k _ hx
      have hlti : (k : Int) < (n : Int) := by omega
      have hf := hown.frozenAt k
      have hold : ∃ v, wr.cell? ⟨w.heap.size, k, none⟩ = some v := by
        rw [hown.cellAt k (by omega)]
        exact ⟨_, List.getElem?_eq_getElem (by rw [hown.1]; omega)⟩
      obtain ⟨v0, hold⟩ := hold
      have hst := (hown.stored k (.int .u64 (xs.getD k 0))).1
      rw [← List.map_set, part_step xs n k hl hlt] at hst
      have hbs : Below w.heap.size w (wr.setCell ⟨w.heap.size, k, none⟩ (.int .u64 (xs.getD k 0))) := hb.setCell (Nat.le_refl _) _
      generalize xs.getD k 0 = x at *
      clear hx hr
      go_wp2
      go_roundw
      case rel => exact ⟨k + 1, by omega, by go_num, hst, hbs⟩
      case measure => simp [intOf]; omega
    · obtain rfl : k = n := by omega
      rw [part_all xs k hl] at hown
      obtain ⟨g', c', e', _, _, _, hr'⟩ := ownsRow_rd hown h0
      simp only [Value.slice.injEq, Option.some.injEq, Addr.mk.injEq, and_true, true_and] at e'
      obtain ⟨rfl, rfl⟩ := e'
      clear hr
      go_wp2
      go_ret
      exact ⟨_, rfl, hr', hb⟩

theorem mem_take_succ (xs : List Int) (k : Nat) (m : Int) (hk : k < xs.length) : decide (m ∈ xs.take (k + 1)) = (decide (m ∈ xs.take k) || decide (m = xs[k])) := by
  rw [Bool.eq_iff_iff, List.take_succ_eq_append_getElem hk]
  simp only [decide_eq_true_eq, List.mem_append, List.mem_singleton, Bool.or_eq_true]

theorem mem_take_hit {xs : List Int} {k : Nat} {m X : Int} (h : decide (m ∈ xs.take (k + 1)) = (decide (m ∈ xs.take k) || decide (m = X))) (e : (X == m) = true) : Value.bool true = Value.bool (decide (m ∈ xs.take (k + 1))) := by
  rw [h, decide_eq_true (p := m = X) (by simpa using (beq_iff_eq.1 e).symm), Bool.or_true]
theorem mem_take_miss {xs : List Int} {k : Nat} {m X : Int} (h : decide (m ∈ xs.take (k + 1)) = (decide (m ∈ xs.take k) || decide (m = X))) (e : (X == m) = false) : Value.bool (decide (m ∈ xs.take k)) = Value.bool (decide (m ∈ xs.take (k + 1))) := by
  rw [h, decide_eq_false (p := m = X) (fun c => by rw [c] at e; simp at e), Bool.or_false]

/-- zzIsLeast says true of the least. -/
theorem least11 (g o n cap : Nat) (mv : Value) (f : Int → Int) (p : Int → Bool) (xs : List Int) (hx : ∀ x ∈ xs, U64 x) (hl : xs.length = n) (hn : n ≤ 10000000) (m : Int) (hmin : IsMin f xs m) (w : World) (hr : Rd w ⟨g, o, none⟩ xs)
    (hL : Looks 27 w mv f p) :
    Calls Try.prog 11 #[.slice (some ⟨g, o, none⟩) n cap, mv, .int .u64 m] w fun e w' => e = .returned (.bool true) ∧ w' = w := by
  have lm := (hL w (Below.refl _ _) m (hx m hmin.1)).1
  go_enter Try.func11, Try.ntmps11
  go_wp2
  go_loop [8, 9] (fun b i => ∃ k : Nat, k ≤ n ∧ i = .int .i64 k ∧ b = .bool (decide (m ∈ xs.take k))) (fun _ i => n - (intOf i).toNat)
  case atStart => exact ⟨0, by omega, rfl, by simp⟩
  case round =>
    obtain ⟨k, hk, rfl, rfl⟩ := hrel
    by_cases hlt : k < n
    · have hkx : k < xs.length := by omega
      have hc := hr k xs[k] (List.getElem?_eq_getElem hkx)
      rw [Addr.add_lit] at hc
      have hxk := hx _ (List.getElem_mem hkx)
      have lx := (hL w (Below.refl _ _) xs[k] hxk).1
      have hnl := hmin.2 _ (List.getElem_mem hkx)
      have hd := mem_take_succ xs k m hkx
      unfold Plain.less at hnl
      have hlti : (k : Int) < (n : Int) := by omega
      have HD : Hid (decide (m ∈ xs.take (k + 1)) = (decide (m ∈ xs.take k) || decide (m = xs[k]))) := hd
      clear hd hL hr hmin hx
      generalize xs[k] = X at *
      generalize f X = fX at *
      generalize f m = fm at *
      go_wp2
      all_goals
        go_round
        case rel => exact ⟨k + 1, by omega, by go_num, by first | exact mem_take_hit HD.out (by assumption) | exact mem_take_miss HD.out (by assumption)⟩
        case measure => simp [intOf]; omega
    · obtain rfl : k = n := by omega
      have ht : decide (m ∈ xs.take k) = true := by rw [List.take_of_length_le (by omega)]; simp [hmin.1]
      rw [ht]
      clear ht hr hL hx hmin
      go_wp2
      go_ret
      exact ⟨rfl, rfl⟩
end Go.Proofs.Qxb6612674a.W
