import Derived.Test.Qxb6612646aReadWalks
import Derived.Lib.LazyBuf
namespace Go.Proofs.Qxb6612646a.W
open Go.RowKit Plain

theorem made_bytes (n : Nat) : (madeCells #[Value.int .u8 0] n).toList = (List.replicate n (0 : Int)).map (Value.int .u8) := by
  rw [List.map_replicate]
  exact toList_madeCells_one (Value.int .u8 0) n

/-- After k rounds: the first k bytes copied, the rest zero. -/
def part (xs : List Int) (n k : Nat) : List Int := xs.take k ++ List.replicate (n - k) 0

theorem part_zero (xs : List Int) (n : Nat) : part xs n 0 = List.replicate n 0 := by simp [part]
theorem part_all (xs : List Int) (n : Nat) (h : xs.length = n) : part xs n n = xs := by
  simp [part, List.take_of_length_le (Nat.le_of_eq h)]
theorem part_step (xs : List Int) (n k : Nat) (h : xs.length = n) (hk : k < n) : (part xs n k).set k (xs.getD k 0) = part xs n (k + 1) := by
  have hx : xs.getD k 0 = xs[k] := by simp [List.getD, List.getElem?_eq_getElem (show k < xs.length by omega)]
  have hr : List.replicate (n - k) (0 : Int) = 0 :: List.replicate (n - (k + 1)) 0 := by
    rw [show n - k = (n - (k + 1)) + 1 by omega, List.replicate_succ]
  rw [part, part, hx, hr, List.take_succ_eq_append_getElem (by omega), List.append_assoc, List.set_append_right _ _ (by simp; omega)]
  simp [List.length_take, Nat.min_eq_left (show k ≤ xs.length by omega)]

/-- zzCloneBytes at nil. -/
theorem clone_nil (n cap : Nat) (w : World) : Calls Try.prog 9 #[.slice none n cap] w fun e w' => e = .returned (.slice none 0 0) ∧ w' = w := by
  have hnil := fun (w : World) => run_eql_slice_nil (P := Try.prog) w 30 5 none n cap Try.underlying30
  go_enter Try.func9, Try.ntmps9
  go_wp2
  go_ret
  exact ⟨rfl, rfl⟩

/-- zzCloneBytes at a slice that is not nil: a new row that holds the same bytes. -/
theorem clone_lit (g o n cap : Nat) (xs : List Int) (hl : xs.length = n) (hn : n ≤ 10000000) (w : World) (hr : Rd w ⟨g, o, none⟩ xs) (hg : g < w.heap.size) :
    Calls Try.prog 9 #[.slice (some ⟨g, o, none⟩) n cap] w fun e w' => e = .returned (.slice (some ⟨w.heap.size, 0, none⟩) n n) ∧ w'.ownsRow w.heap.size 5 1 (.slice (some ⟨w.heap.size, 0, none⟩) n n) n (xs.map (Value.int .u8)) ∧ Below w.heap.size w w' := by
  obtain ⟨i0, hi, hz0, hz1, hz2⟩ := info_parts info5
  have hnil := fun (w : World) => run_eql_slice_nil (P := Try.prog) w 30 5 (some ⟨g, o, none⟩) n cap Try.underlying30
  go_enter Try.func9, Try.ntmps9
  go_wp2_with (at_make; refine wpList_make_full _ rfl (.tmp 8) (.tmp 8) 30 rfl w.heap.size 5 i0 (.int .u8 0) 1 Try.underlying30 hi hz0 hz1 .i64 .i64 _ _ n rfl rfl rfl rfl (by rw [hz2]; omega) (by unfold maxLen; omega) (Nat.le_refl _) ?_)
  intro w1 hown hgrow
  rw [made_bytes, ← part_zero xs n] at hown
  have hb1 : Below w.heap.size w w1 := (Below.refl _ _).grown hgrow (Nat.le_refl _) (fun k hk => by cases hk)
  clear hgrow hnil
  go_wp2
  go_loopw [4] (fun i wr => ∃ k : Nat, k ≤ n ∧ i = .int .i64 k ∧ wr.ownsRow w.heap.size 5 1 (.slice (some ⟨w.heap.size, 0, none⟩) n n) n ((part xs n k).map (Value.int .u8)) ∧ Below w.heap.size w wr) (fun i _ => n - (intOf i).toNat)
  case atStart => exact ⟨0, by omega, rfl, hown, hb1⟩
  case round =>
    clear hown hb1
    obtain ⟨k, hk, rfl, hown, hb⟩ := hrel
    by_cases hlt : k < n
    · have hx : xs[k]? = some (xs.getD k 0) := by rw [List.getElem?_eq_getElem (by omega)]; simp [List.getD, List.getElem?_eq_getElem (show k < xs.length by omega)]
      have hc : wr.cell? ⟨g, o + k, none⟩ = some (.int .u8 (xs.getD k 0)) := by
        rw [hb.cell (p := ⟨g, o + k, none⟩) hg, ← Addr.add_lit]
        exact hr k _ hx
      have hlti : (k : Int) < (n : Int) := by omega
      have hf := hown.frozenAt k
      have hold : ∃ v, wr.cell? ⟨w.heap.size, k, none⟩ = some v := by
        rw [hown.cellAt k (by omega)]
        exact ⟨_, List.getElem?_eq_getElem (by rw [hown.1]; omega)⟩
      obtain ⟨v0, hold⟩ := hold
      have hst := (hown.stored k (.int .u8 (xs.getD k 0))).1
      rw [← List.map_set, part_step xs n k hl hlt] at hst
      have hbs : Below w.heap.size w (wr.setCell ⟨w.heap.size, k, none⟩ (.int .u8 (xs.getD k 0))) := hb.setCell (Nat.le_refl _) _
      generalize xs.getD k 0 = x at *
      clear hx hr
      go_wp2
      go_roundw
      case rel => exact ⟨k + 1, by omega, by go_num, hst, hbs⟩
      case measure => simp [intOf]; omega
    · obtain rfl : k = n := by omega
      rw [part_all xs k hl] at hown
      clear hr
      go_wp2
      go_ret
      exact ⟨rfl, hown, hb⟩

/-- zzCloneBytes at an empty slice that is not nil. -/
theorem clone_empty (a : Addr) (cap : Nat) (w : World) :
    Calls Try.prog 9 #[.slice (some a) 0 cap] w fun e w' => e = .returned (.slice (some ⟨w.heap.size, 0, none⟩) 0 0) ∧ Below w.heap.size w w' := by
  obtain ⟨i0, hi, hz0, hz1, hz2⟩ := info_parts info5
  have hnil := fun (w : World) => run_eql_slice_nil (P := Try.prog) w 30 5 (some a) 0 cap Try.underlying30
  go_enter Try.func9, Try.ntmps9
  go_wp2_with (at_make; refine wpList_make_full _ rfl (.tmp 8) (.tmp 8) 30 rfl w.heap.size 5 i0 (.int .u8 0) 1 Try.underlying30 hi hz0 hz1 .i64 .i64 _ _ 0 rfl rfl rfl rfl (by rw [hz2]; omega) (by unfold maxLen; omega) (Nat.le_refl _) ?_)
  intro w1 hown hgrow
  have hb1 : Below w.heap.size w w1 := (Below.refl _ _).grown hgrow (Nat.le_refl _) (fun k hk => by cases hk)
  clear hgrow hnil hown
  go_wp2
  refine wp_loop_rounds 1 ?_
  rw [rounds_succ]
  go_wp2
  go_ret
  exact ⟨rfl, hb1⟩

/-- The slice (ao, n) reads as the bytes xs. -/
def Sl (w : World) (ao : Option Addr) (n : Nat) (xs : List Int) : Prop := xs.length = n ∧ (n = 0 ∨ ∃ g o, ao = some ⟨g, o, none⟩ ∧ Rd w ⟨g, o, none⟩ xs)

theorem Sl.below {w w' : World} {ao : Option Addr} {n : Nat} {xs : List Int} (h : Sl w ao n xs) (hb : Below w.heap.size w w') : Sl w' ao n xs := by
  refine ⟨h.1, ?_⟩
  rcases h.2 with h0 | ⟨g, o, e, hr⟩
  · exact .inl h0
  · exact .inr ⟨g, o, e, hr.below hb⟩

theorem Sl.none {w : World} {n : Nat} {xs : List Int} (h : Sl w none n xs) : n = 0 := by
  rcases h.2 with h0 | ⟨g, o, e, _⟩
  · exact h0
  · cases e

theorem Sl.rd {w : World} {b : Addr} {n : Nat} {xs : List Int} (h : Sl w (some b) n xs) : Rd w b xs := by
  rcases h.2 with h0 | ⟨g, o, e, hr⟩
  · intro i x hx
    have := (List.getElem?_eq_some_iff.1 hx).1
    rw [h.1] at this
    omega
  · cases e
    exact hr

/-- zzCloneBytes at every slice. -/
theorem clone_any (ao : Option Addr) (n cap : Nat) (xs : List Int) (w : World) (hs : Sl w ao n xs) (hn : n ≤ 10000000) :
    Calls Try.prog 9 #[.slice ao n cap] w fun e w' => ∃ bo, e = .returned (.slice bo n n) ∧ Sl w' bo n xs ∧ Below w.heap.size w w' := by
  cases ao with
  | none =>
    obtain rfl := hs.none
    refine (clone_nil 0 cap w).mono ?_
    rintro e w' ⟨rfl, rfl⟩
    exact ⟨none, rfl, hs, Below.refl _ _⟩
  | some a =>
    by_cases h0 : n = 0
    · subst h0
      refine (clone_empty a cap w).mono ?_
      rintro e w' ⟨rfl, hb⟩
      exact ⟨_, rfl, ⟨hs.1, .inl rfl⟩, hb⟩
    · rcases hs.2 with h | ⟨g, o, e, hr⟩
      · exact absurd h h0
      · cases e
        have hg : g < w.heap.size := by
          have hk : 0 < xs.length := by rw [hs.1]; omega
          have := hr 0 xs[0] (List.getElem?_eq_getElem hk)
          exact World.block_lt_of_cell? w _ this
        refine (clone_lit g o n cap xs hs.1 hn w hr hg).mono ?_
        rintro e w' ⟨rfl, hown, hb⟩
        obtain ⟨g', c', e', _, _, _, hr'⟩ := ownsRow_rd hown (by omega)
        simp only [Value.slice.injEq, Option.some.injEq, Addr.mk.injEq, and_true, true_and] at e'
        obtain ⟨rfl, rfl⟩ := e'
        exact ⟨_, rfl, ⟨hs.1, .inr ⟨_, _, rfl, hr'⟩⟩, hb⟩

/-- zzEqualBytes at two slices that hold the same bytes. -/
theorem eq_any (ao bo : Option Addr) (n c c2 : Nat) (xs : List Int) (w : World) (ha : Sl w ao n xs) (hb : Sl w bo n xs) (hn : n ≤ 10000000) :
    Calls Try.prog 11 #[.slice ao n c, .slice bo n c2] w fun e w' => e = .returned (.bool true) ∧ Dr w w' := by
  by_cases h0 : n = 0
  · subst h0
    exact eq_none ao bo c c2 w
  · rcases ha.2 with h | ⟨g, o, rfl, hr⟩
    · exact absurd h h0
    · rcases hb.2 with h | ⟨g2, o2, rfl, hr2⟩
      · exact absurd h h0
      · exact eq_some g o c g2 o2 c2 n xs ha.1 (by omega) w hr hr2

/-- ZZappendUint64 at a slice as zzCloneBytes leaves it. -/
theorem app_any (ao : Option Addr) (n : Nat) (xs : List Int) (v : Int) (h0 : 0 ≤ v) (h1 : v < 18446744073709551616) (w : World) (hs : Sl w ao n xs) (hn : n ≤ 10000000) :
    Calls Try.prog 10 #[.slice ao n n, .int .u64 v] w fun e w' => ∃ g c, e = .returned (.slice (some ⟨g, 0, none⟩) (n + 8) c) ∧ n + 8 ≤ c ∧ c ≤ maxLen ∧ Rd w' ⟨g, 0, none⟩ (xs ++ bytes8 v) ∧ Below w.heap.size w w' :=
  app10 ao n n xs v h0 h1 w (fun e => by subst e; exact ⟨hs.none, hs.none⟩) hs.1 (fun b e => by subst e; exact hs.rd) (by omega) hn
end Go.Proofs.Qxb6612646a.W
