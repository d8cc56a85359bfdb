import Derived.Test.Qxb6612674aCmpWalks
namespace Go.Proofs.Qxb6612674a.W
open Go.RowKit Go.Maps Plain

/-- What a look-up in the map 'mv' gives in w and in every later world that keeps what w holds: 'f x', and whether x is there. -/
def Looks (T : TypeId) (w : World) (mv : Value) (f : Int → Int) (p : Int → Bool) : Prop :=
  ∀ w', Below w.heap.size w w' → ∀ x, U64 x →
    (Instr.lookup T mv (.int .u64 x) false).run Try.prog w' = .ok (.int .u64 (f x)) w' ∧
    (Instr.lookup T mv (.int .u64 x) true).run Try.prog w' = .ok (.tuple #[.int .u64 (f x), .bool (p x)]) w' ∧
    U64 (f x) ∧ (p x = false → f x = 0)

theorem Looks.below {T : TypeId} {w w' : World} {mv : Value} {f : Int → Int} {p : Int → Bool} (h : Looks T w mv f p) (hb : Below w.heap.size w w') : Looks T w' mv f p :=
  fun w2 h2 x hx => h w2 (hb.trans (h2.mono hb.size)) x hx

/-- The closure of Choose: which of a and b comes first, by count, then by id. -/
theorem clo18 (B : Nat) (a b : Int) (bm : Nat) (f : Int → Int) (p : Int → Bool) (ha : U64 a) (hb : U64 b) (w : World) (hc : w.cell? ⟨B, 0, none⟩ = some (.map (some bm))) (hL : Looks 30 w (.map (some bm)) f p) :
    Calls Try.prog 18 #[.int .u64 a, .int .u64 b, .pointer (some ⟨B, 0, none⟩)] w fun e w' => e = .returned (.int .i64 (or3 (cmp3 (f a) (f b)) (cmp3 a b))) ∧ Below w.heap.size w w' := by
  have la := (hL w (Below.refl _ _) a ha).1
  have lb := (hL w (Below.refl _ _) b hb).1
  clear hL
  generalize f a = fa at *
  generalize f b = fb at *
  go_enter Try.func18, Try.ntmps18
  go_wp2_with fail
  refine (cmp20 _ _ _).mono ?_
  rintro e w1 ⟨rfl, hw⟩
  subst hw
  go_wp2_with fail
  refine (cmp21 _ _ _).mono ?_
  rintro e w2 ⟨rfl, hw⟩
  subst hw
  go_wp2_with fail
  refine (or19 _ _ (cmp3 fa fb) (cmp3 a b) _ (by simp [go_sem]) (by simp [go_sem])).mono ?_
  rintro e w3 ⟨rfl, hw⟩
  subst hw
  go_wp2_with fail
  go_ret
  exact ⟨rfl, (Below.refl _ _).alloc (Nat.le_refl _) _⟩

/-- The cells from 'a' on hold the numbers xs. -/
def Rd (w : World) (a : Addr) (xs : List Int) : Prop := ∀ i x, xs[i]? = some x → w.cell? (a.add i) = some (.int .u64 x)

theorem Rd.below {w w' : World} {a : Addr} {xs : List Int} (h : Rd w a xs) (hb : Below w.heap.size w w') : Rd w' a xs := by
  intro i x hx
  have hc := h i x hx
  rw [hb.cell (p := a.add i) (World.block_lt_of_cell? w _ hc)]
  exact hc

/-- slices.MinFunc over that closure: the least. -/
theorem min17 (B g o n cap : Nat) (bm : Nat) (f : Int → Int) (p : Int → Bool) (xs : List Int) (hx : ∀ x ∈ xs, U64 x) (hl : xs.length = n) (h0 : 0 < n) (hn : n ≤ 10000000) (w : World) (hr : Rd w ⟨g, o, none⟩ xs)
    (hc : w.cell? ⟨B, 0, none⟩ = some (.map (some bm))) (hL : Looks 30 w (.map (some bm)) f p) :
    Calls Try.prog 17 #[.slice (some ⟨g, o, none⟩) n cap, .func (Fn.func 18) #[] #[.pointer (some ⟨B, 0, none⟩)]] w fun e w' => ∃ m, e = .returned (.int .u64 m) ∧ IsMin f xs m ∧ Below w.heap.size w w' := by
  have hc0 := hr 0 xs[0] (List.getElem?_eq_getElem (by omega))
  rw [Addr.add_lit, Nat.add_zero] at hc0
  have h1 : (1 : Int) ≤ (n : Int) := by omega
  have hB : B < w.heap.size := World.block_lt_of_cell? w ⟨B, 0, none⟩ hc
  go_enter Try.func17, Try.ntmps17
  go_wp2_with fail
  go_loopw [5, 6] (fun m i wr => ∃ (k : Nat) (M : Int), 1 ≤ k ∧ k ≤ n ∧ i = .int .i64 k ∧ m = .int .u64 M ∧ IsMin f (xs.take k) M ∧ Below w.heap.size w wr) (fun _ i _ => n - (intOf i).toNat)
  case atStart =>
    refine ⟨1, xs[0], Nat.le_refl _, by omega, rfl, rfl, ?_, Below.refl _ _⟩
    have : xs.take 1 = [xs[0]] := by
      rw [List.take_succ_eq_append_getElem (by omega)]; simp
    rw [this]
    exact IsMin.one f _
  case round =>
    obtain ⟨k, M, h1k, hkn, rfl, rfl, hmin, hb⟩ := hrel
    clear hc0
    by_cases hlt : k < n
    · have hk : k < xs.length := by omega
      have hck := (hr.below hb) k xs[k] (List.getElem?_eq_getElem hk)
      rw [Addr.add_lit] at hck
      have hxk := hx _ (List.getElem_mem hk)
      have hM := hx M (List.mem_of_mem_take hmin.1)
      have hcl := clo18 B xs[k] M bm f p hxk hM wr (by rw [hb.cell (p := ⟨B, 0, none⟩) hB]; exact hc) (hL.below hb)
      have hls := or3_less f xs[k] M
      have hkeep := fun (h : ¬ less f xs[k] M) => hmin.keep (x := xs[k]) h
      have hnew := fun (h : less f xs[k] M) => hmin.less (x := xs[k]) h
      rw [← List.take_succ_eq_append_getElem hk] at hkeep hnew
      have hlti : (k : Int) < (n : Int) := by omega
      generalize xs[k] = X at *
      generalize or3 (cmp3 (f X) (f M)) (cmp3 X M) = R at *
      have HK : Hid (¬ less f X M → IsMin f (xs.take (k + 1)) M) := hkeep
      have HN : Hid (less f X M → IsMin f (xs.take (k + 1)) X) := hnew
      have HL : Hid (R < 0 ↔ less f X M) := hls
      clear hkeep hnew hls hr hc hL hmin hx
      go_wp2_with fail
      refine hcl.mono ?_
      rintro e w1 ⟨rfl, hb1⟩
      have hck1 : w1.cell? ⟨g, o + k, none⟩ = some (.int .u64 X) := by rw [hb1.cell (p := ⟨g, o + k, none⟩) (World.block_lt_of_cell? wr ⟨g, o + k, none⟩ hck)]; exact hck
      have hbb := hb.trans (hb1.mono hb.size)
      clear hcl hck hb hb1
      by_cases hR : R < 0
      · go_wp2_with fail
        go_roundw
        case rel => exact ⟨k + 1, X, by omega, by omega, by go_num, rfl, HN.out (HL.out.1 hR), hbb⟩
        case measure => simp [intOf]; omega
      · go_wp2_with fail
        go_roundw
        case rel => exact ⟨k + 1, M, by omega, by omega, by go_num, rfl, HK.out (fun h => absurd (HL.out.2 h) (by omega)), hbb⟩
        case measure => simp [intOf]; omega
    · obtain rfl : k = n := by omega
      rw [List.take_of_length_le (by omega)] at hmin
      clear hr hc hL hx
      go_wp2_with fail
      go_ret
      exact ⟨M, rfl, hmin, hb⟩
end Go.Proofs.Qxb6612674a.W
