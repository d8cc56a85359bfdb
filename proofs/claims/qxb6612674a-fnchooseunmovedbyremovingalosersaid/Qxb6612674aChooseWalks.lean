import Derived.Test.Qxb6612674aMinWalks
import Derived.RegionTactic
import Derived.Deep.RegionWith
namespace Go.Proofs.Qxb6612674a.W
open Go.RowKit Go.Maps Plain

theorem ch16 (g o n cap : Nat) (bm : Nat) (f : Int → Int) (p : Int → Bool) (xs : List Int) (hx : ∀ x ∈ xs, U64 x) (hl : xs.length = n) (h0 : 0 < n) (hn : n ≤ 10000000) (w : World) (hr : Rd w ⟨g, o, none⟩ xs)
    (hL : Looks 30 w (.map (some bm)) f p) :
    Calls Try.prog 16 #[.slice (some ⟨g, o, none⟩) n cap, .map (some bm)] w fun e w' => ∃ m, e = .returned (.int .u64 m) ∧ IsMin f xs m ∧ Below w.heap.size w w' := by
  have hb0 : Below w.heap.size w (w.alloc (.cells #[.map (some bm)] 30)) := (Below.refl _ _).alloc (Nat.le_refl _) _
  have h17 := min17 w.heap.size g o n cap bm f p xs hx hl h0 hn (w.alloc (.cells #[.map (some bm)] 30)) (hr.below hb0) (by simp [go_sem]) (hL.below hb0)
  have hz := hb0.size
  go_enter Try.func16, Try.ntmps16
  go_wp2_with fail
  refine h17.mono ?_
  rintro e w1 ⟨m, rfl, hmin, hb⟩
  go_wp2_with fail
  go_ret
  exact ⟨m, rfl, hmin, hb0.trans (hb.mono hz)⟩

theorem ch15 (B g o n cap : Nat) (bm : Nat) (f : Int → Int) (p : Int → Bool) (xs : List Int) (v5 : Value) (hx : ∀ x ∈ xs, U64 x) (hl : xs.length = n) (h0 : 0 < n) (hn : n ≤ 10000000) (w : World) (hr : Rd w ⟨g, o, none⟩ xs)
    (hL : Looks 30 w (.map (some bm)) f p) (c17 : w.cell? ⟨B, 17, none⟩ = some (.slice (some ⟨g, o, none⟩) n cap)) (c6 : w.cell? ⟨B, 6, none⟩ = some (.map (some bm))) (c5 : w.cell? ⟨B, 5, none⟩ = some v5) (f5 : w.frozen? ⟨B, 5, none⟩ = false) :
    Calls Try.prog 15 #[.pointer (some ⟨B, 0, none⟩)] w fun e w' => ∃ m, e = .returned (.tuple #[]) ∧ IsMin f xs m ∧ w'.cell? ⟨B, 5, none⟩ = some (.int .u64 m) ∧ Below B w w' := by
  have hB : B < w.heap.size := World.block_lt_of_cell? w ⟨B, 5, none⟩ c5
  have hd : Below w.heap.size w w.drew := (Below.refl _ _).drew
  have h16 := ch16 g o n cap bm f p xs hx hl h0 hn w.drew (hr.below hd) (hL.below hd)
  have e5 : ∀ w1, Below w.drew.heap.size w.drew w1 → w1.cell? ⟨B, 5, none⟩ = some v5 := fun w1 hb => (hb.cell (p := ⟨B, 5, none⟩) hB).trans c5
  have ef : ∀ w1, Below w.drew.heap.size w.drew w1 → w1.frozen? ⟨B, 5, none⟩ = false := fun w1 hb => (hb.frozen (p := ⟨B, 5, none⟩) hB).trans f5
  have H5 : Hid (∀ w1, Below w.drew.heap.size w.drew w1 → w1.cell? ⟨B, 5, none⟩ = some v5) := e5
  have HF : Hid (∀ w1, Below w.drew.heap.size w.drew w1 → w1.frozen? ⟨B, 5, none⟩ = false) := ef
  clear e5 ef hr hL hx
  go_enter Try.func15, Try.ntmps15
  go_wp2
  go_region_with (go_at_call 16; refine h16.mono ?_; rintro e w1 ⟨m, rfl, hmin, hb⟩; have k5 := H5.out w1 hb; have kf := HF.out w1 hb)
  all_goals go_end0
  all_goals refine ⟨m, rfl, hmin, ?_, Below.setCell ((Below.refl _ _).drew.trans (hb.mono (Nat.le_of_lt hB))) (Nat.le_refl _) _⟩
  all_goals simp [go_sem, k5]

/-- ZZChoose: the least of the members. -/
theorem ch10 (g o n cap : Nat) (bm : Nat) (f : Int → Int) (p : Int → Bool) (xs : List Int) (hx : ∀ x ∈ xs, U64 x) (hl : xs.length = n) (h0 : 0 < n) (hn : n ≤ 10000000) (w : World) (hr : Rd w ⟨g, o, none⟩ xs)
    (hL : Looks 30 w (.map (some bm)) f p) :
    Calls Try.prog 10 #[.slice (some ⟨g, o, none⟩) n cap, .map (some bm)] w fun e w' => ∃ m, e = .returned (.int .u64 m) ∧ IsMin f xs m ∧ Below w.heap.size w w' := by
  have hb0 : ∀ obj, Below w.heap.size w (w.alloc obj) := fun obj => (Below.refl _ _).alloc (Nat.le_refl _) _
  have hr0 : ∀ obj, Rd (w.alloc obj) ⟨g, o, none⟩ xs := fun obj => hr.below (hb0 obj)
  have hL0 : ∀ obj, Looks 30 (w.alloc obj) (.map (some bm)) f p := fun obj => hL.below (hb0 obj)
  have HR : Hid (∀ obj, Rd (w.alloc obj) ⟨g, o, none⟩ xs) := hr0
  have HL : Hid (∀ obj, Looks 30 (w.alloc obj) (.map (some bm)) f p) := hL0
  have HB : Hid (∀ obj, Below w.heap.size w (w.alloc obj)) := hb0
  clear hr hL hr0 hL0 hb0
  go_enter Try.func10, Try.ntmps10
  go_wp2_with fail
  refine (ch15 w.heap.size g o n cap bm f p xs (.int .u64 0) hx hl h0 hn _ (HR.out _) (HL.out _) (by simp [go_sem]) (by simp [go_sem]) (by simp [go_sem]) (by simp [go_sem])).mono ?_
  rintro e w1 ⟨m, rfl, hmin, hc5, hb⟩
  go_wp2_with fail
  go_ret
  exact ⟨m, rfl, hmin, (HB.out _).trans hb⟩
end Go.Proofs.Qxb6612674a.W
