import Derived.Test.Qxb6612445aRows
import Derived.WalkKit
import Derived.WalkLawsBesides
import Derived.WalkSpells
import Derived.BigQuiet
import Derived.Deep.QuietTactic
import Derived.RowKit3
namespace Go.Proofs.Qxb6612445a.KeyWalks
open Go.RowKit

theorem grown_trans {a b c : World} (h : Grown a b) (k : Grown b c) : Grown a c :=
  ⟨World.keptBut_trans h.1 (World.keptBut_mono (fun _ f => f.elim) k.1), fun x => (k.2.1 x).trans (h.2.1 x), Nat.le_trans h.2.2 k.2.2⟩
theorem grown_drewN {a b : World} (h : Grown a b) (n : Nat) : Grown a (b.drewN n) := h

/-- zzBytes: where it says true, the lengths sum to at most 2^20. -/
theorem bytes_any (a0 a1 a2 : ByteArray) (a3 a4 : Bool) (a5 a6 a7 : ByteArray) (a8 a9 : Bool) (w0 : a0.size ≤ maxLen) (w1 : a1.size ≤ maxLen) (w2 : a2.size ≤ maxLen) (w5 : a5.size ≤ maxLen) (w6 : a6.size ≤ maxLen) (w7 : a7.size ≤ maxLen) (w : World) :
    Calls Try.prog 4 #[.string a0, .string a1, .string a2, .bool a3, .bool a4, .string a5, .string a6, .string a7, .bool a8, .bool a9] w fun e w' => ∃ b : Bool, e = .returned (.bool b) ∧ (b = true → a0.size + a1.size + a2.size + a5.size + a6.size + a7.size ≤ 1048576) ∧ w' = w := by
  unfold maxLen at *
  go_enter Try.func4, Try.ntmps4
  go_wp2
  all_goals go_ret
  all_goals first | exact ⟨false, rfl, by simp, rfl⟩ | exact ⟨true, rfl, by intro _; omega, rfl⟩

theorem key_any (a b c : ByteArray) (d f : Bool) (w : World) :
    Calls Try.prog 6 #[.agg #[.string a, .string b, .string c, .bool d, .bool f]] w fun e w' => e = .returned (.agg #[.string a, .string b, .string c]) ∧ Grown w w' ∧ Below w.heap.size w w' := by
  go_enter Try.func6, Try.ntmps6
  go_wp2
  exact bodyPost_ret (v := .agg #[.string a, .string b, .string c]) (by simp [results, Try.results6, go_sem]) rfl ⟨rfl, ((Grown.refl _).alloc _ _).alloc _ _, ((Below.refl _ _).alloc (Nat.le_refl _) _).alloc (by simp) _⟩

theorem fields_any (a b c : ByteArray) (d f : Bool) (w : World) :
    Calls Try.prog 5 #[.agg #[.string a, .string b, .string c, .bool d, .bool f]] w fun e w' => e = .returned (.tuple #[.string a, .string b, .string c]) ∧ Grown w w' ∧ Below w.heap.size w w' := by
  go_enter Try.func5, Try.ntmps5
  go_wp2_with (go_at_call 6; refine (key_any _ _ _ _ _ _).mono ?_; rintro e w1 ⟨rfl, hg, hb⟩)
  go_quiet (fail)
  go_wp2
  go_ret3
  refine ⟨rfl, grown_drewN ((grown_trans ((Grown.refl _).alloc _ _) hg).alloc _ _) _, below_drewN (Below.alloc (((Below.refl _ _).alloc (Nat.le_refl _) _).trans (hb.mono (by simp))) ?_ _) _⟩
  have := hb.size
  simp at this; omega


set_option maxHeartbeats 1000000 in
theorem law_any (a0 a1 a2 : ByteArray) (a3 a4 : Bool) (a5 a6 a7 : ByteArray) (a8 a9 : Bool) (w0 : a0.size ≤ maxLen) (w1 : a1.size ≤ maxLen) (w2 : a2.size ≤ maxLen) (w5 : a5.size ≤ maxLen) (w6 : a6.size ≤ maxLen) (w7 : a7.size ≤ maxLen) (w : World) :
    Calls Try.prog 3 #[.string a0, .string a1, .string a2, .bool a3, .bool a4, .string a5, .string a6, .string a7, .bool a8, .bool a9] w fun e w' => e = .returned (.bool true) ∧ Grown w w' := by
  have hb4 := bytes_any a0 a1 a2 a3 a4 a5 a6 a7 a8 a9 w0 w1 w2 w5 w6 w7 w
  unfold maxLen at *
  go_enter Try.func3, Try.ntmps3
  go_wp2_with fail
  refine hb4.mono ?_
  clear hb4
  rintro e w' ⟨b, rfl, hs, rfl⟩
  cases b
  · go_wp2_with fail
    go_ret
    exact ⟨rfl, Grown.refl _⟩
  · replace hs := hs rfl
    go_wp2_with fail
    refine (fields_any _ _ _ _ _ _).mono ?_
    rintro e w1 ⟨rfl, hg1, hb1⟩
    have k : ∀ o, w1.cell? ⟨w'.heap.size + 1, o, none⟩ = _ := fun o => hb1.cell (p := ⟨w'.heap.size + 1, o, none⟩) (by simp)
    have c0 : w1.cell? ⟨w'.heap.size + 1, 0, none⟩ = some (.string a5) := by rw [k]; simp [go_sem]
    have c1 : w1.cell? ⟨w'.heap.size + 1, 1, none⟩ = some (.string a6) := by rw [k]; simp [go_sem]
    have c2 : w1.cell? ⟨w'.heap.size + 1, 2, none⟩ = some (.string a7) := by rw [k]; simp [go_sem]
    have c3 : w1.cell? ⟨w'.heap.size + 1, 3, none⟩ = some (.bool a8) := by rw [k]; simp [go_sem]
    have c4 : w1.cell? ⟨w'.heap.size + 1, 4, none⟩ = some (.bool a9) := by rw [k]; simp [go_sem]
    clear k
    go_wp2_with fail
    refine (fields_any _ _ _ _ _ _).mono ?_
    rintro e w2 ⟨rfl, hg2, hb2⟩
    clear c0 c1 c2 c3 c4 hb1 hb2
    go_wp2_with fail
    all_goals go_ret
    all_goals refine ⟨?_, grown_trans (grown_trans (((Grown.refl _).alloc _ _).alloc _ _) hg1) hg2⟩
    all_goals simp
end Go.Proofs.Qxb6612445a.KeyWalks
