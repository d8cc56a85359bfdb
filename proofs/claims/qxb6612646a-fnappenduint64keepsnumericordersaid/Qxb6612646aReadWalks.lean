import Derived.Test.Qxb6612646aAppWalks
import Derived.BigQuiet
import Derived.Deep.QuietTactic
namespace Go.Proofs.Qxb6612646a.W
open Go.RowKit Plain

/-- Only draws have been made. -/
def Dr (w w' : World) : Prop := ∃ nq, w' = w.drewN nq
theorem Dr.refl (w : World) : Dr w w := ⟨0, rfl⟩
theorem Dr.drewN {w w' : World} (h : Dr w w') (n : Nat) : Dr w (w'.drewN n) := by
  obtain ⟨m, rfl⟩ := h
  exact ⟨m + n, by rw [World.drewN_drewN]⟩
theorem Dr.below {w w' : World} (h : Dr w w') : Below w.heap.size w w' := by
  obtain ⟨m, rfl⟩ := h
  exact below_drewN (Below.refl _ _) m
theorem ret_int {k : IntKind} {a b : Int} (h : a = b) : Ending.returned (.int k a) = .returned (.int k b) := by rw [h]

theorem bytes8_any (ao : Option Addr) (n cap : Nat) (v u : Int) (hn : n ≤ maxLen) (w : World) :
    Calls Try.prog 8 #[.slice ao n cap, .int .u64 v, .int .u64 u] w fun e w' => ∃ b : Bool, e = .returned (.bool b) ∧ (b = true → n ≤ 1048576) ∧ w' = w := by
  unfold maxLen at hn
  go_enter Try.func8, Try.ntmps8
  go_wp2
  all_goals go_ret
  all_goals first | exact ⟨false, rfl, by simp, rfl⟩ | exact ⟨true, rfl, by intro _; omega, rfl⟩

theorem bytes13_any (ao : Option Addr) (n cap : Nat) (v u : Int) (hn : n ≤ maxLen) (w : World) :
    Calls Try.prog 13 #[.slice ao n cap, .int .u64 v, .int .u64 u] w fun e w' => ∃ b : Bool, e = .returned (.bool b) ∧ (b = true → n ≤ 1048576) ∧ w' = w := by
  unfold maxLen at hn
  go_enter Try.func13, Try.ntmps13
  go_wp2
  all_goals go_ret
  all_goals first | exact ⟨false, rfl, by simp, rfl⟩ | exact ⟨true, rfl, by intro _; omega, rfl⟩

theorem or256 (X b : Int) (hX0 : 0 ≤ X) (hX1 : X < 72057594037927936) (hb0 : 0 ≤ b) (hb1 : b ≤ 255) : bits BinOp.or IntKind.u64 (X * 256) b = X * 256 + b :=
  bits_join .u64 64 (by decide) wraps_u64 8 (X * 256) b (by omega) (by omega) (by omega) hb0 (by omega) (by omega)

/-- zzBigEndian64 at eight bytes: the number that they spell. -/
theorem be_any (g o cap : Nat) (xs : List Int) (hl : xs.length = 8) (hby : ∀ x ∈ xs, Byte x) (w : World) (hr : Rd w ⟨g, o, none⟩ xs) :
    Calls Try.prog 12 #[.slice (some ⟨g, o, none⟩) 8 cap] w fun e w' => e = .returned (.int .u64 (beF 0 xs)) ∧ w' = w := by
  go_enter Try.func12, Try.ntmps12
  go_wp2
  go_loop [3, 4] (fun x i => ∃ k : Nat, k ≤ 8 ∧ i = .int .i64 k ∧ x = .int .u64 (beF 0 (xs.take k))) (fun _ i => 8 - (intOf i).toNat)
  case atStart => exact ⟨0, by omega, rfl, rfl⟩
  case round =>
    obtain ⟨k, h8, rfl, rfl⟩ := hrel
    by_cases hlt : k < 8
    · have hk : k < xs.length := by omega
      have hX := beF_small xs hby k (by omega)
      have hs := beF_take xs k hk
      have hb := hby _ (List.getElem_mem hk)
      have hc := hr k xs[k] (List.getElem?_eq_getElem hk)
      rw [Addr.add_lit] at hc
      unfold Byte at hb
      generalize beF 0 (xs.take k) = X at *
      generalize xs[k] = b at *
      have HS : Hid (beF 0 (xs.take (k + 1)) = X * 256 + b) := hs
      clear hs hr hby
      obtain ⟨hX0, hX1⟩ := hX
      obtain ⟨hb0, hb1⟩ := hb
      go_wp2
      have ho : bits BinOp.or IntKind.u64 (X * 256) b = X * 256 + b := or256 X b hX0 hX1 hb0 hb1
      go_round
      case rel => exact ⟨k + 1, by omega, by go_num, by rw [ho, HS.out]⟩
      case measure => simp [intOf]; omega
    · obtain rfl : k = 8 := by omega
      clear hr
      go_wp2
      go_ret
      rw [List.take_of_length_le (by omega)]
      exact ⟨rfl, rfl⟩

/-- zzCompareBytes at two slices of one length. -/
theorem cmp_any (g o c g2 o2 c2 n : Nat) (xs ys : List Int) (hx : xs.length = n) (hy : ys.length = n) (hn : n ≤ 100000000) (w : World) (hr : Rd w ⟨g, o, none⟩ xs) (hr2 : Rd w ⟨g2, o2, none⟩ ys) :
    Calls Try.prog 14 #[.slice (some ⟨g, o, none⟩) n c, .slice (some ⟨g2, o2, none⟩) n c2] w fun e w' => e = .returned (.int .i64 (cmpL xs ys)) ∧ Dr w w' := by
  go_enter Try.func14, Try.ntmps14
  go_wp2
  go_loopw [5] (fun i wr => ∃ k : Nat, k ≤ n ∧ i = .int .i64 k ∧ Dr w wr ∧ cmpL xs ys = cmpL (xs.drop k) (ys.drop k)) (fun i _ => n - (intOf i).toNat)
  case atStart => exact ⟨0, by omega, rfl, Dr.refl _, rfl⟩
  case round =>
    obtain ⟨k, hk, rfl, ⟨nq, rfl⟩, hq⟩ := hrel
    by_cases hlt : k < n
    · have hd := cmp_drop xs ys k (by omega) (by omega)
      have hc := hr k xs[k] (List.getElem?_eq_getElem (by omega))
      have hc2 := hr2 k ys[k] (List.getElem?_eq_getElem (by omega))
      rw [Addr.add_lit] at hc hc2
      have hlti : (k : Int) < (n : Int) := by omega
      rw [hd] at hq
      generalize xs[k] = a at *
      generalize ys[k] = b at *
      have HQ : Hid (cmpL xs ys = if a < b then -1 else if b < a then 1 else cmpL (xs.drop (k + 1)) (ys.drop (k + 1))) := hq
      clear hq hr hr2 hd
      rcases Int.lt_trichotomy a b with h | h | h
      · go_wp2
        go_quiet (fail)
        go_wp2
        go_ret
        exact ⟨ret_int (by rw [HQ.out, if_pos h]), (by repeat (first | exact Dr.refl _ | exact ⟨_, rfl⟩ | apply Dr.drewN))⟩
      · subst h
        go_wp2
        go_quiet (fail)
        go_wp2
        go_quiet (fail)
        go_wp2
        go_roundw
        case rel => exact ⟨k + 1, by omega, by go_num, (by repeat (first | exact Dr.refl _ | exact ⟨_, rfl⟩ | apply Dr.drewN)), by rw [HQ.out, if_neg (Int.lt_irrefl _), if_neg (Int.lt_irrefl _)]⟩
        case measure => simp [intOf]; omega
      · have h' : ¬ a < b := by omega
        go_wp2
        go_quiet (fail)
        go_wp2
        go_quiet (fail)
        go_wp2
        go_ret
        exact ⟨ret_int (by rw [HQ.out, if_neg (by omega), if_pos h]), (by repeat (first | exact Dr.refl _ | exact ⟨_, rfl⟩ | apply Dr.drewN))⟩
    · obtain rfl : k = n := by omega
      have he := cmp_end xs ys k hx hy
      rw [he] at hq
      have HQ : Hid (cmpL xs ys = 0) := hq
      clear hq hr hr2 he hx hy
      go_wp2
      go_ret
      exact ⟨ret_int (by rw [HQ.out]), (by repeat (first | exact Dr.refl _ | exact ⟨_, rfl⟩ | apply Dr.drewN))⟩

/-- zzEqualBytes at two slices that hold the same bytes. -/
theorem eq_some (g o c g2 o2 c2 n : Nat) (xs : List Int) (hx : xs.length = n) (hn : n ≤ 100000000) (w : World) (hr : Rd w ⟨g, o, none⟩ xs) (hr2 : Rd w ⟨g2, o2, none⟩ xs) :
    Calls Try.prog 11 #[.slice (some ⟨g, o, none⟩) n c, .slice (some ⟨g2, o2, none⟩) n c2] w fun e w' => e = .returned (.bool true) ∧ Dr w w' := by
  go_enter Try.func11, Try.ntmps11
  go_wp2
  go_loopw [5] (fun i wr => ∃ k : Nat, k ≤ n ∧ i = .int .i64 k ∧ Dr w wr) (fun i _ => n - (intOf i).toNat)
  case atStart => exact ⟨0, by omega, rfl, Dr.refl _⟩
  case round =>
    obtain ⟨k, hk, rfl, ⟨nq, rfl⟩⟩ := hrel
    by_cases hlt : k < n
    · have hc := hr k xs[k] (List.getElem?_eq_getElem (by omega))
      have hc2 := hr2 k xs[k] (List.getElem?_eq_getElem (by omega))
      rw [Addr.add_lit] at hc hc2
      have hlti : (k : Int) < (n : Int) := by omega
      generalize xs[k] = a at *
      clear hr hr2
      go_wp2
      go_quiet (fail)
      go_wp2
      go_roundw
      case rel => exact ⟨k + 1, by omega, by go_num, (by repeat (first | exact Dr.refl _ | exact ⟨_, rfl⟩ | apply Dr.drewN))⟩
      case measure => simp [intOf]; omega
    · obtain rfl : k = n := by omega
      clear hr hr2 hx
      go_wp2
      go_ret
      exact ⟨rfl, (by repeat (first | exact Dr.refl _ | exact ⟨_, rfl⟩ | apply Dr.drewN))⟩

/-- zzEqualBytes at two slices without elements. -/
theorem eq_none (ao bo : Option Addr) (c c2 : Nat) (w : World) :
    Calls Try.prog 11 #[.slice ao 0 c, .slice bo 0 c2] w fun e w' => e = .returned (.bool true) ∧ Dr w w' := by
  go_enter Try.func11, Try.ntmps11
  go_wp2
  refine wp_loop_rounds 1 ?_
  rw [rounds_succ]
  go_wp2
  go_ret
  exact ⟨rfl, Dr.refl _⟩
end Go.Proofs.Qxb6612646a.W
