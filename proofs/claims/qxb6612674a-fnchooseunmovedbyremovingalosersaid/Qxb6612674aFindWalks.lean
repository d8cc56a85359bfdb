import Derived.Test.Qxb6612674aLaw5
namespace Go.Proofs.Qxb6612674a.W
open Go.RowKit Go.Maps Plain

/-- Only draws have been made. -/
def Dr (w w' : World) : Prop := ∃ nq, w' = w.drewN nq
theorem Dr.refl (w : World) : Dr w w := ⟨0, rfl⟩
theorem Dr.drewN {w w' : World} (h : Dr w w') (n : Nat) : Dr w (w'.drewN n) := by
  obtain ⟨m, rfl⟩ := h
  exact ⟨m + n, by rw [World.drewN_drewN]⟩
theorem Dr.below {w w' : World} (h : Dr w w') : Below w.heap.size w w' := by
  obtain ⟨m, rfl⟩ := h
  exact below_drewN (Below.refl _ _) m

theorem wrap_i64_id (x : Int) (h : -9223372036854775808 ≤ x) (h' : x < 9223372036854775808) : IntKind.i64.wrap x = x := by
  simp [IntKind.wrap, IntKind.bits, IntKind.signed]
  omega

theorem inc_empty (ao : Option Addr) (cap : Nat) (w : World) : Calls Try.prog 12 #[.slice ao 0 cap] w fun e w' => e = .returned (.bool false) ∧ w' = w := by
  go_enter Try.func12, Try.ntmps12
  go_wp2_with fail
  go_ret
  exact ⟨rfl, rfl⟩

/-- zzIncreasingPositive: where it says true, the list is rising. -/
theorem inc12 (g o n cap : Nat) (xs : List Int) (hl : xs.length = n) (h0 : 0 < n) (hn : n ≤ 10000000) (w : World) (hr : Rd w ⟨g, o, none⟩ xs) :
    Calls Try.prog 12 #[.slice (some ⟨g, o, none⟩) n cap] w fun e w' => ∃ b : Bool, e = .returned (.bool b) ∧ (b = true → Rising xs) ∧ Dr w w' := by
  have hc0 := hr 0 xs[0] (List.getElem?_eq_getElem (by omega))
  rw [Addr.add_lit, Nat.add_zero] at hc0
  have h0i : (0 : Int) < (n : Int) := by omega
  by_cases hz : xs[0] = 0
  · rw [hz] at hc0
    clear hz hr
    go_enter Try.func12, Try.ntmps12
    go_wp2_with fail
    go_ret
    exact ⟨false, rfl, by simp, Dr.refl _⟩
  · have hzb : (xs[0] == 0) = false := beq_eq_false_iff_ne.2 hz
    clear hz
    generalize xs[0] = x0 at *
    have hn0 : ((n : Int) == 0) = false := beq_eq_false_iff_ne.2 (by omega)
    go_enter Try.func12, Try.ntmps12
    go_wp2_with fail
    go_loopw [3] (fun i wr => ∃ k : Nat, 1 ≤ k ∧ k ≤ n ∧ i = .int .i64 k ∧ Dr w wr ∧ Hid (∀ i (_ : i + 1 < k) (h : i + 1 < xs.length), xs[i] < xs[i + 1])) (fun i _ => n - (intOf i).toNat)
    case atStart => exact ⟨1, by omega, by omega, rfl, Dr.refl _, fun i hi => by omega⟩
    case round =>
      clear hc0 hzb
      obtain ⟨k, hk1, hk, rfl, ⟨nq, rfl⟩, HQ⟩ := hrel
      by_cases hlt : k < n
      · have hc := hr k xs[k] (List.getElem?_eq_getElem (by omega))
        have hc1 := hr (k - 1) xs[k - 1] (List.getElem?_eq_getElem (by omega))
        rw [Addr.add_lit] at hc hc1
        have hlti : (k : Int) < (n : Int) := by omega
        have hk1i : (1 : Int) ≤ (k : Int) := by omega
        have hlt1 : (k : Int) - 1 < (n : Int) := by omega
        by_cases hcmp : xs[k - 1] < xs[k]
        · have HQ' : Hid (∀ i (_ : i + 1 < k + 1) (h : i + 1 < xs.length), xs[i] < xs[i + 1]) := by
            intro i hi h
            by_cases e : i + 1 < k
            · exact HQ.out i e h
            · have e' : i = k - 1 := by omega
              subst e'
              have e2 : k - 1 + 1 = k := by omega
              simp only [e2]
              exact hcmp
          clear HQ hr
          generalize xs[k] = a at *
          generalize xs[k - 1] = b at *
          have hwr : IntKind.i64.wrap ((k : Int) - 1) = ((k - 1 : Nat) : Int) := by rw [wrap_i64_id _ (by omega) (by omega)]; omega
          have hj1 : ((k - 1 : Nat) : Int) < (n : Int) := by omega
          generalize k - 1 = j at *
          go_wp2_with fail
          go_quiet (fail)
          go_wp2_with fail
          go_roundw
          case rel => exact ⟨k + 1, by omega, by omega, by go_num, (by repeat (first | exact Dr.refl _ | exact ⟨_, rfl⟩ | apply Dr.drewN)), HQ'⟩
          case measure => simp [intOf]; omega
        · clear HQ hr
          have hcmp' : xs[k] ≤ xs[k - 1] := by omega
          clear hcmp
          have hwr : IntKind.i64.wrap ((k : Int) - 1) = ((k - 1 : Nat) : Int) := by rw [wrap_i64_id _ (by omega) (by omega)]; omega
          have hj1 : ((k - 1 : Nat) : Int) < (n : Int) := by omega
          generalize xs[k] = a at *
          generalize xs[k - 1] = b at *
          generalize k - 1 = j at *
          go_wp2_with fail
          go_quiet (fail)
          go_wp2_with fail
          go_ret
          exact ⟨false, rfl, by simp, (by repeat (first | exact Dr.refl _ | exact ⟨_, rfl⟩ | apply Dr.drewN))⟩
      · obtain rfl : k = n := by omega
        have hrise : Rising xs := rising_of_steps xs (fun i hi => HQ.out i (by omega) hi)
        clear hr HQ
        go_wp2_with fail
        go_ret
        exact ⟨true, rfl, fun _ => hrise, (by repeat (first | exact Dr.refl _ | exact ⟨_, rfl⟩ | apply Dr.drewN))⟩

/-- zzFind in a rising list: at x's own place it says where, and yes. -/
theorem find13 (g o n cap : Nat) (xs : List Int) (hl : xs.length = n) (hn : n ≤ 10000000) (hR : Rising xs) (x : Int) (hx : x ∈ xs) (w : World) (hr : Rd w ⟨g, o, none⟩ xs) :
    Calls Try.prog 13 #[.slice (some ⟨g, o, none⟩) n cap, .int .u64 x] w fun e w' => ∃ t : Int, e = .returned (.tuple #[.int .i64 t, .bool true]) ∧ Dr w w' := by
  obtain ⟨t, ht, rfl⟩ := List.mem_iff_getElem.1 hx
  have htn : t < n := by omega
  have htni : (t : Int) < (n : Int) := by omega
  have hct := hr t xs[t] (List.getElem?_eq_getElem ht)
  rw [Addr.add_lit] at hct
  have hlo : ∀ m (hm : m < n), xs[m] < xs[t] → m < t := by
    intro m hm h
    rcases Nat.lt_trichotomy m t with k | k | k
    · exact k
    · subst k; omega
    · have := hR t m ht (by omega) k; omega
  have hhi : ∀ m (hm : m < n), xs[t] ≤ xs[m] → t ≤ m := by
    intro m hm h
    by_cases e : t ≤ m
    · exact e
    · exact absurd (hR m t (by omega) ht (by omega)) (by omega)
  have HLo : Hid (∀ m (hm : m < n), xs[m] < xs[t] → m < t) := hlo
  have HHi : Hid (∀ m (hm : m < n), xs[t] ≤ xs[m] → t ≤ m) := hhi
  clear hlo hhi hR hx
  go_enter Try.func13, Try.ntmps13
  go_wp2_with fail
  go_loop [6, 7] (fun lo hi => ∃ L R : Nat, L ≤ t ∧ t ≤ R ∧ R ≤ n ∧ lo = .int .i64 L ∧ hi = .int .i64 R) (fun lo hi => (intOf hi - intOf lo).toNat)
  case atStart => exact ⟨0, n, by omega, by omega, by omega, rfl, rfl⟩
  case round =>
    obtain ⟨L, R, hL, hRt, hRn, rfl, rfl⟩ := hrel
    by_cases hlt : L < R
    · have hMd : ((L : Int) + ((R : Int) - (L : Int)) / 2) = ((L + (R - L) / 2 : Nat) : Int) := by omega
      have hcm := hr (L + (R - L) / 2) (xs[L + (R - L) / 2]'(by omega)) (List.getElem?_eq_getElem (by omega))
      rw [Addr.add_lit] at hcm
      have hM1 : L ≤ L + (R - L) / 2 := by omega
      have hM2 : L + (R - L) / 2 < R := by omega
      by_cases hc : xs[L + (R - L) / 2]'(by omega) < xs[t]
      · have hq := HLo.out _ (by omega) hc
        clear HLo HHi hr
        generalize xs[L + (R - L) / 2]'(by omega) = y at *
        generalize xs[t] = x at *
        generalize L + (R - L) / 2 = M at *
        go_wp2_with fail
        go_round
        case rel => exact ⟨M + 1, R, by omega, hRt, hRn, by go_num, rfl⟩
        case measure => simp [intOf]; omega
      · have hq := HHi.out (L + (R - L) / 2) (by omega) (Int.not_lt.1 hc)
        clear HLo HHi hr
        generalize xs[L + (R - L) / 2]'(by omega) = y at *
        generalize xs[t] = x at *
        generalize L + (R - L) / 2 = M at *
        go_wp2_with fail
        go_round
        case rel => exact ⟨L, M, by omega, hq, by omega, rfl, rfl⟩
        case measure => simp [intOf]; omega
    · obtain rfl : L = t := by omega
      obtain rfl : L = R := by omega
      clear hr HLo HHi
      generalize xs[L] = x at *
      go_wp2_with fail
      go_quiet (fail)
      go_wp2_with fail
      go_ret2
      exact ⟨_, rfl, (by repeat (first | exact Dr.refl _ | exact ⟨_, rfl⟩ | apply Dr.drewN))⟩
end Go.Proofs.Qxb6612674a.W
