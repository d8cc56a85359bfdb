import Derived.Test.Qxb6612646aLaw4
namespace Go.Proofs.Qxb6612646a.W
open Go.RowKit Plain

theorem Rd.drewN {w : World} {a : Addr} {xs : List Int} (h : Rd w a xs) (n : Nat) : Rd (w.drewN n) a xs := h

/-- zzCompareBytes at the eight bytes of two numbers, in whatever later world of draws. -/
theorem cmp8 (g o c g2 o2 c2 : Nat) (v u C : Int) (hC : cmpL (bytes8 v) (bytes8 u) = C) (w : World) (n : Nat) (hr : Rd w ⟨g, o, none⟩ (bytes8 v)) (hr2 : Rd w ⟨g2, o2, none⟩ (bytes8 u)) :
    Calls Try.prog 14 #[.slice (some ⟨g, o, none⟩) 8 c, .slice (some ⟨g2, o2, none⟩) 8 c2] (w.drewN n) fun e w'' => e = .returned (.int .i64 C) ∧ ∃ m, w'' = w.drewN m := by
  subst hC
  exact Calls.quiet_of (cmp_any g o c g2 o2 c2 8 (bytes8 v) (bytes8 u) rfl rfl (by omega) (w.drewN n) (hr.drewN n) (hr2.drewN n))

theorem be8 (g o cap : Nat) (v : Int) (h0 : 0 ≤ v) (h1 : v < 18446744073709551616) (w : World) (n : Nat) (hr : Rd w ⟨g, o, none⟩ (bytes8 v)) :
    Calls Try.prog 12 #[.slice (some ⟨g, o, none⟩) 8 cap] (w.drewN n) fun e w'' => e = .returned (.int .u64 v) ∧ ∃ m, w'' = w.drewN m := by
  have h := be_any g o cap (bytes8 v) rfl (bytes8_byte v h0 h1) (w.drewN n) (hr.drewN n)
  rw [be_bytes8] at h
  exact Calls.quiet_of_same h

set_option maxHeartbeats 1000000 in
theorem law5 (ao : Option Addr) (n cap : Nat) (xs : List Int) (v u : Int) (h0 : 0 ≤ v) (h1 : v < 18446744073709551616) (g0 : 0 ≤ u) (g1 : u < 18446744073709551616) (hn : n ≤ maxLen) (w : World) (hs : Sl w ao n xs) :
    Calls Try.prog 5 #[.slice ao n cap, .int .u64 v, .int .u64 u] w fun e w' => e = .returned (.bool true) ∧ Below w.heap.size w w' := by
  have hb8 := bytes13_any ao n cap v u hn w
  unfold maxLen at hn
  go_enter Try.func5, Try.ntmps5
  go_wp2_with fail
  refine hb8.mono ?_
  clear hb8
  rintro e w' ⟨b, rfl, hsz, hw⟩
  subst hw
  cases b
  · go_wp2_with fail
    go_ret
    exact ⟨rfl, Below.refl _ _⟩
  · replace hsz := hsz rfl
    go_wp2_with fail
    refine (clone_any _ _ _ xs _ hs (by omega)).mono ?_
    rintro e w1 ⟨b1, rfl, hs1, hb1⟩
    go_wp2_with fail
    refine (clone_any _ _ _ xs _ hs1 (by omega)).mono ?_
    rintro e w2 ⟨b2, rfl, hs2, hb2⟩
    go_wp2_with fail
    refine (app_any _ _ xs v h0 h1 _ hs2 (by omega)).mono ?_
    rintro e w3 ⟨g3, c3, rfl, hc3, hm3, hr3, hb3⟩
    go_wp2_with fail
    refine (clone_any _ _ _ xs _ ((hs1.below hb2).below hb3) (by omega)).mono ?_
    rintro e w4 ⟨b4, rfl, hs4, hb4⟩
    go_wp2_with fail
    refine (app_any _ _ xs u g0 g1 _ hs4 (by omega)).mono ?_
    rintro e w5 ⟨g5, c5, rfl, hc5, hm5, hr5, hb5⟩
    have q1 : Sl w5 b1 n xs := (((hs1.below hb2).below hb3).below hb4).below hb5
    have q3 : Rd w5 ⟨g3, 0, none⟩ (xs ++ bytes8 v) := (hr3.below hb4).below hb5
    have z1 := hb1.size
    have z2 := hb2.size
    have z3 := hb3.size
    have z4 := hb4.size
    have q := (hb1.trans (hb2.mono z1)).trans (hb3.mono (Nat.le_trans z1 z2))
    have qq : Below w'.heap.size w' w5 := (q.trans (hb4.mono (by omega))).trans (hb5.mono (by omega))
    clear q z1 z2 z3 z4 hb1 hb2 hb3 hb4 hb5 hr3 hs1 hs2 hs4
    unfold maxLen at *
    go_wp2_with fail
    refine (eq_any _ _ _ _ _ xs _ ⟨hs.1, .inr ⟨_, _, rfl, q3.left⟩⟩ q1 (by omega)).mono ?_
    rintro e w8 ⟨rfl, hd8⟩
    replace q1 := q1.below hd8.below
    replace q3 := q3.below hd8.below
    replace hr5 := hr5.below hd8.below
    have z7 := qq.size
    replace qq := qq.trans (hd8.below.mono z7)
    clear hd8 z7
    go_wp2_with fail
    refine (eq_any _ _ _ _ _ xs _ ⟨hs.1, .inr ⟨_, _, rfl, hr5.left⟩⟩ q1 (by omega)).mono ?_
    rintro e w9 ⟨rfl, hd9⟩
    replace q3 := q3.below hd9.below
    replace hr5 := hr5.below hd9.below
    have z7 := qq.size
    replace qq := qq.trans (hd9.below.mono z7)
    clear hd9 z7 q1
    have q3r : Rd w9 ⟨g3, n, none⟩ (bytes8 v) := by have := q3.right hs.1; rwa [Nat.zero_add] at this
    have q5r : Rd w9 ⟨g5, n, none⟩ (bytes8 u) := by have := hr5.right hs.1; rwa [Nat.zero_add] at this
    have hcmp := cmp_bytes8 v u h0 h1 g0 g1
    clear q3 hr5
    rcases Int.lt_trichotomy v u with h | h | h
    · rw [if_pos h] at hcmp
      have HC : Hid (cmpL (bytes8 v) (bytes8 u) = -1) := hcmp
      clear hcmp
      go_wp2_with fail
      go_quiet (first | (go_at_call 14; exact cmp8 _ _ _ _ _ _ v u _ HC.out _ _ q3r q5r) | (go_at_call 12; exact be8 _ _ _ u g0 g1 _ _ q5r))
      go_wp2
      go_ret
      exact ⟨rfl, below_drewN qq _⟩
    · subst h
      rw [if_neg (Int.lt_irrefl _), if_neg (Int.lt_irrefl _)] at hcmp
      have HC : Hid (cmpL (bytes8 v) (bytes8 v) = 0) := hcmp
      clear hcmp
      go_wp2_with fail
      go_quiet (first | (go_at_call 14; exact cmp8 _ _ _ _ _ _ v v _ HC.out _ _ q3r q5r) | (go_at_call 12; exact be8 _ _ _ v g0 g1 _ _ q5r))
      go_wp2
      go_ret
      exact ⟨rfl, below_drewN qq _⟩
    · rw [if_neg (by omega), if_pos h] at hcmp
      have HC : Hid (cmpL (bytes8 v) (bytes8 u) = 1) := hcmp
      clear hcmp
      have h' : ¬ v < u := by omega
      go_wp2_with fail
      go_quiet (first | (go_at_call 14; exact cmp8 _ _ _ _ _ _ v u _ HC.out _ _ q3r q5r) | (go_at_call 12; exact be8 _ _ _ u g0 g1 _ _ q5r))
      go_wp2
      go_ret
      exact ⟨rfl, below_drewN qq _⟩
end Go.Proofs.Qxb6612646a.W
