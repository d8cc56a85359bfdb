import Derived.Test.Qxb6612646aCloneWalks
namespace Go.Proofs.Qxb6612646a.W
open Go.RowKit Plain

theorem Rd.left {w : World} {a : Addr} {xs ys : List Int} (h : Rd w a (xs ++ ys)) : Rd w a xs := by
  intro i x hx
  exact h i x (by rw [List.getElem?_append_left (List.getElem?_eq_some_iff.1 hx).1]; exact hx)

theorem Rd.right {w : World} {g o n : Nat} {xs ys : List Int} (h : Rd w ⟨g, o, none⟩ (xs ++ ys)) (hn : xs.length = n) : Rd w ⟨g, o + n, none⟩ ys := by
  intro i x hx
  have := h (n + i) x (by rw [List.getElem?_append_right (by omega)]; simpa [hn] using hx)
  rw [Addr.add_lit] at this ⊢
  rw [Nat.add_assoc]
  exact this

/-- zzCloneBytes at a slice that has elements. -/
theorem clone_pos (g o n cap : Nat) (xs : List Int) (w : World) (hl : xs.length = n) (hr : Rd w ⟨g, o, none⟩ xs) (h0 : 0 < n) (hn : n ≤ 10000000) :
    Calls Try.prog 9 #[.slice (some ⟨g, o, none⟩) n cap] w fun e w' => ∃ g', e = .returned (.slice (some ⟨g', 0, none⟩) n n) ∧ Rd w' ⟨g', 0, none⟩ xs ∧ Below w.heap.size w w' := by
  have hg : g < w.heap.size := by
    have hk : 0 < xs.length := by omega
    have := hr 0 xs[0] (List.getElem?_eq_getElem hk)
    exact World.block_lt_of_cell? w _ this
  refine (clone_lit g o n cap xs hl hn w hr hg).mono ?_
  rintro e w' ⟨rfl, hown, hb⟩
  obtain ⟨g', c', e', _, _, _, hr'⟩ := ownsRow_rd hown h0
  simp only [Value.slice.injEq, Option.some.injEq, Addr.mk.injEq, and_true, true_and] at e'
  obtain ⟨rfl, rfl⟩ := e'
  exact ⟨_, rfl, hr', hb⟩

set_option maxHeartbeats 1000000 in
theorem law4 (ao : Option Addr) (n cap : Nat) (xs : List Int) (v u : Int) (h0 : 0 ≤ v) (h1 : v < 18446744073709551616) (g0 : 0 ≤ u) (g1 : u < 18446744073709551616) (hn : n ≤ maxLen) (w : World) (hs : Sl w ao n xs) :
    Calls Try.prog 4 #[.slice ao n cap, .int .u64 v, .int .u64 u] w fun e w' => e = .returned (.bool true) ∧ Below w.heap.size w w' := by
  have hb8 := bytes8_any ao n cap v u hn w
  unfold maxLen at hn
  go_enter Try.func4, Try.ntmps4
  go_wp2_with fail
  refine hb8.mono ?_
  clear hb8
  rintro e w' ⟨b, rfl, hsz, hw⟩
  subst hw
  cases b
  · go_wp2_with fail
    go_ret
    exact ⟨rfl, Below.refl _ _⟩
  · replace hsz := hsz rfl
    go_wp2_with fail
    refine (clone_any _ _ _ xs _ hs (by omega)).mono ?_
    rintro e w1 ⟨b1, rfl, hs1, hb1⟩
    go_wp2_with fail
    refine (clone_any _ _ _ xs _ hs1 (by omega)).mono ?_
    rintro e w2 ⟨b2, rfl, hs2, hb2⟩
    go_wp2_with fail
    refine (app_any _ _ xs v h0 h1 _ (hs1.below hb2) (by omega)).mono ?_
    rintro e w3 ⟨g3, c3, rfl, hc3, hm3, hr3, hb3⟩
    go_wp2_with fail
    have hlv : (xs ++ bytes8 v).length = n + 8 := by rw [List.length_append, hs.1, length8]
    refine (clone_pos _ _ _ _ (xs ++ bytes8 v) _ hlv hr3 (by omega) (by omega)).mono ?_
    rintro e w4 ⟨g4, rfl, hr4, hb4⟩
    go_wp2_with fail
    refine (clone_pos _ _ _ _ (xs ++ bytes8 v) _ hlv hr4 (by omega) (by omega)).mono ?_
    rintro e w5 ⟨g5, rfl, hr5, hb5⟩
    go_wp2_with fail
    refine (app_any _ _ (xs ++ bytes8 v) u g0 g1 _ ⟨hlv, .inr ⟨_, _, rfl, hr5⟩⟩ (by omega)).mono ?_
    rintro e w6 ⟨g6, c6, rfl, hc6, hm6, hr6, hb6⟩
    go_wp2_with fail
    refine (app_any none 0 [] u g0 g1 _ ⟨rfl, .inl rfl⟩ (by omega)).mono ?_
    rintro e w7 ⟨g7, c7, rfl, hc7, hm7, hr7, hb7⟩
    have q4 : Rd w7 ⟨g4, 0, none⟩ (xs ++ bytes8 v) := ((hr4.below hb5).below hb6).below hb7
    have q2 : Sl w7 b2 n xs := ((((hs2.below hb3).below hb4).below hb5).below hb6).below hb7
    have q6 : Rd w7 ⟨g6, 0, none⟩ (xs ++ bytes8 v ++ bytes8 u) := hr6.below hb7
    have q7 : Rd w7 ⟨g7, 0, none⟩ (bytes8 u) := hr7
    have z1 := hb1.size
    have z2 := hb2.size
    have z3 := hb3.size
    have z4 := hb4.size
    have z5 := hb5.size
    have z6 := hb6.size
    have q := (hb1.trans (hb2.mono z1)).trans (hb3.mono (Nat.le_trans z1 z2))
    have q' := (q.trans (hb4.mono (by omega))).trans (hb5.mono (by omega))
    have qq : Below w'.heap.size w' w7 := (q'.trans (hb6.mono (by omega))).trans (hb7.mono (by omega))
    clear q q' z1 z2 z3 z4 z5 z6 hb1 hb2 hb3 hb4 hb5 hb6 hb7 hr3 hr4 hr5 hr6 hr7 hs1 hs2
    unfold maxLen at *
    go_wp2_with fail
    refine (eq_any _ _ _ _ _ xs _ ⟨hs.1, .inr ⟨_, _, rfl, q4.left⟩⟩ q2 (by omega)).mono ?_
    rintro e w8 ⟨rfl, hd8⟩
    replace q4 := q4.below hd8.below
    replace q6 := q6.below hd8.below
    replace q7 := q7.below hd8.below
    have z7 := qq.size
    replace qq := qq.trans (hd8.below.mono z7)
    clear hd8 q2 z7
    go_wp2_with fail
    refine (eq_any _ _ _ _ _ (xs ++ bytes8 v) _ ⟨hlv, .inr ⟨_, _, rfl, q6.left⟩⟩ ⟨hlv, .inr ⟨_, _, rfl, q4⟩⟩ (by omega)).mono ?_
    rintro e w9 ⟨rfl, hd9⟩
    replace q4 := q4.below hd9.below
    replace q6 := q6.below hd9.below
    replace q7 := q7.below hd9.below
    have z7 := qq.size
    replace qq := qq.trans (hd9.below.mono z7)
    clear hd9 z7
    go_wp2_with fail
    have q6r : Rd w9 ⟨g6, n + 8, none⟩ (bytes8 u) := by have := q6.right hlv; rwa [Nat.zero_add] at this
    refine (eq_any _ _ 8 _ _ (bytes8 u) _ ⟨length8 u, .inr ⟨_, _, rfl, q6r⟩⟩ ⟨length8 u, .inr ⟨_, _, rfl, q7⟩⟩ (by omega)).mono ?_
    rintro e w10 ⟨rfl, hd10⟩
    replace q4 := q4.below hd10.below
    replace q7 := q7.below hd10.below
    have z7 := qq.size
    replace qq := qq.trans (hd10.below.mono z7)
    clear hd10 z7 q6 q6r
    go_wp2_with fail
    have q4r : Rd w10 ⟨g4, n, none⟩ (bytes8 v) := by have := q4.right hs.1; rwa [Nat.zero_add] at this
    refine (be_any _ _ _ (bytes8 v) rfl (bytes8_byte v h0 h1) _ q4r).mono ?_
    rintro e w11 ⟨rfl, hw11⟩
    subst hw11
    rw [be_bytes8]
    clear q4r q4
    go_wp2_with fail
    refine (be_any _ _ _ (bytes8 u) rfl (bytes8_byte u g0 g1) _ q7).mono ?_
    rintro e w12 ⟨rfl, hw12⟩
    subst hw12
    rw [be_bytes8]
    clear q7
    go_wp2_with fail
    go_ret
    exact ⟨rfl, qq⟩
end Go.Proofs.Qxb6612646a.W
