import Derived.Test.Qxb6612674aFindWalks
namespace Go.Proofs.Qxb6612674a.W
open Go.RowKit Go.Maps Plain

theorem law6_big (ao : Option Addr) (n cap : Nat) (mv : Value) (f : Int → Int) (p : Int → Bool) (c : Nat) (k : Int) (w : World) (hM : InMap w mv f p c) (hn : n ≤ maxLen) (hbig : 65536 < n ∨ 32768 < c) :
    Calls Try.prog 6 #[.slice ao n cap, mv, .int .i64 k] w fun e w' => e = .returned (.bool true) ∧ Below w.heap.size w w' := by
  have hlen := hM.len
  clear hM
  unfold maxLen at hn
  by_cases hb : (65536 : Int) < (n : Int)
  · go_enter Try.func6, Try.ntmps6
    go_wp2_with fail
    go_ret
    exact ⟨rfl, Below.refl _ _⟩
  · have hc : (32768 : Int) < (c : Int) := by omega
    clear hbig
    go_enter Try.func6, Try.ntmps6
    go_wp2_with fail
    go_ret
    exact ⟨rfl, Below.refl _ _⟩

theorem law6_empty (ao : Option Addr) (cap : Nat) (mv : Value) (f : Int → Int) (p : Int → Bool) (c : Nat) (hc : c ≤ 32768) (k : Int) (w : World) (hM : InMap w mv f p c) :
    Calls Try.prog 6 #[.slice ao 0 cap, mv, .int .i64 k] w fun e w' => e = .returned (.bool true) ∧ Below w.heap.size w w' := by
  have hlen := hM.len
  clear hM
  go_enter Try.func6, Try.ntmps6
  go_wp2_with fail
  refine (inc_empty _ _ _).mono ?_
  rintro e w1 ⟨rfl, hw⟩
  subst hw
  go_wp2_with fail
  go_ret
  exact ⟨rfl, Below.refl _ _⟩

/-- k is no index into the list. -/
theorem law6_out (g o n cap : Nat) (mv : Value) (f : Int → Int) (p : Int → Bool) (c : Nat) (k : Int) (hk : k < 0 ∨ (n : Int) ≤ k) (xs : List Int) (hl : xs.length = n) (h0 : 0 < n) (hn : n ≤ 65536) (hc : c ≤ 32768) (w : World) (hr : Rd w ⟨g, o, none⟩ xs) (hM : InMap w mv f p c) :
    Calls Try.prog 6 #[.slice (some ⟨g, o, none⟩) n cap, mv, .int .i64 k] w fun e w' => e = .returned (.bool true) ∧ Below w.heap.size w w' := by
  have hlen := hM.len
  clear hM
  by_cases hk0 : k < 0
  · clear hk
    go_enter Try.func6, Try.ntmps6
    go_wp2_with fail
    refine (inc12 _ _ _ _ xs hl h0 (by omega) _ (by exact hr)).mono ?_
    rintro e w1 ⟨b, rfl, _, hd⟩
    clear hlen hr
    cases b
    · go_wp2_with fail
      go_ret
      exact ⟨rfl, hd.below⟩
    · go_wp2_with fail
      go_ret
      exact ⟨rfl, hd.below⟩
  · have hkn : (n : Int) ≤ k := by omega
    clear hk
    go_enter Try.func6, Try.ntmps6
    go_wp2_with fail
    refine (inc12 _ _ _ _ xs hl h0 (by omega) _ (by exact hr)).mono ?_
    rintro e w1 ⟨b, rfl, _, hd⟩
    clear hlen hr
    cases b
    · go_wp2_with fail
      go_ret
      exact ⟨rfl, hd.below⟩
    · go_wp2_with fail
      go_ret
      exact ⟨rfl, hd.below⟩

theorem rm_len (xs : List Int) (j i n : Nat) (hl : xs.length = n) (hi : i ≤ n) : (rm xs j i).length = if i ≤ j then i else i - 1 := by
  rw [rm, List.length_eraseIdx, List.length_take]
  split <;> split <;> omega

set_option maxHeartbeats 1000000 in
/-- k is an index into the list. -/
theorem law6_in (g o n cap : Nat) (mv : Value) (f : Int → Int) (p : Int → Bool) (c : Nat) (j : Nat) (hj : j < n) (xs : List Int) (hx : ∀ x ∈ xs, U64 x) (hl : xs.length = n) (hn : n ≤ 65536) (hc : c ≤ 32768) (w : World) (hr : Rd w ⟨g, o, none⟩ xs) (hM : InMap w mv f p c) :
    Calls Try.prog 6 #[.slice (some ⟨g, o, none⟩) n cap, mv, .int .i64 (j : Int)] w fun e w' => e = .returned (.bool true) ∧ Below w.heap.size w w' := by
  obtain ⟨i0, hi, hz0, hz1, hz2⟩ := info_parts info32
  have hlen := hM.len
  have hL := hM.looks
  have hji : (j : Int) < (n : Int) := by omega
  clear hM
  go_enter Try.func6, Try.ntmps6
  go_wp2_with fail
  refine (inc12 _ _ _ _ xs hl (by omega) (by omega) _ (by exact hr)).mono ?_
  rintro e w0 ⟨b, rfl, hR, hd⟩
  clear hlen
  cases b
  · clear hr hL
    go_wp2_with fail
    go_ret
    exact ⟨rfl, hd.below⟩
  replace hR := hR rfl
  replace hr := hr.below hd.below
  replace hL := hL.below hd.below
  have qq := hd.below
  clear hd
  go_wp2_with fail
  refine (ids8 _ _ _ _ xs hl (by omega) (by omega) _ (by exact hr)).mono ?_
  rintro e w1 ⟨g1, rfl, hr1, hb1⟩
  have z := qq.size
  replace qq := qq.trans (hb1.mono z)
  clear z
  go_wp2_with fail
  refine (counts9 _ _ _ _ mv f p xs hx hl (by omega) (by omega) _ (hr.below hb1) (hL.below hb1)).mono ?_
  rintro e w2 ⟨b, p', rfl, hL2, hb2⟩
  have z := qq.size
  replace qq := qq.trans (hb2.mono z)
  clear z hL
  go_wp2_with fail
  refine (ch10 _ _ _ _ _ _ p' xs hx hl (by omega) (by omega) _ (hr1.below hb2) hL2).mono ?_
  rintro e w3 ⟨m, rfl, hmin, hb3⟩
  have z := qq.size
  replace qq := qq.trans (hb3.mono z)
  replace hr := ((hr.below hb1).below hb2).below hb3
  replace hr1 := (hr1.below hb2).below hb3
  replace hL2 := hL2.below hb3
  clear z hb1 hb2 hb3
  go_wp2_with fail
  refine (find13 _ _ _ _ xs hl (by omega) hR m hmin.1 _ hr).mono ?_
  rintro e w4 ⟨t, rfl, hd⟩
  have z := qq.size
  replace qq := qq.trans (hd.below.mono z)
  replace hr := hr.below hd.below
  replace hr1 := hr1.below hd.below
  replace hL2 := hL2.below hd.below
  clear z hd
  generalize cnt f xs n = F at *
  by_cases h1 : n = 1
  · have h1b : ((n : Int) == 1) = true := beq_iff_eq.2 (by omega)
    have hc0 := hr1 0 xs[0] (List.getElem?_eq_getElem (by omega))
    rw [Addr.add_lit] at hc0
    have hm0 : m = xs[0] := by
      obtain ⟨q, hq, rfl⟩ := List.mem_iff_getElem.1 hmin.1
      obtain rfl : q = 0 := by omega
      rfl
    rw [← hm0] at hc0
    clear hr hr1 hL2 hR hm0 h1
    go_wp2_with fail
    go_ret
    exact ⟨rfl, qq⟩
  · have h1b : ((n : Int) == 1) = false := beq_eq_false_iff_ne.2 (by omega)
    go_wp2_with (at_make; refine wpList_make_own _ rfl _ (.tmp 65) 28 rfl w4.heap.size 32 i0 (.int .u64 0) 1 Try.underlying28 hi hz0 hz1 .i64 .i64 _ (n - 1) rfl rfl (by omega) (by rw [hz2]; omega) (by unfold maxLen; omega) (Nat.le_refl _) ?_)
    intro w5 hown hgrow
    have hb5 : Below w4.heap.size w4 w5 := (Below.refl _ _).grown hgrow (Nat.le_refl _) (fun k hk => by cases hk)
    clear hgrow
    have hown0 : w5.ownsRow w4.heap.size 32 1 (.slice (some ⟨w4.heap.size, 0, none⟩) 0 (n - 1)) 0 ((rm xs j 0).map (Value.int .u64)) := by rw [rm_zero]; exact hown
    clear hown
    go_wp2_with fail
    go_loopw [12, 13] (fun v i wr => ∃ (q L : Nat), q ≤ n ∧ i = .int .i64 q ∧ v = .slice (some ⟨w4.heap.size, 0, none⟩) L (n - 1) ∧ wr.ownsRow w4.heap.size 32 1 (.slice (some ⟨w4.heap.size, 0, none⟩) L (n - 1)) L ((rm xs j q).map (Value.int .u64)) ∧ Below w4.heap.size w4 wr) (fun _ i _ => n - (intOf i).toNat)
    case atStart => exact ⟨0, 0, by omega, rfl, rfl, hown0, hb5⟩
    case round =>
      clear hown0 hb5
      obtain ⟨q, L, hq, rfl, rfl, hown, hb⟩ := hrel
      have hL := hown.1
      rw [List.length_map, rm_len xs j q n hl hq] at hL
      by_cases hlt : q < n
      · have hqi : (q : Int) < (n : Int) := by omega
        have hcq := (hr1.below hb) q xs[q] (List.getElem?_eq_getElem (by omega))
        rw [Addr.add_lit, Nat.zero_add] at hcq
        by_cases hqj : q = j
        · have hqb : ((q : Int) != (j : Int)) = false := by rw [bne_eq_false_iff_eq]; omega
          have hskip : rm xs j (q + 1) = rm xs j q := by rw [← hqj]; exact rm_skip xs q (by omega)
          rw [← hskip] at hown
          clear hskip hL hr hr1 hL2 hR hx hmin hcq hqj
          go_wp2_with fail
          go_roundw
          case rel => exact ⟨q + 1, L, by omega, by go_num, rfl, hown, hb⟩
          case measure => simp [intOf]; omega
        · have hqb : ((q : Int) != (j : Int)) = true := by rw [bne_iff_ne]; omega
          have hpush := rm_push xs j q (by omega) hqj
          have hfit : L + 1 ≤ n - 1 := by
            split at hL <;> omega
          generalize xs[q] = X at *
          have HP : Hid (rm xs j (q + 1) = rm xs j q ++ [X]) := hpush
          clear hpush hL hr hr1 hL2 hR hx hmin
          go_wp2_with (at_builtin; refine wpList_append_fits _ rfl (.tmp 76) (.tmp 81) 28 rfl w4.heap.size 32 i0 1 Try.underlying28 hi hz1 w4.heap.size L (n - 1) _ rfl (hown.alloc _) ⟨wr.heap.size, 0, none⟩ 1 1 [.int .u64 X] rfl rfl (cell_one_new _ _ _) ?c2 hfit ?_)
          case c2 => intro u hu; simp at hu; subst hu; rfl
          intro w6 hown6 hgrow6
          have hb6 := (hb.alloc hb.size (.cells #[.int .u64 X] 32)).grown hgrow6 (by have := hb.size; simp; omega) (fun k hk => by cases hk; exact Nat.le_refl _)
          have e6 : (rm xs j q).map (Value.int .u64) ++ [Value.int .u64 X] = (rm xs j (q + 1)).map (Value.int .u64) := by rw [HP.out, List.map_append]; rfl
          rw [e6] at hown6
          clear hown hgrow6 e6
          go_wp2_with fail
          go_roundw
          case rel => exact ⟨q + 1, L + 1, by omega, by go_num, rfl, hown6, hb6⟩
          case measure => simp [intOf]; omega
      · obtain rfl : q = n := by omega
        rw [rm_all xs j q hl] at hown
        have hLn : L = q - 1 := by
          split at hL <;> omega
        subst hLn
        obtain ⟨g2, c2, e2, _, _, hl2, hr2⟩ := ownsRow_rd hown (by omega)
        simp only [Value.slice.injEq, Option.some.injEq, Addr.mk.injEq, and_true, true_and] at e2
        obtain ⟨rfl, rfl⟩ := e2
        have hsub : ∀ y ∈ xs.eraseIdx j, y ∈ xs := fun y hy => List.mem_of_mem_eraseIdx hy
        have z := qq.size
        replace qq := qq.trans (hb.mono z)
        replace hr := hr.below hb
        replace hr1 := hr1.below hb
        replace hL2 := hL2.below hb
        clear z hown hL
        go_wp2_with fail
        refine (ch10 _ _ _ _ _ F p' (xs.eraseIdx j) (fun x h => hx x (hsub x h)) hl2 (by omega) (by omega) _ hr2 hL2).mono ?_
        rintro e w7 ⟨nx, rfl, hnx, hb7⟩
        have z := qq.size
        replace qq := qq.trans (hb7.mono z)
        replace hr := hr.below hb7
        replace hr1 := hr1.below hb7
        replace hL2 := hL2.below hb7
        have hcj := hr1 j xs[j] (List.getElem?_eq_getElem (by omega))
        rw [Addr.add_lit, Nat.zero_add] at hcj
        clear z hb7 hb hr2 hr1
        by_cases hjm : xs[j] = m
        · have hnm : nx ≠ m := fun e => not_mem_eraseIdx hR (k := j) (by omega) (by rw [hjm, ← e]; exact hnx.1)
          have hnb : (nx == m) = false := beq_eq_false_iff_ne.2 hnm
          have hux := hx nx (hsub nx hnx.1)
          have hum := hx m hmin.1
          rw [hjm] at hcj
          clear hnm hjm
          go_wp2_with fail
          refine (find13 _ _ _ _ xs hl (by omega) hR nx (hsub nx hnx.1) _ hr).mono ?_
          rintro e w8 ⟨t2, rfl, hd⟩
          have z := qq.size
          replace qq := qq.trans (hd.below.mono z)
          replace hL2 := hL2.below hd.below
          have hba : ∀ obj, Below w8.heap.size w8 (w8.alloc obj) := fun obj => (Below.refl _ _).alloc (Nat.le_refl _) _
          have HB : Hid (∀ obj, Below w8.heap.size w8 (w8.alloc obj)) := hba
          have z8 := qq.size
          clear z hd hba hr hcj hR
          go_wp2_with fail
          refine (ch10 _ _ 2 _ _ F p' [m, nx] (by intro x hx; simp at hx; rcases hx with rfl | rfl; exact hum; exact hux) rfl (by omega) (by omega) _ (pair_rd _ _ _ _) (hL2.below (HB.out _))).mono ?_
          rintro e w9 ⟨mr, rfl, hmr, hb9⟩
          have hsame : mr = m := hmin.pair (hsub nx hnx.1) hmr
          have hqf := (qq.trans ((HB.out _).mono z8)).trans (hb9.mono (by simp; omega))
          clear hb9 hL2 qq HB hmr hmin hx hnx hsub
          subst hsame
          go_wp2_with fail
          go_ret
          exact ⟨rfl, hqf⟩
        · have hjb : (xs[j] != m) = true := by rw [bne_iff_ne]; exact hjm
          have hsame : nx = m := hmin.without hsub (mem_eraseIdx_of_ne (by omega) hmin.1 hjm) hnx
          clear hr hL2 hR hx hmin hnx hsub hjm
          generalize xs[j] = X at *
          subst hsame
          go_wp2_with fail
          go_ret
          exact ⟨rfl, qq⟩

theorem law6 (ao : Option Addr) (n cap : Nat) (mv : Value) (f : Int → Int) (p : Int → Bool) (c : Nat) (k : Int) (xs : List Int) (hx : ∀ x ∈ xs, U64 x) (hn : n ≤ maxLen) (w : World) (hs : Sl w ao n xs) (hM : InMap w mv f p c) :
    Calls Try.prog 6 #[.slice ao n cap, mv, .int .i64 k] w fun e w' => e = .returned (.bool true) ∧ Below w.heap.size w w' := by
  by_cases hb : 65536 < n ∨ 32768 < c
  · exact law6_big _ n cap mv f p c k w hM hn hb
  · by_cases h0 : n = 0
    · subst h0
      exact law6_empty ao cap mv f p c (by omega) k w hM
    · rcases hs.2 with h | ⟨g, o, rfl, hr⟩
      · exact absurd h h0
      · by_cases hk : k < 0 ∨ (n : Int) ≤ k
        · exact law6_out g o n cap mv f p c k hk xs hs.1 (by omega) (by omega) (by omega) w hr hM
        · obtain ⟨j, rfl⟩ := Int.eq_ofNat_of_zero_le (show 0 ≤ k by omega)
          exact law6_in g o n cap mv f p c j (by omega) xs hx hs.1 (by omega) (by omega) w hr hM
end Go.Proofs.Qxb6612674a.W
