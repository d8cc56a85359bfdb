import Derived.Test.Qxb6612674aMapWalks
namespace Go.Proofs.Qxb6612674a.W
open Go.RowKit Go.Maps Plain

/-- What the walks are told of the map that came in: its look-ups and its length. -/
structure InMap (w : World) (mv : Value) (f : Int → Int) (p : Int → Bool) (c : Nat) : Prop where
  looks : Looks 27 w mv f p
  len : ∀ ty, (Builtin.len_ #[27] ty #[mv]).run Try.prog w = .ok (.int .i64 c) w

theorem law5_empty (ao : Option Addr) (cap : Nat) (mv : Value) (f : Int → Int) (p : Int → Bool) (c : Nat) (k : Int) (w : World) (hM : InMap w mv f p c) :
    Calls Try.prog 5 #[.slice ao 0 cap, mv, .int .i64 k] w fun e w' => e = .returned (.bool true) ∧ Below w.heap.size w w' := by
  have hlen := hM.len
  clear hM
  by_cases hc : (32768 : Int) < (c : Int)
  · go_enter Try.func5, Try.ntmps5
    go_wp2_with fail
    go_ret
    exact ⟨rfl, Below.refl _ _⟩
  · go_enter Try.func5, Try.ntmps5
    go_wp2_with fail
    go_ret
    exact ⟨rfl, Below.refl _ _⟩

theorem law5_big (ao : Option Addr) (n cap : Nat) (mv : Value) (f : Int → Int) (p : Int → Bool) (c : Nat) (k : Int) (w : World) (hM : InMap w mv f p c) (hn : n ≤ maxLen) (hbig : 65536 < n ∨ 32768 < c) :
    Calls Try.prog 5 #[.slice ao n cap, mv, .int .i64 k] w fun e w' => e = .returned (.bool true) ∧ Below w.heap.size w w' := by
  have hlen := hM.len
  clear hM
  unfold maxLen at hn
  by_cases hb : (65536 : Int) < (n : Int)
  · go_enter Try.func5, Try.ntmps5
    go_wp2_with fail
    go_ret
    exact ⟨rfl, Below.refl _ _⟩
  · have hc : (32768 : Int) < (c : Int) := by omega
    clear hbig
    go_enter Try.func5, Try.ntmps5
    go_wp2_with fail
    go_ret
    exact ⟨rfl, Below.refl _ _⟩

theorem Rd.take {w : World} {a : Addr} {xs : List Int} {j : Nat} (h : Rd w a xs) : Rd w a (xs.take j) := by
  intro i x hx
  rw [List.getElem?_take] at hx
  split at hx
  · exact h i x hx
  · cases hx

theorem Rd.drop {w : World} {g o : Nat} {xs : List Int} {j : Nat} (h : Rd w ⟨g, o, none⟩ xs) : Rd w ⟨g, o + j, none⟩ (xs.drop j) := by
  intro i x hx
  rw [List.getElem?_drop] at hx
  have := h (j + i) x hx
  rw [Addr.add_lit] at this ⊢
  rw [Nat.add_assoc]
  exact this

theorem pair_rd (w : World) (a b : Int) (t : TypeId) : Rd (w.alloc (.cells #[.int .u64 a, .int .u64 b] t)) ⟨w.heap.size, 0, none⟩ [a, b] := by
  intro i x hx
  rw [Addr.add_lit, Nat.zero_add]
  match i, hx with
  | 0, hx => simp at hx; subst hx; simp [go_sem]
  | 1, hx => simp at hx; subst hx; simp [go_sem]

/-- The cut lies inside the list. -/
theorem law5_cut (g o n cap : Nat) (mv : Value) (f : Int → Int) (p : Int → Bool) (c : Nat) (j : Nat) (hj1 : 1 ≤ j) (hj2 : j < n) (xs : List Int) (hx : ∀ x ∈ xs, U64 x) (hl : xs.length = n) (h0 : 0 < n) (hn : n ≤ 65536) (hc : c ≤ 32768) (w : World) (hr : Rd w ⟨g, o, none⟩ xs) (hM : InMap w mv f p c) :
    Calls Try.prog 5 #[.slice (some ⟨g, o, none⟩) n cap, mv, .int .i64 (j : Int)] w fun e w' => e = .returned (.bool true) ∧ Below w.heap.size w w' := by
  have hlen := hM.len
  have hL := hM.looks
  clear hM
  go_enter Try.func5, Try.ntmps5
  go_wp2_with fail
  clear hlen
  refine (ids8 _ _ _ _ xs hl h0 (by omega) _ (by exact hr)).mono ?_
  rintro e w1 ⟨g1, rfl, hr1, hb1⟩
  go_wp2_with fail
  refine (counts9 _ _ _ _ mv f p xs hx hl (by omega) h0 _ (hr.below hb1) (hL.below hb1)).mono ?_
  rintro e w2 ⟨b, p', rfl, hL2, hb2⟩
  go_wp2_with fail
  refine (ch10 _ _ _ _ _ _ p' xs hx hl h0 (by omega) _ (hr1.below hb2) hL2).mono ?_
  rintro e w3 ⟨m, rfl, hmin, hb3⟩
  have hmf : IsMin f xs m := hmin.congr (fun x hx => cnt_all f xs n hl x hx)
  go_wp2_with fail
  refine (least11 _ _ _ _ mv f p xs hx hl (by omega) m hmf _ (((hr.below hb1).below hb2).below hb3) (((hL.below hb1).below hb2).below hb3)).mono ?_
  rintro e w4 ⟨rfl, hw4⟩
  subst hw4
  have q1 := hr1.below hb2
  have q2 := q1.below hb3
  have l2 := hL2.below hb3
  have z1 := hb1.size
  have z2 := hb2.size
  have qq : Below w.heap.size w w4 := (hb1.trans (hb2.mono z1)).trans (hb3.mono (Nat.le_trans z1 z2))
  clear hL hr hr1 hL2 hb1 hb2 hb3 q1 z1 z2 hmf
  have hji1 : (1 : Int) ≤ (j : Int) := by omega
  have hji2 : (j : Int) < (n : Int) := by omega
  go_wp2_with fail
  refine (ch10 _ _ _ _ _ (cnt f xs n) p' (xs.take j) (fun x h => hx x (List.mem_of_mem_take h)) (by rw [List.length_take]; omega) (by omega) (by omega) _ q2.take l2).mono ?_
  rintro e w5 ⟨ma, rfl, hma, hb5⟩
  replace q2 := q2.below hb5
  replace l2 := l2.below hb5
  have z := qq.size
  replace qq := qq.trans (hb5.mono z)
  clear hb5 z
  go_wp2_with fail
  have q2d := q2.drop (j := j)
  rw [Nat.zero_add] at q2d
  refine (ch10 _ _ _ _ _ (cnt f xs n) p' (xs.drop j) (fun x h => hx x (List.mem_of_mem_drop h)) (by rw [List.length_drop, hl]) (by omega) (by omega) _ q2d l2).mono ?_
  rintro e w6 ⟨mb, rfl, hmb, hb6⟩
  replace l2 := l2.below hb6
  have z := qq.size
  replace qq := qq.trans (hb6.mono z)
  clear hb6 z q2 q2d
  have hua := hx ma (List.mem_of_mem_take hma.1)
  have hub := hx mb (List.mem_of_mem_drop hmb.1)
  have hba : ∀ obj, Below w6.heap.size w6 (w6.alloc obj) := fun obj => (Below.refl _ _).alloc (Nat.le_refl _) _
  have HB : Hid (∀ obj, Below w6.heap.size w6 (w6.alloc obj)) := hba
  clear hba
  have z6 := qq.size
  go_wp2_with fail
  refine (ch10 _ _ 2 _ _ (cnt f xs n) p' [ma, mb] (by intro x hx; simp at hx; rcases hx with rfl | rfl; exact hua; exact hub) rfl (by omega) (by omega) _ (pair_rd _ _ _ _) (l2.below (HB.out _))).mono ?_
  rintro e w7 ⟨mr, rfl, hmr, hb7⟩
  have hsame : mr = m := by
    have hm' : IsMin (cnt f xs n) (xs.take j ++ xs.drop j) m := by rw [List.take_append_drop]; exact hmin
    exact IsMin.parts hma hmb hm' hmr
  have hqf : Below w.heap.size w w7 := (qq.trans ((HB.out _).mono z6)).trans (hb7.mono (by simp; omega))
  clear hb7 l2 qq HB hmr hma hmb hmin hx
  subst hsame
  go_wp2_with fail
  go_ret
  exact ⟨rfl, hqf⟩

/-- No cut inside the list. -/
theorem law5_nocut (g o n cap : Nat) (mv : Value) (f : Int → Int) (p : Int → Bool) (c : Nat) (k : Int) (hk : ¬ (1 ≤ k ∧ k < (n : Int))) (xs : List Int) (hx : ∀ x ∈ xs, U64 x) (hl : xs.length = n) (h0 : 0 < n) (hn : n ≤ 65536) (hc : c ≤ 32768) (w : World) (hr : Rd w ⟨g, o, none⟩ xs) (hM : InMap w mv f p c) :
    Calls Try.prog 5 #[.slice (some ⟨g, o, none⟩) n cap, mv, .int .i64 k] w fun e w' => e = .returned (.bool true) ∧ Below w.heap.size w w' := by
  have hlen := hM.len
  have hL := hM.looks
  clear hM
  go_enter Try.func5, Try.ntmps5
  go_wp2_with fail
  clear hlen
  refine (ids8 _ _ _ _ xs hl h0 (by omega) _ (by exact hr)).mono ?_
  rintro e w1 ⟨g1, rfl, hr1, hb1⟩
  go_wp2_with fail
  refine (counts9 _ _ _ _ mv f p xs hx hl (by omega) h0 _ (hr.below hb1) (hL.below hb1)).mono ?_
  rintro e w2 ⟨b, p', rfl, hL2, hb2⟩
  go_wp2_with fail
  refine (ch10 _ _ _ _ _ _ p' xs hx hl h0 (by omega) _ (hr1.below hb2) hL2).mono ?_
  rintro e w3 ⟨m, rfl, hmin, hb3⟩
  have hmf : IsMin f xs m := hmin.congr (fun x hx => cnt_all f xs n hl x hx)
  go_wp2_with fail
  refine (least11 _ _ _ _ mv f p xs hx hl (by omega) m hmf _ (((hr.below hb1).below hb2).below hb3) (((hL.below hb1).below hb2).below hb3)).mono ?_
  rintro e w4 ⟨rfl, hw4⟩
  subst hw4
  have q1 := hr1.below hb2
  have q2 := q1.below hb3
  have l2 := hL2.below hb3
  have z1 := hb1.size
  have z2 := hb2.size
  have qq : Below w.heap.size w w4 := (hb1.trans (hb2.mono z1)).trans (hb3.mono (Nat.le_trans z1 z2))
  clear hL hr hr1 hL2 hb1 hb2 hb3 q1 z1 z2 hmf
  clear q2 l2
  by_cases hk1 : 1 ≤ k
  · have hk2 : ¬ k < (n : Int) := fun h => hk ⟨hk1, h⟩
    clear hk
    go_wp2_with fail
    go_ret
    exact ⟨rfl, qq⟩
  · clear hk
    go_wp2_with fail
    go_ret
    exact ⟨rfl, qq⟩

/-- The slice (ao, n) reads as the numbers xs. -/
def Sl (w : World) (ao : Option Addr) (n : Nat) (xs : List Int) : Prop := xs.length = n ∧ (n = 0 ∨ ∃ g o, ao = some ⟨g, o, none⟩ ∧ Rd w ⟨g, o, none⟩ xs)

theorem law5 (ao : Option Addr) (n cap : Nat) (mv : Value) (f : Int → Int) (p : Int → Bool) (c : Nat) (k : Int) (xs : List Int) (hx : ∀ x ∈ xs, U64 x) (hn : n ≤ maxLen) (w : World) (hs : Sl w ao n xs) (hM : InMap w mv f p c) :
    Calls Try.prog 5 #[.slice ao n cap, mv, .int .i64 k] w fun e w' => e = .returned (.bool true) ∧ Below w.heap.size w w' := by
  rcases hs.2 with rfl | ⟨g, o, rfl, hr⟩
  · exact law5_empty ao cap mv f p c k w hM
  · by_cases h0 : n = 0
    · subst h0
      exact law5_empty _ cap mv f p c k w hM
    · by_cases hb : 65536 < n ∨ 32768 < c
      · exact law5_big _ n cap mv f p c k w hM hn hb
      · by_cases hk : 1 ≤ k ∧ k < (n : Int)
        · obtain ⟨j, rfl⟩ := Int.eq_ofNat_of_zero_le (show 0 ≤ k by omega)
          exact law5_cut g o n cap mv f p c j (by omega) (by omega) xs hx hs.1 (by omega) (by omega) (by omega) w hr hM
        · exact law5_nocut g o n cap mv f p c k hk xs hx hs.1 (by omega) (by omega) (by omega) w hr hM
end Go.Proofs.Qxb6612674a.W
