import Derived.Test.Qxb6612674aHelpWalks
import Derived.Maps.Views
namespace Go.Proofs.Qxb6612674a.W
open Go.RowKit Go.Maps Plain

theorem law22 : Keyed Try.prog 22 := int_keyed Try.underlying22
theorem law32 : Keyed Try.prog 32 := int_keyed Try.underlying32
theorem zero22 (w : World) : (zeroValue 22).run Try.prog w = .ok (.int .u64 0) w := by kernel_rfl

theorem wf_u64 {x : Int} (h : U64 x) : (Lit.int .u64 x).wf = true := by
  unfold U64 at h
  simp [Lit.wf, IntKind.min, IntKind.max, IntKind.signed, IntKind.bits]
  omega
theorem u64_wf {x : Int} (h : (Lit.int .u64 x).wf = true) : U64 x := by
  unfold U64
  simp [Lit.wf, IntKind.min, IntKind.max, IntKind.signed, IntKind.bits] at h
  omega

theorem grown_of_below {w w' : World} (hb : Below w.heap.size w w') : w.grownBy w' none :=
  ⟨hb.os, hb.tape, hb.output, hb.size, fun k hk _ => hb.block k hk⟩

/-- The datum z0: the number 0. -/
def z0 {H : Type} : DataW H := .lit (.int .u64 0)

/-- From a map block to its look-ups. -/
theorem looks_of_own {H : Type} {T K : TypeId} (law : Keyed Try.prog K) (hT : Try.prog.underlying T = some (.map K 22)) (hK : Try.prog.underlying K = some (.int .u64)) {w : World} {b n : Nat} {D : DataW H}
    (hown : w.ownsMap Try.prog K (plainElem Try.prog 22) b n D) (g : Int → Int) (hat : ∀ x, U64 x → D.atKey (.int .u64 x) z0 = .lit (.int .u64 (g x))) :
    Looks T w (.map (some b)) g (fun x => Maps.has D (.int .u64 x)) := by
  intro w' hb x hx
  have hown' := hown.kept (grown_of_below hb) (by simp)
  have hkey := keyOf_int_mk hK (wf_u64 hx)
  obtain ⟨c, hrun, hc, hwc⟩ := hown'.lookup_int law hT Try.underlying22 (zero22 w') hkey
  obtain ⟨v, ps, hrun2, hv⟩ := hown'.look_ok law hT (zero22 w') (plainElem_int Try.underlying22 (by decide)) hkey
  obtain ⟨c2, rfl, hc2, _⟩ := plainElem_int_inv Try.underlying22 hv
  have e1 : g x = c := by
    have := (hat x hx).symm.trans hc
    simpa using this
  have e2 : g x = c2 := by
    have := (hat x hx).symm.trans (congrArg Prod.fst hc2)
    simpa using this
  refine ⟨by rw [e1]; exact hrun, by rw [e2]; exact hrun2, by rw [e1]; exact u64_wf hwc, fun hno => ?_⟩
  have := (hat x hx).symm.trans (Maps.atKey_of_not_has hno z0)
  simpa [z0] using this

/-- The look-ups of a map block, whatever it holds. -/
theorem looks_some {H : Type} {T K : TypeId} (law : Keyed Try.prog K) (hT : Try.prog.underlying T = some (.map K 22)) (hK : Try.prog.underlying K = some (.int .u64)) {w : World} {b n : Nat} {D : DataW H}
    (hown : w.ownsMap Try.prog K (plainElem Try.prog 22) b n D) : ∃ f p, Looks T w (.map (some b)) f p := by
  have h : ∀ x, ∃ c, U64 x → D.atKey (.int .u64 x) z0 = .lit (.int .u64 c) := by
    intro x
    by_cases hx : U64 x
    · obtain ⟨c, _, hc, _⟩ := hown.lookup_int law hT Try.underlying22 (zero22 w) (keyOf_int_mk hK (wf_u64 hx))
      exact ⟨c, fun _ => hc⟩
    · exact ⟨0, fun h => absurd h hx⟩
  exact ⟨fun x => Classical.choose (h x), _, looks_of_own law hT hK hown _ (fun x hx => Classical.choose_spec (h x) hx)⟩

/-- The look-ups of a nil map. -/
theorem looks_nil {T K : TypeId} (law : Keyed Try.prog K) (hT : Try.prog.underlying T = some (.map K 22)) (hK : Try.prog.underlying K = some (.int .u64)) (w : World) : Looks T w (.map none) (fun _ => 0) (fun _ => false) := by
  intro w' _ x hx
  have hkey := keyOf_int_mk hK (wf_u64 hx)
  exact ⟨look_nil (w := w') false law hT (zero22 w') hkey, look_nil (w := w') true law hT (zero22 w') hkey, ⟨Int.le_refl 0, by show (0 : Int) < 18446744073709551616; omega⟩, fun _ => rfl⟩

/-- What zzCountsOf has laid after k rounds. -/
def cnt (f : Int → Int) (xs : List Int) (k : Nat) (x : Int) : Int := if x ∈ xs.take k then f x else 0

theorem cnt_zero (f : Int → Int) (xs : List Int) (x : Int) : cnt f xs 0 x = 0 := by simp [cnt]
theorem cnt_all (f : Int → Int) (xs : List Int) (n : Nat) (h : xs.length = n) (x : Int) (hx : x ∈ xs) : cnt f xs n x = f x := by
  rw [cnt, List.take_of_length_le (by omega), if_pos hx]
theorem mem_take_iff (xs : List Int) (k : Nat) (x : Int) (hk : k < xs.length) : x ∈ xs.take (k + 1) ↔ x ∈ xs.take k ∨ x = xs[k] := by
  rw [List.take_succ_eq_append_getElem hk, List.mem_append, List.mem_singleton]
theorem cnt_same (f : Int → Int) (xs : List Int) (k : Nat) (hk : k < xs.length) : cnt f xs (k + 1) xs[k] = f xs[k] := by
  rw [cnt, if_pos ((mem_take_iff xs k _ hk).2 (.inr rfl))]
theorem cnt_other (f : Int → Int) (xs : List Int) (k : Nat) (hk : k < xs.length) (x : Int) (h : x ≠ xs[k]) : cnt f xs (k + 1) x = cnt f xs k x := by
  rw [cnt, cnt]
  by_cases hm : x ∈ xs.take k
  · rw [if_pos hm, if_pos ((mem_take_iff xs k x hk).2 (.inl hm))]
  · rw [if_neg hm, if_neg (fun c => by rcases (mem_take_iff xs k x hk).1 c with c | c; exact hm c; exact h c)]
theorem cnt_none (f : Int → Int) (xs : List Int) (k : Nat) (hk : k < xs.length) (h0 : f xs[k] = 0) (x : Int) : cnt f xs (k + 1) x = cnt f xs k x := by
  by_cases h : x = xs[k]
  · subst h
    rw [cnt_same f xs k hk, h0, cnt, h0]
    simp
  · exact cnt_other f xs k hk x h

/-- The relation's datum, one store further. -/
theorem datum_put {H : Type} (f : Int → Int) (xs : List Int) (k : Nat) (hk : k < xs.length) {D : DataW H} (hD : Maps.IsMap D) (h : ∀ x, U64 x → D.atKey (.int .u64 x) z0 = .lit (.int .u64 (cnt f xs k x))) :
    ∀ x, U64 x → (D.put (.int .u64 xs[k]) (.lit (.int .u64 (f xs[k])))).atKey (.int .u64 x) z0 = .lit (.int .u64 (cnt f xs (k + 1) x)) := by
  intro x hx
  by_cases e : x = xs[k]
  · subst e
    rw [Maps.atKey_put_same hD (by simp [WideAt.IsKeyLit]), cnt_same f xs k hk]
  · rw [Maps.atKey_put_other (by simpa using e), cnt_other f xs k hk x e]
    exact h x hx

/-- zzCountsOf: a new map that holds the members' counts. -/
theorem counts9 (g o n cap : Nat) (mv : Value) (f : Int → Int) (p : Int → Bool) (xs : List Int) (hx : ∀ x ∈ xs, U64 x) (hl : xs.length = n) (hn : n ≤ 10000000) (h0 : 0 < n) (w : World) (hr : Rd w ⟨g, o, none⟩ xs) (hL : Looks 27 w mv f p) :
    Calls Try.prog 9 #[.slice (some ⟨g, o, none⟩) n cap, mv] w fun e w' => ∃ b p', e = .returned (.map (some b)) ∧ Looks 30 w' (.map (some b)) (cnt f xs n) p' ∧ Below w.heap.size w w' := by
  have hmm := @run_makeMap Try.prog
  go_enter Try.func9, Try.ntmps9
  go_wp2_with fail
  clear hmm
  go_loopw [6] (fun i wr => ∃ (k : Nat) (D : DataW Unit), k ≤ n ∧ i = .int .i64 k ∧ wr.ownsMap Try.prog 32 (plainElem Try.prog 22) w.heap.size k D ∧ Below w.heap.size w wr ∧ Hid (∀ x, U64 x → D.atKey (.int .u64 x) z0 = .lit (.int .u64 (cnt f xs k x)))) (fun i _ => n - (intOf i).toNat)
  case atStart =>
    refine ⟨0, .map [], by omega, rfl, World.ownsMap_made _ _ _ _, (Below.refl _ _).alloc (Nat.le_refl _) _, fun x _ => ?_⟩
    rw [cnt_zero]; rfl
  case round =>
    obtain ⟨k, D, hk, rfl, hown, hb, HD⟩ := hrel
    by_cases hlt : k < n
    · have hkx : k < xs.length := by omega
      have hc := (hr.below hb) k xs[k] (List.getElem?_eq_getElem hkx)
      rw [Addr.add_lit] at hc
      have hxk := hx _ (List.getElem_mem hkx)
      obtain ⟨_, lk, hfu, hno⟩ := hL wr hb xs[k] hxk
      have hkey := keyOf_int_mk Try.underlying32 (wf_u64 hxk)
      have hput := datum_put f xs k hkx hown.isMap HD.out
      have hnone := fun h0 => cnt_none f xs k hkx h0
      have hwf := wf_u64 hfu
      have hlti : (k : Int) < (n : Int) := by omega
      have HP : Hid (∀ x, U64 x → (D.put (.int .u64 xs[k]) (.lit (.int .u64 (f xs[k])))).atKey (.int .u64 x) z0 = .lit (.int .u64 (cnt f xs (k + 1) x))) := hput
      have HN : Hid (f xs[k] = 0 → ∀ x, cnt f xs (k + 1) x = cnt f xs k x) := hnone
      have HO : Hid (p xs[k] = false → f xs[k] = 0) := hno
      clear hput hnone hno hr hL hx
      generalize xs[k] = X at *
      generalize f X = fX at *
      cases hp : p X
      · rw [hp] at lk
        go_wp2_with fail
        go_roundw
        case rel => exact ⟨k + 1, D, by omega, by go_num, hown.mono (Nat.le_succ _), hb, fun x hx => by rw [HN.out (HO.out hp) x]; exact HD.out x hx⟩
        case measure => simp [intOf]; omega
      · rw [hp] at lk
        go_wp2_with (at_mapUpdate; refine wpList_mapUpdate_own _ rfl _ _ _ 30 rfl 32 22 law32 Try.underlying30 _ w.heap.size k _ rfl hown (by unfold maxLen; omega) _ _ _ rfl rfl hkey _ [] (plainElem_int Try.underlying22 hwf) ?_)
        intro w1 hown1 hgrow1
        have hb1 := hb.grown hgrow1 hb.size (fun j hj => by cases hj; exact Nat.le_refl _)
        clear hown hgrow1 hc lk
        go_wp2_with fail
        go_roundw
        case rel => exact ⟨k + 1, _, by omega, by go_num, hown1, hb1, HP.out⟩
        case measure => simp [intOf]; omega
    · obtain rfl : k = n := by omega
      clear hr hL hx
      go_wp2_with fail
      go_ret
      exact ⟨_, _, rfl, looks_of_own law32 Try.underlying30 Try.underlying32 hown _ HD.out, hb⟩
end Go.Proofs.Qxb6612674a.W
