import Derived.Test.Qxb6612674aRows
import Derived.WalkKit
import Derived.ProofKit
import Derived.OpenShut
import Derived.ShutString
import Derived.ChangeOld
import Derived.Below
import Derived.Test.Qxb6612674aLaw6
namespace Go.Proofs.Qxb6612674a.fnChooseUnmovedByRemovingALoser
open Go.ChangeShapes Go.WideShapes Go.ChangeAt Go.RowKit Go.WideElems
open Go.ChangeMaps (open_string shut_string shut_map_nil)
set_option linter.unusedVariables false

theorem own : ownKnob Try.prog.godebug = none := by kernel_rfl
theorem laidOut : laidOutB Try.prog = true := by kernel_rfl

/-- WHAT THE WALK IS TOLD OF A SLICE OF INTEGERS THAT CAME IN: it is nil; or it leads to a row of 'cap' cells, the numbers 'zs' (the first 'len' are its elements, the rest its spare room), each fitting its kind. -/
def IsRow (k : IntKind) (w : World) (a : Option Addr) (len cap : Nat) (zs : List Int) : Prop :=
  (a = none ∧ len = 0 ∧ cap = 0 ∧ zs = []) ∨
  ∃ x, a = some x ∧ len ≤ cap ∧ cap ≤ maxLen ∧ zs.length = cap ∧ (∀ i, i < zs.length → w.cell? (x.add i) = some (.int k (zs.getD i 0))) ∧ ∀ n ∈ zs, (Lit.int k n).wf = true

/-- The walk: the Go text returns true and writes nothing that was there. -/
theorem walk (a0 : Option Addr) (len0 cap0 : Nat) (z0 : List Int) (mv : Value) (f : Int → Int) (p : Int → Bool) (c : Nat) (k : Int) (w : World) (w0 : IsRow .u64 w a0 len0 cap0 z0) (hM : W.InMap w mv f p c) (wk : (Lit.int .i64 k).wf = true) :
    Calls Try.prog 6 #[.slice a0 len0 cap0, mv, .int .i64 k] w fun e w' => e = .returned (.bool true) ∧ Below w.heap.size w w' := by
  have hs : W.Sl w a0 len0 (z0.take len0) := by
    rcases w0 with ⟨rfl, rfl, rfl, rfl⟩ | ⟨x, rfl, hl, hm, hz, hc, _⟩
    · exact ⟨rfl, .inl rfl⟩
    · refine ⟨by rw [List.length_take, hz, Nat.min_eq_left hl], ?_⟩
      by_cases h0 : len0 = 0
      · exact .inl h0
      · right
        obtain ⟨b, off, spot⟩ := x
        have hspot : spot = none := by simpa [Addr.add] using World.cell?_spot (hc 0 (by omega))
        subst hspot
        refine ⟨b, off, rfl, fun i y hy => ?_⟩
        have hi : i < len0 := by have := (List.getElem?_eq_some_iff.1 hy).1; rw [List.length_take] at this; omega
        rw [List.getElem?_take_of_lt hi] at hy
        rw [hc i (by omega)]
        simp [List.getD, hy]
  have hm : len0 ≤ maxLen := by
    rcases w0 with ⟨rfl, rfl, rfl, rfl⟩ | ⟨x, rfl, hl, hm, _⟩
    · exact Nat.zero_le _
    · exact Nat.le_trans hl hm
  have hx : ∀ x ∈ z0.take len0, Plain.U64 x := by
    intro x hx
    have hx' := List.mem_of_mem_take hx
    rcases w0 with ⟨rfl, rfl, rfl, rfl⟩ | ⟨_, rfl, _, _, _, _, hw⟩
    · cases hx'
    · exact W.u64_wf (hw x hx')
  have hk := bounds_i64 wk
  exact W.law6 a0 len0 cap0 mv f p c k (z0.take len0) hx hm w hs hM

set_option maxRecDepth 100000 in
theorem lifted (os : Os) (started : os.Started) (H : Type) (enc : TypeId × Value → H) :
    ReturnsInHanded {} Try.checked os 6 .any (Rows.fnChooseUnmovedByRemovingALoserSpec.pre6 enc Try.prog Try.f6 Rows.fnChooseUnmovedByRemovingALoserRow.domain false) (Rows.fnChooseUnmovedByRemovingALoserSpec.post enc Try.prog Try.f6 false true false false) := by
  refine returnsInHanded_of_change (C := Try.checked) own started (by kernel_rfl) Try.func6
    (ChangeSpec.witness6 (enc := enc) (C := Try.checked) false ⟨#[], #[.slice none 0 0, .map none, .int .i64 0], []⟩ 8 (by kernel_rfl) (by kernel_rfl) (by kernel_rfl) (by kernel_rfl)) ?_
  intro W base args ds gs before hval0 hW hcnd _
  have hval : ∀ (j : Nat) t v, Try.f6.params[j]? = some t → args[j]? = some v → Value.okWide Try.prog W .any base t v := hval0
  have hW' := hW
  obtain ⟨p, q, hA0, hV, rfl, hfz, hnd⟩ := hW
  have hA : DataW.TrodAll enc Try.prog W 0 (fun _ => true) true Try.f6.params.toList args.toList ds p := hA0
  rw [Try.params6] at hA hval
  obtain ⟨v0, vs0, d0, ds0, p0, q0, hargs, rfl, rfl, h0, r0⟩ := trodAll_cons hA
  obtain ⟨v1, vs1, d1, ds1, p1, q1, rfl, rfl, rfl, h1, r1⟩ := trodAll_cons r0
  obtain ⟨v2, vs2, d2, ds2, p2, q2, rfl, rfl, rfl, h2, r2⟩ := trodAll_cons r1
  obtain ⟨rfl, rfl, rfl⟩ := trodAll_nil r2
  obtain rfl : args = #[v0, v1, v2] := by cases args; simp_all
  obtain ⟨rfl, rfl⟩ := trodVars_none hV
  obtain ⟨a0, len0, cap0, rfl⟩ := okWide_slice Try.underlying26 (hval 0 26 v0 rfl rfl)
  have k0 := h0
  have lt0 : ∀ x ∈ p0, x.block < W.heap.size := by obtain ⟨m, hm⟩ := k0; exact DataW.trod_lt m _ _ _ hm
  obtain ⟨z0, w0⟩ : ∃ zs, IsRow .u64 W a0 len0 cap0 zs := by
    obtain ⟨fuel, hf⟩ := h0
    rcases open_ints Try.underlying26 Try.underlying22 (by kernel_rfl) hf with ⟨hcs, _⟩ | ⟨x, l, c, zs, hcs, _, hl, hm, hz, _, hcell, hwz⟩
    · simp [Value.cells] at hcs
      obtain ⟨rfl, rfl, rfl⟩ := hcs
      exact ⟨[], .inl ⟨rfl, rfl, rfl, rfl⟩⟩
    · simp [Value.cells] at hcs
      obtain ⟨rfl, rfl, rfl⟩ := hcs
      exact ⟨zs, .inr ⟨_, rfl, hl, hm, by simpa using hz, hcell, hwz⟩⟩
  obtain ⟨m1, rfl⟩ := okWide_map Try.underlying27 (hval 1 27 v1 rfl rfl)
  have k1 := h1
  have lt1 : ∀ x ∈ p1, x.block < W.heap.size := by obtain ⟨m, hm⟩ := k1; exact DataW.trod_lt m _ _ _ hm
  obtain ⟨f, pp, c, hM⟩ : ∃ f pp c, Go.Proofs.Qxb6612674a.W.InMap W (.map m1) f pp c := by
    obtain ⟨fuel, hf⟩ := h1
    rcases open_map Try.underlying27 hf with ⟨hcs, _⟩ | ⟨bm, es, clock, m, _, hcs, hb, _, F, _⟩
    · simp [Value.cells] at hcs
      subst hcs
      exact ⟨_, _, 0, Go.Proofs.Qxb6612674a.W.looks_nil Go.Proofs.Qxb6612674a.W.law22 Try.underlying27 Try.underlying22 W, fun ty => Maps.len_nil Try.underlying27 ty⟩
    · simp [Value.cells] at hcs
      subst hcs
      have hown := World.ownsMap_of_fit (R := plainElem Try.prog 22) hb F (fun x _ z hz => elemAt_plainElem_int Try.underlying22 hz)
      obtain ⟨f, pp, hL⟩ := Go.Proofs.Qxb6612674a.W.looks_some Go.Proofs.Qxb6612674a.W.law22 Try.underlying27 Try.underlying22 hown
      exact ⟨f, pp, _, hL, fun ty => hown.len Try.underlying27 ty⟩
  obtain ⟨a2, rfl, rfl, rfl, w2⟩ := open_int Try.underlying3 (hval 2 3 v2 rfl rfl) h2
  clear hA0 hval0
  refine (walk a0 len0 cap0 z0 (.map m1) f pp c a2 W w0 hM w2).mono fun e W' ⟨he, bel⟩ => ?_
  subst he
  exact ⟨_, rfl, _, _, _, [], _, [], hW', trodAll_mk1 (shut_bool Try.underlying4 _), (trodAll_cons_mk (Below.trod laidOut (by kernel_rfl) (of_decide_eq_true (by kernel_rfl)) k0 bel lt0) (trodAll_cons_mk (Below.trod laidOut (by kernel_rfl) (of_decide_eq_true (by kernel_rfl)) k1 bel lt1) (trodAll_cons_mk (shut_int Try.underlying3 w2) trodAll_mk0))), rfl, bel.frame _, fun h => by cases h⟩

theorem over : Rows.fnChooseUnmovedByRemovingALoserRow.holds Try.pinned (OpenSpec.ofChange Rows.fnChooseUnmovedByRemovingALoserSpec) :=
  OpenClaim.holds_of_wide 6 Try.f6 rfl rfl rfl rfl rfl rfl rfl ⟨rfl, rfl, rfl, rfl, rfl⟩ rfl rfl rfl rfl rfl (by kernel_rfl) Try.func6 (by kernel_rfl)
    (of_decide_eq_true (by kernel_rfl)) (by unfold Func.isWrapper; first | (rw [if_pos (by decide +kernel)]; kernel_rfl) | (rw [if_neg (by decide +kernel)]; exact ⟨rfl, rfl⟩))
    (fun os started H enc _ => lifted os started H enc)

/-- THE STATEMENT -/
theorem proved : Rows.FnChooseUnmovedByRemovingALoserSaid := over
end Go.Proofs.Qxb6612674a.fnChooseUnmovedByRemovingALoser
