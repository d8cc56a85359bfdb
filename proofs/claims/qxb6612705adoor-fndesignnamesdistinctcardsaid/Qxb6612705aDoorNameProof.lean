import Derived.Test.Qxb6612705aDoorRows
import Derived.Test.Qxb6612705aDoorNameWalks
import Derived.WalkKit
import Derived.ProofKit
import Derived.LaidMore
import Derived.OpenShut
import Derived.Stop.Joined
namespace Go.Proofs.Qxb6612705aDoor.Names
open Go.ChangeShapes Go.WideShapes Go.ChangeAt Go.WideMaps Go.WideElems Go.RowKit

theorem own : ownKnob Tryd.prog.godebug = none := by kernel_rfl

/-- The listed variable's name, and what the row lists, as the row itself has them. -/
abbrev nm : String := Rows.fnDesignNamesDistinctSpec.vars.headD ""
abbrev listed : List (String × DataW Unit) := Rows.fnDesignNamesDistinctRow.laid

theorem gN : Tryd.prog.globalNamed nm = some 0 := by kernel_rfl
theorem gT : (Tryd.prog.globals[0]?).map (·.type) = some 25 := by kernel_rfl
theorem cells25 : Tryd.prog.cellsOf 25 = 2 := by kernel_rfl
theorem cells9 : Tryd.prog.cellsOf 9 = 1 := by kernel_rfl

def cells2 : Array Value := #[.string hec, .string hc]

/-- The door's own heap meets the condition. -/
theorem door_met (os : Os) (args : Array Value) : laidMetH Tryd.prog listed ((World.doorLaid Tryd.prog 14 os).forCall (fun _ _ => 0) ⟨#[], args, []⟩).memory :=
  laidMetH_of_parts3 (fuel := 8) (laidMet_of_run' 8 (by kernel_rfl) (by kernel_rfl)) (by kernel_rfl) (by kernel_rfl)

theorem string_of {s : ByteArray} {l : List UInt8} (h : s.data.toList = l) : s = ⟨l.toArray⟩ := by
  subst h
  rfl

/-- WHAT THE CONDITION GIVES: the variable holds the two names. -/
theorem of_laid {V : World} (h : laidMetH Tryd.prog listed V) : V.var? Tryd.prog nm = some cells2 := by
  rw [MakeChecks.laidMetH_plain _ _ _ (by kernel_rfl)] at h
  obtain ⟨ps, ⟨g, t, cs, fuel, p, q, hg, ht, hvar, hd, _, _⟩, _⟩ := h
  obtain rfl := Option.some.inj (gN.symm.trans hg)
  obtain rfl := Option.some.inj (gT.symm.trans ht)
  refine hvar.trans ?_
  obtain ⟨xs, m, rfl, hx, hlen, hn, hel⟩ := DataW.trod_array Tryd.underlying25 hd
  have h0 := hel 0 (by decide)
  have h1 := hel 1 (by decide)
  rw [cells25] at hlen
  rw [cells9] at h0 h1
  simp only [Prod.mk.injEq, Rows.laid_example_com_coheron_coheron_internal_sim_designNames, DataW.agg.injEq] at hx
  obtain ⟨l⟩ := cs
  match xs, hn, hx, h0, h1 with
  | [x0, x1], _, hx, h0, h1 =>
    match l, hlen with
    | [a, b], _ =>
      obtain ⟨s0, e0, y0, _⟩ := DataW.trod_string Tryd.underlying9 (show DataW.trod _ Tryd.prog V 0 _ _ m 9 _ = some x0 from h0)
      obtain ⟨s1, e1, y1, _⟩ := DataW.trod_string Tryd.underlying9 (show DataW.trod _ Tryd.prog V 0 _ _ m 9 _ = some x1 from h1)
      simp at e0 e1
      subst e0 e1 y0 y1
      simp only [List.map_cons, List.map_nil, List.cons.injEq, DataW.lit.injEq, Lit.string.injEq, and_true] at hx
      rw [string_of hx.1.1.symm, string_of hx.1.2.symm]
      rfl

abbrev tableH {H : Type} : DataW H := .agg [.lit (.string [104, 101, 99]), .lit (.string [104, 99])]

theorem reads_table {H : Type} (enc : TypeId × Value → H) (V : World) (sp : Nat → Bool) : DataW.trod enc Tryd.prog V 0 sp true 3 25 cells2.toList = some (tableH, []) := by kernel_rfl

set_option maxRecDepth 100000 in
theorem lifted (os : Os) (started : os.Started) (H : Type) (enc : TypeId × Value → H) :
    ReturnsInHanded {} Tryd.checked os 3 .any (fun w args => (Rows.fnDesignNamesDistinctSpec.pre enc Tryd.prog Tryd.f3 [] false w args ∧ laidMetH Tryd.prog listed w) ∧ sizedMet enc Tryd.prog Tryd.f3 (OpenSpec.ofChange Rows.fnDesignNamesDistinctSpec) false w args)
      (Rows.fnDesignNamesDistinctSpec.post enc Tryd.prog Tryd.f3 false true false false) := by
  refine returnsInHanded_of_change_and (C := Tryd.checked) (X := fun w _ => laidMetH Tryd.prog listed w) (fun _ _ _ hh h => h.of_heap hh) own started (by kernel_rfl) Tryd.func3
    (ChangeSpec.witness_shaped (enc := enc) (C := Tryd.checked) (os := os) (X := fun w _ => laidMetH Tryd.prog listed w) false (World.doorLaid Tryd.prog 14 os) #[.int .i64 0, .int .i64 0] 8 rfl (World.shaped_of_RefB (by kernel_rfl) (by kernel_rfl)) (by kernel_rfl) (by kernel_rfl) (by kernel_rfl) (door_met os _)) ?_
  intro W base args ds gs before hval0 hW _ _ hL _
  have hval : ∀ (j : Nat) t v, Tryd.f3.params[j]? = some t → args[j]? = some v → Value.okWide Tryd.prog W .any base t v := hval0
  have hW' := hW
  obtain ⟨p, q, hA0, hV0, rfl, hfz, hnd⟩ := hW
  have hA : DataW.TrodAll enc Tryd.prog W 0 (fun _ => true) true Tryd.f3.params.toList args.toList ds p := hA0
  have hV : DataW.TrodVars enc Tryd.prog W (fun _ => true) [nm] gs q := hV0
  rw [Tryd.params3] at hA hval
  obtain ⟨v0, v1, d0, d1, p0, p1, rfl, rfl, rfl, h0, h1⟩ := trodAll_two hA
  obtain ⟨a0, rfl, rfl, rfl, w0⟩ := open_int Tryd.underlying3 (hval 0 3 v0 rfl rfl) h0
  obtain ⟨a1, rfl, rfl, rfl, w1⟩ := open_int Tryd.underlying3 (hval 1 3 v1 rfl rfl) h1
  obtain ⟨g, t, cs, fuel, d, p', rfl, hg, ht, hvar, hd, rfl⟩ := trodVars_one hV
  obtain rfl := Option.some.inj (gN.symm.trans hg)
  obtain rfl := Option.some.inj (gT.symm.trans ht)
  obtain rfl : cs = cells2 := Option.some.inj (hvar.symm.trans (of_laid hL))
  obtain ⟨rfl, rfl⟩ := DataW.Trod.unique (v := .agg cells2) ⟨fuel, hd⟩ ⟨3, reads_table enc W _⟩
  clear hA0 hV0 hval0
  have hvars : ∀ sp : Nat → Bool, DataW.TrodVars enc Tryd.prog W sp [nm] [tableH] (MemPlace.row ⟨0, 0, none⟩ cells2.size ++ [] ++ []) := fun sp =>
    ⟨0, 25, cells2, 3, [], [], hg, ht, hvar, reads_table enc W sp, rfl, rfl⟩
  have c0 : W.cell? ⟨0, 0, none⟩ = some (.string hec) := World.var?_cell hg hvar 0
  have c1 : W.cell? ⟨0, 1, none⟩ = some (.string hc) := World.var?_cell hg hvar 1
  refine (law a0 a1 W c0 c1).mono fun e W' ⟨he, hw⟩ => ?_
  subst he; subst hw
  exact ⟨_, rfl, post_of_same (pa := []) hW' (fun _ _ _ => trodAll_mk1 (shut_bool Tryd.underlying4 true)) (fun sp _ => trodAll_mk2 (shut_int Tryd.underlying3 w0) (shut_int Tryd.underlying3 w1)) (fun sp _ => hvars sp) (by simp)
    (World.keptBut_refl _ _) (fun _ => rfl) (ok_one (by kernel_rfl) rfl (okWide_bool_mk Tryd.underlying4 true))⟩

/-- The row. -/
theorem row_holds : Rows.FnDesignNamesDistinctSaid :=
  OpenClaim.holds_of_wide 3 Tryd.f3 rfl rfl rfl rfl rfl rfl rfl ⟨rfl, rfl, rfl, rfl, rfl⟩ rfl rfl rfl rfl rfl (by kernel_rfl) Tryd.func3 (by kernel_rfl)
    (of_decide_eq_true (by kernel_rfl)) (by unfold Func.isWrapper; first | (rw [if_pos (by decide +kernel)]; kernel_rfl) | (rw [if_neg (by decide +kernel)]; exact ⟨rfl, rfl⟩))
    (fun os started H enc _ => lifted os started H enc)
end Go.Proofs.Qxb6612705aDoor.Names
