import Derived.Test.Qxb6612646aRows
import Derived.Test.Qxb6612646aPlain
import Derived.WalkKit
import Derived.WalkLawsBesides
import Derived.WalkSpells
import Derived.ArgAppend
import Derived.Lib.EndianBits
import Derived.Lib.Walk
import Derived.Lib.Slices
import Derived.RowKit3
namespace Go.Proofs.Qxb6612646a.W
open Go.RowKit Plain
theorem info5 : (Try.prog.info? 5).map (fun i => (i.zero, i.size, i.bytes)) = some (some (.int .u8 0), 1, 1) := by kernel_rfl

/-- The cells from 'a' on hold the bytes xs. -/
def Rd (w : World) (a : Addr) (xs : List Int) : Prop := ∀ i x, xs[i]? = some x → w.cell? (a.add i) = some (.int .u8 x)

theorem Rd.below {w w' : World} {a : Addr} {xs : List Int} (h : Rd w a xs) (hb : Below w.heap.size w w') : Rd w' a xs := by
  intro i x hx
  have hc := h i x hx
  rw [hb.cell (p := a.add i) (World.block_lt_of_cell? w _ hc)]
  exact hc

theorem ownsRow_down {w : World} {B B' : Nat} {e : TypeId} {size : Nat} {v : Value} {n : Nat} {xs : List Value} (h : w.ownsRow B e size v n xs) (hB : B' ≤ B) : w.ownsRow B' e size v n xs := by
  obtain ⟨h1, h2⟩ := h
  refine ⟨h1, ?_⟩
  rcases h2 with h | ⟨g, cap, cur, h3, h4, h5⟩
  · exact .inl h
  · exact .inr ⟨g, cap, cur, h3, Nat.le_trans hB h4, h5⟩

/-- What owns at least one byte: where it lies, and that its cells are the bytes. -/
theorem ownsRow_rd {w : World} {B : Nat} {v : Value} {n : Nat} {xs : List Int} (h : w.ownsRow B 5 1 v n (xs.map (Value.int .u8))) (hn : 0 < n) :
    ∃ g cap, v = .slice (some ⟨g, 0, none⟩) n cap ∧ n ≤ cap ∧ cap ≤ maxLen ∧ xs.length = n ∧ Rd w ⟨g, 0, none⟩ xs := by
  have hl : xs.length = n := by have := h.1; simpa using this
  rcases h.2 with ⟨_, h0⟩ | ⟨g, cap, cur, rfl, hb, hg, hc, hm, hs, ht⟩
  · omega
  · refine ⟨g, cap, rfl, hc, hm, hl, fun i x hx => ?_⟩
    have hi : i < n := by rw [← hl]; exact (List.getElem?_eq_some_iff.1 hx).1
    have := h.cellAt i (by omega)
    rw [List.getElem?_map, hx] at this
    rw [Addr.add_lit, Nat.zero_add]
    simpa using this

theorem app16 (ao : Option Addr) (n cap : Nat) (xs : List Int) (v : Int) (h0 : 0 ≤ v) (h1 : v < 18446744073709551616) (w : World)
    (hnone : ao = none → n = 0 ∧ cap = 0) (hlo : xs.length = n) (holds : ∀ b, ao = some b → Rd w b xs) (hcap : cap < n + 8) (hlim : n ≤ 10000000) :
    Calls Try.prog 16 #[.agg #[], .slice ao n cap, .int .u64 v] w fun e w' => ∃ v', e = .returned v' ∧ w'.ownsRow w.heap.size 5 1 v' (n + 8) ((xs ++ bytes8 v).map (Value.int .u8)) ∧ Below w.heap.size w w' := by
  obtain ⟨i0, hi, hz0, hz1, hz2⟩ := info_parts info5
  go_enter Try.func16, Try.ntmps16
  go_wp2_with (at_builtin; refine wpList_append_grows _ rfl _ _ 30 rfl 5 i0 (.int .u8 0) 1 1 Try.underlying30 hi hz0 hz1 hz2 rfl (by decide) ao n cap (xs.map (Value.int .u8)) rfl hnone ?clo ?c0 _ 8 8 [Value.int .u8 (v / 72057594037927936), Value.int .u8 (v / 281474976710656 % 256), Value.int .u8 (v / 1099511627776 % 256), Value.int .u8 (v / 4294967296 % 256), Value.int .u8 (v / 16777216 % 256), Value.int .u8 (v / 65536 % 256), Value.int .u8 (v / 256 % 256), Value.int .u8 (v % 256)] rfl rfl ?c1 ?c2 ?c3 ?c4 ?c5 ?grow)
  case clo => simp [hlo]
  case c0 =>
    intro b hb j u hj
    rw [List.getElem?_map, Option.map_eq_some_iff] at hj
    obtain ⟨x, hx, rfl⟩ := hj
    exact (((holds b hb).below ((Below.refl _ w).alloc (Nat.le_refl _) _)).below ((Below.refl _ _).alloc (Nat.le_refl _) _)) j x hx
  case c1 =>
    intro j u hj
    match j, hj with
    | 0, hj => simp at hj; subst hj; simp [Addr.add]
    | 1, hj => simp at hj; subst hj; simp [Addr.add]
    | 2, hj => simp at hj; subst hj; simp [Addr.add]
    | 3, hj => simp at hj; subst hj; simp [Addr.add]
    | 4, hj => simp at hj; subst hj; simp [Addr.add]
    | 5, hj => simp at hj; subst hj; simp [Addr.add]
    | 6, hj => simp at hj; subst hj; simp [Addr.add]
    | 7, hj => simp at hj; subst hj; simp [Addr.add]
  case c2 => intro u hu; simp at hu; rcases hu with rfl | rfl | rfl | rfl | rfl | rfl | rfl | rfl <;> rfl
  case c3 => omega
  case c4 => unfold maxLen; omega
  case c5 => omega
  case grow =>
    intro v' w2 hown' hgrow
    go_wp2
    go_ret
    refine ⟨v', rfl, ?_, ((((Below.refl _ w).alloc (Nat.le_refl _) _).alloc (by simp) _).grown hgrow (by simp; omega) (fun k hk => by cases hk))⟩
    have e : (xs ++ bytes8 v).map (Value.int .u8) = xs.map (Value.int .u8) ++ [Value.int .u8 (v / 72057594037927936), Value.int .u8 (v / 281474976710656 % 256), Value.int .u8 (v / 1099511627776 % 256), Value.int .u8 (v / 4294967296 % 256), Value.int .u8 (v / 16777216 % 256), Value.int .u8 (v / 65536 % 256), Value.int .u8 (v / 256 % 256), Value.int .u8 (v % 256)] := by
      rw [List.map_append]; rfl
    rw [e]
    exact ownsRow_down hown' (by have h1 := World.size_alloc w; omega)

/-- ZZappendUint64 onto a slice without room for eight more: a new row that holds the old bytes and v's. -/
theorem app10 (ao : Option Addr) (n cap : Nat) (xs : List Int) (v : Int) (h0 : 0 ≤ v) (h1 : v < 18446744073709551616) (w : World)
    (hnone : ao = none → n = 0 ∧ cap = 0) (hlo : xs.length = n) (holds : ∀ b, ao = some b → Rd w b xs) (hcap : cap < n + 8) (hlim : n ≤ 10000000) :
    Calls Try.prog 10 #[.slice ao n cap, .int .u64 v] w fun e w' => ∃ g c, e = .returned (.slice (some ⟨g, 0, none⟩) (n + 8) c) ∧ n + 8 ≤ c ∧ c ≤ maxLen ∧ Rd w' ⟨g, 0, none⟩ (xs ++ bytes8 v) ∧ Below w.heap.size w w' := by
  go_enter Try.func10, Try.ntmps10
  go_wp2_with (first | (go_at_call 16; refine (app16 ao n cap xs v h0 h1 _ hnone hlo holds hcap hlim).mono ?_; rintro e w1 ⟨v', rfl, hown, hb⟩) | go_in)
  go_ret
  obtain ⟨g, c, rfl, hc, hm, _, hr⟩ := ownsRow_rd hown (by omega)
  exact ⟨g, c, rfl, hc, hm, hr, hb⟩
end Go.Proofs.Qxb6612646a.W
