/-
  WHAT IS PROVED: the given card 'Rows.FnUnpackWidthCardSaid': for every argument the law FnUnpackWidth returns true and its arguments read afterwards as before: impl.Unpack refuses a width below 2 or above 8, with no byte. Conditions: the row's own: io.EOF reads, when the call begins, as the program's text lays it (the card ties that).
-/
import Derived.Test.YthlhcfjpijilaaaDoorUwB
import Derived.Test.YthlhcfjpijilaaaDoorCards
import Derived.Test.YthlhcfjpijilaaaDoorTie
import Derived.WalkKit
import Derived.WalkLawsBesides
import Derived.WalkSpells
import Derived.ProofKit
import Derived.OpenShut
import Derived.ChangeOld
import Derived.Below
import Derived.Lib.Hide
import Derived.LaidLaws
import Derived.LaidSub
import Derived.Deep.DeepHandedRow
import Derived.Deep.DeepWitnessRowRef
namespace Go.Proofs.YthlhcfjpijilaaaDoor
open Go.ChangeShapes Go.WideShapes Go.ChangeAt Go.RowKit

def LawPost (w : World) (e : Ending) (w' : World) : Prop := e = .returned (.bool true) ∧ Below w.heap.size w w'

theorem law_huge (x : Option Addr) (n c : Nat) (width : Int) (most : Bool) (w : World) (hn : (2147483647 : Int) < (n : Int)) :
    Calls Tryd.prog 3 #[.slice x n c, .int .i8 width, .bool most] w (LawPost w) := by
  go_enter Tryd.func3, Tryd.ntmps3
  go_wp2
  go_ret
  exact ⟨rfl, Below.refl _ _⟩

theorem law_long (x : Option Addr) (n c : Nat) (width : Int) (most : Bool) (w : World) (hm : ¬ (2147483647 : Int) < (n : Int)) (hn : (1000 : Int) < (n : Int)) :
    Calls Tryd.prog 3 #[.slice x n c, .int .i8 width, .bool most] w (LawPost w) := by
  go_enter Tryd.func3, Tryd.ntmps3
  by_cases h1 : (2 : Int) ≤ width
  · by_cases h2 : width ≤ 8
    all_goals
      go_wp2
      go_ret
      exact ⟨rfl, Below.refl _ _⟩
  · go_wp2
    go_ret
    exact ⟨rfl, Below.refl _ _⟩

theorem law_in (x : Option Addr) (n c : Nat) (width : Int) (most : Bool) (w : World) (hm : ¬ (2147483647 : Int) < (n : Int)) (hn : ¬ (1000 : Int) < (n : Int)) (h1 : 2 ≤ width) (h2 : width ≤ 8) :
    Calls Tryd.prog 3 #[.slice x n c, .int .i8 width, .bool most] w (LawPost w) := by
  go_enter Tryd.func3, Tryd.ntmps3
  go_wp2
  go_ret
  exact ⟨rfl, Below.refl _ _⟩

theorem law_out (x : Option Addr) (n c : Nat) (width : Int) (most : Bool) (w : World) (hm : ¬ (2147483647 : Int) < (n : Int)) (hn : ¬ (1000 : Int) < (n : Int)) (hw1 : -128 ≤ width) (hw2 : width ≤ 127) (h : width < 2 ∨ 8 < width)
    (hu : Calls Tryd.prog 4 #[.slice x n c, .int .i64 width, .bool most, .slice none 0 0] w (UnpackPost w)) :
    Calls Tryd.prog 3 #[.slice x n c, .int .i8 width, .bool most] w (LawPost w) := by
  have HU := Lib.hid hu
  clear hu
  rcases h with h | h
  · have h1 : ¬ (2 : Int) ≤ width := by omega
    go_enter Tryd.func3, Tryd.ntmps3
    go_wp2_with fail
    refine HU.out.mono ?_
    rintro e w1 ⟨a1, c1, rfl, b⟩
    have HB := Lib.hid b
    clear b
    go_wp2
    go_ret
    exact ⟨rfl, HB.out⟩
  · have h1 : (2 : Int) ≤ width := by omega
    have h2 : ¬ width ≤ 8 := by omega
    go_enter Tryd.func3, Tryd.ntmps3
    go_wp2_with fail
    refine HU.out.mono ?_
    rintro e w1 ⟨a1, c1, rfl, b⟩
    have HB := Lib.hid b
    clear b
    go_wp2
    go_ret
    exact ⟨rfl, HB.out⟩

/-- WHAT IS KNOWN OF THE SLICE THAT CAME IN: nil, or a row of bytes. -/
def IsBytes (w : World) (a : Option Addr) (len cap : Nat) : Prop :=
  (a = none ∧ len = 0 ∧ cap = 0) ∨
  ∃ x zs, a = some x ∧ len ≤ zs.length ∧ ∀ i, i < zs.length → w.cell? (x.add i) = some (.int .u8 (List.getD zs i 0))

theorem clone_any (x : Option Addr) (n c : Nat) (w : World) (h : IsBytes w x n c) (hn : n ≤ 1000) : Calls Tryd.prog 7 #[.slice x n c] w (CloneSome w) := by
  rcases h with ⟨rfl, rfl, rfl⟩ | ⟨x, zs, rfl, hl, hc⟩
  · exact clone_nil w
  · exact clone_some x n c zs w hl (by omega) hc

theorem law_any (x : Option Addr) (n c : Nat) (width : Int) (most : Bool) (a0 : Addr) (c0 : Array Value) (t0 : TypeId) (w : World) (hx : IsBytes w x n c) (hw1 : -128 ≤ width) (hw2 : width ≤ 127)
    (hE : w.cell? ⟨0, 0, none⟩ = some (.iface 65 (.pointer (some a0)))) (hB : w.heap[a0.block]? = some (.cells c0 t0 (0, 0))) :
    Calls Tryd.prog 3 #[.slice x n c, .int .i8 width, .bool most] w (LawPost w) := by
  by_cases h1 : (2147483647 : Int) < (n : Int)
  · exact law_huge x n c width most w h1
  by_cases h2 : (1000 : Int) < (n : Int)
  · exact law_long x n c width most w h1 h2
  by_cases h3 : 2 ≤ width ∧ width ≤ 8
  · exact law_in x n c width most w h1 h2 h3.1 h3.2
  · have h4 : width < 2 ∨ 8 < width := by omega
    exact law_out x n c width most w h1 h2 hw1 hw2 h4 (unpack_any x n c width most a0 c0 t0 w h4 (clone_any x n c w hx (by omega)) hE hB)

theorem own : ownKnob Tryd.prog.godebug = none := by kernel_rfl
theorem laidOut : laidOutB Tryd.prog = true := by kernel_rfl
theorem gEOF : Tryd.prog.globalNamed "io.EOF" = some 0 := by kernel_rfl
theorem gEOFType : (Tryd.prog.globals[0]?).map (·.type) = some 37 := by kernel_rfl
theorem cells67 : Tryd.prog.cellsOf 67 = 1 := by kernel_rfl
theorem cells9 : Tryd.prog.cellsOf 9 = 1 := by kernel_rfl
theorem star : "*" ++ "errors.errorString" = "*errors.errorString" := by decide
theorem row65 (u : TypeId) (h : Tryd.prog.typeName? 3 u = some "*errors.errorString") : u = 65 :=
  typeName_ptr_named (nm := "errors.errorString") (by rw [star]; kernel_rfl) (by kernel_rfl) (by decide) u (by rw [star]; exact h)
theorem noHandle : ([("io.EOF", Rows.laid_io_EOF)] : List (String × DataW Unit)).filter (fun x => x.2.handleName?.isNone) = [("io.EOF", Rows.laid_io_EOF)] := by kernel_rfl

/-- WHAT THE ROW's LIST GIVES: io.EOF's cell, and the block that it leads to. -/
theorem eof_of_laid {W : World} (h0 : laidMetH Tryd.prog Rows.fnUnpackWidthRow.laid W) :
    ∃ (a0 : Addr) (c0 : Array Value) (t0 : TypeId), W.cell? ⟨0, 0, none⟩ = some (.iface 65 (.pointer (some a0))) ∧ W.heap[a0.block]? = some (.cells c0 t0 (0, 0)) := by
  have h : laidMet Tryd.prog [("io.EOF", Rows.laid_io_EOF)] W := by
    have h1 := (laidMetH_iff.1 h0).1
    rwa [show Rows.fnUnpackWidthRow.laid = [("io.EOF", Rows.laid_io_EOF)] from rfl, noHandle] at h1
  obtain ⟨ps, ⟨g0, t0, cs0, f0, p0, q0, hg0, ht0, hv0, hd0, hq0, e0⟩, _, hrows⟩ := h
  obtain rfl := Option.some.inj (gEOF.symm.trans hg0)
  obtain rfl := Option.some.inj (gEOFType.symm.trans ht0)
  have hq0' : q0 = [] := hq0
  subst hq0'
  subst e0
  obtain ⟨l0⟩ := cs0
  have ok0 : ∀ u v, l0 = [.iface u v] → Value.okWide Tryd.prog W .any 0 u v := fun u v e => by
    subst e
    exact (hrows 0 0 (by simp [MemPlace.row])).2 u v (by simpa using World.var?_cell hg0 hv0 0)
  obtain ⟨a0, s0, rfl, hc0, hs0, hz0, rfl⟩ := errorString_of_trod Tryd.underlying37 row65 Tryd.underlying65 Tryd.underlying67 rfl rfl Tryd.underlying9 cells67 cells9 hd0 ok0
  obtain ⟨c0, t0, hb0⟩ := (hrows a0.block a0.off (by simp [MemPlace.row])).1
  exact ⟨a0, c0, t0, by simpa using World.var?_cell hg0 hv0 0, hb0⟩

set_option maxRecDepth 100000 in
theorem contract (H : Type) (enc : TypeId × Value → H) (W : World) (base : Nat) (args : Array Value) (ds gs : List (DataW H)) (before : List MemPlace)
    (hval0 : ∀ (j : Nat) t v, Tryd.f3.params[j]? = some t → args[j]? = some v → Value.okWide Tryd.prog W .any base t v)
    (hW : DataW.Whole enc Tryd.prog Tryd.f3.params.toList Rows.fnUnpackWidthSpec.vars false W args.toList ds gs before) (hL : laidMetH Tryd.prog Rows.fnUnpackWidthRow.laid W) :
    Calls Tryd.prog 3 args W fun e W' => ∃ v, e = .returned v ∧ Rows.fnUnpackWidthSpec.post enc Tryd.prog Tryd.f3 false true false false W args v W' := by
  have hval : ∀ (j : Nat) t v, Tryd.f3.params[j]? = some t → args[j]? = some v → Value.okWide Tryd.prog W .any base t v := hval0
  have hW' := hW
  obtain ⟨p, q, hA0, hV, rfl, hfz, hnd⟩ := hW
  have hA : DataW.TrodAll enc Tryd.prog W 0 (fun _ => true) true Tryd.f3.params.toList args.toList ds p := hA0
  rw [Tryd.params3] at hA hval
  obtain ⟨v0, vs0, d0, ds0, p0, q0, hargs, rfl, rfl, h0, r0⟩ := trodAll_cons hA
  obtain ⟨v1, vs1, d1, ds1, p1, q1, rfl, rfl, rfl, h1, r1⟩ := trodAll_cons r0
  obtain ⟨v2, vs2, d2, ds2, p2, q2, rfl, rfl, rfl, h2, r2⟩ := trodAll_cons r1
  obtain ⟨rfl, rfl, rfl⟩ := trodAll_nil r2
  obtain rfl : args = #[v0, v1, v2] := by cases args; simp_all
  obtain ⟨rfl, rfl⟩ := trodVars_none hV
  obtain ⟨a0, len0, cap0, rfl⟩ := okWide_slice Tryd.underlying22 (hval 0 22 v0 rfl rfl)
  have k0 := h0
  have lt0 : ∀ x ∈ p0, x.block < W.heap.size := by obtain ⟨m, hm⟩ := k0; exact DataW.trod_lt m _ _ _ hm
  have w0 : IsBytes W a0 len0 cap0 := by
    obtain ⟨fuel, hf⟩ := h0
    rcases open_ints Tryd.underlying22 Tryd.underlying5 (by kernel_rfl) hf with ⟨hcs, _⟩ | ⟨x, l, c, zs, hcs, _, hl, hm, hz, _, hcell, hwz⟩
    · simp [Value.cells] at hcs
      obtain ⟨rfl, rfl, rfl⟩ := hcs
      exact .inl ⟨rfl, rfl, rfl⟩
    · simp [Value.cells] at hcs
      obtain ⟨rfl, rfl, rfl⟩ := hcs
      exact .inr ⟨_, zs, rfl, by simp at hz; omega, hcell⟩
  obtain ⟨a1, rfl, rfl, rfl, w1⟩ := open_int Tryd.underlying23 (hval 1 23 v1 rfl rfl) h1
  obtain ⟨a2, rfl, rfl, rfl⟩ := open_bool Tryd.underlying4 (hval 2 4 v2 rfl rfl) h2
  clear hA0 hval0
  obtain ⟨e0, c0, t0, hE, hB⟩ := eof_of_laid hL
  have hb1 : -128 ≤ a1 ∧ a1 ≤ 127 := bounds_i8 w1
  refine (law_any a0 len0 cap0 a1 a2 e0 c0 t0 W w0 hb1.1 hb1.2 hE hB).mono fun e W' ⟨he, bel⟩ => ?_
  subst he
  exact ⟨_, rfl, _, _, _, [], _, [], hW', trodAll_mk1 (shut_bool Tryd.underlying4 _), (trodAll_cons_mk (Below.trod laidOut (by kernel_rfl) (of_decide_eq_true (by kernel_rfl)) k0 bel lt0) (trodAll_cons_mk (shut_int Tryd.underlying23 w1) (trodAll_cons_mk (shut_bool Tryd.underlying4 _) trodAll_mk0))), rfl, bel.frame _, fun h => by cases h⟩


abbrev eofS : ByteArray := { data := #[69, 79, 70] }
/-- The block behind the settled ones. -/
noncomputable def low : Nat := (World.holding Tryd.prog default ⟨#[], #[], []⟩).heap.size
/-- A WORLD FOR THE WITNESS: the settled one, io.EOF's cell (block 0) leading to a new block with its text. -/
noncomputable def laidWorld (os : Os) : World :=
  let w0 := World.holding Tryd.prog os ⟨#[.cells #[.string eofS] 67], #[], []⟩
  { w0 with heap := w0.heap.modify 0 fun
      | .cells _ t frozen => .cells #[.iface 65 (.pointer (some ⟨low, 0, none⟩))] t frozen
      | o => o }
abbrev args0 : Array Value := #[.slice none 0 0, .int .i8 0, .bool false]
theorem laid_met (os : Os) : laidMetH Tryd.prog Rows.fnUnpackWidthRow.laid ((laidWorld os).forCall (fun _ _ => 0) ⟨#[], args0, []⟩).memory :=
  laidMetH_iff.2 ⟨by
    rw [show Rows.fnUnpackWidthRow.laid = [("io.EOF", Rows.laid_io_EOF)] from rfl, noHandle]
    exact laidMet_of_run' 8 (by kernel_rfl) (by kernel_rfl), fun x hx => by
    rw [show Rows.fnUnpackWidthRow.laid = [("io.EOF", Rows.laid_io_EOF)] from rfl] at hx
    have e : ([("io.EOF", Rows.laid_io_EOF)] : List (String × DataW Unit)).filter (fun x => x.2.handleName?.isSome) = [] := by kernel_rfl
    rw [e] at hx
    cases hx⟩
theorem reads (os : Os) {H : Type} (enc : TypeId × Value → H) : ∃ places, DataW.whole enc Tryd.prog ((laidWorld os).forCall (fun _ _ => 0) ⟨#[], args0, []⟩).memory Tryd.f3.params.toList Rows.fnUnpackWidthSpec.vars false args0.toList 8 = some ([.nil, .lit (.int .i8 0), .lit (.bool false)], [], places) :=
  ⟨[], by kernel_rfl⟩

set_option maxRecDepth 100000 in
theorem lifted (os : Os) (started : os.Started) (H : Type) (enc : TypeId × Value → H) (F : Stop.Interp) :
    ReturnsInHanded {} Tryd.checked os 3 .any ((OpenSpec.ofChange Rows.fnUnpackWidthSpec).preRow enc Tryd.prog Tryd.f3 Rows.fnUnpackWidthRow.domain false Rows.fnUnpackWidthRow.laid) (((OpenSpec.ofChange Rows.fnUnpackWidthSpec).at F).post enc Tryd.prog Tryd.f3 false true false false) := by
  obtain ⟨places, hx⟩ := reads os enc
  refine returnsInHanded_of_row (C := Tryd.checked) (s := OpenSpec.ofChange Rows.fnUnpackWidthSpec) own started (by kernel_rfl) Tryd.func3
    (witness_row_atRef (enc := enc) (C := Tryd.checked) false (laidWorld os) args0 rfl (by kernel_rfl) (by kernel_rfl) (by kernel_rfl)
      (OpenSpec.preRow_of_cond 8 hx (by kernel_rfl) (fun k hk => by cases hk) (by kernel_rfl) (laid_met os))) ?_
  intro W base args ds gs before hval hW _ _ _ hL _ _
  exact contract H enc W base args ds gs before hval hW hL

theorem said : Rows.FnUnpackWidthSaid :=
  OpenClaim.holds_of_cond 3 Tryd.f3 rfl rfl rfl rfl rfl rfl rfl ⟨rfl, rfl, rfl, rfl, rfl⟩ rfl rfl rfl rfl rfl (by kernel_rfl) Tryd.func3 (by kernel_rfl)
    (of_decide_eq_true (by kernel_rfl)) (by unfold Func.isWrapper; first | (rw [if_pos (by decide +kernel)]; kernel_rfl) | (rw [if_neg (by decide +kernel)]; exact ⟨rfl, rfl⟩))
    (fun os started H enc _ F => by rw [OpenClaim.pre_eq_preRow]; exact lifted os started H enc F)

theorem plain (f : FuncId) (fn : Func) (hf : Tryd.pinned.checked.prog.funcNamed "loop.example/pub-g03427/laws.FnUnpackWidth" = some f) (hfn : Tryd.pinned.checked.prog.funcs[f]? = some fn) :
    true = Tryd.pinned.checked.prog.looks [] ∧ ∀ (j : Nat) t, fn.params[j]? = some t → Tryd.pinned.checked.prog.wantsStandIn t = false := by
  obtain rfl : f = 3 := Option.some.inj ((show Tryd.prog.funcNamed "loop.example/pub-g03427/laws.FnUnpackWidth" = some 3 by kernel_rfl).symm.trans hf) |>.symm
  obtain rfl : fn = Tryd.f3 := (Option.some.inj (Tryd.func3.symm.trans hfn)).symm
  refine ⟨by kernel_rfl, fun j t ht => ?_⟩
  rw [Tryd.params3] at ht
  have hm := Array.mem_of_getElem? ht
  have h22 : Tryd.prog.wantsStandIn 22 = false := by kernel_rfl
  have h23 : Tryd.prog.wantsStandIn 23 = false := by kernel_rfl
  have h4 : Tryd.prog.wantsStandIn 4 = false := by kernel_rfl
  rcases (by simpa using hm : t = 22 ∨ t = 23 ∨ t = 4) with rfl | rfl | rfl
  · exact h22
  · exact h23
  · exact h4

/-- THE CARD. -/
theorem card_holds : Rows.FnUnpackWidthCardSaid :=
  Claim7.holds_tied_plain_at .later [] _ _ _ _ said (fun _ h => by cases h) (by kernel_rfl) (fun _ h => by cases h) fnUnpackWidth_row_tie rfl ⟨rfl, rfl⟩ (by kernel_rfl) rfl plain (by kernel_rfl)
#print axioms card_holds
end Go.Proofs.YthlhcfjpijilaaaDoor
