/-
  WHAT IS PROVED: the contracts of the functions that impl.Unpack calls on the road of a width out of range: slices.Clone, bytes.NewReader, impl.orderOf, errors.New, lzw.NewReader and the first call of (*lzw.Reader).Read. Conditions: the width lies below 2 or above 8; where cells are read, what they hold is a hypothesis.
-/
import Derived.Test.YthlhcfjpijilaaaDoorRows
import Derived.WalkKit
import Derived.WalkLawsBesides
import Derived.WalkSpells
import Derived.Below
import Derived.Lib.Hide
import Derived.LaidEql
import Derived.Deep.QuietTactic
import Derived.BigQuiet
import Derived.Laws.EntriesVeiled
namespace Go.Proofs.YthlhcfjpijilaaaDoor
open Go.RowKit
/-- The order's number. -/
def ordOf (b : Bool) : Int := if b = true then 1 else 0
theorem ordOf_or (b : Bool) : ordOf b = 0 ∨ ordOf b = 1 := by cases b <;> simp [ordOf]

theorem orderOf_any (b : Bool) (w : World) : Calls Tryd.prog 8 #[.bool b] w fun e w' => e = .returned (.int .i64 (ordOf b)) ∧ w = w' := by
  cases b
  all_goals
    go_enter Tryd.func8, Tryd.ntmps8
    go_wp2
    go_ret
    exact ⟨rfl, rfl⟩

theorem errNew_any (s : ByteArray) (w : World) : Calls Tryd.prog 13 #[.string s] w fun e w' => e = .returned (.iface 65 (.pointer (some ⟨w.heap.size, 0, none⟩))) ∧ w' = w.alloc (.cells #[.string s] 67) := by
  go_enter Tryd.func13, Tryd.ntmps13
  go_wp2
  go_ret
  exact ⟨rfl, rfl⟩

theorem newBytes_any (a : Option Addr) (n c : Nat) (w : World) : Calls Tryd.prog 6 #[.slice a n c] w fun e w' => e = .returned (.pointer (some ⟨w.heap.size, 0, none⟩)) ∧ w' = w.alloc (.cells #[.slice a n c, .int .i64 0, .int .i64 (-1)] 45) := by
  go_enter Tryd.func6, Tryd.ntmps6
  go_wp2
  go_ret
  exact ⟨rfl, rfl⟩


abbrev rangeS : ByteArray := { data := #[108, 122, 119, 58, 32, 108, 105, 116, 87, 105, 100, 116, 104, 32, 111, 117, 116, 32, 111, 102, 32, 114, 97, 110, 103, 101] }

def InitPost (b : Nat) (w : World) (e : Ending) (w' : World) : Prop :=
  ∃ fv : Value, e = .returned (.tuple #[]) ∧ w' = ((w.setCell ⟨b, 4, none⟩ fv).setCell ⟨b, 6, none⟩ (.iface 65 (.pointer (some ⟨w.heap.size, 0, none⟩)))).alloc (.cells #[.string rangeS] 67)

theorem init_any (x : Value) (b : Nat) (o n : Int) (u4 u6 : Value) (w : World) (ho : o = 0 ∨ o = 1) (hn : n < 2 ∨ 8 < n) (hb : b < w.heap.size) (h4 : w.cell? ⟨b, 4, none⟩ = some u4) (h6 : w.cell? ⟨b, 6, none⟩ = some u6) (f4 : w.frozen? ⟨b, 4, none⟩ = false) (f6 : w.frozen? ⟨b, 6, none⟩ = false) :
    Calls Tryd.prog 10 #[.pointer (some ⟨b, 0, none⟩), x, .int .i64 o, .int .i64 n] w (InitPost b w) := by
  rcases ho with rfl | rfl <;> rcases hn with hn | hn
  all_goals
    first | (have hn2 : ¬ n < 2 := by omega) | skip
    go_enter Tryd.func10, Tryd.ntmps10
    go_wp2
    go_end0
    exact ⟨_, rfl, rfl⟩


def isNilSlice : Option Value → Bool
  | some (.slice none 0 0) => true
  | _ => false
theorem isNilSlice_eq {v : Option Value} (h : isNilSlice v = true) : v = some (.slice none 0 0) := by
  unfold isNilSlice at h
  split at h
  · rfl
  · cases h
def zeroFits : Value → Bool
  | .agg zs => decide (zs.size = 16398) && (zs[4]?).isSome && (zs[6]?).isSome && isNilSlice zs[16397]?
  | _ => false

theorem zero56 : ∃ zs : Array Value, (∀ w, (zeroValue 56).run Tryd.prog w = .ok (.agg zs) w) ∧ zs.size = 16398 ∧ zs[16397]? = some (.slice none 0 0) := by
  have h : (Tryd.prog.info? 56).bind (fun i => i.zero.map zeroFits) = some true := by kernel_rfl
  obtain ⟨i, hi, h⟩ := Option.bind_eq_some_iff.1 h
  obtain ⟨v, hv, h⟩ := Option.map_eq_some_iff.1 h
  cases v with
  | agg zs =>
    simp only [zeroFits, Bool.and_eq_true, decide_eq_true_eq] at h
    obtain ⟨⟨⟨h1, h2⟩, h3⟩, h4⟩ := h
    exact ⟨zs, fun w => by simp [zeroValue, typeInfo, hi, hv], h1, isNilSlice_eq h4⟩
  | _ => simp [zeroFits] at h

def ReaderIn (w w' : World) : Prop :=
  Below w.heap.size w w' ∧ w'.heap.size = w.heap.size + 2 ∧ w'.cell? ⟨w.heap.size, 6, none⟩ = some (.iface 65 (.pointer (some ⟨w.heap.size + 1, 0, none⟩))) ∧
    w'.cell? ⟨w.heap.size, 16397, none⟩ = some (.slice none 0 0) ∧ w'.heap[w.heap.size + 1]? = some (.cells #[.string rangeS] 67 (0, 0))

theorem readerIn_of (w : World) (zs : Array Value) (fv : Value) (hs : zs.size = 16398) (h3 : zs[16397]? = some (.slice none 0 0)) :
    ReaderIn w ((((w.alloc (.cells zs 56)).setCell ⟨w.heap.size, 4, none⟩ fv).setCell ⟨w.heap.size, 6, none⟩ (.iface 65 (.pointer (some ⟨w.heap.size + 1, 0, none⟩)))).alloc (.cells #[.string rangeS] 67)) := by
  rw [World.setCell_alloc_new, World.setCell_alloc_new]
  refine ⟨((Below.refl _ _).alloc (Nat.le_refl _) _).alloc (by simp) _, by simp, ?_, ?_, ?_⟩
  · rw [World.cell?_alloc2_first]; simp [hs]
  · rw [World.cell?_alloc2_first]; simp [h3]
  · have h := heap_alloc_new (w.alloc (.cells ((zs.setIfInBounds 4 fv).setIfInBounds 6 (.iface 65 (.pointer (some ⟨w.heap.size + 1, 0, none⟩)))) 56)) (.cells #[.string rangeS] 67)
    rwa [World.size_alloc] at h

theorem newReader_any (x : Value) (o n : Int) (w : World) (ho : o = 0 ∨ o = 1) (hn : n < 2 ∨ 8 < n) :
    Calls Tryd.prog 9 #[x, .int .i64 o, .int .i64 n] w fun e w' => e = .returned (.pointer (some ⟨w.heap.size, 0, none⟩)) ∧ ReaderIn w w' := by
  obtain ⟨zs, hz, hs, h3⟩ := zero56
  have R := fun fv => readerIn_of w zs fv hs h3
  have I := fun (x : Value) => init_any x w.heap.size o n (zs.getD 4 .nilIface) (zs.getD 6 .nilIface) (w.alloc (.cells zs 56)) ho hn (by simp) (by simp [hs]) (by simp [hs]) (by simp) (by simp)
  clear hs h3 ho hn
  go_enter Tryd.func9, Tryd.ntmps9
  go_wp2_with fail
  refine (I _).mono ?_
  rintro e w' ⟨fv, rfl, rfl⟩
  have R' := R fv
  rw [World.size_alloc]
  generalize ((((w.alloc (.cells zs 56)).setCell ⟨w.heap.size, 4, none⟩ fv).setCell ⟨w.heap.size, 6, none⟩ (.iface 65 (.pointer (some ⟨w.heap.size + 1, 0, none⟩)))).alloc (.cells #[.string rangeS] 67)) = w2 at R' ⊢
  have HR : Hid (ReaderIn w w2) := R'
  clear R R' I hz
  go_wp2
  go_ret
  exact ⟨rfl, HR.out⟩

theorem NewReader_any (x : Value) (o n : Int) (w : World) (ho : o = 0 ∨ o = 1) (hn : n < 2 ∨ 8 < n) :
    Calls Tryd.prog 5 #[x, .int .i64 o, .int .i64 n] w fun e w' => e = .returned (.iface 42 (.pointer (some ⟨w.heap.size, 0, none⟩))) ∧ ReaderIn w w' := by
  have I := fun x => newReader_any x o n w ho hn
  clear ho hn
  go_enter Tryd.func5, Tryd.ntmps5
  go_wp2_with fail
  refine (I _).mono ?_
  rintro e w' ⟨rfl, R⟩
  have HR : Hid (ReaderIn w w') := R
  clear R I
  go_wp2
  go_ret
  exact ⟨rfl, HR.out⟩

def Drawn (w w' : World) : Prop := ∃ n, w' = w.drewN n
theorem read_any (b : Nat) (q : Addr) (x : Value) (w : World) (h6 : w.cell? ⟨b, 6, none⟩ = some (.iface 65 (.pointer (some q)))) (h7 : w.cell? ⟨b, 16397, none⟩ = some (.slice none 0 0)) :
    Calls Tryd.prog 36 #[.pointer (some ⟨b, 0, none⟩), x] w fun e w' => e = .returned (.tuple #[.int .i64 0, .iface 65 (.pointer (some q))]) ∧ Drawn w w' := by
  go_enter Tryd.func36, Tryd.ntmps36
  go_wp2
  refine wp_loop_rounds 1 ?_; rw [rounds_succ]
  go_wp2
  go_quiet (fail)
  go_wp2
  go_ret2
  exact ⟨rfl, _, rfl⟩

theorem info5 : (Tryd.prog.info? 5).map (fun i => (i.zero, i.size, i.bytes)) = some (some (.int .u8 0), 1, 1) := by kernel_rfl

def CloneSome (w : World) (e : Ending) (w' : World) : Prop := ∃ a n c, e = .returned (.slice a n c) ∧ Below w.heap.size w w'

theorem clone_nil (w : World) : Calls Tryd.prog 7 #[.slice none 0 0] w (CloneSome w) := by
  have q22 : ∀ (w : World) (a : Option Addr) (n c n' c' : Nat), (binOp .eql 22 (.slice a n c) (.slice none n' c')).run Tryd.prog w = .ok (.bool a.isNone) w := fun w a n c n' c' => Lib.run_eql_slice_nil w _ _ a n c n' c' Tryd.underlying22
  go_enter Tryd.func7, Tryd.ntmps7
  go_wp2
  go_ret
  exact ⟨_, _, _, rfl, Below.refl _ _⟩

theorem clone_some (x : Addr) (n c : Nat) (zs : List Int) (w : World) (hz : n ≤ zs.length) (hbig : n ≤ 140737488355328) (hc : ∀ j, j < zs.length → w.cell? (x.add j) = some (.int .u8 (zs.getD j 0))) :
    Calls Tryd.prog 7 #[.slice (some x) n c] w (CloneSome w) := by
  have q22 : ∀ (w : World) (a : Option Addr) (n c n' c' : Nat), (binOp .eql 22 (.slice a n c) (.slice none n' c')).run Tryd.prog w = .ok (.bool a.isNone) w := fun w a n c n' c' => Lib.run_eql_slice_nil w _ _ a n c n' c' Tryd.underlying22
  obtain ⟨i0, hi, hz0, hz1, hz2⟩ := info_parts info5
  have A : Hid (∀ j, j < zs.length → w.cell? (x.add j) = some (.int .u8 (zs.getD j 0))) := hc
  clear hc
  go_enter Tryd.func7, Tryd.ntmps7
  go_wp2_with (at_builtin; refine wpList_append_own _ rfl _ _ 22 rfl w.heap.size 5 i0 (.int .u8 0) 1 1 Tryd.underlying22 hi hz0 hz1 hz2 rfl (by decide) _ _ _ rfl (World.ownsRow_made w #[] 0 (Nat.le_refl _) (Nat.zero_le _) rfl) x n c ((zs.take n).map (Value.int .u8)) rfl ?qc1 ?qc2 ?qc3 ?qc4 ?qc5 ?qc6 ?_)
  case qc1 => simp; omega
  case qc2 =>
    intro j u hj
    have hjn : j < n ∧ j < zs.length := by
      have := (List.getElem?_eq_some_iff.1 hj).1
      simp at this
      omega
    refine Lib.cell?_alloc_some _ ?_
    rw [A.out j hjn.2]
    have e : ((zs.take n).map (Value.int .u8))[j]? = some (Value.int .u8 (zs.getD j 0)) := by simp [List.getD, hjn.1, List.getElem?_eq_getElem hjn.2]
    rw [e] at hj
    exact hj
  case qc3 => intro u hu; obtain ⟨x, _, rfl⟩ := List.mem_map.1 hu; rfl
  case qc4 => unfold maxLen; omega
  case qc5 => omega
  case qc6 => simp
  intro v' w1 hown hgrow hnil
  have hb : Hid (Below w.heap.size w w1) := ((Below.refl _ w).alloc (Nat.le_refl _) _).grown hgrow (by simp) (by intro k hk; simp [Value.ownBlock] at hk; omega)
  obtain ⟨a', c', rfl⟩ : ∃ a' c', v' = .slice a' n c' := by
    rcases hown.2 with ⟨rfl, h⟩ | ⟨g, cap, cur, rfl, _⟩
    · exact ⟨none, 0, by rw [show n = 0 by omega]⟩
    · exact ⟨_, _, rfl⟩
  clear hown hgrow hnil
  go_wp2
  go_ret
  exact ⟨_, _, _, rfl, hb.out⟩

/-- A cell and a block that were there stand behind whatever came since. -/
theorem eof_below {w w' : World} (h : Below w.heap.size w w') {v : Value} (hc : w.cell? ⟨0, 0, none⟩ = some v) : w'.cell? ⟨0, 0, none⟩ = some v :=
  (h.cell (p := ⟨0, 0, none⟩) (World.block_lt_of_cell? w _ hc)).trans hc

def UnpackPost (w : World) (e : Ending) (w' : World) : Prop := ∃ a c, e = .returned (.tuple #[.slice a 0 c, .int .i64 1]) ∧ Below w.heap.size w w'

theorem nil_ahead (a : Addr) (w : World) : (nilAhead 191 42 (.pointer (some a)) "Read").run Tryd.prog w = .ok (some false) w := by kernel_rfl
theorem method_read (a : Addr) (w : World) : (method 191 42 (.pointer (some a)) "Read").run Tryd.prog w = .ok (36, .pointer (some a)) w := by kernel_rfl

theorem make512 : ∃ C, ∀ w, (Instr.makeSlice 22 (.int .i64 512) (.int .i64 512)).run Tryd.prog w = .ok (.slice (some ⟨w.heap.size, 0, none⟩) 512 512) (w.alloc (.cells C 5)) := by
  obtain ⟨i0, hi, hz0, hz1, hz2⟩ := info_parts info5
  exact ⟨_, fun w => by simp [Instr.makeSlice, run_underlying Tryd.underlying22, typeInfo, sizeOf, zeroValue, hi, hz0, hz1, hz2, newRow, asInt]; rfl⟩

end Go.Proofs.YthlhcfjpijilaaaDoor
