/-
  WHAT IS PROVED: impl.Unpack, at a width below 2 or above 8 and no sizes, returns no byte and Bad, and writes nothing that was there. Conditions: the call of slices.Clone ends ('CloneSome'), and io.EOF's cell holds a pointer to a block that is there.
-/
import Derived.Test.YthlhcfjpijilaaaDoorUwA
import Derived.WalkKit
import Derived.WalkLawsBesides
import Derived.WalkSpells
import Derived.Below
import Derived.Lib.Hide
import Derived.LaidEql
namespace Go.Proofs.YthlhcfjpijilaaaDoor
open Go.RowKit

theorem heap_drewN (w : World) : ∀ n, (w.drewN n).heap = w.heap
  | 0 => rfl
  | n + 1 => heap_drewN w n

theorem after_read (w2 : World) (C : Array Value) (nq : Nat) {v : Value} (hE2 : w2.cell? ⟨0, 0, none⟩ = some v) :
    (((w2.alloc (.cells #[] 5)).alloc (.cells C 5)).drewN nq).ownsRow w2.heap.size 5 1 (.slice (some ⟨w2.heap.size, 0, none⟩) 0 0) 0 [] ∧
      (((w2.alloc (.cells #[] 5)).alloc (.cells C 5)).drewN nq).cell? ⟨0, 0, none⟩ = some v ∧
      Below w2.heap.size w2 (((w2.alloc (.cells #[] 5)).alloc (.cells C 5)).drewN nq) ∧
      (((w2.alloc (.cells #[] 5)).alloc (.cells C 5)).drewN nq).heap.size = w2.heap.size + 2 := by
  have hb : Below w2.heap.size w2 (((w2.alloc (.cells #[] 5)).alloc (.cells C 5)).drewN nq) := below_drewN (((Below.refl _ _).alloc (Nat.le_refl _) _).alloc (by simp) _) _
  refine ⟨?_, eof_below hb hE2, hb, by rw [heap_drewN]; simp⟩
  have h := (World.ownsRow_made (e := 5) (size := 1) w2 #[] 0 (Nat.le_refl _) (Nat.zero_le _) rfl).alloc (.cells C 5)
  unfold World.ownsRow at h ⊢
  rw [heap_drewN]
  exact h

theorem comp65 : (Tryd.prog.info? 65).map (·.comparable) = some true := by kernel_rfl
theorem size67 : (Tryd.prog.info? 67).map (·.size) = some 1 := by kernel_rfl
theorem block_lt {w : World} {k : Nat} {o : Obj} (h : w.heap[k]? = some o) : k < w.heap.size := (Array.getElem?_eq_some_iff.1 h).1
theorem below_all {w w1 w2 w4 : World} {o : Obj} (h1 : Below w.heap.size w w1) (h2 : ReaderIn (w1.alloc o) w2) (h3 : Below w2.heap.size w2 w4) : Below w.heap.size w w4 := by
  have s1 := h1.size
  have b2 := h2.1
  have s2 := h2.2.1
  rw [World.size_alloc] at s2 b2
  exact ((h1.alloc s1 o).trans (b2.mono (by omega))).trans (h3.mono (by omega))

theorem unpack_any (x : Option Addr) (n c : Nat) (width : Int) (most : Bool) (a0 : Addr) (c0 : Array Value) (t0 : TypeId) (w : World) (hn : width < 2 ∨ 8 < width)
    (hclone : Calls Tryd.prog 7 #[.slice x n c] w (CloneSome w))
    (hE : w.cell? ⟨0, 0, none⟩ = some (.iface 65 (.pointer (some a0)))) (hB : w.heap[a0.block]? = some (.cells c0 t0 (0, 0))) :
    Calls Tryd.prog 4 #[.slice x n c, .int .i64 width, .bool most, .slice none 0 0] w (UnpackPost w) := by
  have HB := Lib.hid hB; have HE := Lib.hid hE; have HC := Lib.hid hclone; have HN := Lib.hid hn
  clear hB hE hclone hn
  go_enter Tryd.func4, Tryd.ntmps4
  go_wp2_with fail
  refine HC.out.mono ?_
  rintro e w1 ⟨x1, n1, c1, rfl, h1⟩
  have H1 := Lib.hid h1
  clear h1
  go_wp2_with fail
  refine (newBytes_any _ _ _ _).mono ?_
  rintro e w2 ⟨rfl, rfl⟩
  go_wp2_with fail
  refine (orderOf_any _ _).mono ?_
  rintro e w2 ⟨rfl, rfl⟩
  have HO := Lib.hid (ordOf_or most)
  generalize ordOf most = o at HO ⊢
  go_wp2_with fail
  refine (NewReader_any _ _ _ _ HO.out HN.out).mono ?_
  rintro e w2 ⟨rfl, R⟩
  have HR := Lib.hid R
  clear R
  go_wp2
  have g6 : w2.cell? ⟨w1.heap.size + 1, 6, none⟩ = some (.iface 65 (.pointer (some ⟨w1.heap.size + 1 + 1, 0, none⟩))) := by have h := HR.out.2.2.1; rwa [World.size_alloc] at h
  have g7 : w2.cell? ⟨w1.heap.size + 1, 16397, none⟩ = some (.slice none 0 0) := by have h := HR.out.2.2.2.1; rwa [World.size_alloc] at h
  have hz : w1.heap.size + 1 + 2 = w2.heap.size := by have h := HR.out.2.1; rw [World.size_alloc] at h; exact h.symm
  have hE2 : w2.cell? ⟨0, 0, none⟩ = some (.iface 65 (.pointer (some a0))) := eof_below HR.out.1 (Lib.cell?_alloc_some _ (eof_below H1.out HE.out))
  have HZ := Lib.hid hz
  clear hz
  obtain ⟨C, m512⟩ := make512
  refine wp_loop_rounds 1 ?_; rw [rounds_succ]
  have mr := method_read
  go_wp2_with fail
  refine (read_any _ ⟨w1.heap.size + 1 + 1, 0, none⟩ _ _ (Lib.cell?_alloc_some _ (Lib.cell?_alloc_some _ g6)) (Lib.cell?_alloc_some _ (Lib.cell?_alloc_some _ g7))).mono ?_
  rintro e w3 ⟨rfl, nq, rfl⟩
  obtain ⟨own3, hE3, bel3, sz3⟩ := after_read w2 C nq hE2
  generalize (((w2.alloc (.cells #[] 5)).alloc (.cells C 5)).drewN nq) = w3 at own3 hE3 bel3 sz3 ⊢
  have B3 := Lib.hid bel3; have S3 := Lib.hid sz3; have O3 := Lib.hid own3; have E3 := Lib.hid hE3
  clear bel3 sz3 own3 hE3 mr g6 g7 hE2
  clear m512
  clear C
  obtain ⟨i0, hi, hz0, hz1, hz2⟩ := info_parts info5
  go_wp2_with (at_builtin; refine wpList_append_own _ rfl _ _ 22 rfl w2.heap.size 5 i0 (.int .u8 0) 1 1 Tryd.underlying22 hi hz0 hz1 hz2 rfl (by decide) _ 0 [] rfl O3.out _ 0 512 [] rfl ?qc1 ?qc2 ?qc3 ?qc4 ?qc5 ?qc6 ?_)
  case qc1 => rfl
  case qc2 => intro j u hj; simp at hj
  case qc3 => intro u hu; cases hu
  case qc4 => unfold maxLen; omega
  case qc5 => omega
  case qc6 => have := S3.out; omega
  intro v' w4 hown hgrow hnil
  have b4 : Below w2.heap.size w3 w4 := (Below.refl _ w3).grown hgrow (by have := S3.out; omega) (by intro k hk; simp [Value.ownBlock] at hk; omega)
  have b24 : Below w2.heap.size w2 w4 := B3.out.trans b4
  have b04 : Below w.heap.size w w4 := below_all H1.out HR.out b24
  have hE4 : w4.cell? ⟨0, 0, none⟩ = some (.iface 65 (.pointer (some a0))) := eof_below b04 HE.out
  have hq : w4.heap[(⟨w1.heap.size + 1 + 1, 0, none⟩ : Addr).block]? = some (.cells #[.string rangeS] 67 (0, 0)) := by
    have h := HR.out.2.2.2.2
    rw [World.size_alloc] at h
    exact (b24.block (w1.heap.size + 1 + 1) (by have := HZ.out; omega)).trans h
  have ha : w4.heap[a0.block]? = some (.cells c0 t0 (0, 0)) := (b04.block a0.block (block_lt HB.out)).trans HB.out
  have hne : (⟨w1.heap.size + 1 + 1, 0, none⟩ : Addr) ≠ a0 := fun e => by
    have h1 := block_lt HB.out
    have h2 := H1.out.size
    rw [← e] at h1
    simp at h1
    omega
  obtain ⟨j1, hj1, hcmp⟩ := Option.map_eq_some_iff.1 comp65
  obtain ⟨j2, hj2, hjs⟩ := Option.map_eq_some_iff.1 size67
  have heq := run_eql_iface_ptr_other w4 Tryd.underlying37 Tryd.underlying65 hj1 hcmp hj2 (by rw [hjs]; decide) hne hq ha
  have B04 := Lib.hid b04
  obtain ⟨a', c', rfl⟩ : ∃ a' c', v' = .slice a' 0 c' := by
    rcases hown.2 with ⟨rfl, h⟩ | ⟨g, cap, cur, rfl, _⟩
    · exact ⟨none, 0, rfl⟩
    · exact ⟨_, _, rfl⟩
  clear hown hgrow hnil b4 b24 b04 hq ha hne hj1 hj2 hcmp hjs HR HZ B3 S3 O3 E3 H1 hi hz0 hz1 hz2
  go_wp2
  go_ret2
  exact ⟨_, _, rfl, B04.out⟩
end Go.Proofs.YthlhcfjpijilaaaDoor
