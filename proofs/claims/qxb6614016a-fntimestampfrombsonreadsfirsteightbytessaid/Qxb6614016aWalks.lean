/-
  THE WALKS OF THE LEAVES: Timestamp.bits (13), timestampFromBits (12), ZZbits (7), ZZtimestampFromBits (6), Compare (8). Each is told over Int: what it returns, and that the world behind it has new blocks and no more.
-/
import Derived.Test.Qxb6614016aRows
import Derived.WalkKit
import Derived.WalkSpells
import Derived.StillTactics
import Derived.Laws.Pointers
import Derived.Lib.EndianBits
import Derived.Deep.RegionHeld3
import Derived.RowKit3
import Derived.Below
import Derived.Outline
namespace Go.Proofs.Qxb6614016a
open Go.RowKit

/-- A word of 32 bits. -/
def Half (x : Int) : Prop := 0 ≤ x ∧ x < 4294967296
/-- A word of 64 bits. -/
def Word (x : Int) : Prop := 0 ≤ x ∧ x < 18446744073709551616

theorem sum_word (t i : Int) (ht : Half t) (hi : Half i) : Word (t * 4294967296 + i) := by
  obtain ⟨_, _⟩ := ht; obtain ⟨_, _⟩ := hi; exact ⟨by omega, by omega⟩
theorem hi_half (v : Int) (hv : Word v) : Half (v / 4294967296) := by
  obtain ⟨_, _⟩ := hv; exact ⟨by omega, by omega⟩
theorem lo_half (v : Int) : Half (v % 4294967296) := ⟨by omega, by omega⟩

theorem Try.own : ownKnob Try.prog.godebug = none := by kernel_rfl
theorem Try.cells24 : Try.prog.cellsOf 24 = 2 := by kernel_rfl
/-- What 'DataW.trod_int' hands over of a uint32, as the walks want it. -/
theorem half_of_wf {x : Int} (h : (Lit.int .u32 x).wf = true) : Half x := by
  simp [Lit.wf, IntKind.min, IntKind.max, IntKind.signed, IntKind.bits] at h
  exact ⟨by omega, by omega⟩
/-- .. of a uint64. -/
theorem word_of_wf {x : Int} (h : (Lit.int .u64 x).wf = true) : Word x := by
  simp [Lit.wf, IntKind.min, IntKind.max, IntKind.signed, IntKind.bits] at h
  exact ⟨by omega, by omega⟩

/-- 'hi << 32 | lo' is a sum. -/
theorem or32 (t i : Int) (ht : Half t) (hi : Half i) : bits BinOp.or IntKind.u64 (t * 4294967296) i = t * 4294967296 + i := by
  obtain ⟨t0, t1⟩ := ht; obtain ⟨i0, i1⟩ := hi
  exact bits_join .u64 64 (by decide) wraps_u64 32 (t * 4294967296) i (by omega) (by omega) (by omega) i0 i1 (by omega)

set_option maxHeartbeats 400000 in
/-- (Timestamp).bits. -/
theorem bits_any (t i : Int) (ht : Half t) (hi : Half i) (w : World) :
    Calls Try.prog 13 #[.agg #[.int .u32 t, .int .u32 i]] w fun e w' => e = .returned (.int .u64 (t * 4294967296 + i)) ∧ ∃ c : Array Value, w' = w.alloc (.cells c 24) := by
  rw [← or32 t i ht hi]
  obtain ⟨t0, t1⟩ := ht; obtain ⟨i0, i1⟩ := hi
  go_enter Try.func13, Try.ntmps13
  go_wp2
  go_ret
  exact ⟨rfl, _, rfl⟩

set_option maxHeartbeats 400000 in
/-- timestampFromBits. -/
theorem fromBits_any (v : Int) (hv : Word v) (w : World) :
    Calls Try.prog 12 #[.int .u64 v] w fun e w' => e = .returned (.agg #[.int .u32 (v / 4294967296), .int .u32 (v % 4294967296)]) ∧ ∃ c : Array Value, w' = w.alloc (.cells c 24) := by
  obtain ⟨v0, v1⟩ := hv
  go_enter Try.func12, Try.ntmps12
  go_wp2
  simp [bodyPost, results, Try.results12, go_sem]
  exact ⟨_, rfl⟩

set_option maxHeartbeats 400000 in
/-- ZZbits. -/
theorem zzbits_any (t i : Int) (ht : Half t) (hi : Half i) (w : World) :
    Calls Try.prog 7 #[.agg #[.int .u32 t, .int .u32 i]] w fun e w' => e = .returned (.int .u64 (t * 4294967296 + i)) ∧ ∃ c1 c2 : Array Value, w' = (w.alloc (.cells c1 24)).alloc (.cells c2 24) := by
  go_enter Try.func7, Try.ntmps7
  go_wp2_with (go_at_call 13; refine (bits_any t i ht hi _).mono ?_; rintro e w' ⟨rfl, c, rfl⟩)
  go_ret
  exact ⟨rfl, _, _, rfl⟩

set_option maxHeartbeats 400000 in
/-- ZZtimestampFromBits. -/
theorem zzfromBits_any (v : Int) (hv : Word v) (w : World) :
    Calls Try.prog 6 #[.int .u64 v] w fun e w' => e = .returned (.agg #[.int .u32 (v / 4294967296), .int .u32 (v % 4294967296)]) ∧ ∃ c1 c2 : Array Value, w' = (w.alloc (.cells c1 24)).alloc (.cells c2 24) := by
  go_enter Try.func6, Try.ntmps6
  go_wp2_with (go_at_call 12; refine (fromBits_any v hv _).mono ?_; rintro e w' ⟨rfl, c, rfl⟩)
  simp [bodyPost, results, Try.results6, go_sem]
  exact ⟨_, _, rfl⟩
end Go.Proofs.Qxb6614016a
