/-
  THE WALKS OF THE BSON LEAVES: timestampFromBSON (14), ZZtimestampFromBSON (10), zzBytes (9), appendBSON on nil (15), ZZappendBSON on nil (11).
-/
import Derived.Test.Qxb6614016aShelf
import Derived.Deep.RegionWith
namespace Go.Proofs.Qxb6614016a
open Go.Shelf Go.RowKit

set_option maxHeartbeats 400000 in
/-- timestampFromBSON. -/
theorem fromBSON_any (B : Nat → Int) (hB : Bytes B) (g o n c : Nat) (w : World) (hn : 8 ≤ n) (hc : Eight w g o B) :
    Calls Try.prog 14 #[.slice (some ⟨g, o, none⟩) n c] w fun e w' => e = .returned (.agg #[.int .u32 (num B / 4294967296), .int .u32 (num B % 4294967296)]) ∧ Below w.heap.size w w' := by
  go_enter Try.func14, Try.ntmps14
  go_wp2_with fail
  refine (leU64 B hB g o n c _ hn ?_).mono ?_
  · exact hc.alloc _
  rintro e w1 ⟨rfl, hb⟩
  obtain ⟨hc1, hf1⟩ := bcell hb
  have hz : w.heap.size < w1.heap.size := by have := hb.size; simp at this; omega
  go_wp2_with (go_at_call 12; refine (fromBits_any _ (num_word B hB) _).mono ?_; rintro e w' ⟨rfl, o1, rfl⟩)
  refine bodyPost_ret (v := .agg #[.int .u32 (num B / 4294967296), .int .u32 (num B % 4294967296)]) (by simp [results, Try.results14, go_sem, hc1, hz]) rfl ⟨rfl, ?_⟩
  exact (((((Below.refl _ w).alloc (Nat.le_refl _) _).trans (hb.mono (by simp))).setCell (Nat.le_refl _) _).setCell (Nat.le_refl _) _).alloc (by simp; omega) _

set_option maxHeartbeats 400000 in
/-- ZZtimestampFromBSON. -/
theorem zzfromBSON_any (B : Nat → Int) (hB : Bytes B) (g o n c : Nat) (w : World) (hn : 8 ≤ n) (hc : Eight w g o B) :
    Calls Try.prog 10 #[.slice (some ⟨g, o, none⟩) n c] w fun e w' => e = .returned (.agg #[.int .u32 (num B / 4294967296), .int .u32 (num B % 4294967296)]) ∧ Below w.heap.size w w' := by
  go_enter Try.func10, Try.ntmps10
  go_wp2_with fail
  refine (fromBSON_any B hB g o n c _ hn ?_).mono ?_
  · exact hc.alloc _
  rintro e w1 ⟨rfl, hb⟩
  obtain ⟨hc1, hf1⟩ := bcell hb
  have hz : w.heap.size < w1.heap.size := by have := hb.size; simp at this; omega
  go_wp2
  refine bodyPost_ret (v := .agg #[.int .u32 (num B / 4294967296), .int .u32 (num B % 4294967296)]) (by simp [results, Try.results10, go_sem, hc1]) rfl ⟨rfl, ?_⟩
  exact ((((Below.refl _ w).alloc (Nat.le_refl _) _).trans (hb.mono (by simp))).setCell (Nat.le_refl _) _).setCell (Nat.le_refl _) _

set_option maxHeartbeats 400000 in
/-- zzBytes: at most 2^20 bytes. -/
theorem zzBytes_yes (a : Option Addr) (n c : Nat) (w : World) (hn : n ≤ 1048576) :
    Calls Try.prog 9 #[.slice a n c] w fun e w' => e = .returned (.bool true) ∧ w = w' := by
  have h : ¬ (1048576 : Int) < (n : Int) := by omega
  go_enter Try.func9, Try.ntmps9
  go_wp2
  go_ret
  exact ⟨rfl, rfl⟩
set_option maxHeartbeats 400000 in
/-- zzBytes: more. -/
theorem zzBytes_no (a : Option Addr) (n c : Nat) (w : World) (hn : 1048576 < n) :
    Calls Try.prog 9 #[.slice a n c] w fun e w' => e = .returned (.bool false) ∧ w = w' := by
  have h : (1048576 : Int) < (n : Int) := by omega
  go_enter Try.func9, Try.ntmps9
  go_wp2
  go_ret
  exact ⟨rfl, rfl⟩

set_option maxHeartbeats 400000 in
/-- appendBSON on nil: the bits are the number that the bytes B spell. -/
theorem append_any (t i : Int) (ht : Half t) (hi : Half i) (B : Nat → Int) (hB : Bytes B) (hs : t * 4294967296 + i = num B) (w : World) :
    Calls Try.prog 15 #[.agg #[.int .u32 t, .int .u32 i], .slice none 0 0] w fun e w' => ∃ g cap, e = .returned (.slice (some ⟨g, 0, none⟩) 8 cap) ∧ w.heap.size ≤ g ∧ Eight w' g 0 B ∧ Below w.heap.size w w' := by
  go_enter Try.func15, Try.ntmps15
  go_wp2
  go_region_with (first
    | (go_at_call 13; refine (bits_any t i ht hi _).mono ?_; rintro e w' ⟨rfl, o1, rfl⟩)
    | (go_at_call 17; refine (leA64 B hB _).mono ?_; rintro e w' ⟨g, cap, rfl, hg, he, hb⟩))
  all_goals
    go_wp2
    go_ret
    exact ⟨g, cap, rfl, Nat.le_trans (by simp; omega) hg, he, ((((Below.refl _ w).alloc (Nat.le_refl _) _).alloc (by simp) _).drew).trans (hb.mono (by simp; omega))⟩

set_option maxHeartbeats 400000 in
/-- ZZappendBSON on nil. -/
theorem zzappend_any (t i : Int) (ht : Half t) (hi : Half i) (B : Nat → Int) (hB : Bytes B) (hs : t * 4294967296 + i = num B) (w : World) :
    Calls Try.prog 11 #[.slice none 0 0, .agg #[.int .u32 t, .int .u32 i]] w fun e w' => ∃ g cap, e = .returned (.slice (some ⟨g, 0, none⟩) 8 cap) ∧ w.heap.size ≤ g ∧ Eight w' g 0 B ∧ Below w.heap.size w w' := by
  go_enter Try.func11, Try.ntmps11
  go_wp2_with (go_at_call 15; refine (append_any t i ht hi B hB hs _).mono ?_; rintro e w' ⟨g, cap, rfl, hg, he, hb⟩)
  go_ret
  exact ⟨g, cap, rfl, Nat.le_trans (by simp) hg, he, ((Below.refl _ w).alloc (Nat.le_refl _) _).trans (hb.mono (by simp))⟩
end Go.Proofs.Qxb6614016a
