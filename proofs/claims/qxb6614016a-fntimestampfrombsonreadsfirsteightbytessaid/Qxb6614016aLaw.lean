/-
  THE WALK OF 'FnTimestampFromBSONReadsFirstEightBytes' (5).
-/
import Derived.Test.Qxb6614016aBSON
import Derived.Laws.CopyOwn
import Derived.Deep.OwnRows
import Derived.OpenShut
import Derived.Deep.QuietTactic
import Derived.BigQuiet
import Derived.Deep.DeepFit
namespace Go.Proofs.Qxb6614016a
open Go.Shelf Go.RowKit

set_option maxHeartbeats 400000 in
/-- Too long a value: true at once. -/
theorem law_long (a : Option Addr) (n c : Nat) (w : World) (hn : 1048576 < n) :
    Calls Try.prog 5 #[.slice a n c] w fun e w' => e = .returned (.bool true) ∧ Below w.heap.size w w' := by
  go_enter Try.func5, Try.ntmps5
  go_wp2_with (go_at_call 9; refine (zzBytes_no a n c _ hn).mono ?_; rintro e w' ⟨rfl, rfl⟩)
  go_ret
  exact ⟨rfl, Below.refl _ _⟩

set_option maxHeartbeats 400000 in
/-- Too short a value: true. -/
theorem law_short (a : Option Addr) (n c : Nat) (w : World) (hn : n < 8) :
    Calls Try.prog 5 #[.slice a n c] w fun e w' => e = .returned (.bool true) ∧ Below w.heap.size w w' := by
  have h1 : ¬ (1048576 : Int) < (n : Int) := by omega
  have h2 : (n : Int) < 8 := by omega
  go_enter Try.func5, Try.ntmps5
  go_wp2_with (go_at_call 9; refine (zzBytes_yes a n c _ (by omega)).mono ?_; rintro e w' ⟨rfl, rfl⟩)
  go_ret
  exact ⟨rfl, Below.refl _ _⟩

theorem Try.info5 : (Try.prog.info? 5).map (fun i => (i.zero, i.size, i.bytes)) = some (some (.int .u8 0), 1, 1) := by kernel_rfl
theorem Try.size5 : (Try.prog.info? 5).map (·.size) = some 1 := by kernel_rfl

/-- The cells that go over. -/
def row (zs : List Int) (n : Nat) : List Value := (zs.take n).map fun z => Value.int .u8 z
theorem row_length (zs : List Int) (n : Nat) (h : n ≤ zs.length) : (row zs n).length = n := by simp [row]; omega
theorem row_at (zs : List Int) (n j : Nat) (h : n ≤ zs.length) (hj : j < n) : (row zs n)[j]? = some (.int .u8 (zs.getD j 0)) := by
  have hl : j < zs.length := by omega
  simp [row, hj, hl]
theorem row_cells {w : World} {b off : Nat} (zs : List Int) (n : Nat) (h : n ≤ zs.length) (hcell : ∀ j, j < zs.length → w.cell? ⟨b, off + j, none⟩ = some (.int .u8 (zs.getD j 0))) :
    ∀ j v, (row zs n)[j]? = some v → w.cell? ⟨b, off + j, none⟩ = some v := by
  intro j v hv
  have hj : j < n := by
    rcases Nat.lt_or_ge j n with k | k
    · exact k
    · rw [List.getElem?_eq_none (by rw [row_length zs n h]; exact k)] at hv; cases hv
  rw [row_at zs n j h hj] at hv
  rw [hcell j (by omega)]
  exact hv
theorem row_one (zs : List Int) (n : Nat) : ∀ v ∈ row zs n, v.oneCell' = true := by
  intro v hv
  simp only [row, List.mem_map] at hv
  obtain ⟨z, _, rfl⟩ := hv
  rfl
/-- What the copy leaves: the first eight cells hold the first eight numbers. -/
theorem row_eight {w : World} {g : Nat} (cur : List Value) (zs : List Int) (n : Nat) (t : TypeId) (h8 : 8 ≤ n) (h : n ≤ zs.length) (hg : w.heap[g]? = some (.cells (splice cur 0 (row zs n)).toArray t (0, 0))) :
    Eight w g 0 (fun j => zs.getD j 0) := by
  intro j hj
  rw [Nat.zero_add]
  have e : (splice cur 0 (row zs n))[j]? = (row zs n)[j]? := by
    simp only [splice, List.take_zero, List.nil_append]
    rw [List.getElem?_append_left (by rw [row_length zs n h]; omega)]
  simp only [World.cell?, hg]
  simp [e, row_at zs n j h (by omega : j < n)]

/-- What f bytes from place j on spell, the least first. -/
def sm (B : Nat → Int) : Nat → Nat → Int
  | 0, _ => 0
  | f + 1, j => sm B f (j + 1) * 256 + B j
/-- What the bytes from place j to the eighth spell. -/
def down (B : Nat → Int) (j : Nat) : Int := sm B (8 - j) j
theorem sm_bound (B : Nat → Int) (hB : Bytes B) : ∀ f j, 0 ≤ sm B f j ∧ sm B f j < 256 ^ f
  | 0, j => by simp [sm]
  | f + 1, j => by
    obtain ⟨a, b⟩ := sm_bound B hB f (j + 1)
    obtain ⟨c, d⟩ := hB j
    simp only [sm, Int.pow_succ]
    exact ⟨by omega, by omega⟩
theorem down_step (B : Nat → Int) (j : Nat) (hj : j < 8) : down B j = down B (j + 1) * 256 + B j := by
  have e : 8 - j = (8 - (j + 1)) + 1 := by omega
  unfold down
  rw [e]
  rfl
theorem down_bound (B : Nat → Int) (hB : Bytes B) (j : Nat) : 0 ≤ down B (j + 1) ∧ down B (j + 1) < 72057594037927936 := by
  obtain ⟨a, b⟩ := sm_bound B hB (8 - (j + 1)) (j + 1)
  have h : (256 : Nat) ^ (8 - (j + 1)) ≤ 256 ^ 7 := Nat.pow_le_pow_right (by omega) (by omega)
  have e7 : (256 : Nat) ^ 7 = 72057594037927936 := by decide
  have h' : (256 : Int) ^ (8 - (j + 1)) ≤ 72057594037927936 := by
    rw [e7] at h
    have k : ((256 ^ (8 - (j + 1)) : Nat) : Int) ≤ ((72057594037927936 : Nat) : Int) := Int.ofNat_le.2 h
    rw [Int.natCast_pow] at k
    exact k
  unfold down
  exact ⟨a, by omega⟩
theorem down_eight (B : Nat → Int) : down B 8 = 0 := rfl
theorem down_zero (B : Nat → Int) : down B 0 = num B := by
  unfold down num
  simp only [sm, Nat.reduceAdd]
  omega
/-- 'want<<8 | byte'. -/
theorem or8 (B : Nat → Int) (hB : Bytes B) (j : Nat) (hj : j < 8) : bits BinOp.or IntKind.u64 (down B (j + 1) * 256) (B j) = down B j := by
  obtain ⟨a, b⟩ := down_bound B hB j
  obtain ⟨c, d⟩ := hB j
  rw [down_step B j hj]
  exact bits_join .u64 64 (by decide) wraps_u64 8 (down B (j + 1) * 256) (B j) (by omega) (by omega) (by omega) c (by omega) (by omega)

set_option maxHeartbeats 1000000 in
/-- Eight bytes or more: a copy, then the two readings, the loop, the writing and the comparison. -/
theorem law_reads (b off n c : Nat) (zs : List Int) (w : World) (h8 : 8 ≤ n) (hn : n ≤ 1048576) (hnc : n ≤ zs.length) (hcell : ∀ j, j < zs.length → w.cell? ⟨b, off + j, none⟩ = some (.int .u8 (zs.getD j 0))) (hB : Bytes (fun j => zs.getD j 0)) :
    Calls Try.prog 5 #[.slice (some ⟨b, off, none⟩) n c] w fun e w' => e = .returned (.bool true) ∧ Below w.heap.size w w' := by
  have h1 : ¬ (1048576 : Int) < (n : Int) := by omega
  have h2 : ¬ (n : Int) < 8 := by omega
  have hnil := fun (w : World) (a : Option Addr) (n c n' c' : Nat) => run_neq_slice_nil_any (P := Try.prog) w 31 5 a n c n' c' Try.underlying31
  have hmk := fun (w : World) => run_make_row' (P := Try.prog) 31 5 (.int .u8 0) 1 Try.underlying31 Try.info5 rfl .i64 .i64 n (by omega) (by omega) w
  go_enter Try.func5, Try.ntmps5
  go_wp2_with (first
    | (go_at_call 9; refine (zzBytes_yes _ n c _ hn).mono ?_; rintro e w' ⟨rfl, rfl⟩)
    | (refine wpList_copy_splice rfl (.tmp 23) (.tmp 24) 31 31 rfl 5 Try.underlying31 Try.size5 (some ⟨w.heap.size, 0, none⟩) (some ⟨b, off, none⟩) n n n c rfl rfl w.heap.size 0 (madeCells #[.int .u8 0] n).toList 5 ?hg (row zs n) ?hn ?hpos ?hfit (row_one zs n) w.heap.size w ?hb (Nat.le_refl _) ?_))
  case hg => rw [Array.toArray_toList]; exact Go.Deep.blk_alloc_new _ _
  case hn => rw [row_length zs n hnc]; exact (Nat.min_self n).symm
  case hpos => exact fun _ j v hv => cell?_alloc_old _ (row_cells zs n hnc hcell j v hv)
  case hfit => simp [row_length zs n hnc, size_madeCells]
  case hb => exact (Below.refl _ w).alloc (Nat.le_refl _) _
  intro w2 HG2 hb2
  have he2 := row_eight _ zs n 5 h8 hnc HG2.out
  clear HG2 hcell hnil hmk
  generalize (fun j => zs.getD j 0) = B at he2 hB
  have hlt2 := he2.lt
  go_wp2_with fail
  refine (zzfromBSON_any B hB w.heap.size 0 n n w2 h8 he2).mono ?_
  rintro e w3 ⟨rfl, hb3⟩
  have he3 := he2.below hb3 hlt2
  have hlt3 := he3.lt
  have hw3 : Below w.heap.size w w3 := hb2.trans (hb3.mono (Nat.le_of_lt hlt2))
  clear hb2 hb3 he2 hlt2
  go_wp2
  go_loop [5, 6] (fun a k => ∃ j : Nat, j ≤ 8 ∧ k = .int .i64 ((j : Int) - 1) ∧ a = .int .u64 (down B j)) (fun _ k => (intOf k + 1).toNat)
  case atStart => exact ⟨8, Nat.le_refl _, rfl, by rw [down_eight]⟩
  case round =>
    obtain ⟨j, hj, rfl, rfl⟩ := hrel
    match j, hj with
    | i + 1, hi =>
      have ek : (((i + 1 : Nat) : Int) - 1) = (i : Int) := by omega
      rw [ek]
      have hi8 : i < 8 := by omega
      have hin : (i : Int) < (n : Int) := by omega
      obtain ⟨d0, d1⟩ := down_bound B hB i
      obtain ⟨c0, c1⟩ := hB i
      have hci := he3 i hi8
      rw [Nat.zero_add] at hci
      go_wp2
      exact ⟨⟨i, by omega, rfl, by rw [or8 B hB i hi8]⟩, by simp [intOf]⟩
    | 0, _ =>
      have e0 : (((0 : Nat) : Int) - 1) = -1 := rfl
      rw [e0, down_zero]
      obtain ⟨n0, n1⟩ := num_word B hB
      have hT := hi_half _ (num_word B hB)
      have hI := lo_half (num B)
      have e3 : num B / 4294967296 * 4294967296 + num B % 4294967296 = num B := by omega
      go_wp2_with fail
      refine (zzbits_any _ _ hT hI _).mono ?_
      rintro e w' ⟨rfl, o1, o2, rfl⟩
      go_wp2_with fail
      go_region_held3 (fun w' => w'.cell? ⟨w3.heap.size, 0, none⟩ = some (.int .u32 (num B / 4294967296)) ∧ w'.cell? ⟨w3.heap.size, 1, none⟩ = some (.int .u32 (num B % 4294967296))) (first | (simp [go_sem, World.cell?_alloc_past]; done) | (simp [go_sem, *]; done))
        (first | (go_at_call 10; refine (zzfromBSON_any B hB w.heap.size 0 8 n _ (Nat.le_refl _) ?_).mono ?_; exact ((he3.alloc _).alloc _).alloc _; rintro e w4 ⟨rfl, hb4⟩; obtain ⟨hc4, hf4⟩ := bcell hb4))
      go_wp2_with fail
      have he4 : Eight w4 w.heap.size 0 B := Eight.below (((he3.alloc _).alloc _).alloc _).drew hb4 (by simp; omega)
      have hw4 : Below w.heap.size w w4 := Below.trans (((hw3.alloc (Nat.le_of_lt hlt3) _).alloc (by simp; omega) _).alloc (by simp; omega) _).drew (hb4.mono (by simp; omega))
      have hlt4 := he4.lt
      clear hb4 hc4 hf4
      refine (zzappend_any _ _ hT hI B hB e3 w4).mono ?_
      rintro e w5 ⟨g2, cap2, rfl, hg2, he5, hb5⟩
      have he6 : Eight w5 w.heap.size 0 B := he4.below hb5 hlt4
      have hw5 : Below w.heap.size w w5 := hw4.trans (hb5.mono (Nat.le_of_lt hlt4))
      clear hb5 he4 hw4
      go_wp2
      go_loopw [8] (fun k wr => ∃ j : Nat, j ≤ 8 ∧ k = .int .i64 (j : Int) ∧ Eight wr w.heap.size 0 B ∧ Eight wr g2 0 B ∧ Below w.heap.size w wr) (fun k _ => 8 - (intOf k).toNat)
      case atStart => exact ⟨0, by omega, rfl, he6, he5, hw5⟩
      case round =>
        obtain ⟨j, hj, rfl, hv, hr, hw⟩ := hrel
        by_cases hlt : j < 8
        · have hjn : (j : Int) < (n : Int) := by omega
          have hj8 : (j : Int) < 8 := by omega
          have hv1 := hv j hlt
          have hr1 := hr j hlt
          rw [Nat.zero_add] at hv1 hr1
          go_wp2_with fail
          go_quiet (fail)
          go_wp2
          exact ⟨⟨j + 1, by omega, by go_num, hv, hr, hw.trans ⟨rfl, rfl, rfl, Nat.le_refl _, fun _ _ => rfl⟩⟩, by simp [intOf]; omega⟩
        · obtain rfl : j = 8 := by omega
          go_wp2
          go_ret
          exact ⟨rfl, hw⟩
end Go.Proofs.Qxb6614016a
