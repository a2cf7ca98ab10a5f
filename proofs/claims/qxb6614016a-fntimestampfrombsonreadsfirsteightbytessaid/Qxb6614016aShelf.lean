/-
  THE LIBRARY's CONTRACTS FOR (encoding/binary.littleEndian).Uint64 (16) AND .AppendUint64 (17), LAID AT THIS DUMP (the kit's lay-shelf and lay-plain wrote the two layings; the names and the namespace are the seat's), AND ONCE MORE OVER Int.
-/
import Derived.Test.Qxb6614016aWalks
import Derived.Shelf.Bin.LEUint64
import Derived.Shelf.Bin.LEAppendUint64
import Derived.Laws.OwnMore
namespace Go.Proofs.Qxb6614016a
open Go.Shelf Go.RowKit

def laysU64_ren : Go.Shelf.Ren := ⟨fun | 33 => 16 | n => n, fun | 25 => 39 | 22 => 31 | 33 => 25 | 0 => 0 | 5 => 5 | 45 => 34 | n => n, fun | n => n⟩
theorem laysU64 : Go.Proofs.LaysBin.n33 Try.prog laysU64_ren := {
  mixed := by kernel_rfl
  f33 := Try.func16.trans (congrArg some (by kernel_rfl))
  t0 := Try.underlying0
  a0 := Try.isAgg0
  z0 := Try.sizeOf0
  v0 := Try.zeroValue0
  i0 := by kernel_rfl
  t5 := Try.underlying5
  a5 := Try.isAgg5
  z5 := Try.sizeOf5
  v5 := Try.zeroValue5
  i5 := by kernel_rfl
  t22 := Try.underlying31
  a22 := Try.isAgg31
  z22 := Try.sizeOf31
  v22 := Try.zeroValue31
  i22 := by kernel_rfl
  t25 := Try.underlying39
  a25 := Try.isAgg39
  z25 := Try.sizeOf39
  v25 := Try.zeroValue39
  i25 := by kernel_rfl
  t33 := Try.underlying25
  a33 := Try.isAgg25
  z33 := Try.sizeOf25
  v33 := Try.zeroValue25
  i33 := by kernel_rfl
  t45 := Try.underlying34
  a45 := Try.isAgg34
  z45 := Try.sizeOf34
  v45 := Try.zeroValue34
  i45 := by kernel_rfl }
def laysA64_ren : Go.Shelf.Ren := ⟨fun | 35 => 17 | n => n, fun | 25 => 39 | 22 => 31 | 33 => 25 | 0 => 0 | 5 => 5 | 45 => 34 | n => n, fun | n => n⟩
theorem laysA64 : Go.Proofs.LaysBin.n35 Try.prog laysA64_ren := {
  mixed := by kernel_rfl
  f35 := Try.func17.trans (congrArg some (by kernel_rfl))
  t0 := Try.underlying0
  a0 := Try.isAgg0
  z0 := Try.sizeOf0
  v0 := Try.zeroValue0
  i0 := by kernel_rfl
  t5 := Try.underlying5
  a5 := Try.isAgg5
  z5 := Try.sizeOf5
  v5 := Try.zeroValue5
  i5 := by kernel_rfl
  t22 := Try.underlying31
  a22 := Try.isAgg31
  z22 := Try.sizeOf31
  v22 := Try.zeroValue31
  i22 := by kernel_rfl
  t25 := Try.underlying39
  a25 := Try.isAgg39
  z25 := Try.sizeOf39
  v25 := Try.zeroValue39
  i25 := by kernel_rfl
  t33 := Try.underlying25
  a33 := Try.isAgg25
  z33 := Try.sizeOf25
  v33 := Try.zeroValue25
  i33 := by kernel_rfl
  t45 := Try.underlying34
  a45 := Try.isAgg34
  z45 := Try.sizeOf34
  v45 := Try.zeroValue34
  i45 := by kernel_rfl }

/-- Bytes, as numbers. -/
def Bytes (B : Nat → Int) : Prop := ∀ j, 0 ≤ B j ∧ B j < 256
/-- The number that eight bytes spell, the least first. -/
def num (B : Nat → Int) : Int := B 0 + B 1 * 256 + B 2 * 65536 + B 3 * 16777216 + B 4 * 4294967296 + B 5 * 1099511627776 + B 6 * 281474976710656 + B 7 * 72057594037927936

theorem bcell {W w1 : World} (hb : Below W.heap.size W w1) : (∀ b o, b < W.heap.size → w1.cell? ⟨b, o, none⟩ = W.cell? ⟨b, o, none⟩) ∧ (∀ b o, b < W.heap.size → w1.frozen? ⟨b, o, none⟩ = W.frozen? ⟨b, o, none⟩) :=
  ⟨fun b o h => hb.cell (p := ⟨b, o, none⟩) h, fun b o h => hb.frozen (p := ⟨b, o, none⟩) h⟩

/-- WHAT IS TOLD OF EIGHT CELLS: they hold the bytes B. -/
def Eight (w : World) (g o : Nat) (B : Nat → Int) : Prop := ∀ j, j < 8 → w.cell? ⟨g, o + j, none⟩ = some (.int .u8 (B j))
theorem Eight.alloc {w : World} {g o : Nat} {B : Nat → Int} (h : Eight w g o B) (x : Obj) : Eight (w.alloc x) g o B := fun j hj => cell?_alloc_old x (h j hj)
theorem Eight.drew {w : World} {g o : Nat} {B : Nat → Int} (h : Eight w g o B) : Eight w.drew g o B := h
theorem Eight.lt {w : World} {g o : Nat} {B : Nat → Int} (h : Eight w g o B) : g < w.heap.size := by
  have h0 := h 0 (by omega)
  unfold World.cell? at h0
  simp at h0
  rcases Nat.lt_or_ge g w.heap.size with k | k
  · exact k
  · rw [Array.getElem?_eq_none k] at h0; cases h0
theorem Eight.below {w w' : World} {g o : Nat} {B : Nat → Int} (h : Eight w g o B) {b : Nat} (hb : Below b w w') (hg : g < b) : Eight w' g o B := fun j hj => by
  rw [hb.cell (p := ⟨g, o + j, none⟩) hg]; exact h j hj

theorem num_word (B : Nat → Int) (hB : Bytes B) : Word (num B) := by
  obtain ⟨_, _⟩ := hB 0; obtain ⟨_, _⟩ := hB 1; obtain ⟨_, _⟩ := hB 2; obtain ⟨_, _⟩ := hB 3
  obtain ⟨_, _⟩ := hB 4; obtain ⟨_, _⟩ := hB 5; obtain ⟨_, _⟩ := hB 6; obtain ⟨_, _⟩ := hB 7
  unfold num
  exact ⟨by omega, by omega⟩

theorem byte_toNat (z : Int) (h : 0 ≤ z ∧ z < 256) : ((z.toNat.toUInt8.toNat : Nat) : Int) = z := by
  have e : z.toNat.toUInt8.toNat = z.toNat := by
    rw [Nat.toUInt8, UInt8.toNat_ofNat']; omega
  rw [e]; omega

set_option maxRecDepth 100000 in
theorem leNat8 (b0 b1 b2 b3 b4 b5 b6 b7 : UInt8) : ((Lib.leNat [b0, b1, b2, b3, b4, b5, b6, b7] : Nat) : Int) = (b0.toNat : Int) + (b1.toNat : Int) * 256 + (b2.toNat : Int) * 65536 + (b3.toNat : Int) * 16777216 + (b4.toNat : Int) * 4294967296 + (b5.toNat : Int) * 1099511627776 + (b6.toNat : Int) * 281474976710656 + (b7.toNat : Int) * 72057594037927936 := by
  simp only [Lib.leNat]
  push_cast
  omega

/-- (littleEndian).Uint64, over Int. -/
theorem leU64 (B : Nat → Int) (hB : Bytes B) (g o n c : Nat) (w : World) (hn : 8 ≤ n) (hc : Eight w g o B) :
    Calls Try.prog 16 #[.agg #[], .slice (some ⟨g, o, none⟩) n c] w fun e w' => e = .returned (.int .u64 (num B)) ∧ Below w.heap.size w w' := by
  have h := Any.binary_LE_Uint64 laysU64 g o n c (B 0).toNat.toUInt8 (B 1).toNat.toUInt8 (B 2).toNat.toUInt8 (B 3).toNat.toUInt8 (B 4).toNat.toUInt8 (B 5).toNat.toUInt8 (B 6).toNat.toUInt8 (B 7).toNat.toUInt8 w hn
    (by rw [byte_toNat _ (hB 0)]; exact hc 0 (by omega)) (by rw [byte_toNat _ (hB 1)]; exact hc 1 (by omega)) (by rw [byte_toNat _ (hB 2)]; exact hc 2 (by omega)) (by rw [byte_toNat _ (hB 3)]; exact hc 3 (by omega))
    (by rw [byte_toNat _ (hB 4)]; exact hc 4 (by omega)) (by rw [byte_toNat _ (hB 5)]; exact hc 5 (by omega)) (by rw [byte_toNat _ (hB 6)]; exact hc 6 (by omega)) (by rw [byte_toNat _ (hB 7)]; exact hc 7 (by omega))
  rw [leNat8, byte_toNat _ (hB 0), byte_toNat _ (hB 1), byte_toNat _ (hB 2), byte_toNat _ (hB 3), byte_toNat _ (hB 4), byte_toNat _ (hB 5), byte_toNat _ (hB 6), byte_toNat _ (hB 7)] at h
  exact h

theorem num_bytes (B : Nat → Int) (hB : Bytes B) : num B % 256 = B 0 ∧ num B / 256 % 256 = B 1 ∧ num B / 65536 % 256 = B 2 ∧ num B / 16777216 % 256 = B 3 ∧
    num B / 4294967296 % 256 = B 4 ∧ num B / 1099511627776 % 256 = B 5 ∧ num B / 281474976710656 % 256 = B 6 ∧ num B / 72057594037927936 = B 7 := by
  obtain ⟨_, _⟩ := hB 0; obtain ⟨_, _⟩ := hB 1; obtain ⟨_, _⟩ := hB 2; obtain ⟨_, _⟩ := hB 3
  obtain ⟨_, _⟩ := hB 4; obtain ⟨_, _⟩ := hB 5; obtain ⟨_, _⟩ := hB 6; obtain ⟨_, _⟩ := hB 7
  unfold num
  exact ⟨by omega, by omega, by omega, by omega, by omega, by omega, by omega, by omega⟩

theorem byteCells_num (B : Nat → Int) (hB : Bytes B) (v : Nat) (hv : (v : Int) = num B) :
    Lib.byteCells (Lib.leBytes 8 v) = [.int .u8 (B 0), .int .u8 (B 1), .int .u8 (B 2), .int .u8 (B 3), .int .u8 (B 4), .int .u8 (B 5), .int .u8 (B 6), .int .u8 (B 7)] := by
  have hw := (num_word B hB).2
  obtain ⟨h0, h1, h2, h3, h4, h5, h6, h7⟩ := num_bytes B hB
  rw [← hv] at h0 h1 h2 h3 h4 h5 h6 h7 hw
  have e0 : ((v % 256 : Nat) : Int) = B 0 := by omega
  have e1 : ((v / 256 % 256 : Nat) : Int) = B 1 := by omega
  have e2 : ((v / 256 / 256 % 256 : Nat) : Int) = B 2 := by omega
  have e3 : ((v / 256 / 256 / 256 % 256 : Nat) : Int) = B 3 := by omega
  have e4 : ((v / 256 / 256 / 256 / 256 % 256 : Nat) : Int) = B 4 := by omega
  have e5 : ((v / 256 / 256 / 256 / 256 / 256 % 256 : Nat) : Int) = B 5 := by omega
  have e6 : ((v / 256 / 256 / 256 / 256 / 256 / 256 % 256 : Nat) : Int) = B 6 := by omega
  have e7 : ((v / 256 / 256 / 256 / 256 / 256 / 256 / 256 % 256 : Nat) : Int) = B 7 := by omega
  simp only [Lib.byteCells, Lib.leBytes, List.map, Lib.toUInt8_mod, e0, e1, e2, e3, e4, e5, e6, e7]

/-- (littleEndian).AppendUint64 on nil, over Int: a new row that begins with the eight bytes. -/
theorem leA64 (B : Nat → Int) (hB : Bytes B) (w : World) :
    Calls Try.prog 17 #[.agg #[], .slice none 0 0, .int .u64 (num B)] w fun e w' => ∃ g cap, e = .returned (.slice (some ⟨g, 0, none⟩) 8 cap) ∧ w.heap.size ≤ g ∧ Eight w' g 0 B ∧ Below w.heap.size w w' := by
  have hw := num_word B hB
  obtain ⟨v, hv⟩ := Int.eq_ofNat_of_zero_le hw.1
  have hlt : v < 18446744073709551616 := by have := hw.2; omega
  have h := Any.binary_LE_AppendUint64 laysA64 w.heap.size 0 v hlt (.slice none 0 0) [] w (World.ownsRow_nil _ _ _ _) (Nat.le_refl _) (by omega)
  rw [byteCells_num B hB v hv.symm] at h
  rw [hv]
  refine h.mono ?_
  rintro e w' ⟨v', rfl, hown, hbel⟩
  have hown2 := hown
  obtain ⟨_, ⟨_, h8⟩ | ⟨g, cap, cur, rfl, hg, _, _, _, _, _⟩⟩ := hown
  · omega
  · refine ⟨g, cap, rfl, hg, fun j hj => ?_, hbel⟩
    rw [Nat.zero_add, hown2.cellAt j (by omega)]
    match j, hj with
    | 0, _ => rfl
    | 1, _ => rfl
    | 2, _ => rfl
    | 3, _ => rfl
    | 4, _ => rfl
    | 5, _ => rfl
    | 6, _ => rfl
    | 7, _ => rfl
end Go.Proofs.Qxb6614016a
