/-
  'FnBitsRoundTrips' RETURNS true WHATEVER THE INPUT: her walk, and her row.
-/
import Derived.Test.Qxb6614016aWalks
import Derived.ProofKit
import Derived.Lib.SmallJoins
namespace Go.Proofs.Qxb6614016a
open Go.ChangeShapes Go.WideShapes Go.ChangeAt Go.RowKit Go.Joins

set_option maxHeartbeats 1000000 in
theorem roundTrips (t i v : Int) (ht : Half t) (hi : Half i) (hv : Word v) (w : World) :
    Calls Try.prog 3 #[.agg #[.int .u32 t, .int .u32 i], .int .u64 v] w fun e w' => e = .returned (.bool true) ∧ Grown w w' := by
  have e1 : (t * 4294967296 + i) / 4294967296 = t := by obtain ⟨_, _⟩ := hi; omega
  have e2 : (t * 4294967296 + i) % 4294967296 = i := by obtain ⟨_, _⟩ := hi; omega
  have e3 : v / 4294967296 * 4294967296 + v % 4294967296 = v := by omega
  go_enter Try.func3, Try.ntmps3
  go_wp2
  go_region_held3 (fun w' => w'.cell? ⟨w.heap.size, 0, none⟩ = some (.int .u32 t) ∧ w'.cell? ⟨w.heap.size, 1, none⟩ = some (.int .u32 i)) (simp [go_sem, World.cell?_alloc_past])
    (first
      | (go_at_call_of 7 t; refine (zzbits_any t i ht hi _).mono ?_; rintro e w' ⟨rfl, o1, o2, rfl⟩)
      | (go_at_call 7; refine (zzbits_any _ _ (hi_half v hv) (lo_half v) _).mono ?_; rintro e w' ⟨rfl, o1, o2, rfl⟩)
      | (go_at_call_of 6 t; refine (zzfromBits_any _ (sum_word t i ht hi) _).mono ?_; rintro e w' ⟨rfl, o1, o2, rfl⟩)
      | (go_at_call 6; refine (zzfromBits_any v hv _).mono ?_; rintro e w' ⟨rfl, o1, o2, rfl⟩))
  go_wp2
  go_ret
  exact ⟨rfl, by repeat (first | exact Grown.refl _ | apply Grown.drew | apply Grown.alloc)⟩

set_option maxRecDepth 100000 in
theorem roundTrips_lifted (os : Os) (started : os.Started) (H : Type) (enc : TypeId × Value → H) :
    ReturnsInHanded {} Try.checked os 3 .any (Rows.fnBitsRoundTripsSpec.pre6 enc Try.prog Try.f3 Rows.fnBitsRoundTripsRow.domain false) (Rows.fnBitsRoundTripsSpec.post enc Try.prog Try.f3 false true false false) := by
  refine returnsInHanded_of_change (C := Try.checked) Try.own started (by kernel_rfl) Try.func3
    (ChangeSpec.witness6 (enc := enc) (C := Try.checked) false ⟨#[], #[.agg #[.int .u32 0, .int .u32 0], .int .u64 0], []⟩ 8 (by kernel_rfl) (by kernel_rfl) (by kernel_rfl) (by kernel_rfl)) ?_
  intro W base args ds gs before hval0 hW hcnd _
  have hval : ∀ (j : Nat) t v, Try.f3.params[j]? = some t → args[j]? = some v → Value.okWide Try.prog W .any base t v := hval0
  have hW' := hW
  obtain ⟨p, q, hA0, hV, rfl, hfz, hnd⟩ := hW
  have hA : DataW.TrodAll enc Try.prog W 0 (fun _ => true) true Try.f3.params.toList args.toList ds p := hA0
  rw [Try.params3] at hA hval
  obtain ⟨v0, v1, d0, d1, p0, p1, rfl, rfl, rfl, h0, h1⟩ := trodAll_two hA
  obtain ⟨rfl, rfl⟩ := trodVars_none hV
  obtain ⟨c0, c1, y0, y1, m, rfl, rfl, rfl, hy0, hy1⟩ := open_agg2 Try.underlying24 (by kernel_rfl) Try.cells24 (hval 0 24 v0 rfl rfl) h0
  obtain ⟨a, e0, rfl, wa⟩ := DataW.trod_int Try.underlying22 hy0
  obtain ⟨b, e1, rfl, wb⟩ := DataW.trod_int Try.underlying22 hy1
  simp at e0 e1
  subst e0 e1
  obtain ⟨x, rfl, rfl, rfl, wx⟩ := open_int Try.underlying25 (hval 1 25 v1 rfl rfl) h1
  clear hA0 hval0
  simp only [List.append_nil] at hW'
  have structReads : ∀ (W' : World) (sp : Nat → Bool), DataW.Trod enc Try.prog W' 0 sp true 24 (.agg #[.int .u32 a, .int .u32 b]) (.agg [.lit (.int .u32 a), .lit (.int .u32 b)]) [] := fun W' sp =>
    shut_agg2 (y0 := (.lit (.int .u32 a), [])) (y1 := (.lit (.int .u32 b), [])) Try.underlying24 (by kernel_rfl) Try.cells24 ⟨1, by simp [DataW.trod, Try.underlying22, wa]⟩ ⟨1, by simp [DataW.trod, Try.underlying22, wb]⟩
  refine (roundTrips a b x (half_of_wf wa) (half_of_wf wb) (word_of_wf wx) W).mono fun e W' ⟨he, hg⟩ => ?_
  subst he
  exact ⟨_, rfl, post_of_same (pa := []) (pv := []) hW' (fun _ _ _ => trodAll_mk1 (shut_bool Try.underlying4 _)) (fun sp _ => trodAll_mk2 (structReads _ sp) (shut_int Try.underlying25 wx)) (fun _ _ => rfl) rfl
    (hg.frame _) hg.2.1 (ok_one (by kernel_rfl) rfl (okWide_bool_mk Try.underlying4 _))⟩

/-- THE STATEMENT. -/
theorem fnBitsRoundTrips_holds : Rows.FnBitsRoundTripsSaid :=
  OpenClaim.holds_of_wide 3 Try.f3 rfl rfl rfl rfl rfl rfl rfl ⟨rfl, rfl, rfl, rfl, rfl⟩ rfl rfl rfl rfl rfl (by kernel_rfl) Try.func3 (by kernel_rfl)
    (of_decide_eq_true (by kernel_rfl)) (by unfold Func.isWrapper; first | (rw [if_pos (by decide +kernel)]; kernel_rfl) | (rw [if_neg (by decide +kernel)]; exact ⟨rfl, rfl⟩))
    (fun os started H enc _ => roundTrips_lifted os started H enc)
end Go.Proofs.Qxb6614016a
