/-
  'FnBitsOrdersAsTimes' RETURNS true WHATEVER THE INPUT: Compare's walk, her own, and her row.
-/
import Derived.Test.Qxb6614016aWalks
import Derived.ProofKit
import Derived.Lib.SmallJoins
namespace Go.Proofs.Qxb6614016a
open Go.ChangeShapes Go.WideShapes Go.ChangeAt Go.RowKit Go.Joins

set_option maxHeartbeats 1000000 in
/-- (Timestamp).Compare, the first below the second. -/
theorem compare_lt (t i u j : Int) (ht : Half t) (hi : Half i) (hu : Half u) (hj : Half j) (h : t * 4294967296 + i < u * 4294967296 + j) (w : World) :
    Calls Try.prog 8 #[.agg #[.int .u32 t, .int .u32 i], .agg #[.int .u32 u, .int .u32 j]] w fun e w' => e = .returned (.int .i64 (-1)) ∧ ∃ c1 c2 c3 c4 : Array Value, w' = ((((w.alloc (.cells c1 24)).alloc (.cells c2 24)).alloc (.cells c3 24)).alloc (.cells c4 24)).drew := by
  go_enter Try.func8, Try.ntmps8
  go_wp2
  go_region_held3 (fun w' => w'.cell? ⟨w.heap.size, 0, none⟩ = some (.int .u32 t) ∧ w'.cell? ⟨w.heap.size, 1, none⟩ = some (.int .u32 i) ∧ w'.cell? ⟨w.heap.size + 1, 0, none⟩ = some (.int .u32 u) ∧ w'.cell? ⟨w.heap.size + 1, 1, none⟩ = some (.int .u32 j)) (simp [go_sem, World.cell?_alloc_past])
    (first
      | (go_at_call_of 13 t; refine (bits_any t i ht hi _).mono ?_; rintro e w' ⟨rfl, o1, rfl⟩)
      | (go_at_call_of 13 u; refine (bits_any u j hu hj _).mono ?_; rintro e w' ⟨rfl, o1, rfl⟩))
  go_wp2
  go_ret
  exact ⟨rfl, _, _, _, _, rfl⟩

set_option maxHeartbeats 1000000 in
/-- (Timestamp).Compare, the first above the second. -/
theorem compare_gt (t i u j : Int) (ht : Half t) (hi : Half i) (hu : Half u) (hj : Half j) (h : u * 4294967296 + j < t * 4294967296 + i) (w : World) :
    Calls Try.prog 8 #[.agg #[.int .u32 t, .int .u32 i], .agg #[.int .u32 u, .int .u32 j]] w fun e w' => e = .returned (.int .i64 1) ∧ ∃ c1 c2 c3 c4 : Array Value, w' = ((((w.alloc (.cells c1 24)).alloc (.cells c2 24)).alloc (.cells c3 24)).alloc (.cells c4 24)).drew := by
  go_enter Try.func8, Try.ntmps8
  go_wp2
  go_region_held3 (fun w' => w'.cell? ⟨w.heap.size, 0, none⟩ = some (.int .u32 t) ∧ w'.cell? ⟨w.heap.size, 1, none⟩ = some (.int .u32 i) ∧ w'.cell? ⟨w.heap.size + 1, 0, none⟩ = some (.int .u32 u) ∧ w'.cell? ⟨w.heap.size + 1, 1, none⟩ = some (.int .u32 j)) (simp [go_sem, World.cell?_alloc_past])
    (first
      | (go_at_call_of 13 t; refine (bits_any t i ht hi _).mono ?_; rintro e w' ⟨rfl, o1, rfl⟩)
      | (go_at_call_of 13 u; refine (bits_any u j hu hj _).mono ?_; rintro e w' ⟨rfl, o1, rfl⟩))
  go_wp2
  go_ret
  exact ⟨rfl, _, _, _, _, rfl⟩

set_option maxHeartbeats 1000000 in
/-- (Timestamp).Compare, both the same. -/
theorem compare_eq (t i : Int) (ht : Half t) (hi : Half i) (w : World) :
    Calls Try.prog 8 #[.agg #[.int .u32 t, .int .u32 i], .agg #[.int .u32 t, .int .u32 i]] w fun e w' => e = .returned (.int .i64 0) ∧ ∃ c1 c2 c3 c4 : Array Value, w' = ((((w.alloc (.cells c1 24)).alloc (.cells c2 24)).alloc (.cells c3 24)).alloc (.cells c4 24)).drew := by
  go_enter Try.func8, Try.ntmps8
  go_wp2
  go_region_held3 (fun w' => w'.cell? ⟨w.heap.size, 0, none⟩ = some (.int .u32 t) ∧ w'.cell? ⟨w.heap.size, 1, none⟩ = some (.int .u32 i) ∧ w'.cell? ⟨w.heap.size + 1, 0, none⟩ = some (.int .u32 t) ∧ w'.cell? ⟨w.heap.size + 1, 1, none⟩ = some (.int .u32 i)) (simp [go_sem, World.cell?_alloc_past])
    (first | (go_at_call 13; refine (bits_any t i ht hi _).mono ?_; rintro e w' ⟨rfl, o1, rfl⟩))
  go_wp2
  go_ret
  exact ⟨rfl, _, _, _, _, rfl⟩

set_option maxHeartbeats 2000000 in
/-- T below T. -/
theorem orders_T_lt (t i u j : Int) (ht : Half t) (hi : Half i) (hu : Half u) (hj : Half j) (h : t < u) (w : World) :
    Calls Try.prog 4 #[.agg #[.int .u32 t, .int .u32 i], .agg #[.int .u32 u, .int .u32 j]] w fun e w' => e = .returned (.bool true) ∧ Grown w w' := by
  have kt := ht; have ki := hi; have ku := hu; have kj := hj
  obtain ⟨t0, t1⟩ := ht; obtain ⟨i0, i1⟩ := hi; obtain ⟨u0, u1⟩ := hu; obtain ⟨j0, j1⟩ := hj
  have hs : t * 4294967296 + i < u * 4294967296 + j := by omega
  have hb : (t * 4294967296 + i == u * 4294967296 + j) = false := by simp; omega
  go_enter Try.func4, Try.ntmps4
  go_wp2_with (first
    | (go_at_call_of 7 i; refine (zzbits_any t i kt ki _).mono ?_; rintro e w' ⟨rfl, o1, o2, rfl⟩)
    | (go_at_call_of 7 j; refine (zzbits_any u j ku kj _).mono ?_; rintro e w' ⟨rfl, o1, o2, rfl⟩)
    | (go_at_call 8; refine (compare_lt t i u j kt ki ku kj hs _).mono ?_; rintro e w' ⟨rfl, o1, o2, o3, o4, rfl⟩))
  go_ret
  exact ⟨rfl, by repeat (first | exact Grown.refl _ | apply Grown.drew | apply Grown.alloc)⟩

set_option maxHeartbeats 2000000 in
/-- T above T. -/
theorem orders_T_gt (t i u j : Int) (ht : Half t) (hi : Half i) (hu : Half u) (hj : Half j) (h : u < t) (w : World) :
    Calls Try.prog 4 #[.agg #[.int .u32 t, .int .u32 i], .agg #[.int .u32 u, .int .u32 j]] w fun e w' => e = .returned (.bool true) ∧ Grown w w' := by
  have kt := ht; have ki := hi; have ku := hu; have kj := hj
  obtain ⟨t0, t1⟩ := ht; obtain ⟨i0, i1⟩ := hi; obtain ⟨u0, u1⟩ := hu; obtain ⟨j0, j1⟩ := hj
  have hs : u * 4294967296 + j < t * 4294967296 + i := by omega
  have hT : (t == u) = false := by simp; omega
  have hb : (t * 4294967296 + i == u * 4294967296 + j) = false := by simp; omega
  go_enter Try.func4, Try.ntmps4
  go_wp2_with (first
    | (go_at_call_of 7 i; refine (zzbits_any t i kt ki _).mono ?_; rintro e w' ⟨rfl, o1, o2, rfl⟩)
    | (go_at_call_of 7 j; refine (zzbits_any u j ku kj _).mono ?_; rintro e w' ⟨rfl, o1, o2, rfl⟩)
    | (go_at_call 8; refine (compare_gt t i u j kt ki ku kj hs _).mono ?_; rintro e w' ⟨rfl, o1, o2, o3, o4, rfl⟩))
  go_ret
  exact ⟨rfl, by repeat (first | exact Grown.refl _ | apply Grown.drew | apply Grown.alloc)⟩

set_option maxHeartbeats 2000000 in
/-- T the same, I below I. -/
theorem orders_I_lt (t i j : Int) (ht : Half t) (hi : Half i) (hj : Half j) (h : i < j) (w : World) :
    Calls Try.prog 4 #[.agg #[.int .u32 t, .int .u32 i], .agg #[.int .u32 t, .int .u32 j]] w fun e w' => e = .returned (.bool true) ∧ Grown w w' := by
  have kt := ht; have ki := hi; have kj := hj
  obtain ⟨t0, t1⟩ := ht; obtain ⟨i0, i1⟩ := hi; obtain ⟨j0, j1⟩ := hj
  have hs : t * 4294967296 + i < t * 4294967296 + j := by omega
  have hb : (t * 4294967296 + i == t * 4294967296 + j) = false := by simp; omega
  go_enter Try.func4, Try.ntmps4
  go_wp2_with (first
    | (go_at_call_of 7 i; refine (zzbits_any t i kt ki _).mono ?_; rintro e w' ⟨rfl, o1, o2, rfl⟩)
    | (go_at_call_of 7 j; refine (zzbits_any t j kt kj _).mono ?_; rintro e w' ⟨rfl, o1, o2, rfl⟩)
    | (go_at_call 8; refine (compare_lt t i t j kt ki kt kj hs _).mono ?_; rintro e w' ⟨rfl, o1, o2, o3, o4, rfl⟩))
  go_ret
  exact ⟨rfl, by repeat (first | exact Grown.refl _ | apply Grown.drew | apply Grown.alloc)⟩

set_option maxHeartbeats 2000000 in
/-- T the same, I above I. -/
theorem orders_I_gt (t i j : Int) (ht : Half t) (hi : Half i) (hj : Half j) (h : j < i) (w : World) :
    Calls Try.prog 4 #[.agg #[.int .u32 t, .int .u32 i], .agg #[.int .u32 t, .int .u32 j]] w fun e w' => e = .returned (.bool true) ∧ Grown w w' := by
  have kt := ht; have ki := hi; have kj := hj
  obtain ⟨t0, t1⟩ := ht; obtain ⟨i0, i1⟩ := hi; obtain ⟨j0, j1⟩ := hj
  have hs : t * 4294967296 + j < t * 4294967296 + i := by omega
  have hI : (i == j) = false := by simp; omega
  have hb : (t * 4294967296 + i == t * 4294967296 + j) = false := by simp; omega
  go_enter Try.func4, Try.ntmps4
  go_wp2_with (first
    | (go_at_call_of 7 i; refine (zzbits_any t i kt ki _).mono ?_; rintro e w' ⟨rfl, o1, o2, rfl⟩)
    | (go_at_call_of 7 j; refine (zzbits_any t j kt kj _).mono ?_; rintro e w' ⟨rfl, o1, o2, rfl⟩)
    | (go_at_call 8; refine (compare_gt t i t j kt ki kt kj hs _).mono ?_; rintro e w' ⟨rfl, o1, o2, o3, o4, rfl⟩))
  go_ret
  exact ⟨rfl, by repeat (first | exact Grown.refl _ | apply Grown.drew | apply Grown.alloc)⟩

set_option maxHeartbeats 2000000 in
/-- Both the same. -/
theorem orders_same (t i : Int) (ht : Half t) (hi : Half i) (w : World) :
    Calls Try.prog 4 #[.agg #[.int .u32 t, .int .u32 i], .agg #[.int .u32 t, .int .u32 i]] w fun e w' => e = .returned (.bool true) ∧ Grown w w' := by
  have kt := ht; have ki := hi
  obtain ⟨t0, t1⟩ := ht; obtain ⟨i0, i1⟩ := hi
  go_enter Try.func4, Try.ntmps4
  go_wp2_with (first
    | (go_at_call_of 7 i; refine (zzbits_any t i kt ki _).mono ?_; rintro e w' ⟨rfl, o1, o2, rfl⟩)
    | (go_at_call_of 7 i; refine (zzbits_any t i kt ki _).mono ?_; rintro e w' ⟨rfl, o1, o2, rfl⟩)
    | (go_at_call 8; refine (compare_eq t i kt ki _).mono ?_; rintro e w' ⟨rfl, o1, o2, o3, o4, rfl⟩))
  go_ret
  exact ⟨rfl, by repeat (first | exact Grown.refl _ | apply Grown.drew | apply Grown.alloc)⟩

/-- The five ways together. -/
theorem orders_any (t i u j : Int) (ht : Half t) (hi : Half i) (hu : Half u) (hj : Half j) (w : World) :
    Calls Try.prog 4 #[.agg #[.int .u32 t, .int .u32 i], .agg #[.int .u32 u, .int .u32 j]] w fun e w' => e = .returned (.bool true) ∧ Grown w w' := by
  by_cases a : t < u
  · exact orders_T_lt t i u j ht hi hu hj a w
  by_cases b : u < t
  · exact orders_T_gt t i u j ht hi hu hj b w
  obtain rfl : u = t := by omega
  by_cases c : i < j
  · exact orders_I_lt u i j hu hi hj c w
  by_cases d : j < i
  · exact orders_I_gt u i j hu hi hj d w
  obtain rfl : j = i := by omega
  exact orders_same u j hu hj w

set_option maxRecDepth 100000 in
theorem orders_lifted (os : Os) (started : os.Started) (H : Type) (enc : TypeId × Value → H) :
    ReturnsInHanded {} Try.checked os 4 .any (Rows.fnBitsOrdersAsTimesSpec.pre6 enc Try.prog Try.f4 Rows.fnBitsOrdersAsTimesRow.domain false) (Rows.fnBitsOrdersAsTimesSpec.post enc Try.prog Try.f4 false true false false) := by
  refine returnsInHanded_of_change (C := Try.checked) Try.own started (by kernel_rfl) Try.func4
    (ChangeSpec.witness6 (enc := enc) (C := Try.checked) false ⟨#[], #[.agg #[.int .u32 0, .int .u32 0], .agg #[.int .u32 0, .int .u32 0]], []⟩ 8 (by kernel_rfl) (by kernel_rfl) (by kernel_rfl) (by kernel_rfl)) ?_
  intro W base args ds gs before hval0 hW hcnd _
  have hval : ∀ (j : Nat) t v, Try.f4.params[j]? = some t → args[j]? = some v → Value.okWide Try.prog W .any base t v := hval0
  have hW' := hW
  obtain ⟨p, q, hA0, hV, rfl, hfz, hnd⟩ := hW
  have hA : DataW.TrodAll enc Try.prog W 0 (fun _ => true) true Try.f4.params.toList args.toList ds p := hA0
  rw [Try.params4] at hA hval
  obtain ⟨v0, v1, d0, d1, p0, p1, rfl, rfl, rfl, h0, h1⟩ := trodAll_two hA
  obtain ⟨rfl, rfl⟩ := trodVars_none hV
  obtain ⟨c0, c1, y0, y1, m, rfl, rfl, rfl, hy0, hy1⟩ := open_agg2 Try.underlying24 (by kernel_rfl) Try.cells24 (hval 0 24 v0 rfl rfl) h0
  obtain ⟨a, e0, rfl, wa⟩ := DataW.trod_int Try.underlying22 hy0
  obtain ⟨b, e1, rfl, wb⟩ := DataW.trod_int Try.underlying22 hy1
  simp at e0 e1
  subst e0 e1
  obtain ⟨c2, c3, y2, y3, m', rfl, rfl, rfl, hy2, hy3⟩ := open_agg2 Try.underlying24 (by kernel_rfl) Try.cells24 (hval 1 24 v1 rfl rfl) h1
  obtain ⟨c, e2, rfl, wc⟩ := DataW.trod_int Try.underlying22 hy2
  obtain ⟨d, e3, rfl, wd⟩ := DataW.trod_int Try.underlying22 hy3
  simp at e2 e3
  subst e2 e3
  clear hA0 hval0
  simp only [List.append_nil] at hW'
  have structReads : ∀ (x y : Int), (Lit.int .u32 x).wf = true → (Lit.int .u32 y).wf = true → ∀ (W' : World) (sp : Nat → Bool), DataW.Trod enc Try.prog W' 0 sp true 24 (.agg #[.int .u32 x, .int .u32 y]) (.agg [.lit (.int .u32 x), .lit (.int .u32 y)]) [] := fun x y wx wy W' sp =>
    shut_agg2 (y0 := (.lit (.int .u32 x), [])) (y1 := (.lit (.int .u32 y), [])) Try.underlying24 (by kernel_rfl) Try.cells24 ⟨1, by simp [DataW.trod, Try.underlying22, wx]⟩ ⟨1, by simp [DataW.trod, Try.underlying22, wy]⟩
  refine (orders_any a b c d (half_of_wf wa) (half_of_wf wb) (half_of_wf wc) (half_of_wf wd) W).mono fun e W' ⟨he, hg⟩ => ?_
  subst he
  exact ⟨_, rfl, post_of_same (pa := []) (pv := []) hW' (fun _ _ _ => trodAll_mk1 (shut_bool Try.underlying4 _)) (fun sp _ => trodAll_mk2 (structReads a b wa wb _ sp) (structReads c d wc wd _ sp)) (fun _ _ => rfl) rfl
    (hg.frame _) hg.2.1 (ok_one (by kernel_rfl) rfl (okWide_bool_mk Try.underlying4 _))⟩

/-- THE STATEMENT. -/
theorem fnBitsOrdersAsTimes_holds : Rows.FnBitsOrdersAsTimesSaid :=
  OpenClaim.holds_of_wide 4 Try.f4 rfl rfl rfl rfl rfl rfl rfl ⟨rfl, rfl, rfl, rfl, rfl⟩ rfl rfl rfl rfl rfl (by kernel_rfl) Try.func4 (by kernel_rfl)
    (of_decide_eq_true (by kernel_rfl)) (by unfold Func.isWrapper; first | (rw [if_pos (by decide +kernel)]; kernel_rfl) | (rw [if_neg (by decide +kernel)]; exact ⟨rfl, rfl⟩))
    (fun os started H enc _ => orders_lifted os started H enc)
end Go.Proofs.Qxb6614016a
