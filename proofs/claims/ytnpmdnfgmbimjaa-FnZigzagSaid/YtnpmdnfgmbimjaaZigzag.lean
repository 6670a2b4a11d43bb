/- Proved: for every number of 64 bits laws.FnZigzag returns true and leaves its argument as it was ('Rows.FnZigzagSaid'); conditions: none. -/
import Derived.Test.YtnpmdnfgmbimjaaRows
import Derived.Test.YtnpmdnfgmbimjaaZz
import Derived.WalkKit
import Derived.ProofKit
import Derived.OpenShut
import Derived.Lib.Hide
namespace Go.Proofs.Ytnpmdnfgmbimjaa.fnZigzag
open Go.ChangeShapes Go.WideShapes Go.ChangeAt Go.RowKit
open Go.Proofs.Ytnpmdnfgmbimjaa.Zz (zz)

theorem ret_int {k : IntKind} {a b : Int} (h : a = b) : Ending.returned (.int k a) = .returned (.int k b) := by rw [h]

/-- The cells of a new TCompactProtocol. -/
def tcZero : Array Value := #[.nilIface, .nilIface, .pointer none, .slice none 0 0, .int .i64 0, .string ByteArray.empty, .int .i16 0, .bool false, .bool false, .bool false] ++ Array.replicate 64 (.int .u8 0)
theorem hzero (w : World) : (zeroValue 43).run Try.prog w = .ok (.agg tcZero) w := by kernel_rfl
theorem hbox (w : World) : (Instr.box 43 (.agg tcZero)).run Try.prog w = .ok (.pointer (some ⟨w.heap.size, 0, none⟩)) (w.alloc (.cells tcZero 43)) := by kernel_rfl

theorem c6 (a : Int) (w : World) (h1 : -9223372036854775808 ≤ a) (h2 : a ≤ 9223372036854775807) :
    Calls Try.prog 6 #[.int .i64 a] w fun e w' => e = .returned (.int .u64 (zz a)) ∧ w = w' := by
  go_enter Try.func6, Try.ntmps6
  go_wp2
  go_ret
  exact ⟨ret_int (Zz.spec_zz a h1 h2), rfl⟩
theorem c15 (p : Value) (a : Int) (w : World) (h1 : -9223372036854775808 ≤ a) (h2 : a ≤ 9223372036854775807) :
    Calls Try.prog 15 #[p, .int .i64 a] w fun e w' => e = .returned (.int .i64 (wrap64 (zz a))) ∧ w = w' := by
  go_enter Try.func15, Try.ntmps15
  go_wp2
  go_ret
  exact ⟨ret_int (Zz.zig64 a h1 h2), rfl⟩
theorem c14 (p : Value) (a : Int) (w : World) (h1 : -2147483648 ≤ a) (h2 : a ≤ 2147483647) :
    Calls Try.prog 14 #[p, .int .i32 a] w fun e w' => e = .returned (.int .i32 (wrap32 (zz a))) ∧ w = w' := by
  go_enter Try.func14, Try.ntmps14
  go_wp2
  go_ret
  exact ⟨ret_int (Zz.zig32 a h1 h2), rfl⟩
/-- zigzagToInt64 of the i64 that the number's zigzag form reads as. -/
theorem c17 (p : Value) (a b : Int) (w : World) (hab : b = wrap64 (zz a)) (h1 : -9223372036854775808 ≤ a) (h2 : a ≤ 9223372036854775807) :
    Calls Try.prog 17 #[p, .int .i64 b] w fun e w' => e = .returned (.int .i64 a) ∧ w = w' := by
  have hb : -9223372036854775808 ≤ b ∧ b ≤ 9223372036854775807 := by subst hab; unfold wrap64; omega
  have H := Lib.hid hab
  clear hab
  go_enter Try.func17, Try.ntmps17
  go_wp2
  go_ret
  refine ⟨ret_int ?_, rfl⟩
  rw [H.out]
  exact Zz.unz64 a h1 h2
theorem c16 (p : Value) (a b : Int) (w : World) (hab : b = wrap32 (zz a)) (h1 : -2147483648 ≤ a) (h2 : a ≤ 2147483647) :
    Calls Try.prog 16 #[p, .int .i32 b] w fun e w' => e = .returned (.int .i32 a) ∧ w = w' := by
  have hb : -2147483648 ≤ b ∧ b ≤ 2147483647 := by subst hab; unfold wrap32; omega
  have H := Lib.hid hab
  clear hab
  go_enter Try.func16, Try.ntmps16
  go_wp2
  go_ret
  refine ⟨ret_int ?_, rfl⟩
  rw [H.out]
  exact Zz.unz32 a h1 h2

/-- ZZZigzag and ZZUnzigzag: a new TCompactProtocol is laid, its method called. -/
theorem wr64 (a : Int) (h1 : -9223372036854775808 ≤ a) (h2 : a ≤ 9223372036854775807) : IntKind.u64.wrap (wrap64 (zz a)) = zz a := by
  have hz := Zz.zz_bd a h1 h2
  rw [IntKind.wrap_u64]; unfold wrap64; omega
theorem wr32 (a : Int) (h1 : -2147483648 ≤ a) (h2 : a ≤ 2147483647) : wrap32 (zz a) % 4294967296 = zz a := by
  have hz := Zz.zz_bd32 a h1 h2
  unfold wrap32; omega
set_option maxRecDepth 100000 in
theorem c10_64 (a : Int) (w : World) (h1 : -9223372036854775808 ≤ a) (h2 : a ≤ 9223372036854775807) :
    Calls Try.prog 10 #[.int .i64 a, .int .i64 64] w fun e w' => e = .returned (.int .u64 (zz a)) ∧ w.alloc (.cells tcZero 43) = w' := by
  have kb := hzero
  have kx := hbox
  go_enter Try.func10, Try.ntmps10
  go_wp2_with (go_at_call 15; refine (c15 _ _ _ (by omega) (by omega)).mono ?_; rintro e w' ⟨rfl, rfl⟩)
  go_ret
  exact ⟨ret_int (wr64 a h1 h2), rfl⟩
set_option maxRecDepth 100000 in
theorem c10_32 (a : Int) (w : World) (h1 : -2147483648 ≤ a) (h2 : a ≤ 2147483647) :
    Calls Try.prog 10 #[.int .i64 a, .int .i64 32] w fun e w' => e = .returned (.int .u64 (zz a)) ∧ w.alloc (.cells tcZero 43) = w' := by
  have kb := hzero
  have kx := hbox
  go_enter Try.func10, Try.ntmps10
  go_wp2_with (go_at_call 14; refine (c14 _ _ _ (by omega) (by omega)).mono ?_; rintro e w' ⟨rfl, rfl⟩)
  go_ret
  exact ⟨ret_int (wr32 a h1 h2), rfl⟩
set_option maxRecDepth 100000 in
theorem c11_64 (a : Int) (w : World) (h1 : -9223372036854775808 ≤ a) (h2 : a ≤ 9223372036854775807) :
    Calls Try.prog 11 #[.int .u64 (zz a), .int .i64 64] w fun e w' => e = .returned (.int .i64 a) ∧ w.alloc (.cells tcZero 43) = w' := by
  have hz := Zz.zz_bd a h1 h2
  have kb := hzero
  have kx := hbox
  go_enter Try.func11, Try.ntmps11
  go_wp2_with (go_at_call 17; refine (c17 _ a _ _ rfl (by omega) (by omega)).mono ?_; rintro e w' ⟨rfl, rfl⟩)
  go_ret
  exact ⟨rfl, rfl⟩
set_option maxRecDepth 100000 in
theorem c11_32 (a : Int) (w : World) (h1 : -2147483648 ≤ a) (h2 : a ≤ 2147483647) :
    Calls Try.prog 11 #[.int .u64 (zz a), .int .i64 32] w fun e w' => e = .returned (.int .i64 a) ∧ w.alloc (.cells tcZero 43) = w' := by
  have hz := Zz.zz_bd32 a h1 h2
  have kb := hzero
  have kx := hbox
  go_enter Try.func11, Try.ntmps11
  go_wp2_with (go_at_call 16; refine (c16 _ a _ _ rfl (by omega) (by omega)).mono ?_; rintro e w' ⟨rfl, rfl⟩)
  go_ret
  exact ⟨rfl, rfl⟩

/-- impl.Zigzag, impl.Unzigzag. -/
theorem c5_64 (a : Int) (w : World) (h1 : -9223372036854775808 ≤ a) (h2 : a ≤ 9223372036854775807) :
    Calls Try.prog 5 #[.int .i64 a, .int .i64 64] w fun e w' => e = .returned (.int .u64 (zz a)) ∧ w.alloc (.cells tcZero 43) = w' := by
  go_enter Try.func5, Try.ntmps5
  go_wp2_with (go_at_call 10; refine (c10_64 _ _ (by omega) (by omega)).mono ?_; rintro e w' ⟨rfl, rfl⟩)
  go_ret
  exact ⟨rfl, rfl⟩
theorem c5_one (w : World) :
    Calls Try.prog 5 #[.int .i64 1, .int .i64 64] w fun e w' => e = .returned (.int .u64 2) ∧ w.alloc (.cells tcZero 43) = w' :=
  c5_64 1 w (by decide) (by decide)
theorem c5_32 (a : Int) (w : World) (h1 : -2147483648 ≤ a) (h2 : a ≤ 2147483647) :
    Calls Try.prog 5 #[.int .i64 a, .int .i64 32] w fun e w' => e = .returned (.int .u64 (zz a)) ∧ w.alloc (.cells tcZero 43) = w' := by
  go_enter Try.func5, Try.ntmps5
  go_wp2_with (go_at_call 10; refine (c10_32 _ _ (by omega) (by omega)).mono ?_; rintro e w' ⟨rfl, rfl⟩)
  go_ret
  exact ⟨rfl, rfl⟩
theorem c7_64 (a : Int) (w : World) (h1 : -9223372036854775808 ≤ a) (h2 : a ≤ 9223372036854775807) :
    Calls Try.prog 7 #[.int .u64 (zz a), .int .i64 64] w fun e w' => e = .returned (.int .i64 a) ∧ w.alloc (.cells tcZero 43) = w' := by
  go_enter Try.func7, Try.ntmps7
  go_wp2_with (go_at_call 11; refine (c11_64 a _ (by omega) (by omega)).mono ?_; rintro e w' ⟨rfl, rfl⟩)
  go_ret
  exact ⟨rfl, rfl⟩
theorem c7_32 (a : Int) (w : World) (h1 : -2147483648 ≤ a) (h2 : a ≤ 2147483647) :
    Calls Try.prog 7 #[.int .u64 (zz a), .int .i64 32] w fun e w' => e = .returned (.int .i64 a) ∧ w.alloc (.cells tcZero 43) = w' := by
  go_enter Try.func7, Try.ntmps7
  go_wp2_with (go_at_call 11; refine (c11_32 a _ (by omega) (by omega)).mono ?_; rintro e w' ⟨rfl, rfl⟩)
  go_ret
  exact ⟨rfl, rfl⟩

theorem wrap32_bd (a : Int) : -2147483648 ≤ wrap32 a ∧ wrap32 a ≤ 2147483647 := by unfold wrap32; omega

theorem walk0 (a0 : Int) (h1 : -9223372036854775808 ≤ a0) (h2 : a0 ≤ 9223372036854775807) (w : World) :
    Calls Try.prog 3 #[.int .i64 a0] w fun e w' => e = .returned (.bool true) ∧ Grown w w' := by
  have hm := wrap32_bd a0
  go_enter Try.func3, Try.ntmps3
  go_wp2_with (first
    | (go_at_call 6; ((with_reducible refine (c6 _ _ (by omega) (by omega)).mono ?_); rintro e w' ⟨rfl, rfl⟩))
    | (go_at_call 5; ((with_reducible refine (c5_64 a0 _ (by omega) (by omega)).mono ?_); rintro e w' ⟨rfl, rfl⟩))
    | (go_at_call 5; ((with_reducible refine (c5_one _).mono ?_); rintro e w' ⟨rfl, rfl⟩))
    | (go_at_call 5; ((with_reducible refine (c5_32 (wrap32 a0) _ (by omega) (by omega)).mono ?_); rintro e w' ⟨rfl, rfl⟩))
    | (go_at_call 7; ((with_reducible refine (c7_64 a0 _ (by omega) (by omega)).mono ?_); rintro e w' ⟨rfl, rfl⟩))
    | (go_at_call 7; ((with_reducible refine (c7_32 (wrap32 a0) _ (by omega) (by omega)).mono ?_); rintro e w' ⟨rfl, rfl⟩)))
  go_ret
  exact ⟨rfl, by repeat (first | exact Grown.refl _ | apply Grown.drew | apply Grown.alloc)⟩
theorem own : ownKnob Try.prog.godebug = none := by kernel_rfl

theorem walk (a0 : Int) (w0 : (Lit.int .i64 a0).wf = true) (w : World) :
    Calls Try.prog 3 #[.int .i64 a0] w fun e w' => e = .returned (.bool true) ∧ Grown w w' :=
  walk0 a0 (bounds_i64 w0).1 (bounds_i64 w0).2 w

/-! ### THE ROW's STEP: WRITTEN OUT: LEAVE IT -/
set_option maxRecDepth 100000 in
theorem lifted (os : Os) (started : os.Started) (H : Type) (enc : TypeId × Value → H) :
    ReturnsInHanded {} Try.checked os 3 .any (Rows.fnZigzagSpec.pre6 enc Try.prog Try.f3 Rows.fnZigzagRow.domain false) (Rows.fnZigzagSpec.post enc Try.prog Try.f3 false true false false) := by
  refine returnsInHanded_of_change (C := Try.checked) own started (by kernel_rfl) Try.func3
    (ChangeSpec.witness6 (enc := enc) (C := Try.checked) false ⟨#[], #[.int .i64 0], []⟩ 8 (by kernel_rfl) (by kernel_rfl) (by kernel_rfl) (by kernel_rfl)) ?_
  intro W base args ds gs before hval0 hW hcnd _
  have hval : ∀ (j : Nat) t v, Try.f3.params[j]? = some t → args[j]? = some v → Value.okWide Try.prog W .any base t v := hval0
  have hW' := hW
  obtain ⟨p, q, hA0, hV, rfl, hfz, hnd⟩ := hW
  have hA : DataW.TrodAll enc Try.prog W 0 (fun _ => true) true Try.f3.params.toList args.toList ds p := hA0
  rw [Try.params3] at hA hval
  obtain ⟨v0, vs0, d0, ds0, p0, q0, hargs, rfl, rfl, h0, r0⟩ := trodAll_cons hA
  obtain ⟨rfl, rfl, rfl⟩ := trodAll_nil r0
  obtain rfl : args = #[v0] := by cases args; simp_all
  obtain ⟨rfl, rfl⟩ := trodVars_none hV
  obtain ⟨a0, rfl, rfl, rfl, w0⟩ := open_int Try.underlying2 (hval 0 2 v0 rfl rfl) h0
  clear hA0 hval0
  simp only [List.append_nil] at hW'
  refine (walk a0 w0 W).mono fun e W' ⟨he, hg⟩ => ?_
  subst he
  exact ⟨_, rfl, post_of_same (pa := []) (pv := []) hW' (fun _ _ _ => (trodAll_cons_mk (shut_bool Try.underlying4 _) trodAll_mk0)) (fun sp _ => (trodAll_cons_mk (shut_int Try.underlying2 w0) trodAll_mk0)) (fun _ _ => rfl) rfl
    (hg.frame _) hg.2.1 (ok_one (by kernel_rfl) rfl (okWide_bool_mk Try.underlying4 _))⟩

theorem over : Rows.fnZigzagRow.holds Try.pinned (OpenSpec.ofChange Rows.fnZigzagSpec) :=
  OpenClaim.holds_of_wide 3 Try.f3 rfl rfl rfl rfl rfl rfl rfl ⟨rfl, rfl, rfl, rfl, rfl⟩ rfl rfl rfl rfl rfl (by kernel_rfl) Try.func3 (by kernel_rfl)
    (of_decide_eq_true (by kernel_rfl)) (by unfold Func.isWrapper; first | (rw [if_pos (by decide +kernel)]; kernel_rfl) | (rw [if_neg (by decide +kernel)]; exact ⟨rfl, rfl⟩))
    (fun os started H enc _ => lifted os started H enc)

/-- ████ THE STATEMENT ████ -/
theorem proved : Rows.FnZigzagSaid :=
  over
#print axioms proved
end Go.Proofs.Ytnpmdnfgmbimjaa.fnZigzag
