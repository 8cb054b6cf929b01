/-
  PROOF OF 'Rows.LawS2397BSilentSaid' ('input.LawS2397BSilent'). The frame is the guide's shell for this function (proof-skeleton.mjs); the walk is filled in.
-/
import Derived.Test.YbulkawpsRows
import Derived.WalkKit
import Derived.ProofKit
import Derived.OpenShut
import Derived.ShutString
import Derived.Handy
namespace Go.Proofs.Ybulkawps.lawS2397BSilent
open Go.ChangeShapes Go.WideShapes Go.ChangeAt Go.RowKit
open Go.ChangeMaps (open_string shut_string)
set_option linter.unusedVariables false      -- a walk need not use every 'w<i>' (that an integer argument fits its kind)

theorem own : ownKnob Yba.prog.godebug = none := by kernel_rfl

/-! ### STEP 1: THE WALK: the Go text returns true. -/
theorem run_eqIn_func_nil {P : Program} (w : World) (d : Nat) (t : TypeId) (ps rs : Array TypeId) (vd : Bool) (f : Fn) (a c : Array Value) (h : P.underlying t = some (.func ps rs vd)) :
    (Op.equalIn (d + 1) t (.func f a c) .nilFunc).run P w = .ok false w := by
  simp [Op.equalIn, run_underlying h]
theorem run_eql_func_nil {P : Program} (w : World) (t : TypeId) (ps rs : Array TypeId) (vd : Bool) (f : Fn) (a c : Array Value) (h : P.underlying t = some (.func ps rs vd)) :
    (binOp .eql t (.func f a c) .nilFunc).run P w = .ok (.bool false) w := by
  have e : (Op.equal t (.func f a c) .nilFunc).run P w = .ok false w := run_eqIn_func_nil w 9999 t ps rs vd f a c h
  simp only [binOp]
  simp [e]
theorem run_eqIn_nil_nil {P : Program} (w : World) (d : Nat) (t : TypeId) (ps rs : Array TypeId) (vd : Bool) (h : P.underlying t = some (.func ps rs vd)) :
    (Op.equalIn (d + 1) t .nilFunc .nilFunc).run P w = .ok true w := by
  simp [Op.equalIn, run_underlying h]
theorem run_eql_nil_nil {P : Program} (w : World) (t : TypeId) (ps rs : Array TypeId) (vd : Bool) (h : P.underlying t = some (.func ps rs vd)) :
    (binOp .eql t .nilFunc .nilFunc).run P w = .ok (.bool true) w := by
  have e : (Op.equal t .nilFunc .nilFunc).run P w = .ok true w := run_eqIn_nil_nil w 9999 t ps rs vd h
  simp only [binOp]
  simp [e]
set_option maxHeartbeats 400000 in
theorem walk_false (a1 : ByteArray) (a2 : Int) (a3 : ByteArray) (a4 : Int) (a5 : Int) (w1 : a1.size ≤ maxLen) (w2 : (Lit.int .i64 a2).wf = true) (w3 : a3.size ≤ maxLen) (w4 : (Lit.int .u8 a4).wf = true) (w5 : (Lit.int .u8 a5).wf = true) (w : World) :
    Calls Yba.prog 3 #[.bool false, .string a1, .int .i64 a2, .string a3, .int .u8 a4, .int .u8 a5] w fun e w' => e = .returned (.bool true) ∧ Grown w w' := by
  have k1 := fun w => run_eql_nil_nil (P := Yba.prog) w 22 _ _ _ Yba.underlying22
  go_enter Yba.func3, Yba.ntmps3
  go_wp2
  go_ret
  exact ⟨rfl, by repeat (first | exact Grown.refl _ | apply Grown.drew | apply Grown.alloc)⟩
set_option maxHeartbeats 400000 in
theorem walk_true (a1 : ByteArray) (a2 : Int) (a3 : ByteArray) (a4 : Int) (a5 : Int) (w1 : a1.size ≤ maxLen) (w2 : (Lit.int .i64 a2).wf = true) (w3 : a3.size ≤ maxLen) (w4 : (Lit.int .u8 a4).wf = true) (h5 : 0 ≤ a5) (h5' : a5 ≤ 255) (w : World) :
    Calls Yba.prog 3 #[.bool true, .string a1, .int .i64 a2, .string a3, .int .u8 a4, .int .u8 a5] w fun e w' => e = .returned (.bool true) ∧ Grown w w' := by
  have k1 := fun w f a c => run_eql_func_nil (P := Yba.prog) w 22 _ _ _ f a c Yba.underlying22
  go_enter Yba.func3, Yba.ntmps3
  go_wp2
  go_loop [18] (fun v18 => ∃ k : Nat, (k : Int) ≤ a5 % 4 + 1 ∧ v18 = .int .i64 k) (fun v18 => 5 - (intOf v18).toNat)
  case atStart => exact ⟨0, by omega, rfl⟩
  case round =>
    obtain ⟨k, hk, rfl⟩ := hrel
    by_cases hlt : (k : Int) ≤ a5 % 4
    · go_wp2
      go_round
      case rel => exact ⟨k + 1, by omega, by go_num⟩
      case measure => simp [intOf]; omega
    · go_wp2
      go_ret
      exact ⟨by simp, by go_grown⟩
theorem walk (a0 : Bool) (a1 : ByteArray) (a2 : Int) (a3 : ByteArray) (a4 : Int) (a5 : Int) (w1 : a1.size ≤ maxLen) (w2 : (Lit.int .i64 a2).wf = true) (w3 : a3.size ≤ maxLen) (w4 : (Lit.int .u8 a4).wf = true) (w5 : (Lit.int .u8 a5).wf = true) (w : World) :
    Calls Yba.prog 3 #[.bool a0, .string a1, .int .i64 a2, .string a3, .int .u8 a4, .int .u8 a5] w fun e w' => e = .returned (.bool true) ∧ Grown w w' := by
  have hb := bounds_u8 w5
  cases a0
  · exact walk_false a1 a2 a3 a4 a5 w1 w2 w3 w4 w5 w
  · exact walk_true a1 a2 a3 a4 a5 w1 w2 w3 w4 (by omega) (by omega) w

/-! ### THE ROW's STEP: WRITTEN OUT: LEAVE IT -/
set_option maxRecDepth 100000 in
theorem lifted (os : Os) (started : os.Started) (H : Type) (enc : TypeId × Value → H) :
    ReturnsInHanded {} Yba.checked os 3 .any (Rows.lawS2397BSilentSpec.pre6 enc Yba.prog Yba.f3 Rows.lawS2397BSilentRow.domain false) (Rows.lawS2397BSilentSpec.post enc Yba.prog Yba.f3 false true false false) := by
  refine returnsInHanded_of_change (C := Yba.checked) own started (by kernel_rfl) Yba.func3
    (ChangeSpec.witness6 (enc := enc) (C := Yba.checked) false ⟨#[], #[.bool false, .string ByteArray.empty, .int .i64 0, .string ByteArray.empty, .int .u8 0, .int .u8 0], []⟩ 8 (by kernel_rfl) (by kernel_rfl) (by kernel_rfl) (by kernel_rfl)) ?_
  intro W base args ds gs before hval0 hW hcnd _
  have hval : ∀ (j : Nat) t v, Yba.f3.params[j]? = some t → args[j]? = some v → Value.okWide Yba.prog W .any base t v := hval0
  have hW' := hW
  obtain ⟨p, q, hA0, hV, rfl, hfz, hnd⟩ := hW
  have hA : DataW.TrodAll enc Yba.prog W 0 (fun _ => true) true Yba.f3.params.toList args.toList ds p := hA0
  rw [Yba.params3] at hA hval
  obtain ⟨v0, vs0, d0, ds0, p0, q0, hargs, rfl, rfl, h0, r0⟩ := trodAll_cons hA
  obtain ⟨v1, vs1, d1, ds1, p1, q1, rfl, rfl, rfl, h1, r1⟩ := trodAll_cons r0
  obtain ⟨v2, vs2, d2, ds2, p2, q2, rfl, rfl, rfl, h2, r2⟩ := trodAll_cons r1
  obtain ⟨v3, vs3, d3, ds3, p3, q3, rfl, rfl, rfl, h3, r3⟩ := trodAll_cons r2
  obtain ⟨v4, vs4, d4, ds4, p4, q4, rfl, rfl, rfl, h4, r4⟩ := trodAll_cons r3
  obtain ⟨v5, vs5, d5, ds5, p5, q5, rfl, rfl, rfl, h5, r5⟩ := trodAll_cons r4
  obtain ⟨rfl, rfl, rfl⟩ := trodAll_nil r5
  obtain rfl : args = #[v0, v1, v2, v3, v4, v5] := by cases args; simp_all
  obtain ⟨rfl, rfl⟩ := trodVars_none hV
  obtain ⟨a0, rfl, rfl, rfl⟩ := open_bool Yba.underlying4 (hval 0 4 v0 rfl rfl) h0
  obtain ⟨a1, rfl, rfl, rfl, w1⟩ := open_string Yba.underlying9 (hval 1 9 v1 rfl rfl) h1
  obtain ⟨a2, rfl, rfl, rfl, w2⟩ := open_int Yba.underlying3 (hval 2 3 v2 rfl rfl) h2
  obtain ⟨a3, rfl, rfl, rfl, w3⟩ := open_string Yba.underlying9 (hval 3 9 v3 rfl rfl) h3
  obtain ⟨a4, rfl, rfl, rfl, w4⟩ := open_int Yba.underlying5 (hval 4 5 v4 rfl rfl) h4
  obtain ⟨a5, rfl, rfl, rfl, w5⟩ := open_int Yba.underlying5 (hval 5 5 v5 rfl rfl) h5
  clear hA0 hval0
  simp only [List.append_nil] at hW'
  refine (walk a0 a1 a2 a3 a4 a5 w1 w2 w3 w4 w5 W).mono fun e W' ⟨he, hg⟩ => ?_
  subst he
  exact ⟨_, rfl, post_of_same (pa := []) (pv := []) hW' (fun _ _ _ => (trodAll_cons_mk (shut_bool Yba.underlying4 _) trodAll_mk0)) (fun sp _ => (trodAll_cons_mk (shut_bool Yba.underlying4 _) (trodAll_cons_mk (shut_string Yba.underlying9 w1) (trodAll_cons_mk (shut_int Yba.underlying3 w2) (trodAll_cons_mk (shut_string Yba.underlying9 w3) (trodAll_cons_mk (shut_int Yba.underlying5 w4) (trodAll_cons_mk (shut_int Yba.underlying5 w5) trodAll_mk0))))))) (fun _ _ => rfl) rfl
    (hg.frame _) hg.2.1 (ok_one (by kernel_rfl) rfl (okWide_bool_mk Yba.underlying4 _))⟩

theorem over : Rows.lawS2397BSilentRow.holds Yba.pinned (OpenSpec.ofChange Rows.lawS2397BSilentSpec) :=
  OpenClaim.holds_of_wide 3 Yba.f3 rfl rfl rfl rfl rfl rfl rfl ⟨rfl, rfl, rfl, rfl, rfl⟩ rfl rfl rfl rfl rfl (by kernel_rfl) Yba.func3 (by kernel_rfl)
    (of_decide_eq_true (by kernel_rfl)) (by unfold Func.isWrapper; first | (rw [if_pos (by decide +kernel)]; kernel_rfl) | (rw [if_neg (by decide +kernel)]; exact ⟨rfl, rfl⟩))
    (fun os started H enc _ => lifted os started H enc)

/-- ████ THE STATEMENT ████ -/
theorem proved : Rows.LawS2397BSilentSaid :=
  over
end Go.Proofs.Ybulkawps.lawS2397BSilent
