import Derived.Test.YbulkawpsFmtJLaid
import Derived.Test.YbulkawpsFmtJLaw0
import Derived.Test.YbulkawpsFmtJLaw1
import Derived.Test.YbulkawpsFmtJLaw2
import Derived.Test.YbulkawpsFmtJLaw3
import Derived.Test.YbulkawpsFmtJLaw4
/- PROOF OF 'Rows.LawS2397CJoinToldSaid'. -/
namespace Go.Proofs.YbulkawpsFmt.lawS2397CJoin
open Go.ChangeShapes Go.WideShapes Go.ChangeAt Go.RowKit Go.Kit
open Go.Extern.Stop Go.Stop Go.Extern
theorem join_any (F : Interp) (c ts us : Nat) (w : World) (hF : F.answers w.tape) (hN : Names w) (hw0 : 0 < w.heap.size) (hc : c < 256) (hts : ts < 256) (hus : us < 256) :
    Calls Ybaf.prog 6 #[.int .u8 c, .int .u8 ts, .int .u8 us] w fun e w' => e = .returned (.bool true) ∧ Below w.heap.size w w' := by
  have h5 : c % 5 = 0 ∨ c % 5 = 1 ∨ c % 5 = 2 ∨ c % 5 = 3 ∨ c % 5 = 4 := by omega
  rcases h5 with h | h | h | h | h
  · exact join0 F c ts us w hF hN hw0 hc hts hus h
  · exact join1 F c ts us w hF hN hw0 hc hts hus h
  · exact join2 F c ts us w hF hN hw0 hc hts hus h
  · exact join3 F c ts us w hF hN hw0 hc hts hus h
  · exact join4 F c ts us w hF hN hw0 hc hts hus h
set_option maxRecDepth 100000 in
theorem lifted (os : Os) (started : os.Started) (H : Type) (enc : TypeId × Value → H) :
    ReturnsInTold none {} Ybaf.checked os 6 .any Input.okWide ((OpenSpec.ofChange Rows.lawS2397CJoinSpec).preRow enc Ybaf.prog Ybaf.f6 [] false Rows.lawS2397CJoinRow.laid) (fun F => ((OpenSpec.ofChange Rows.lawS2397CJoinSpec).at F).post enc Ybaf.prog Ybaf.f6 false true false false) (aloneAtReturn Ybaf.prog) nothingAlways := by
  refine returnsInTold_of_row (C := Ybaf.checked) (s := OpenSpec.ofChange Rows.lawS2397CJoinSpec) (by kernel_rfl) own started (by kernel_rfl) Ybaf.func6
    (OpenSpec.witness_stopped_at (enc := enc) (C := Ybaf.checked) false (World.laidAll Ybaf.prog os Rows.lawS2397CJoinRow.laid) #[.int .u8 0, .int .u8 0, .int .u8 0] (World.laidAll_os _ _ _) (by kernel_rfl) (by kernel_rfl) (by kernel_rfl)
      (OpenSpec.preRow_of_B rfl 8 (by kernel_rfl) (by kernel_rfl) (by rw [MakeChecks.laidMetH_plain _ _ _ (by kernel_rfl)]; exact laidMet_laidAll _ (by kernel_rfl) (by kernel_rfl)))) ?_
  intro F W base args ds gs before _ hF hval0 hW _ _ _ hL _
  have hval : ∀ (j : Nat) t v, Ybaf.f6.params[j]? = some t → args[j]? = some v → Value.okWide Ybaf.prog W .any base t v := hval0
  have hW' := hW
  obtain ⟨p, q, hA0, hV0, rfl, hfz, hnd⟩ := hW
  have hA : DataW.TrodAll enc Ybaf.prog W 0 (fun _ => true) true Ybaf.f6.params.toList args.toList ds p := hA0
  have hV : DataW.TrodVars enc Ybaf.prog W (fun _ => true) ["example.com/afterrace/afterrace/event.names"] gs q := hV0
  rw [Ybaf.params6] at hA hval
  obtain ⟨v0, vs0, d0, ds0, p0, q0, hargs, rfl, rfl, h0, r0⟩ := trodAll_cons hA
  obtain ⟨v1, vs1, d1, ds1, p1, q1, rfl, rfl, rfl, h1, r1⟩ := trodAll_cons r0
  obtain ⟨v2, vs2, d2, ds2, p2, q2, rfl, rfl, rfl, h2, r2⟩ := trodAll_cons r1
  obtain ⟨rfl, rfl, rfl⟩ := trodAll_nil r2
  obtain rfl : args = #[v0, v1, v2] := by cases args; simp_all
  obtain ⟨g1, rfl⟩ : ∃ g1, gs = [g1] := by
    match gs, hV with
    | [], h => exact h.elim
    | [g1], _ => exact ⟨g1, rfl⟩
    | _ :: _ :: _, ⟨_, _, _, _, _, _, _, _, _, _, h, _⟩ => exact h.elim
  obtain ⟨a0, rfl, rfl, rfl, w0⟩ := open_int Ybaf.underlying5 (hval 0 5 v0 rfl rfl) h0
  obtain ⟨a1, rfl, rfl, rfl, w1⟩ := open_int Ybaf.underlying5 (hval 1 5 v1 rfl rfl) h1
  obtain ⟨a2, rfl, rfl, rfl, w2⟩ := open_int Ybaf.underlying5 (hval 2 5 v2 rfl rfl) h2
  have b0 := bounds_u8 w0
  have b1 := bounds_u8 w1
  have b2 := bounds_u8 w2
  obtain ⟨n0, rfl⟩ := Int.eq_ofNat_of_zero_le b0.1
  obtain ⟨n1, rfl⟩ := Int.eq_ofNat_of_zero_le b1.1
  obtain ⟨n2, rfl⟩ := Int.eq_ofNat_of_zero_le b2.1
  obtain ⟨hN, h0lt⟩ := of_laid hL
  clear hA0 hV0 hval0
  refine (join_any F.told n0 n1 n2 W hF hN h0lt (by omega) (by omega) (by omega)).mono fun e W' ⟨he, bel⟩ => ?_
  subst he
  exact ⟨_, rfl, _, _, _, [], _, q, hW', trodAll_mk1 (shut_bool Ybaf.underlying4 _), (trodAll_cons_mk (shut_int Ybaf.underlying5 w0) (trodAll_cons_mk (shut_int Ybaf.underlying5 w1) (trodAll_cons_mk (shut_int Ybaf.underlying5 w2) trodAll_mk0))), Below.trodVars laidOut bel (by kernel_rfl) hV, bel.frame _, fun h => by cases h⟩

/-- ████ THE STATEMENT ████ -/
theorem proved : Rows.LawS2397CJoinToldSaid :=
  Claim7.holds_of_told_tied_any_at .later 6 Ybaf.f6 "fmt.Sprintf" [] [] _ _ _ [.data] true (by kernel_rfl) rfl rfl rfl laidOut (by kernel_rfl) rfl ⟨rfl, rfl, rfl, rfl, rfl, rfl, rfl⟩ rfl rfl (by kernel_rfl) (by kernel_rfl) Ybaf.func6 (by kernel_rfl)
    (of_decide_eq_true (by kernel_rfl)) (of_decide_eq_true (by kernel_rfl)) stops.symm rfl stopKnobs.symm (by kernel_rfl)
    (by kernel_rfl) (by kernel_rfl) (by kernel_rfl) (by kernel_rfl) (by kernel_rfl) (by kernel_rfl) (by kernel_rfl) (by kernel_rfl) (by kernel_rfl) rfl (by kernel_rfl) rfl rfl
    rfl rfl
    rfl (by kernel_rfl) (by kernel_rfl) (by kernel_rfl) (by decide) (by kernel_rfl) lawS2397CJoin_row_tie
    (OpenClaim.moreEntering_of (by kernel_rfl) (by kernel_rfl) (by kernel_rfl) (by kernel_rfl) (by kernel_rfl) (by kernel_rfl) (by kernel_rfl) (by kernel_rfl) (by kernel_rfl) (by kernel_rfl))
    ⟨_, WideRow.started_initial, quiet _⟩
    (fun os started _ H enc _ => lifted os started H enc)
end Go.Proofs.YbulkawpsFmt.lawS2397CJoin
