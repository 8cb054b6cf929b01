/-
  sim.LawS2396BJoin: the row's statement (the guide's frame for a law over a slice of integers, proof-skeleton.mjs, with the listed variable as in the worked MapyProofs), and the tied card.
-/
import Derived.Test.YbulkawpeDoorRows
import Derived.Test.YbulkawpeDoorTie
import Derived.Test.YbulkawpeDoorCards
import Derived.Test.YbulkawpeDoorLaw
import Derived.WalkKit
import Derived.ProofKit
import Derived.LaidMore
import Derived.OpenShut
import Derived.Stop.Joined
import Derived.ChangeOld
import Derived.Below
import Derived.SevenTiedAt
import Derived.Lay
namespace Go.Proofs.YbulkawpeDoor.lawS2396BJoin
open Go.ChangeShapes Go.WideShapes Go.ChangeAt Go.WideMaps Go.WideElems Go.RowKit
set_option linter.unusedVariables false

theorem own : ownKnob Ybad.prog.godebug = none := by kernel_rfl
theorem laidOut : laidOutB Ybad.prog = true := by kernel_rfl
theorem gZ : Ybad.prog.globalNamed "net/netip.z6noz" = some 1 := by kernel_rfl
theorem tZ : (Ybad.prog.globals[1]?).map (·.type) = some 65 := by kernel_rfl

/-- WHAT THE WALK IS TOLD OF A SLICE OF INTEGERS THAT CAME IN -/
def IsRow (k : IntKind) (w : World) (a : Option Addr) (len cap : Nat) (zs : List Int) : Prop :=
  (a = none ∧ len = 0 ∧ cap = 0 ∧ zs = []) ∨
  ∃ x, a = some x ∧ len ≤ cap ∧ cap ≤ maxLen ∧ zs.length = cap ∧ (∀ i, i < zs.length → w.cell? (x.add i) = some (.int k (zs.getD i 0))) ∧ ∀ n ∈ zs, (Lit.int k n).wf = true

theorem walk (a0 : Int) (a1 : Int) (a2 : Option Addr) (len2 cap2 : Nat) (z2 : List Int) (zv : Option Addr) (w : World) (w0 : (Lit.int .u8 a0).wf = true) (w1 : (Lit.int .i64 a1).wf = true) (w2 : IsRow .i64 w a2 len2 cap2 z2)
    (hz : w.cell? ⟨1, 0, none⟩ = some (.pointer zv)) :
    Calls Ybad.prog 3 #[.int .u8 a0, .int .i64 a1, .slice a2 len2 cap2] w fun e w' => e = .returned (.bool true) ∧ Below w.heap.size w w' := by
  have hb0 := bounds_u8 w0
  have hb1 := bounds_i64 w1
  rcases w2 with ⟨rfl, rfl, rfl, rfl⟩ | ⟨x, rfl, hlc, hcm, hzl, hcell, hwf⟩
  · exact law_small a0 a1 0 0 0 0 none [] zv w (by omega) hb0.1 hb0.2 hb1.1 hb1.2 hz rfl (Or.inl rfl) (fun j hj => by omega)
  · unfold maxLen at hcm
    by_cases hbig : 1024 < len2
    · exact law_big a0 a1 len2 cap2 (some x) w hbig (by omega)
    · by_cases h0 : len2 = 0
      · subst h0
        exact law_small a0 a1 0 cap2 0 0 (some x) [] zv w (by omega) hb0.1 hb0.2 hb1.1 hb1.2 hz rfl (Or.inl rfl) (fun j hj => by omega)
      · obtain ⟨b, off, rfl, hc⟩ := ints_at hcell (by omega)
        refine law_small a0 a1 len2 cap2 b off (some ⟨b, off, none⟩) (z2.take len2) zv w (by omega) hb0.1 hb0.2 hb1.1 hb1.2 hz (by simp; omega) (Or.inr rfl) (fun j hj => ?_)
        rw [hc j (by omega)]
        simp [List.getD, hj]

/-- WHAT THE CONDITION GIVES THE WALK: the variable's cell holds a pointer. -/
theorem of_laid {W : World} (h : laidMetH Ybad.prog Rows.lawS2396BJoinRow.laid W) : ∃ zv, W.cell? ⟨1, 0, none⟩ = some (.pointer zv) := by
  rw [MakeChecks.laidMetH_plain _ _ _ (by kernel_rfl)] at h
  obtain ⟨ps, ⟨g0, t0, cs0, f0, p0, q0, hg0, ht0, hv0, hd0, _⟩, _, _⟩ := h
  obtain rfl := Option.some.inj (gZ.symm.trans hg0)
  obtain rfl := Option.some.inj (tZ.symm.trans ht0)
  have c65 : Ybad.prog.cellsOf 65 = 1 := by kernel_rfl
  have c63 : Ybad.prog.cellsOf 63 = 1 := by kernel_rfl
  obtain ⟨y0, n, hx, hl, hy⟩ := trod_struct1 Ybad.underlying65 hd0
  rw [c65] at hl
  have hcell := World.var?_cell hg0 hv0 0
  obtain ⟨l⟩ := cs0
  obtain ⟨v, rfl⟩ : ∃ v, l = [v] := List.length_eq_one_iff.1 hl
  have hv : W.cell? ⟨1, 0, none⟩ = some v := by simpa using hcell
  refine (?_ : ∃ zv, v = .pointer zv).elim fun zv hz => ⟨zv, by rw [hv, hz]⟩
  simp only [c63, List.drop_zero, List.take_succ_cons, List.take_zero] at hy
  rcases DataW.trod_pointer Ybad.underlying63 hy with ⟨hc, _⟩ | ⟨a, _, _, _, _, hc, _⟩
  · exact ⟨_, by simpa using hc⟩
  · exact ⟨_, by simpa using hc⟩

set_option maxRecDepth 100000 in
theorem lifted (os : Os) (started : os.Started) (H : Type) (enc : TypeId × Value → H) :
    ReturnsInHanded {} Ybad.checked os 3 .any (fun w args => (Rows.lawS2396BJoinSpec.pre enc Ybad.prog Ybad.f3 [] false w args ∧ laidMetH Ybad.prog Rows.lawS2396BJoinRow.laid w) ∧ sizedMet enc Ybad.prog Ybad.f3 (OpenSpec.ofChange Rows.lawS2396BJoinSpec) false w args)
      (Rows.lawS2396BJoinSpec.post enc Ybad.prog Ybad.f3 false true false false) := by
  refine returnsInHanded_of_change_and (C := Ybad.checked) (X := fun w _ => laidMetH Ybad.prog Rows.lawS2396BJoinRow.laid w) (fun _ _ _ hh h => h.of_heap hh) own started (by kernel_rfl) Ybad.func3
    (ChangeSpec.witness_shaped (enc := enc) (C := Ybad.checked) (os := os) (X := fun w _ => laidMetH Ybad.prog Rows.lawS2396BJoinRow.laid w) false (World.laidAll Ybad.prog os Rows.lawS2396BJoinRow.laid) #[.int .u8 0, .int .i64 0, .slice none 0 0] 8 (World.laidAll_os _ _ _)
      (World.shaped_of_ZipB (by kernel_rfl) (by kernel_rfl)) (by kernel_rfl) (by kernel_rfl) (by kernel_rfl)
      (by rw [MakeChecks.laidMetH_plain _ _ _ (by kernel_rfl)]; exact laidMet_laidAll _ (by kernel_rfl) (by kernel_rfl))) ?_
  intro W base args ds gs before hval0 hW _ _ hL _
  have hval : ∀ (j : Nat) t v, Ybad.f3.params[j]? = some t → args[j]? = some v → Value.okWide Ybad.prog W .any base t v := hval0
  have hW' := hW
  obtain ⟨p, q, hA0, hV, rfl, hfz, hnd⟩ := hW
  have hA : DataW.TrodAll enc Ybad.prog W 0 (fun _ => true) true Ybad.f3.params.toList args.toList ds p := hA0
  rw [Ybad.params3] at hA hval
  obtain ⟨v0, vs0, d0, ds0, p0, q0, hargs, rfl, rfl, h0, r0⟩ := trodAll_cons hA
  obtain ⟨v1, vs1, d1, ds1, p1, q1, rfl, rfl, rfl, h1, r1⟩ := trodAll_cons r0
  obtain ⟨v2, vs2, d2, ds2, p2, q2, rfl, rfl, rfl, h2, r2⟩ := trodAll_cons r1
  obtain ⟨rfl, rfl, rfl⟩ := trodAll_nil r2
  obtain rfl : args = #[v0, v1, v2] := by cases args; simp_all
  obtain ⟨rfl, rfl⟩ := trodVars_none hV
  obtain ⟨a0, rfl, rfl, rfl, w0⟩ := open_int Ybad.underlying5 (hval 0 5 v0 rfl rfl) h0
  obtain ⟨a1, rfl, rfl, rfl, w1⟩ := open_int Ybad.underlying2 (hval 1 2 v1 rfl rfl) h1
  obtain ⟨a2, len2, cap2, rfl⟩ := okWide_slice Ybad.underlying22 (hval 2 22 v2 rfl rfl)
  have k2 := h2
  have lt2 : ∀ x ∈ p2, x.block < W.heap.size := by obtain ⟨m, hm⟩ := k2; exact DataW.trod_lt m _ _ _ hm
  obtain ⟨z2, w2⟩ : ∃ zs, IsRow .i64 W a2 len2 cap2 zs := by
    obtain ⟨fuel, hf⟩ := h2
    rcases open_ints Ybad.underlying22 Ybad.underlying2 (by kernel_rfl) hf with ⟨hcs, _⟩ | ⟨x, l, c, zs, hcs, _, hl, hm, hz, _, hcell, hwz⟩
    · simp [Value.cells] at hcs
      obtain ⟨rfl, rfl, rfl⟩ := hcs
      exact ⟨[], .inl ⟨rfl, rfl, rfl, rfl⟩⟩
    · simp [Value.cells] at hcs
      obtain ⟨rfl, rfl, rfl⟩ := hcs
      exact ⟨zs, .inr ⟨_, rfl, hl, hm, by simpa using hz, hcell, hwz⟩⟩
  clear hA0 hval0
  obtain ⟨zv, hzv⟩ := of_laid hL
  refine (walk a0 a1 a2 len2 cap2 z2 zv W w0 w1 w2 hzv).mono fun e W' ⟨he, bel⟩ => ?_
  subst he
  exact ⟨_, rfl, _, _, _, [], _, [], hW', trodAll_mk1 (shut_bool Ybad.underlying4 _), (trodAll_cons_mk (shut_int Ybad.underlying5 w0) (trodAll_cons_mk (shut_int Ybad.underlying2 w1) (trodAll_cons_mk (Below.trod laidOut (by kernel_rfl) (of_decide_eq_true (by kernel_rfl)) k2 bel lt2) trodAll_mk0))), rfl, bel.frame _, fun h => by cases h⟩

theorem over : Rows.LawS2396BJoinSaid :=
  OpenClaim.holds_of_wide 3 Ybad.f3 rfl rfl rfl rfl rfl rfl rfl ⟨rfl, rfl, rfl, rfl, rfl⟩ rfl rfl rfl rfl rfl (by kernel_rfl) Ybad.func3 (by kernel_rfl)
    (of_decide_eq_true (by kernel_rfl)) (by unfold Func.isWrapper; first | (rw [if_pos (by decide +kernel)]; kernel_rfl) | (rw [if_neg (by decide +kernel)]; exact ⟨rfl, rfl⟩))
    (fun os started H enc _ => lifted os started H enc)

theorem proved : Rows.LawS2396BJoinCardSaid :=
  Claim7.holds_tied_plain_at .later [] [.called] true (true, "43c1088b4e1ac583072e6a98986a7f971dfa03a1d3b827059e74bf8046dc8238") false
    over (fun _ h => by cases h) (by kernel_rfl) (fun _ h => by cases h) lawS2396BJoin_row_tie rfl ⟨rfl, rfl⟩ (by kernel_rfl) rfl
    (fun f fn hf hfn => by
      obtain rfl : f = 3 := Option.some.inj ((show Ybad.prog.funcNamed Ybad.f3.name = some 3 by kernel_rfl).symm.trans hf) |>.symm
      obtain rfl : fn = Ybad.f3 := (Option.some.inj (Ybad.func3.symm.trans hfn)).symm
      exact ⟨by kernel_rfl, fun j t ht => by
        rw [Ybad.params3] at ht
        have hm : t ∈ [5, 2, 22] := by simpa using Array.mem_of_getElem? ht
        have hall : ([5, 2, 22].all fun u => !Ybad.prog.wantsStandIn u) = true := by kernel_rfl
        exact (show Ybad.prog.wantsStandIn t = false by simpa using List.all_eq_true.1 hall t hm)⟩)
    (by kernel_rfl)
end Go.Proofs.YbulkawpeDoor.lawS2396BJoin
