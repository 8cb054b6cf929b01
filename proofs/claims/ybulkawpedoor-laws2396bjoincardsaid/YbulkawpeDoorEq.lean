import Derived.Test.YbulkawpeDoorRows
import Derived.Test.YbulkawpeDoorAs16
import Derived.LaidEqlPtr
/- Laws on '!=': two pointers that are one; two arrays of sixteen bytes that are one. -/
namespace Go.Proofs.YbulkawpeDoor
theorem run_neq_ptr_same {P : Program} (w : World) {tp te : TypeId} {j : TypeInfo} (a : Addr) (hp : P.underlying tp = some (.pointer te)) (hte : P.info? te = some j) :
    (binOp .neq tp (.pointer (some a)) (.pointer (some a))).run P w = .ok (.bool false) w := by
  have h : ∀ d : Nat, (Op.equalIn (d + 1) tp (.pointer (some a)) (.pointer (some a))).run P w = .ok true w := fun d => by
    simp [Op.equalIn, run_underlying hp, sizeOf, typeInfo, hte, run_sameAddr_same]
  simp only [binOp]
  simp [Op.equal, Op.maxDepth, h 9999]
theorem info38 : ∃ j, Ybad.prog.info? 38 = some j := by
  have h : (Ybad.prog.info? 38).isSome = true := by kernel_rfl
  exact Option.isSome_iff_exists.1 h
theorem neq31 (w : World) (a : Addr) : (binOp .neq 31 (.pointer (some a)) (.pointer (some a))).run Ybad.prog w = .ok (.bool false) w := by
  obtain ⟨j, hj⟩ := info38
  exact run_neq_ptr_same w a Ybad.underlying31 hj
theorem part5 (B : Nat → Int) (i : Nat) (hi : i < 16) (w : World) : (part 5 (adCells B) i).run Ybad.prog w = .ok (.int .u8 (B i)) w := by
  have ha : ∀ w, (isAgg 5).run Ybad.prog w = .ok false w := fun w => by kernel_rfl
  have hc : (adCells B)[i]? = some (.int .u8 (B i)) := by
    have : i = 0 ∨ i = 1 ∨ i = 2 ∨ i = 3 ∨ i = 4 ∨ i = 5 ∨ i = 6 ∨ i = 7 ∨ i = 8 ∨ i = 9 ∨ i = 10 ∨ i = 11 ∨ i = 12 ∨ i = 13 ∨ i = 14 ∨ i = 15 := by omega
    rcases this with rfl | rfl | rfl | rfl | rfl | rfl | rfl | rfl | rfl | rfl | rfl | rfl | rfl | rfl | rfl | rfl <;> rfl
  simp [part, ha, hc]
theorem eq5 (d : Nat) (a : Int) (w : World) : (Op.equalIn (d + 1) 5 (.int .u8 a) (.int .u8 a)).run Ybad.prog w = .ok true w := by
  rw [run_equalIn_int w d 5 .u8 .u8 a a Ybad.underlying5]; simp
theorem eq51 (w : World) (d : Nat) (B : Nat → Int) : (Op.equalIn (d + 2) 51 (.agg (adCells B)) (.agg (adCells B))).run Ybad.prog w = .ok true w := by
  have hs : ∀ w, (sizeOf 5).run Ybad.prog w = .ok 1 w := fun w => by kernel_rfl
  have loop : ∀ (l : List Nat), (∀ i ∈ l, i < 16) → (forIn (m := Sem) l ((none : Option Bool), ()) fun i r => do
      let a ← part 5 (adCells B) (i * 1)
      let b ← part 5 (adCells B) (i * 1)
      let x ← Op.equalIn (d + 1) 5 a b
      if (!x) = true then pure (.done (some false, ())) else pure (.yield (none, ()))).run Ybad.prog w = .ok (none, ()) w := by
    intro l
    induction l with
    | nil => intro _; simp
    | cons i l ih =>
      intro h
      have hi := part5 B i (h i (by simp)) w
      have he := eq5 d (B i) w
      simp only [List.forIn_cons, Sem.run_bind, Nat.mul_one, hi, Result.andThen_ok, he, Bool.not_true, Bool.false_eq_true, if_false, Sem.run_pure]
      have := ih (fun j hj => h j (by simp [hj]))
      simpa only [Nat.mul_one] using this
  rw [Op.equalIn]
  simp only [Sem.run_bind, run_underlying Ybad.underlying51, Result.andThen_ok, hs]
  rw [Std.Legacy.Range.forIn_eq_forIn_range', loop _ (by intro i hi; simp [Std.Legacy.Range.size] at hi; omega)]
  rfl
theorem neq51 (w : World) (B : Nat → Int) : (binOp .neq 51 (.agg (adCells B)) (.agg (adCells B))).run Ybad.prog w = .ok (.bool false) w := by
  rw [run_neq_struct, show (10000 : Nat) = 9998 + 2 from rfl, eq51 w 9998 B]
  rfl
end Go.Proofs.YbulkawpeDoor
