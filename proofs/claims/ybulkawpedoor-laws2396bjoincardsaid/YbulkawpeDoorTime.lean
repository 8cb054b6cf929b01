/- Contracts of package time: nsec, sec, addSec, Add, Equal, at times without a monotonic reading. -/
import Derived.Test.YbulkawpeDoorRows
import Derived.Test.YbulkawpeDoorBase
import Derived.WalkKit
import Derived.ProofKit
import Derived.OpenShut
import Derived.Outline
import Derived.Handy
import Derived.BigQuiet
import Derived.Deep.RegionHeld3
namespace Go.Proofs.YbulkawpeDoor
open Go.RowKit
set_option linter.unusedVariables false
set_option maxHeartbeats 400000 in
theorem nsec_any (b o : Nat) (N : Int) (w : World) (h : w.cell? ⟨b, o, none⟩ = some (.int .u64 N)) (h0 : 0 ≤ N) (h1 : N < 1000000000) :
    Calls Ybad.prog 9 #[.pointer (some ⟨b, o, none⟩)] w fun e w' => e = .returned (.int .i32 N) ∧ w' = w := by
  have hm := and_mask N h0 (by omega)
  go_enter Ybad.func9, Ybad.ntmps9
  go_wp2
  go_ret
  exact ⟨by simp, rfl⟩
set_option maxHeartbeats 400000 in
theorem sec_any (b o : Nat) (N S : Int) (w : World) (h : w.cell? ⟨b, o, none⟩ = some (.int .u64 N)) (h' : w.cell? ⟨b, o+1, none⟩ = some (.int .i64 S)) (h0 : 0 ≤ N) (h1 : N < 1000000000) :
    Calls Ybad.prog 14 #[.pointer (some ⟨b, o, none⟩)] w fun e w' => e = .returned (.int .i64 S) ∧ w' = w := by
  have hm := and_mono N h0 (by omega)
  go_enter Ybad.func14, Ybad.ntmps14
  go_wp2
  go_ret
  exact ⟨by simp, rfl⟩
set_option maxHeartbeats 400000 in
theorem addSec_any (b o : Nat) (N S d : Int) (w : World) (h : w.cell? ⟨b, o, none⟩ = some (.int .u64 N)) (h' : w.cell? ⟨b, o+1, none⟩ = some (.int .i64 S)) (hf : w.frozen? ⟨b, o+1, none⟩ = false) (h0 : 0 ≤ N) (h1 : N < 1000000000)
    (s0 : -4611686018427387904 ≤ S) (s1 : S ≤ 4611686018427387904) (d0 : -4611686018427387904 < d) (d1 : d < 4611686018427387904) :
    Calls Ybad.prog 10 #[.pointer (some ⟨b, o, none⟩), .int .i64 d] w fun e w' => e = .returned (.tuple #[]) ∧ w' = w.setCell ⟨b, o+1, none⟩ (.int .i64 (S + d)) := by
  have hm := and_mono N h0 (by omega)
  by_cases hd : 0 < d
  · have hq : S < S + d := by omega
    go_enter Ybad.func10, Ybad.ntmps10
    go_wp2
    go_end0
    exact ⟨rfl, rfl⟩
  · have hq : ¬ S < S + d := by omega
    go_enter Ybad.func10, Ybad.ntmps10
    go_wp2
    go_end0
    exact ⟨rfl, rfl⟩


theorem ret_time {a b c d : Int} {L : Value} (h1 : a = c) (h2 : b = d) : Ending.returned (.agg #[.int .u64 a, .int .i64 b, L]) = .returned (.agg #[.int .u64 c, .int .i64 d, L]) := by rw [h1, h2]
set_option maxHeartbeats 1000000 in
/-- t.Add(d), t at T nanoseconds from the zero time (no monotonic reading, UTC): T + d -/
theorem add_any (T N S d : Int) (hT0 : S * 1000000000 + N = T) (n0 : 0 ≤ N) (n1 : N < 1000000000) (w : World) (s0 : -20000000000 ≤ S) (s1 : S ≤ 20000000000) (d0 : -9223372036854775808 ≤ d) (d1 : d ≤ 9223372036854775807) :
    Calls Ybad.prog 4 #[.agg #[.int .u64 N, .int .i64 S, .pointer none], .int .i64 d] w fun e w' =>
      e = .returned (.agg #[.int .u64 ((T + d) % 1000000000), .int .i64 ((T + d) / 1000000000), .pointer none]) ∧ Below w.heap.size w w' := by
  have hT : Hid (S * 1000000000 + N = T) := hT0
  clear hT0
  have hm := andNot_mask N n0 (by omega)
  obtain ⟨q, r, hq, hr, hqr, r1, r2⟩ : ∃ q r, q = d.tdiv 1000000000 ∧ r = d.tmod 1000000000 ∧ Hid (d = q * 1000000000 + r) ∧ -1000000000 < r ∧ r < 1000000000 := by
    refine ⟨_, _, rfl, rfl, ?_, Int.lt_tmod_of_pos d (by decide), Int.tmod_lt_of_pos d (by decide)⟩
    show _ = _
    have := Int.mul_tdiv_add_tmod d 1000000000; omega
  have q1 : -10000000000 < q := by have := hqr.out; omega
  have q2 : q < 10000000000 := by have := hqr.out; omega
  have HQ : d.tdiv 1000000000 = q := hq.symm
  have HR : d.tmod 1000000000 = r := hr.symm
  clear hq hr
  by_cases c1 : 1000000000 ≤ N + r
  · have ho := or_zero (N + r - 1000000000) (by omega) (by omega)
    have hm2 := and_mono (N + r - 1000000000) (by omega) (by omega)
    go_enter Ybad.func4, Ybad.ntmps4
    go_wp2_with (first
      | (go_at_call 9; refine (nsec_any _ _ N _ ?_ n0 n1).mono ?_; (simp [go_sem]); rintro e w' ⟨rfl, rfl⟩)
      | (go_at_call 10; refine (addSec_any _ _ (N + r - 1000000000) S (q + 1) _ ?_ ?_ ?_ ?_ ?_ ?_ ?_ ?_ ?_).mono ?_; (simp [go_sem]); (simp [go_sem]); (simp [go_sem]); omega; omega; omega; omega; omega; omega; rintro e w' ⟨rfl, rfl⟩))
    refine bodyPost_ret (v := .agg #[.int .u64 (N + r - 1000000000), .int .i64 (S + (q + 1)), .pointer none]) (by simp [results, Ybad.results4, go_sem]) rfl ⟨?_, by go_grown⟩
    have := hT.out; have := hqr.out
    exact ret_time (by omega) (by omega)
  · by_cases c2 : N + r < 0
    · have ho := or_zero (N + r + 1000000000) (by omega) (by omega)
      have hm2 := and_mono (N + r + 1000000000) (by omega) (by omega)
      go_enter Ybad.func4, Ybad.ntmps4
      go_wp2_with (first
        | (go_at_call 9; refine (nsec_any _ _ N _ ?_ n0 n1).mono ?_; (simp [go_sem]); rintro e w' ⟨rfl, rfl⟩)
        | (go_at_call 10; refine (addSec_any _ _ (N + r + 1000000000) S (q - 1) _ ?_ ?_ ?_ ?_ ?_ ?_ ?_ ?_ ?_).mono ?_; (simp [go_sem]); (simp [go_sem]); (simp [go_sem]); omega; omega; omega; omega; omega; omega; rintro e w' ⟨rfl, rfl⟩))
      refine bodyPost_ret (v := .agg #[.int .u64 (N + r + 1000000000), .int .i64 (S + (q - 1)), .pointer none]) (by simp [results, Ybad.results4, go_sem]) rfl ⟨?_, by go_grown⟩
      have := hT.out; have := hqr.out
      exact ret_time (by omega) (by omega)
    · have ho := or_zero (N + r) (by omega) (by omega)
      have hm2 := and_mono (N + r) (by omega) (by omega)
      go_enter Ybad.func4, Ybad.ntmps4
      go_wp2_with (first
        | (go_at_call 9; refine (nsec_any _ _ N _ ?_ n0 n1).mono ?_; (simp [go_sem]); rintro e w' ⟨rfl, rfl⟩)
        | (go_at_call 10; refine (addSec_any _ _ (N + r) S q _ ?_ ?_ ?_ ?_ ?_ ?_ ?_ ?_ ?_).mono ?_; (simp [go_sem]); (simp [go_sem]); (simp [go_sem]); omega; omega; omega; omega; omega; omega; rintro e w' ⟨rfl, rfl⟩))
      refine bodyPost_ret (v := .agg #[.int .u64 (N + r), .int .i64 (S + q), .pointer none]) (by simp [results, Ybad.results4, go_sem]) rfl ⟨?_, by go_grown⟩
      have := hT.out; have := hqr.out
      exact ret_time (by omega) (by omega)
set_option maxHeartbeats 1000000 in
/-- t.Equal(u), both without a monotonic reading -/
theorem equal_any (N S : Int) (L L' : Option Addr) (n0 : 0 ≤ N) (n1 : N < 1000000000) (w : World) :
    Calls Ybad.prog 7 #[.agg #[.int .u64 N, .int .i64 S, .pointer L], .agg #[.int .u64 N, .int .i64 S, .pointer L']] w fun e w' =>
      e = .returned (.bool true) ∧ Below w.heap.size w w' := by
  have hm : bits .and .u64 (bits .and .u64 N N) 9223372036854775808 = 0 := by
    have : bits .and .u64 N N = N := by
      obtain ⟨a, rfl⟩ := Int.eq_ofNat_of_zero_le n0
      have h := bits_and_u64_nat a a (by omega) (by omega)
      rw [Nat.and_self] at h
      exact h
    rw [this]; exact and_mono N n0 (by omega)
  go_enter Ybad.func7, Ybad.ntmps7
  go_wp2_with (first
      | (go_at_call 9; refine (nsec_any _ _ N _ ?_ n0 n1).mono ?_; (simp [go_sem]); rintro e w' ⟨rfl, rfl⟩)
      | (go_at_call 14; refine (sec_any _ _ N S _ ?_ ?_ n0 n1).mono ?_; (simp [go_sem]); (simp [go_sem]); rintro e w' ⟨rfl, rfl⟩))
  go_ret
  exact ⟨by simp, by go_grown⟩
end Go.Proofs.YbulkawpeDoor
