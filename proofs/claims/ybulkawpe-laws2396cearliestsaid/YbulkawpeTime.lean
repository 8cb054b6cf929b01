/- Contracts of package time: nsec, sec, addSec, Add, Equal, Before, Compare, IsZero, at times without a monotonic reading; zzs2396cat. -/
import Derived.Test.YbulkawpeRows
import Derived.Test.YbulkawpeBase
import Derived.WalkKit
import Derived.ProofKit
import Derived.OpenShut
import Derived.Outline
import Derived.Handy
import Derived.BigQuiet
namespace Go.Proofs.Ybulkawpe
open Go.RowKit
set_option linter.unusedVariables false
theorem hid {p : Prop} (h : p) : Hid p := h
set_option maxHeartbeats 400000 in
theorem nsec_any (b o : Nat) (N : Int) (w : World) (h : w.cell? ⟨b, o, none⟩ = some (.int .u64 N)) (h0 : 0 ≤ N) (h1 : N < 1000000000) :
    Calls Yba.prog 12 #[.pointer (some ⟨b, o, none⟩)] w fun e w' => e = .returned (.int .i32 N) ∧ w' = w := by
  have hm := and_mask N h0 (by omega)
  go_enter Yba.func12, Yba.ntmps12
  go_wp2
  go_ret
  exact ⟨by simp, rfl⟩
set_option maxHeartbeats 400000 in
theorem sec_any (b o : Nat) (N S : Int) (w : World) (h : w.cell? ⟨b, o, none⟩ = some (.int .u64 N)) (h' : w.cell? ⟨b, o+1, none⟩ = some (.int .i64 S)) (h0 : 0 ≤ N) (h1 : N < 1000000000) :
    Calls Yba.prog 18 #[.pointer (some ⟨b, o, none⟩)] w fun e w' => e = .returned (.int .i64 S) ∧ w' = w := by
  have hm := and_mono N h0 (by omega)
  go_enter Yba.func18, Yba.ntmps18
  go_wp2
  go_ret
  exact ⟨by simp, rfl⟩
set_option maxHeartbeats 400000 in
theorem addSec_any (b o : Nat) (N S d : Int) (w : World) (h : w.cell? ⟨b, o, none⟩ = some (.int .u64 N)) (h' : w.cell? ⟨b, o+1, none⟩ = some (.int .i64 S)) (hf : w.frozen? ⟨b, o+1, none⟩ = false) (h0 : 0 ≤ N) (h1 : N < 1000000000)
    (s0 : -4611686018427387904 ≤ S) (s1 : S ≤ 4611686018427387904) (d0 : -4611686018427387904 < d) (d1 : d < 4611686018427387904) :
    Calls Yba.prog 13 #[.pointer (some ⟨b, o, none⟩), .int .i64 d] w fun e w' => e = .returned (.tuple #[]) ∧ w' = w.setCell ⟨b, o+1, none⟩ (.int .i64 (S + d)) := by
  have hm := and_mono N h0 (by omega)
  by_cases hd : 0 < d
  · have hq : S < S + d := by omega
    go_enter Yba.func13, Yba.ntmps13
    go_wp2
    go_end0
    exact ⟨rfl, rfl⟩
  · have hq : ¬ S < S + d := by omega
    go_enter Yba.func13, Yba.ntmps13
    go_wp2
    go_end0
    exact ⟨rfl, rfl⟩


theorem ret_time {a b c d : Int} {L : Value} (h1 : a = c) (h2 : b = d) : Ending.returned (.agg #[.int .u64 a, .int .i64 b, L]) = .returned (.agg #[.int .u64 c, .int .i64 d, L]) := by rw [h1, h2]
set_option maxHeartbeats 1000000 in
/-- t.Add(d), t at T nanoseconds from the zero time (no monotonic reading, UTC): T + d -/
theorem add_any (T N S d : Int) (hT0 : S * 1000000000 + N = T) (n0 : 0 ≤ N) (n1 : N < 1000000000) (w : World) (s0 : -20000000000 ≤ S) (s1 : S ≤ 20000000000) (d0 : -9223372036854775808 ≤ d) (d1 : d ≤ 9223372036854775807) :
    Calls Yba.prog 7 #[.agg #[.int .u64 N, .int .i64 S, .pointer none], .int .i64 d] w fun e w' =>
      e = .returned (.agg #[.int .u64 ((T + d) % 1000000000), .int .i64 ((T + d) / 1000000000), .pointer none]) ∧ Below w.heap.size w w' := by
  have hT : Hid (S * 1000000000 + N = T) := hT0
  clear hT0
  have hm := andNot_mask N n0 (by omega)
  obtain ⟨q, r, hq, hr, hqr, r1, r2⟩ : ∃ q r, q = d.tdiv 1000000000 ∧ r = d.tmod 1000000000 ∧ Hid (d = q * 1000000000 + r) ∧ -1000000000 < r ∧ r < 1000000000 := by
    refine ⟨_, _, rfl, rfl, ?_, Int.lt_tmod_of_pos d (by decide), Int.tmod_lt_of_pos d (by decide)⟩
    show _ = _
    have := Int.mul_tdiv_add_tmod d 1000000000; omega
  have q1 : -10000000000 < q := by have := hqr.out; omega
  have q2 : q < 10000000000 := by have := hqr.out; omega
  have HQ : d.tdiv 1000000000 = q := hq.symm
  have HR : d.tmod 1000000000 = r := hr.symm
  clear hq hr
  by_cases c1 : 1000000000 ≤ N + r
  · have ho := or_zero (N + r - 1000000000) (by omega) (by omega)
    have hm2 := and_mono (N + r - 1000000000) (by omega) (by omega)
    go_enter Yba.func7, Yba.ntmps7
    go_wp2_with (first
      | (go_at_call 12; refine (nsec_any _ _ N _ ?_ n0 n1).mono ?_; (simp [go_sem]); rintro e w' ⟨rfl, rfl⟩)
      | (go_at_call 13; refine (addSec_any _ _ (N + r - 1000000000) S (q + 1) _ ?_ ?_ ?_ ?_ ?_ ?_ ?_ ?_ ?_).mono ?_; (simp [go_sem]); (simp [go_sem]); (simp [go_sem]); omega; omega; omega; omega; omega; omega; rintro e w' ⟨rfl, rfl⟩))
    refine bodyPost_ret (v := .agg #[.int .u64 (N + r - 1000000000), .int .i64 (S + (q + 1)), .pointer none]) (by simp [results, Yba.results7, go_sem]) rfl ⟨?_, by go_grown⟩
    have := hT.out; have := hqr.out
    exact ret_time (by omega) (by omega)
  · by_cases c2 : N + r < 0
    · have ho := or_zero (N + r + 1000000000) (by omega) (by omega)
      have hm2 := and_mono (N + r + 1000000000) (by omega) (by omega)
      go_enter Yba.func7, Yba.ntmps7
      go_wp2_with (first
        | (go_at_call 12; refine (nsec_any _ _ N _ ?_ n0 n1).mono ?_; (simp [go_sem]); rintro e w' ⟨rfl, rfl⟩)
        | (go_at_call 13; refine (addSec_any _ _ (N + r + 1000000000) S (q - 1) _ ?_ ?_ ?_ ?_ ?_ ?_ ?_ ?_ ?_).mono ?_; (simp [go_sem]); (simp [go_sem]); (simp [go_sem]); omega; omega; omega; omega; omega; omega; rintro e w' ⟨rfl, rfl⟩))
      refine bodyPost_ret (v := .agg #[.int .u64 (N + r + 1000000000), .int .i64 (S + (q - 1)), .pointer none]) (by simp [results, Yba.results7, go_sem]) rfl ⟨?_, by go_grown⟩
      have := hT.out; have := hqr.out
      exact ret_time (by omega) (by omega)
    · have ho := or_zero (N + r) (by omega) (by omega)
      have hm2 := and_mono (N + r) (by omega) (by omega)
      go_enter Yba.func7, Yba.ntmps7
      go_wp2_with (first
        | (go_at_call 12; refine (nsec_any _ _ N _ ?_ n0 n1).mono ?_; (simp [go_sem]); rintro e w' ⟨rfl, rfl⟩)
        | (go_at_call 13; refine (addSec_any _ _ (N + r) S q _ ?_ ?_ ?_ ?_ ?_ ?_ ?_ ?_ ?_).mono ?_; (simp [go_sem]); (simp [go_sem]); (simp [go_sem]); omega; omega; omega; omega; omega; omega; rintro e w' ⟨rfl, rfl⟩))
      refine bodyPost_ret (v := .agg #[.int .u64 (N + r), .int .i64 (S + q), .pointer none]) (by simp [results, Yba.results7, go_sem]) rfl ⟨?_, by go_grown⟩
      have := hT.out; have := hqr.out
      exact ret_time (by omega) (by omega)

/-- a time T nanoseconds from the zero time: its two numbers -/
def tN (T : Int) : Int := T % 1000000000
def tS (T : Int) : Int := T / 1000000000
theorem tN_in (T : Int) : 0 ≤ tN T ∧ tN T < 1000000000 := by unfold tN; omega
theorem tNS (T : Int) : tS T * 1000000000 + tN T = T := by unfold tN tS; omega
theorem tN_zero : tN 0 = 0 := by decide
theorem tS_zero : tS 0 = 0 := by decide
/-- within the span of two int64 -/
def Mild (T : Int) : Prop := -18446744073709551616 ≤ T ∧ T ≤ 18446744073709551616
theorem tS_in {T : Int} (h : Mild T) : -20000000000 ≤ tS T ∧ tS T ≤ 20000000000 := by unfold Mild at h; unfold tS; omega
theorem add_T (T d : Int) (hT : Mild T) (w : World) (d0 : -9223372036854775808 ≤ d) (d1 : d ≤ 9223372036854775807) :
    Calls Yba.prog 7 #[.agg #[.int .u64 (tN T), .int .i64 (tS T), .pointer none], .int .i64 d] w fun e w' =>
      e = .returned (.agg #[.int .u64 (tN (T + d)), .int .i64 (tS (T + d)), .pointer none]) ∧ Below w.heap.size w w' :=
  add_any T (tN T) (tS T) d (tNS T) (tN_in T).1 (tN_in T).2 w (tS_in hT).1 (tS_in hT).2 d0 d1
theorem add_0 (d : Int) (w : World) (d0 : -9223372036854775808 ≤ d) (d1 : d ≤ 9223372036854775807) :
    Calls Yba.prog 7 #[.agg #[.int .u64 0, .int .i64 0, .pointer none], .int .i64 d] w fun e w' =>
      e = .returned (.agg #[.int .u64 (tN d), .int .i64 (tS d), .pointer none]) ∧ Below w.heap.size w w' := by
  have h := add_any 0 0 0 d (by omega) (by omega) (by omega) w (by omega) (by omega) d0 d1
  rw [Int.zero_add] at h
  exact h
set_option maxHeartbeats 1000000 in
theorem at_any (d : Int) (w : World) (d0 : -9223372036854775808 ≤ d) (d1 : d ≤ 9223372036854775807) :
    Calls Yba.prog 5 #[.int .i64 d] w fun e w' => e = .returned (.agg #[.int .u64 (tN d), .int .i64 (tS d), .pointer none]) ∧ Below w.heap.size w w' := by
  go_enter Yba.func5, Yba.ntmps5
  go_wp2_with fail
  refine (add_0 d _ d0 d1).mono ?_
  rintro e w1 ⟨rfl, hb⟩
  have hB : Blk w1 w.heap.size #[.int .u64 0, .int .i64 0, .pointer none] 36 := Blk.below (Blk.new w _ 36) hb (by simp)
  have hlt := hB.lt
  obtain ⟨k0, k1, k2, kf⟩ := hB.cells3
  have hb0 : Below w.heap.size w w1 := ((Below.refl _ w).alloc (Nat.le_refl _) _).trans (hb.mono (by simp))
  clear hb
  go_wp2
  refine bodyPost_ret (v := .agg #[.int .u64 (tN d), .int .i64 (tS d), .pointer none]) (by simp [results, Yba.results5, go_sem, k0, k1, k2]) rfl ⟨rfl, ?_⟩
  go_grown
theorem and_self_u64 (N : Int) (n0 : 0 ≤ N) (n1 : N < 1000000000) (M : Int) (m0 : 0 ≤ M) (m1 : M < 1000000000) : bits .and .u64 (bits .and .u64 N M) 9223372036854775808 = 0 := by
  obtain ⟨a, rfl⟩ := Int.eq_ofNat_of_zero_le n0
  obtain ⟨b, rfl⟩ := Int.eq_ofNat_of_zero_le m0
  have h := bits_and_u64_nat a b (by omega) (by omega)
  have hle : a &&& b ≤ a := Nat.and_le_left
  have h2 := and_mono ((a &&& b : Nat) : Int) (by omega) (by omega)
  rw [← h] at h2
  exact h2
set_option maxHeartbeats 1000000 in
theorem isZero_T (T : Int) (w : World) :
    Calls Yba.prog 6 #[.agg #[.int .u64 (tN T), .int .i64 (tS T), .pointer none]] w fun e w' => e = .returned (.bool (decide (T = 0))) ∧ Below w.heap.size w w' := by
  have hNS := tNS T
  have hn := tN_in T
  by_cases h1 : tN T = 0
  · by_cases h2 : tS T = 0
    · have h : T = 0 := by omega
      subst h
      rw [tN_zero, tS_zero]
      go_enter Yba.func6, Yba.ntmps6
      go_wp2
      go_ret
      exact ⟨rfl, by go_grown⟩
    · have h : decide (T = 0) = false := by simp; omega
      rw [h, h1]
      have g : (tS T == 0) = false := by simpa using h2
      clear h hNS h1
      go_enter Yba.func6, Yba.ntmps6
      go_wp2
      go_ret
      exact ⟨by simp, by go_grown⟩
  · have h : decide (T = 0) = false := by simp; omega
    rw [h]
    have g : (tN T == 0) = false := by simpa using h1
    clear h hNS
    go_enter Yba.func6, Yba.ntmps6
    go_wp2
    go_ret
    exact ⟨by simp, by go_grown⟩
set_option maxHeartbeats 1000000 in
theorem before_T (T U : Int) (w : World) :
    Calls Yba.prog 9 #[.agg #[.int .u64 (tN T), .int .i64 (tS T), .pointer none], .agg #[.int .u64 (tN U), .int .i64 (tS U), .pointer none]] w fun e w' =>
      e = .returned (.bool (decide (T < U))) ∧ Below w.heap.size w w' := by
  have hT := tNS T
  have hU := tNS U
  have hn := tN_in T
  have hm := tN_in U
  have n0 := hn.1
  have n1 := hn.2
  have m0 := hm.1
  have m1 := hm.2
  have ha := and_self_u64 (tN T) n0 n1 (tN U) m0 m1
  have e1 := and_mono (tN T) n0 (by omega)
  have e2 := and_mono (tN U) m0 (by omega)
  have e3 := and_mask (tN T) n0 (by omega)
  have e4 := and_mask (tN U) m0 (by omega)
  clear hn hm
  have HT := hid hT
  have HU := hid hU
  clear hT hU
  by_cases c1 : tS T < tS U
  · have h : decide (T < U) = true := by have := HT.out; have := HU.out; simp; omega
    rw [h]
    go_enter Yba.func9, Yba.ntmps9
    go_wp2
    go_ret
    exact ⟨by simp, by go_grown⟩
  · by_cases c2 : tS T = tS U
    · have h : decide (T < U) = decide (tN T < tN U) := by have := HT.out; have := HU.out; apply decide_eq_decide.2; omega
      rw [h]
      have c3 : (tS U == tS U) = true := by simp
      rw [c2]
      clear c1 h
      go_enter Yba.func9, Yba.ntmps9
      go_wp2
      go_ret
      exact ⟨by simp, by go_grown⟩
    · have h : decide (T < U) = false := by have := HT.out; have := HU.out; simp; omega
      rw [h]
      have c3 : (tS T == tS U) = false := by simpa using c2
      clear h
      go_enter Yba.func9, Yba.ntmps9
      go_wp2
      go_ret
      exact ⟨by simp, by go_grown⟩
set_option maxHeartbeats 1000000 in
theorem equal_T (T U : Int) (w : World) :
    Calls Yba.prog 10 #[.agg #[.int .u64 (tN T), .int .i64 (tS T), .pointer none], .agg #[.int .u64 (tN U), .int .i64 (tS U), .pointer none]] w fun e w' =>
      e = .returned (.bool (decide (T = U))) ∧ Below w.heap.size w w' := by
  have hT := tNS T
  have hU := tNS U
  have hn := tN_in T
  have hm := tN_in U
  have n0 := hn.1
  have n1 := hn.2
  have m0 := hm.1
  have m1 := hm.2
  have ha := and_self_u64 (tN T) n0 n1 (tN U) m0 m1
  have e1 := and_mono (tN T) n0 (by omega)
  have e2 := and_mono (tN U) m0 (by omega)
  have e3 := and_mask (tN T) n0 (by omega)
  have e4 := and_mask (tN U) m0 (by omega)
  clear hn hm
  have HT := hid hT
  have HU := hid hU
  clear hT hU
  by_cases c2 : tS T = tS U
  · have h : decide (T = U) = decide (tN T = tN U) := by have := HT.out; have := HU.out; apply decide_eq_decide.2; omega
    rw [h]
    have c3 : (tS U == tS U) = true := by simp
    rw [c2]
    clear h
    go_enter Yba.func10, Yba.ntmps10
    go_wp2
    go_ret
    refine ⟨?_, by go_grown⟩
    by_cases hd : tN T = tN U <;> simp [hd]
  · have h : decide (T = U) = false := by have := HT.out; have := HU.out; simp; omega
    rw [h]
    have c3 : (tS T == tS U) = false := by simpa using c2
    clear h
    go_enter Yba.func10, Yba.ntmps10
    go_wp2
    go_ret
    exact ⟨by simp, by go_grown⟩
def cmpI (T U : Int) : Int := if T < U then -1 else if U < T then 1 else 0
set_option maxHeartbeats 1000000 in
theorem compare_T (T U : Int) (w : World) :
    Calls Yba.prog 21 #[.agg #[.int .u64 (tN T), .int .i64 (tS T), .pointer none], .agg #[.int .u64 (tN U), .int .i64 (tS U), .pointer none]] w fun e w' =>
      e = .returned (.int .i64 (cmpI T U)) ∧ Below w.heap.size w w' := by
  have hT := tNS T
  have hU := tNS U
  have hn := tN_in T
  have hm := tN_in U
  have n0 := hn.1
  have n1 := hn.2
  have m0 := hm.1
  have m1 := hm.2
  have ha := and_self_u64 (tN T) n0 n1 (tN U) m0 m1
  have e1 := and_mono (tN T) n0 (by omega)
  have e2 := and_mono (tN U) m0 (by omega)
  have e3 := and_mask (tN T) n0 (by omega)
  have e4 := and_mask (tN U) m0 (by omega)
  clear hn hm
  have HT := hid hT
  have HU := hid hU
  clear hT hU
  by_cases c2 : tS T = tS U
  · have c3 : (tS U == tS U) = true := by simp
    rw [c2]
    by_cases c4 : tN T < tN U
    · have h : cmpI T U = -1 := by have := HT.out; have := HU.out; unfold cmpI; rw [if_pos (by omega)]
      rw [h]
      clear h
      go_enter Yba.func21, Yba.ntmps21
      go_wp2
      go_ret
      exact ⟨by simp, by go_grown⟩
    · by_cases c5 : tN U < tN T
      · have h : cmpI T U = 1 := by have := HT.out; have := HU.out; unfold cmpI; rw [if_neg (by omega), if_pos (by omega)]
        rw [h]
        clear h
        go_enter Yba.func21, Yba.ntmps21
        go_wp2
        go_ret
        exact ⟨by simp, by go_grown⟩
      · have h : cmpI T U = 0 := by have := HT.out; have := HU.out; unfold cmpI; rw [if_neg (by omega), if_neg (by omega)]
        rw [h]
        clear h
        go_enter Yba.func21, Yba.ntmps21
        go_wp2
        go_ret
        exact ⟨by simp, by go_grown⟩
  · have c3 : (tS T == tS U) = false := by simpa using c2
    by_cases c4 : tS T < tS U
    · have h : cmpI T U = -1 := by have := HT.out; have := HU.out; unfold cmpI; rw [if_pos (by omega)]
      rw [h]
      clear h
      go_enter Yba.func21, Yba.ntmps21
      go_wp2
      go_ret
      exact ⟨by simp, by go_grown⟩
    · have c5 : tS U < tS T := by omega
      have h : cmpI T U = 1 := by have := HT.out; have := HU.out; unfold cmpI; rw [if_neg (by omega), if_pos (by omega)]
      rw [h]
      clear h
      go_enter Yba.func21, Yba.ntmps21
      go_wp2
      go_ret
      exact ⟨by simp, by go_grown⟩
end Go.Proofs.Ybulkawpe
