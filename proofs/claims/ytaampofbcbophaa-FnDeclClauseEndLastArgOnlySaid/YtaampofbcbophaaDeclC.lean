/- zzDeclFits and the law's bound. -/
import Derived.Test.YtaampofbcbophaaDeclB
namespace Go.Proofs.Ytaampofbcbophaa
open Go.RowKit
def rch (o lc : Int) : Bool := decide (o ≤ 4294967284) || (o == 4294967285 && lc == 0)
theorem reach_any (o lc : Int) (w : World) :
    Calls Try.prog 83 #[.int .u32 o, .int .u32 lc] w fun e w' => e = .returned (.bool (rch o lc)) ∧ w' = w := by
  unfold rch
  by_cases h1 : o ≤ 4294967284
  · simp only [h1, decide_true, Bool.true_or]
    go_enter Try.func83, Try.ntmps83
    go_wp2
    go_ret
    exact ⟨rfl, rfl⟩
  · cases h2 : (o == 4294967285) <;> cases h3 : (lc == 0)
    all_goals
      simp only [h1, decide_false, Bool.false_or, Bool.and_true, Bool.and_false]
      go_enter Try.func83, Try.ntmps83
      go_wp2
      go_ret
      exact ⟨rfl, rfl⟩
theorem drew_more {w W : World} {a b : Nat} (h : W = w.drewN a) : ∃ q, W.drewN b = w.drewN q := by
  subst h
  exact ⟨a + b, by simp⟩
attribute [irreducible] rch
def RetF (w : World) (n l5 l6 l7 l8 l9 l10 : Nat) (e : Ending) (w' : World) : Prop :=
  ∃ b : Bool, e = .returned (.bool b) ∧ (∃ q, w' = w.drewN q) ∧ (b = true → l5 = n ∧ l6 = n ∧ l7 = n ∧ l8 = n ∧ l9 = n ∧ l10 = n ∧ n ≤ 65536)
theorem zzBytesD_any (p q r s : Int) (a4 a5 a6 a7 a8 a9 a10 : Option Addr) (n l5 l6 l7 l8 l9 l10 c4 c5 c6 c7 c8 c9 c10 : Nat) (w : World) (b4 : n ≤ 9223372036854775807) (b5 : l5 ≤ 9223372036854775807) (b6 : l6 ≤ 9223372036854775807) (b7 : l7 ≤ 9223372036854775807) (b8 : l8 ≤ 9223372036854775807) (b9 : l9 ≤ 9223372036854775807) (b10 : l10 ≤ 9223372036854775807) :
    Calls Try.prog 30 #[.int .u32 p, .int .u32 q, .int .u32 r, .int .u32 s, .slice a4 n c4, .slice a5 l5 c5, .slice a6 l6 c6, .slice a7 l7 c7, .slice a8 l8 c8, .slice a9 l9 c9, .slice a10 l10 c10] w fun e w' => ∃ b : Bool, e = .returned (.bool b) ∧ w = w' := by
  go_enter Try.func30, Try.ntmps30
  go_wp2
  all_goals (go_ret; exact ⟨_, rfl, rfl⟩)
set_option maxHeartbeats 8000000 in
set_option maxRecDepth 100000 in
theorem declFits_any (p q r s : Int) (a4 a5 a6 a7 a8 a9 a10 : Option Addr) (n l5 l6 l7 l8 l9 l10 c4 c5 c6 c7 c8 c9 c10 : Nat) (s0 s1 e0 e1 r0 r1 : Nat → Int) (w : World) (h5 : Src w a5 l5 (fun i => .int .u32 (s0 i))) (h6 : Src w a6 l6 (fun i => .int .u32 (s1 i))) (h7 : Src w a7 l7 (fun i => .int .u32 (e0 i))) (h8 : Src w a8 l8 (fun i => .int .u32 (e1 i))) (h9 : Src w a9 l9 (fun i => .int .u32 (r0 i))) (h10 : Src w a10 l10 (fun i => .int .u32 (r1 i)))
    (b4 : n ≤ 65536) (b5 : l5 ≤ 65536) (b6 : l6 ≤ 65536) (b7 : l7 ≤ 65536) (b8 : l8 ≤ 65536) (b9 : l9 ≤ 65536) (b10 : l10 ≤ 65536) :
    Calls Try.prog 31 #[.int .u32 p, .int .u32 q, .int .u32 r, .int .u32 s, .slice a4 n c4, .slice a5 l5 c5, .slice a6 l6 c6, .slice a7 l7 c7, .slice a8 l8 c8, .slice a9 l9 c9, .slice a10 l10 c10] w (RetF w n l5 l6 l7 l8 l9 l10) := by
  have H5 := Lib.hid h5
  have H6 := Lib.hid h6
  have H7 := Lib.hid h7
  have H8 := Lib.hid h8
  have H9 := Lib.hid h9
  have H10 := Lib.hid h10
  clear h5 h6 h7 h8 h9 h10
  have f4 : ¬ (65536 : Int) < (n : Int) := by omega
  have f5 : ¬ (65536 : Int) < (l5 : Int) := by omega
  have f6 : ¬ (65536 : Int) < (l6 : Int) := by omega
  have f7 : ¬ (65536 : Int) < (l7 : Int) := by omega
  have f8 : ¬ (65536 : Int) < (l8 : Int) := by omega
  have f9 : ¬ (65536 : Int) < (l9 : Int) := by omega
  have f10 : ¬ (65536 : Int) < (l10 : Int) := by omega
  by_cases g0 : (1048576 : Int) < (n : Int) + 4 * ((l5 : Int) + (l6 : Int) + (l7 : Int) + (l8 : Int) + (l9 : Int) + (l10 : Int))
  · go_enter Try.func31, Try.ntmps31
    go_wp2_with fail
    go_ret
    exact ⟨false, rfl, ⟨0, rfl⟩, by simp⟩
  by_cases el5 : l5 = n
  case neg =>
    have e1 : ((l5 : Int) == (n : Int)) = false := beq_eq_false_iff_ne.2 (by omega)
    have e2 : ((l5 : Int) != (n : Int)) = true := by simp; omega
    go_enter Try.func31, Try.ntmps31
    go_wp2_with fail
    go_ret
    exact ⟨false, rfl, ⟨0, rfl⟩, by simp⟩
  subst el5
  by_cases el6 : l6 = l5
  case neg =>
    have e1 : ((l6 : Int) == (l5 : Int)) = false := beq_eq_false_iff_ne.2 (by omega)
    have e2 : ((l6 : Int) != (l5 : Int)) = true := by simp; omega
    go_enter Try.func31, Try.ntmps31
    go_wp2_with fail
    go_ret
    exact ⟨false, rfl, ⟨0, rfl⟩, by simp⟩
  subst el6
  by_cases el7 : l7 = l6
  case neg =>
    have e1 : ((l7 : Int) == (l6 : Int)) = false := beq_eq_false_iff_ne.2 (by omega)
    have e2 : ((l7 : Int) != (l6 : Int)) = true := by simp; omega
    go_enter Try.func31, Try.ntmps31
    go_wp2_with fail
    go_ret
    exact ⟨false, rfl, ⟨0, rfl⟩, by simp⟩
  subst el7
  by_cases el8 : l8 = l7
  case neg =>
    have e1 : ((l8 : Int) == (l7 : Int)) = false := beq_eq_false_iff_ne.2 (by omega)
    have e2 : ((l8 : Int) != (l7 : Int)) = true := by simp; omega
    go_enter Try.func31, Try.ntmps31
    go_wp2_with fail
    go_ret
    exact ⟨false, rfl, ⟨0, rfl⟩, by simp⟩
  subst el8
  by_cases el9 : l9 = l8
  case neg =>
    have e1 : ((l9 : Int) == (l8 : Int)) = false := beq_eq_false_iff_ne.2 (by omega)
    have e2 : ((l9 : Int) != (l8 : Int)) = true := by simp; omega
    go_enter Try.func31, Try.ntmps31
    go_wp2_with fail
    go_ret
    exact ⟨false, rfl, ⟨0, rfl⟩, by simp⟩
  subst el9
  by_cases el10 : l10 = l9
  case neg =>
    have e1 : ((l10 : Int) == (l9 : Int)) = false := beq_eq_false_iff_ne.2 (by omega)
    have e2 : ((l10 : Int) != (l9 : Int)) = true := by simp; omega
    go_enter Try.func31, Try.ntmps31
    go_wp2_with fail
    go_ret
    exact ⟨false, rfl, ⟨0, rfl⟩, by simp⟩
  subst el10
  clear f4 f5 f6 f7 f8 f9 b4 b5 b6 b7 b8 b9
  go_enter Try.func31, Try.ntmps31
  go_wp2_with fail
  refine (reach_any _ _ _).mono ?_
  rintro e u1 ⟨rfl, rfl⟩
  cases rch p q
  · go_wp2_with fail
    go_ret
    exact ⟨false, rfl, ⟨0, rfl⟩, by simp⟩
  go_wp2_with fail
  refine (reach_any _ _ _).mono ?_
  rintro e u1 ⟨rfl, rfl⟩
  cases rch r s
  · go_wp2_with fail
    go_ret
    exact ⟨false, rfl, ⟨0, rfl⟩, by simp⟩
  go_wp2_with fail
  go_loopw [24] (fun i wr => ∃ k : Nat, k ≤ l10 ∧ i = .int .i64 (k : Int) ∧ ∃ q, wr = u1.drewN q) (fun i _ => l10 - (intOf i).toNat)
  case atStart => exact ⟨0, by omega, by go_num, 0, rfl⟩
  case round =>
    obtain ⟨k, hk, rfl, dq, hwr⟩ := hrel
    have Bw : Below u1.heap.size u1 wr := by rw [hwr]; exact bdrewN (Below.refl _ _) _
    have HW := Lib.hid hwr
    clear hwr
    by_cases hlt : k < l10
    · obtain ⟨x5, ex5, l5, q5⟩ := src_blkD H5.out (by omega)
      obtain ⟨x6, ex6, l6, q6⟩ := src_blkD H6.out (by omega)
      obtain ⟨x7, ex7, l7, q7⟩ := src_blkD H7.out (by omega)
      obtain ⟨x8, ex8, l8, q8⟩ := src_blkD H8.out (by omega)
      obtain ⟨x9, ex9, l9, q9⟩ := src_blkD H9.out (by omega)
      obtain ⟨x10, ex10, l10', q10⟩ := src_blkD H10.out (by omega)
      have c5 := keepc Bw (q5 k hlt)
      have c6 := keepc Bw (q6 k hlt)
      have c7 := keepc Bw (q7 k hlt)
      have c8 := keepc Bw (q8 k hlt)
      have c9 := keepc Bw (q9 k hlt)
      have c10 := keepc Bw (q10 k hlt)
      clear q5 q6 q7 q8 q9 q10 l5 l6 l7 l8 l9 l10' H5 H6 H7 H8 H9 H10
      subst ex5 ex6 ex7 ex8 ex9 ex10
      clear Bw
      generalize s0 k = A5 at *
      generalize s1 k = A6 at *
      generalize e0 k = A7 at *
      generalize e1 k = A8 at *
      generalize r0 k = A9 at *
      generalize r1 k = A10 at *
      have hlt' : (k : Int) < (l10 : Int) := by omega
      have i0 : (0 : Int) ≤ (k : Int) := by omega
      cases v1 : rch A5 A6
      · go_wp2_with fail
        go_quiet ((go_at_call 83; exact Calls.quiet_of_same (reach_any _ _ _)))
        go_wp2_with fail
        go_ret
        exact ⟨false, rfl, drew_more HW.out, by simp⟩
      cases v2 : rch A7 A8
      · go_wp2_with fail
        go_quiet ((go_at_call 83; exact Calls.quiet_of_same (reach_any _ _ _)))
        go_wp2_with fail
        go_ret
        exact ⟨false, rfl, drew_more HW.out, by simp⟩
      cases v3 : rch A9 A10
      · go_wp2_with fail
        go_quiet ((go_at_call 83; exact Calls.quiet_of_same (reach_any _ _ _)))
        go_wp2_with fail
        go_ret
        exact ⟨false, rfl, drew_more HW.out, by simp⟩
      · go_wp2_with fail
        go_quiet ((go_at_call 83; exact Calls.quiet_of_same (reach_any _ _ _)))
        go_wp2_with fail
        go_roundw
        case rel => exact ⟨k + 1, by omega, by go_num, drew_more HW.out⟩
        case measure => simp [intOf]; omega
    · obtain rfl : k = l10 := by omega
      have hge : ¬ ((k : Int) < (k : Int)) := by omega
      go_wp2_with fail
      go_ret
      exact ⟨true, rfl, ⟨_, HW.out⟩, fun _ => ⟨rfl, rfl, rfl, rfl, rfl, rfl, by assumption⟩⟩
end Go.Proofs.Ytaampofbcbophaa
