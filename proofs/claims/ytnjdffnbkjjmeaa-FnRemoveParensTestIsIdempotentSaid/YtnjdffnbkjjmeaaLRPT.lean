/- The walk of FnRemoveParensTestIsIdempotent. -/
import Derived.Test.YtnjdffnbkjjmeaaRPT
namespace Go.Proofs.Ytnjdffnbkjjmeaa
open Go.RowKit
theorem inn_1 (wd u b : Nat) : inn 1 wd u b = .iface 45 (.pointer (some ⟨u, 0, none⟩)) := by simp [inn]
theorem inn_2 (wd u b : Nat) : inn 2 wd u b = .iface 46 (.pointer (some ⟨b, 0, none⟩)) := by simp [inn]
theorem inn_3 {kd : Int} (wd u b : Nat) (h1 : ¬ kd = 1) (h2 : ¬ kd = 2) : inn kd wd u b = .iface 44 (.pointer (some ⟨wd, 0, none⟩)) := by simp [inn, h1, h2]
theorem tU (a : Option Addr) (w : World) : (Instr.typeAssert (.iface 45 (.pointer a)) 51 54 true).run Try.prog w = .ok (.tuple #[.pointer none, .bool false]) w := by kernel_rfl
theorem tB (a : Option Addr) (w : World) : (Instr.typeAssert (.iface 46 (.pointer a)) 51 54 true).run Try.prog w = .ok (.tuple #[.pointer none, .bool false]) w := by kernel_rfl
theorem tW (a : Option Addr) (w : World) : (Instr.typeAssert (.iface 44 (.pointer a)) 51 54 true).run Try.prog w = .ok (.tuple #[.pointer none, .bool false]) w := by kernel_rfl
theorem tin (kd : Int) (wd u b : Nat) (w : World) : (Instr.typeAssert (inn kd wd u b) 51 54 true).run Try.prog w = .ok (.tuple #[.pointer none, .bool false]) w := by
  by_cases h1 : kd = 1
  · subst h1; rw [inn_1]; exact tU _ w
  by_cases h2 : kd = 2
  · subst h2; rw [inn_2]; exact tB _ w
  · rw [inn_3 _ _ _ h1 h2]; exact tW _ w
theorem aU (a : Option Addr) (w : World) : (Instr.typeAssert (.iface 45 (.pointer a)) 51 45 true).run Try.prog w = .ok (.tuple #[.pointer a, .bool true]) w := by kernel_rfl
theorem aB (a : Option Addr) (w : World) : (Instr.typeAssert (.iface 46 (.pointer a)) 51 46 true).run Try.prog w = .ok (.tuple #[.pointer a, .bool true]) w := by kernel_rfl
theorem aW (a : Option Addr) (w : World) : (Instr.typeAssert (.iface 44 (.pointer a)) 51 44 true).run Try.prog w = .ok (.tuple #[.pointer a, .bool true]) w := by kernel_rfl
theorem eqW (a : Addr) (w : World) : (binOp .eql 44 (.pointer (some a)) (.pointer (some a))).run Try.prog w = .ok (.bool true) w := by
  obtain ⟨j, hj⟩ : ∃ j, Try.prog.info? 129 = some j := Option.isSome_iff_exists.1 (by kernel_rfl)
  exact run_eql_ptr_same w a Try.underlying44 hj
theorem eqU (a : Addr) (w : World) : (binOp .eql 45 (.pointer (some a)) (.pointer (some a))).run Try.prog w = .ok (.bool true) w := by
  obtain ⟨j, hj⟩ : ∃ j, Try.prog.info? 103 = some j := Option.isSome_iff_exists.1 (by kernel_rfl)
  exact run_eql_ptr_same w a Try.underlying45 hj
theorem eqB (a : Addr) (w : World) : (binOp .eql 46 (.pointer (some a)) (.pointer (some a))).run Try.prog w = .ok (.bool true) w := by
  obtain ⟨j, hj⟩ : ∃ j, Try.prog.info? 100 = some j := Option.isSome_iff_exists.1 (by kernel_rfl)
  exact run_eql_ptr_same w a Try.underlying46 hj
theorem asParen149 (kd : Int) (wd u b : Nat) (w : World) : Calls Try.prog 20 #[inn kd wd u b] w fun e w' => e = .returned (.pointer none) ∧ w = w' := by
  have h := tin kd wd u b
  obtain ⟨x, hx⟩ : ∃ x, x = inn kd wd u b := ⟨_, rfl⟩
  rw [← hx] at h ⊢
  clear hx
  go_enter Try.func20, Try.ntmps20
  go_wp2
  go_ret
  exact ⟨rfl, rfl⟩
theorem asUnary149 (a : Option Addr) (w : World) : Calls Try.prog 43 #[.iface 45 (.pointer a)] w fun e w' => e = .returned (.pointer a) ∧ w = w' := by
  have h := aU a
  go_enter Try.func43, Try.ntmps43
  go_wp2
  go_ret
  exact ⟨rfl, rfl⟩
theorem asBinary149 (a : Option Addr) (w : World) : Calls Try.prog 42 #[.iface 46 (.pointer a)] w fun e w' => e = .returned (.pointer a) ∧ w = w' := by
  have h := aB a
  go_enter Try.func42, Try.ntmps42
  go_wp2
  go_ret
  exact ⟨rfl, rfl⟩
theorem asWord149 (a : Option Addr) (w : World) : Calls Try.prog 44 #[.iface 44 (.pointer a)] w fun e w' => e = .returned (.pointer a) ∧ w = w' := by
  have h := aW a
  go_enter Try.func44, Try.ntmps44
  go_wp2
  go_ret
  exact ⟨rfl, rfl⟩
theorem isInner149 (kd : Int) (wd u b : Nat) (w : World) (hk : -9223372036854775808 ≤ kd ∧ kd ≤ 9223372036854775807) : Calls Try.prog 22 #[inn kd wd u b, .int .i64 kd, .pointer (some ⟨wd, 0, none⟩), .pointer (some ⟨u, 0, none⟩), .pointer (some ⟨b, 0, none⟩)] w fun e w' => e = .returned (.bool true) ∧ w = w' := by
  have e1 := eqU
  have e2 := eqB
  have e3 := eqW
  by_cases h1 : kd = 1
  · subst h1
    rw [inn_1]
    go_enter Try.func22, Try.ntmps22
    go_wp2_with (go_at_call 43; refine (asUnary149 _ _).mono ?_; rintro e w' ⟨rfl, rfl⟩)
    go_ret
    exact ⟨rfl, rfl⟩
  by_cases h2 : kd = 2
  · subst h2
    rw [inn_2]
    go_enter Try.func22, Try.ntmps22
    go_wp2_with (go_at_call 42; refine (asBinary149 _ _).mono ?_; rintro e w' ⟨rfl, rfl⟩)
    go_ret
    exact ⟨rfl, rfl⟩
  · rw [inn_3 _ _ _ h1 h2]
    have h1' : (kd == 1) = false := beq_eq_false_iff_ne.2 h1
    have h2' : (kd == 2) = false := beq_eq_false_iff_ne.2 h2
    clear h1 h2
    go_enter Try.func22, Try.ntmps22
    go_wp2_with (go_at_call 44; refine (asWord149 _ _).mono ?_; rintro e w' ⟨rfl, rfl⟩)
    go_ret
    exact ⟨rfl, rfl⟩
def Call149 (w : World) (x : Value) (e : Ending) (w' : World) : Prop := ∃ b : Bool, e = .returned (.tuple #[x, .bool b]) ∧ Below w.heap.size w w'
theorem rptCall149 (n g p0 : Nat) (kd : Int) (wd u b : Nat) (w : World) (hn : n ≤ 65536) (hk : -9223372036854775808 ≤ kd ∧ kd ≤ 9223372036854775807)
    (hc : 0 < n → w.cell? ⟨g, 0, none⟩ = some (.pointer (some ⟨p0, 0, none⟩)) ∧ ParChT w (inn kd wd u b) n (.iface 54 (.pointer (some ⟨p0, 0, none⟩)))) :
    Calls Try.prog 19 #[.slice (some ⟨g, 0, none⟩) n n, .int .i64 kd, .pointer (some ⟨wd, 0, none⟩), .pointer (some ⟨u, 0, none⟩), .pointer (some ⟨b, 0, none⟩)] w (Call149 w (inn kd wd u b)) := by
  rcases n with _ | n
  · clear hc
    by_cases h1 : kd = 1
    · subst h1
      rw [inn_1]
      go_enter Try.func19, Try.ntmps19
      go_wp2_with fail
      refine (ZZremoveParensT_any 0 _ (.iface 45 (.pointer (some ⟨u, 0, none⟩))) _ rfl (fun w => tU _ w)).mono ?_
      rintro e w1 ⟨rfl, hb⟩
      go_wp2
      go_ret2
      exact ⟨_, rfl, hb⟩
    by_cases h2 : kd = 2
    · subst h2
      rw [inn_2]
      go_enter Try.func19, Try.ntmps19
      go_wp2_with fail
      refine (ZZremoveParensT_any 0 _ (.iface 46 (.pointer (some ⟨b, 0, none⟩))) _ rfl (fun w => tB _ w)).mono ?_
      rintro e w1 ⟨rfl, hb⟩
      go_wp2
      go_ret2
      exact ⟨_, rfl, hb⟩
    · rw [inn_3 _ _ _ h1 h2]
      have h1' : (kd == 1) = false := beq_eq_false_iff_ne.2 h1
      have h2' : (kd == 2) = false := beq_eq_false_iff_ne.2 h2
      clear h1 h2
      go_enter Try.func19, Try.ntmps19
      go_wp2_with fail
      refine (ZZremoveParensT_any 0 _ (.iface 44 (.pointer (some ⟨wd, 0, none⟩))) _ rfl (fun w => tW _ w)).mono ?_
      rintro e w1 ⟨rfl, hb⟩
      go_wp2
      go_ret2
      exact ⟨_, rfl, hb⟩
  · obtain ⟨c0, hch⟩ := hc (by omega)
    have HC := Lib.hid hch
    clear hc hch
    have i1 : (0 : Int) < (n : Int) + 1 := by omega
    go_enter Try.func19, Try.ntmps19
    go_wp2_with fail
    refine (ZZremoveParensT_any (n + 1) _ (inn kd wd u b) _ HC.out (fun w => tin kd wd u b w)).mono ?_
    rintro e w1 ⟨rfl, hb⟩
    obtain ⟨bb, hbb⟩ : ∃ bb : Bool, bb = decide (0 < n + 1) := ⟨_, rfl⟩
    rw [← hbb]
    clear hbb
    obtain ⟨x, hx⟩ : ∃ x, x = inn kd wd u b := ⟨_, rfl⟩
    rw [← hx]
    have HX := Lib.hid hx
    clear hx HC
    go_wp2
    go_ret2
    exact ⟨bb, by rw [← HX.out]; rfl, hb⟩
theorem zzBytes149_any (a b : Int) (s : ByteArray) (w : World) (hs : s.size ≤ 9223372036854775807) :
    Calls Try.prog 17 #[.int .i64 a, .int .i64 b, .string s] w fun e w' => ∃ b : Bool, e = .returned (.bool b) ∧ w = w' := by
  go_enter Try.func17, Try.ntmps17
  go_wp2
  all_goals (go_ret; exact ⟨_, rfl, rfl⟩)
theorem nil149 (w : World) : (binOp .neq 54 (.pointer none) (.pointer none)).run Try.prog w = .ok (.bool false) w := by kernel_rfl
set_option maxHeartbeats 2000000 in
theorem walkFnRemoveParensTestIsIdempotent (a0 : Int) (a1 : Int) (a2 : ByteArray) (w0 : (Lit.int .i64 a0).wf = true) (w1 : (Lit.int .i64 a1).wf = true) (w2 : a2.size ≤ maxLen) (w : World) :
    Calls Try.prog 4 #[.int .i64 a0, .int .i64 a1, .string a2] w fun e w' => e = .returned (.bool true) ∧ Below w.heap.size w w' := by
  have b0 := bounds_i64 w0
  have b1 := bounds_i64 w1
  unfold maxLen at w2
  clear w0 w1
  by_cases h : a2.size ≤ 1048576 ∧ 0 ≤ a0 ∧ a0 ≤ 65536
  case neg =>
    have H := Lib.hid h
    clear h
    go_enter Try.func4, Try.ntmps4
    go_wp2_with fail
    refine (zzBytes149_any _ _ _ _ w2).mono ?_
    rintro e w' ⟨b, rfl, rfl⟩
    cases b
    · go_wp2
      go_ret
      exact ⟨rfl, Below.refl _ _⟩
    go_wp2_with fail
    all_goals (first | (go_ret; exact ⟨rfl, Below.refl _ _⟩) | (exfalso; exact H.out ⟨by omega, by omega, by omega⟩))
  obtain ⟨hs, h0, h1⟩ := h
  obtain ⟨n, rfl⟩ : ∃ n : Nat, a0 = (n : Int) := ⟨a0.toNat, by omega⟩
  have hnil := nil149
  go_enter Try.func4, Try.ntmps4
  go_wp2_with fail
  refine (zzBytes149_any _ _ _ _ w2).mono ?_
  rintro e w' ⟨b, rfl, rfl⟩
  cases b
  · go_wp2
    go_ret
    exact ⟨rfl, Below.refl _ _⟩
  go_wp2_with fail
  refine (build149 n (by omega) a1 (by omega) a2 _).mono ?_
  rintro e v1 ⟨wd, u, bb, g, p0, rfl, hc, B⟩
  have HC := Lib.hid hc
  clear hc
  go_wp2_with fail
  refine (rptCall149 n g p0 a1 wd u bb _ (by omega) (by omega) HC.out).mono ?_
  rintro e v2 ⟨m1, rfl, hb⟩
  have B := bmore B hb
  clear hb HC
  go_wp2_with fail
  refine (asParen149 a1 wd u bb _).mono ?_
  rintro e w' ⟨rfl, rfl⟩
  go_wp2_with fail
  refine (ZZremoveParensT_any 0 _ (inn a1 wd u bb) _ rfl (fun w => tin a1 wd u bb w)).mono ?_
  rintro e v3 ⟨rfl, hb⟩
  have B := bmore B hb
  clear hb
  go_wp2_with fail
  refine (isInner149 a1 wd u bb _ (by omega)).mono ?_
  rintro e w' ⟨rfl, rfl⟩
  go_wp2
  go_ret
  exact ⟨rfl, B⟩
end Go.Proofs.Ytnjdffnbkjjmeaa
