/- The ways of FnAssignEndSpansItsText that end early; the walk of the law. -/
import Derived.Test.YtaampofbcbophaaAsnB
import Derived.OpenShut
namespace Go.Proofs.Ytaampofbcbophaa
open Go.RowKit
/-- The law's own conditions. -/
def fits132 (a0 a1 a2 a9 : Int) (n3 n4 n5 : Nat) (hi nk ar : Bool) : Prop :=
  n3 ≤ 4096 ∧ n4 ≤ 4096 ∧ n5 ≤ 4096 ∧ 0 ≤ a9 ∧ a9 ≤ 4096 ∧ a0 ≤ 1073741824 ∧ 1 ≤ a1 ∧ a1 ≤ 262143 ∧ 1 ≤ a2 ∧ a2 ≤ 16383 ∧ 1 ≤ n3 ∧ (hi = true → 1 ≤ n4) ∧ (nk = true → ar = false ∧ n5 = 0) ∧ (ar = true → hi = false ∧ n5 = 0) ∧
    a2 + ((n3 : Int) + (if hi then 2 + (n4 : Int) else 0) + (if nk then 0 else 1) + (if ar then 2 + a9 else (n5 : Int))) ≤ 16383
theorem nz {n : Nat} (h : ((n : Int) == 0) = false) : 1 ≤ n := by
  have := beq_eq_false_iff_ne.1 h
  omega
theorem nn {n : Nat} (h : ((n : Int) != 0) = false) : n = 0 := by
  have := bne_eq_false_iff_eq.1 h
  omega
set_option maxHeartbeats 4000000 in
set_option maxRecDepth 100000 in
theorem asnEarly (a0 a1 a2 : Int) (s3 s4 s5 : ByteArray) (hi nk ar : Bool) (a9 : Int) (w : World) (b0 : 0 ≤ a0 ∧ a0 < 4294967296) (b1 : 0 ≤ a1 ∧ a1 < 4294967296) (b2 : 0 ≤ a2 ∧ a2 < 4294967296) (b9 : -9223372036854775808 ≤ a9 ∧ a9 ≤ 9223372036854775807) (m3 : s3.size ≤ 9223372036854775807) (m4 : s4.size ≤ 9223372036854775807) (m5 : s5.size ≤ 9223372036854775807)
    (hf : ¬ fits132 a0 a1 a2 a9 s3.size s4.size s5.size hi nk ar) :
    Calls Try.prog 4 #[.int .u32 a0, .int .u32 a1, .int .u32 a2, .string s3, .string s4, .string s5, .bool hi, .bool nk, .bool ar, .int .i64 a9] w fun e w' => e = .returned (.bool true) ∧ Below w.heap.size w w' := by
  have HF := Lib.hid hf
  clear hf
  cases hi
  all_goals cases nk
  all_goals cases ar
  all_goals
    go_enter Try.func4, Try.ntmps4
    go_wp2_with fail
    refine (zzBytes132_any _ _ _ _ _ _ _ _ _ _ _ m3 m4 m5).mono ?_
    rintro e w' ⟨b, rfl, rfl⟩
    cases b
    · go_wp2
      go_ret
      exact ⟨rfl, Below.refl _ _⟩
    go_wp2_with fail
    all_goals (first | (go_ret; exact ⟨rfl, Below.refl _ _⟩) | (exfalso; exact HF.out ⟨by omega, by omega, by omega, by omega, by omega, by omega, by omega, by omega, by omega, by omega, nz (by assumption), (fun h => by first | (cases h; done) | exact nz (by assumption)), (fun h => by first | (cases h; done) | exact ⟨rfl, nn (by assumption)⟩), (fun h => by first | (cases h; done) | exact ⟨rfl, nn (by assumption)⟩), by simp; omega⟩))
end Go.Proofs.Ytaampofbcbophaa
