/- The early ways of FnAssignSpanIsShiftInvariant. -/
import Derived.Test.YtaampofbcbophaaBld
import Derived.Test.YtaampofbcbophaaLAsnEndZ
import Derived.Deep.RegionHeld3
namespace Go.Proofs.Ytaampofbcbophaa
open Go.RowKit
def fits132s (a0 a1 a2 a3 : Int) (n3 n4 n5 : Nat) (hi nk : Bool) : Prop :=
  n3 ≤ 4096 ∧ n4 ≤ 4096 ∧ n5 ≤ 4096 ∧ a0 ≤ 1073741824 ∧ a3 ≤ 16384 ∧ 1 ≤ a1 ∧ a1 ≤ 262143 ∧ 1 ≤ a2 ∧ a2 ≤ 16383 ∧ 1 ≤ n3 ∧ (hi = true → 1 ≤ n4) ∧ (nk = true → n5 = 0) ∧
    a2 + a3 + ((n3 : Int) + (n5 : Int) + (if hi then 2 + (n4 : Int) else 0) + (if nk then 0 else 1)) ≤ 16383
set_option maxHeartbeats 4000000 in
set_option maxRecDepth 100000 in
theorem shiftEarly (a0 a1 a2 a3 : Int) (s3 s4 s5 : ByteArray) (hi nk : Bool) (w : World) (b0 : 0 ≤ a0 ∧ a0 < 4294967296) (b1 : 0 ≤ a1 ∧ a1 < 4294967296) (b2 : 0 ≤ a2 ∧ a2 < 4294967296) (b3 : 0 ≤ a3 ∧ a3 < 4294967296) (m3 : s3.size ≤ 9223372036854775807) (m4 : s4.size ≤ 9223372036854775807) (m5 : s5.size ≤ 9223372036854775807)
    (hf : ¬ fits132s a0 a1 a2 a3 s3.size s4.size s5.size hi nk) :
    Calls Try.prog 12 #[.int .u32 a0, .int .u32 a1, .int .u32 a2, .int .u32 a3, .string s3, .string s4, .string s5, .bool hi, .bool nk] w fun e w' => e = .returned (.bool true) ∧ Below w.heap.size w w' := by
  have HF := Lib.hid hf
  clear hf
  cases hi
  all_goals cases nk
  all_goals
    go_enter Try.func12, Try.ntmps12
    go_wp2_with fail
    refine (zzBytes132s_any _ _ _ _ _ _ _ _ _ _ m3 m4 m5).mono ?_
    rintro e w' ⟨b, rfl, rfl⟩
    cases b
    · go_wp2
      go_ret
      exact ⟨rfl, Below.refl _ _⟩
    go_wp2_with fail
    all_goals (first | (go_ret; exact ⟨rfl, Below.refl _ _⟩) | (exfalso; go_split_ands; exact HF.out ⟨by omega, by omega, by omega, by omega, by omega, by omega, by omega, by omega, by omega, nz (by assumption), (fun h => by first | (cases h; done) | exact nz (by assumption)), (fun h => by first | (cases h; done) | exact nn (by assumption)), by simp; omega⟩))
end Go.Proofs.Ytaampofbcbophaa
