/- Contracts of the laws' own tests on raw positions: valid, reachable. -/
import Derived.Test.YtaampofbcbophaaPosB
import Derived.Deep.QuietTactic
import Derived.BigQuiet
namespace Go.Proofs.Ytaampofbcbophaa
open Go.RowKit
def rch (o lc : Int) : Bool := decide (o ≤ 4294967284) || (o == 4294967285 && lc == 0)
theorem n010_108_zzValid_any (o lc : Int) (w : World) :
    Calls Try.prog 24 #[.int .u32 o, .int .u32 lc] w fun e w' => e = .returned (.bool (vld o lc)) ∧ w = w' := by
  by_cases h1 : o ≤ 4294967284
  · have e1 : vld o lc = (lc != 0) := by simp [vld, h1]
    rw [e1]; clear e1
    go_enter Try.func24, Try.ntmps24
    go_wp2
    go_ret
    exact ⟨rfl, rfl⟩
  · have e1 : vld o lc = false := vld_no (.inl (by omega))
    have h1' : decide (o ≤ 4294967284) = false := by simpa using h1
    rw [e1]; clear e1
    go_enter Try.func24, Try.ntmps24
    go_wp2
    go_ret
    exact ⟨rfl, rfl⟩
theorem n010_143_zzValid_any (o lc : Int) (w : World) :
    Calls Try.prog 84 #[.int .u32 o, .int .u32 lc] w fun e w' => e = .returned (.bool (vld o lc)) ∧ w = w' := by
  by_cases h1 : o ≤ 4294967284
  · have e1 : vld o lc = (lc != 0) := by simp [vld, h1]
    rw [e1]; clear e1
    go_enter Try.func84, Try.ntmps84
    go_wp2
    go_ret
    exact ⟨rfl, rfl⟩
  · have e1 : vld o lc = false := vld_no (.inl (by omega))
    have h1' : decide (o ≤ 4294967284) = false := by simpa using h1
    rw [e1]; clear e1
    go_enter Try.func84, Try.ntmps84
    go_wp2
    go_ret
    exact ⟨rfl, rfl⟩
theorem n010_11_zzValid_any (o lc : Int) (w : World) :
    Calls Try.prog 69 #[.int .u32 o, .int .u32 lc] w fun e w' => e = .returned (.bool (vld o lc)) ∧ w = w' := by
  by_cases h1 : o ≤ 4294967284
  · have e1 : vld o lc = (lc != 0) := by simp [vld, h1]
    rw [e1]; clear e1
    go_enter Try.func69, Try.ntmps69
    go_wp2
    go_ret
    exact ⟨rfl, rfl⟩
  · have e1 : vld o lc = false := vld_no (.inl (by omega))
    have h1' : decide (o ≤ 4294967284) = false := by simpa using h1
    rw [e1]; clear e1
    go_enter Try.func69, Try.ntmps69
    go_wp2
    go_ret
    exact ⟨rfl, rfl⟩
theorem n010_131_zzReach_any (o lc : Int) (w : World) :
    Calls Try.prog 75 #[.int .u32 o, .int .u32 lc] w fun e w' => e = .returned (.bool (rch o lc)) ∧ w = w' := by
  by_cases h1 : o ≤ 4294967284
  · have e1 : rch o lc = true := by simp [rch, h1]
    rw [e1]; clear e1
    go_enter Try.func75, Try.ntmps75
    go_wp2
    go_ret
    exact ⟨rfl, rfl⟩
  · have h1' : decide (o ≤ 4294967284) = false := by simpa using h1
    by_cases h2 : o = 4294967285
    · have e1 : rch o lc = (lc == 0) := by simp [rch, h2]
      rw [e1]; clear e1
      subst h2
      go_enter Try.func75, Try.ntmps75
      go_wp2
      go_ret
      exact ⟨rfl, rfl⟩
    · have h2' : (o == 4294967285) = false := by simpa using h2
      have e1 : rch o lc = false := by simp [rch, h1, h2]
      rw [e1]; clear e1 h2
      go_enter Try.func75, Try.ntmps75
      go_wp2
      go_ret
      exact ⟨rfl, rfl⟩
theorem n010_161_zzReachable_any (o lc : Int) (w : World) :
    Calls Try.prog 83 #[.int .u32 o, .int .u32 lc] w fun e w' => e = .returned (.bool (rch o lc)) ∧ w = w' := by
  by_cases h1 : o ≤ 4294967284
  · have e1 : rch o lc = true := by simp [rch, h1]
    rw [e1]; clear e1
    go_enter Try.func83, Try.ntmps83
    go_wp2
    go_ret
    exact ⟨rfl, rfl⟩
  · have h1' : decide (o ≤ 4294967284) = false := by simpa using h1
    by_cases h2 : o = 4294967285
    · have e1 : rch o lc = (lc == 0) := by simp [rch, h2]
      rw [e1]; clear e1
      subst h2
      go_enter Try.func83, Try.ntmps83
      go_wp2
      go_ret
      exact ⟨rfl, rfl⟩
    · have h2' : (o == 4294967285) = false := by simpa using h2
      have e1 : rch o lc = false := by simp [rch, h1, h2]
      rw [e1]; clear e1 h2
      go_enter Try.func83, Try.ntmps83
      go_wp2
      go_ret
      exact ⟨rfl, rfl⟩
theorem ZZposRaw_n010_108_any (o lc : Int) (w : World) :
    Calls Try.prog 28 #[P2 o lc] w fun e w' => e = .returned (.tuple #[.int .u32 o, .int .u32 lc]) ∧ Below w.heap.size w w' := by
  go_enter Try.func28, Try.ntmps28
  go_wp2
  go_region
  all_goals (go_wp2; go_ret2; exact ⟨rfl, by go_grown⟩)
theorem ZZposRaw_n010_143_any (o lc : Int) (w : World) :
    Calls Try.prog 39 #[P2 o lc] w fun e w' => e = .returned (.tuple #[.int .u32 o, .int .u32 lc]) ∧ Below w.heap.size w w' := by
  go_enter Try.func39, Try.ntmps39
  go_wp2
  go_region
  all_goals (go_wp2; go_ret2; exact ⟨rfl, by go_grown⟩)
end Go.Proofs.Ytaampofbcbophaa
