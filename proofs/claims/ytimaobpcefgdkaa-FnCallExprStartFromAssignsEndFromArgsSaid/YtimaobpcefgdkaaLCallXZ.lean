/- The law FnCallExprStartFromAssignsEndFromArgs: the walk for every input. -/
import Derived.Test.YtimaobpcefgdkaaLCallX
namespace Go.Proofs.Ytimaobpcefgdkaa
open Go.RowKit
set_option maxRecDepth 100000 in
theorem walkFnCallExprStartFromAssignsEndFromArgs (a0 : Option Addr) (len0 cap0 : Nat) (z0 : List Int) (a1 : Option Addr) (len1 cap1 : Nat) (z1 : List Int) (w : World) (w0 : IsRow .u32 w a0 len0 cap0 z0) (w1 : IsRow .u32 w a1 len1 cap1 z1) :
    Calls Try.prog 3 #[.slice a0 len0 cap0, .slice a1 len1 cap1] w fun e w' => e = .returned (.bool true) ∧ Below w.heap.size w w' := by
  have l0 := w0.len
  have l1 := w1.len
  by_cases h1 : 4096 < len0
  · clear w0 w1
    have h1' : (4096 : Int) < (len0 : Int) := by omega
    go_enter Try.func3, Try.ntmps3
    go_wp2_with fail
    refine (zzBytes147_any _ _ _ _ _ _ _ (by omega) (by omega)).mono ?_
    rintro e w' ⟨b, rfl, rfl⟩
    cases b <;> (go_wp2_with fail; go_ret; exact ⟨rfl, Below.refl _ _⟩)
  by_cases h2 : 4096 < len1
  · clear w0 w1
    have h1' : ¬ (4096 : Int) < (len0 : Int) := by omega
    have h2' : (4096 : Int) < (len1 : Int) := by omega
    go_enter Try.func3, Try.ntmps3
    go_wp2_with fail
    refine (zzBytes147_any _ _ _ _ _ _ _ (by omega) (by omega)).mono ?_
    rintro e w' ⟨b, rfl, rfl⟩
    cases b <;> (go_wp2_with fail; go_ret; exact ⟨rfl, Below.refl _ _⟩)
  by_cases h3 : len0 + len1 < 1
  · clear w0 w1
    have h1' : ¬ (4096 : Int) < (len0 : Int) := by omega
    have h2' : ¬ (4096 : Int) < (len1 : Int) := by omega
    have h3' : (len0 : Int) + (len1 : Int) < 1 := by omega
    go_enter Try.func3, Try.ntmps3
    go_wp2_with fail
    refine (zzBytes147_any _ _ _ _ _ _ _ (by omega) (by omega)).mono ?_
    rintro e w' ⟨b, rfl, rfl⟩
    cases b <;> (go_wp2_with fail; go_ret; exact ⟨rfl, Below.refl _ _⟩)
  exact callX147 a0 a1 len0 cap0 len1 cap1 (fun i => z0.getD i 0) (fun i => z1.getD i 0) w (by omega) (by omega) (by omega) w0.src w1.src (fun h => by subst h; exact w0.nilcap.2) (fun h => by subst h; exact w1.nilcap.2)
    (fun i hi => by have := bounds_u32 (w0.wf hi); omega) (fun i hi => by have := bounds_u32 (w1.wf hi); omega)
end Go.Proofs.Ytimaobpcefgdkaa
