/- The law FnBinaryArithmAssociativeSpan: the walk for every input. -/
import Derived.Test.YtimaobpcefgdkaaLBA
namespace Go.Proofs.Ytimaobpcefgdkaa
open Go.RowKit
set_option maxHeartbeats 2000000 in
set_option maxRecDepth 100000 in
theorem ba19_no (x : Addr) (m c : Nat) (f : Nat → Int) (lc : Int) (w : World) (hm : m + 2 ≤ 4096) (hs : ∀ i, i < m + 2 → w.cell? (x.add i) = some (.int .u32 (f i)))
    (hn : lc = 0 ∨ f (m + 1) < f 0 ∨ 4294967284 < f (m + 1)) :
    Calls Try.prog 12 #[.slice (some x) (m + 2) c, .int .u32 lc] w fun e w' => e = .returned (.bool true) ∧ Below w.heap.size w w' := by
  have x0 : w.cell? x = some (.int .u32 (f 0)) := by simpa [Addr.add] using hs 0 (by omega)
  have x2 : w.cell? { block := x.block, off := x.off + (m + 1) } = some (.int .u32 (f (m + 1))) := hs (m + 1) (by omega)
  clear hs
  have n1 : ¬ (4096 : Int) < (m : Int) + 2 := by omega
  have n2 : ¬ (m : Int) + 2 < 2 := by omega
  have n3 : (0 : Int) < (m : Int) + 2 := by omega
  have n4 : (m : Int) + 1 < (m : Int) + 2 := by omega
  have n5 : (0 : Int) ≤ (m : Int) + 1 := by omega
  have iw : IntKind.i64.wrap ((m : Int) + 2 - 1) = (m : Int) + 1 := (IntWalk.i64_in _ (by omega)).trans (by omega)
  have it : ((m : Int) + 1).toNat = m + 1 := by omega
  have IW := Lib.hid iw
  have IT := Lib.hid it
  clear iw it
  by_cases hl : lc = 0
  · subst hl
    clear hn
    go_enter Try.func12, Try.ntmps12
    go_wp2_with fail
    refine (zzBytes19_any _ _ _ _ _ (by omega)).mono ?_
    rintro e w' ⟨b, rfl, rfl⟩
    cases b
    · go_wp2
      go_ret
      exact ⟨rfl, Below.refl _ _⟩
    go_wp2_with fail
    go_quiet (fail)
    go_wp2
    go_ret
    exact ⟨rfl, bdrewN (Below.refl _ _) _⟩
  have hl' : (lc == 0) = false := by simpa using hl
  by_cases h0 : f (m + 1) < f 0
  · have h0' : decide (f (m + 1) < f 0) = true := by simpa using h0
    clear hn hl
    go_enter Try.func12, Try.ntmps12
    go_wp2_with fail
    refine (zzBytes19_any _ _ _ _ _ (by omega)).mono ?_
    rintro e w' ⟨b, rfl, rfl⟩
    cases b
    · go_wp2
      go_ret
      exact ⟨rfl, Below.refl _ _⟩
    go_wp2_with fail
    have iw := IW.out
    have it := IT.out
    go_quiet (fail)
    clear iw it
    go_wp2
    go_ret
    exact ⟨rfl, bdrewN (Below.refl _ _) _⟩
  have h0' : decide (f (m + 1) < f 0) = false := by simpa using h0
  have h1 : 4294967284 < f (m + 1) := by
    rcases hn with h | h | h
    · exact absurd h hl
    · exact absurd h h0
    · exact h
  have h1' : decide (4294967284 < f (m + 1)) = true := by simpa using h1
  clear hn hl
  go_enter Try.func12, Try.ntmps12
  go_wp2_with fail
  refine (zzBytes19_any _ _ _ _ _ (by omega)).mono ?_
  rintro e w' ⟨b, rfl, rfl⟩
  cases b
  · go_wp2
    go_ret
    exact ⟨rfl, Below.refl _ _⟩
  go_wp2_with fail
  have iw := IW.out
  have it := IT.out
  go_quiet (fail)
  clear iw it
  go_wp2
  go_ret
  exact ⟨rfl, bdrewN (Below.refl _ _) _⟩
set_option maxRecDepth 100000 in
theorem walkFnBinaryArithmAssociativeSpan (a0 : Option Addr) (len0 cap0 : Nat) (z0 : List Int) (a1 : Int) (w : World) (w0 : IsRow .u32 w a0 len0 cap0 z0) (w1 : (Lit.int .u32 a1).wf = true) :
    Calls Try.prog 12 #[.slice a0 len0 cap0, .int .u32 a1] w fun e w' => e = .returned (.bool true) ∧ Below w.heap.size w w' := by
  have l0 := w0.len
  have b1 := bounds_u32 w1
  by_cases h1 : 4096 < len0
  · clear w0 w1
    have h1' : (4096 : Int) < (len0 : Int) := by omega
    go_enter Try.func12, Try.ntmps12
    go_wp2_with fail
    refine (zzBytes19_any _ _ _ _ _ (by omega)).mono ?_
    rintro e w' ⟨b, rfl, rfl⟩
    cases b <;> (go_wp2_with fail; go_ret; exact ⟨rfl, Below.refl _ _⟩)
  by_cases h2 : len0 < 2
  · clear w0 w1
    have h1' : ¬ (4096 : Int) < (len0 : Int) := by omega
    have h2' : (len0 : Int) < 2 := by omega
    go_enter Try.func12, Try.ntmps12
    go_wp2_with fail
    refine (zzBytes19_any _ _ _ _ _ (by omega)).mono ?_
    rintro e w' ⟨b, rfl, rfl⟩
    cases b <;> (go_wp2_with fail; go_ret; exact ⟨rfl, Below.refl _ _⟩)
  obtain ⟨m, rfl⟩ : ∃ m, len0 = m + 2 := ⟨len0 - 2, by omega⟩
  rcases w0.src with ⟨_, h⟩ | ⟨x, rfl, hs⟩
  · omega
  have hf : ∀ i, i < m + 2 → 0 ≤ z0.getD i 0 ∧ z0.getD i 0 < 4294967296 := fun i hi => by have := bounds_u32 (w0.wf hi); omega
  by_cases hn : a1 = 0 ∨ z0.getD (m + 1) 0 < z0.getD 0 0 ∨ 4294967284 < z0.getD (m + 1) 0
  · exact ba19_no x m cap0 (fun i => z0.getD i 0) a1 w (by omega) hs hn
  · exact ba19 _ x m cap0 (fun i => z0.getD i 0) a1 w (by omega) rfl hs (by omega) (by omega) (by omega) hf
end Go.Proofs.Ytimaobpcefgdkaa
