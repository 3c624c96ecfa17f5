/- The walk of FnProcSubstEndAgreesWithExtGlobEnd. -/
import Derived.Test.YtleldhnilecklaaNodes
import Derived.OpenShut
namespace Go.Proofs.Ytleldhnilecklaa
open Go.RowKit
theorem ExtGlob_End_any (b p : Nat) (o lc : Int) (w : World) (hp : w.cell? ⟨b, 3, none⟩ = some (.pointer (some ⟨p, 0, none⟩))) (h0 : w.cell? ⟨p, 2, none⟩ = some (.int .u32 o)) (h1 : w.cell? ⟨p, 3, none⟩ = some (.int .u32 lc)) (o0 : 0 ≤ o) (o1 : o < 4294967296) (l0 : 0 ≤ lc) (l1 : lc < 4294967296) :
    Calls Try.prog 20 #[.pointer (some ⟨b, 0, none⟩)] w fun e w' => e = .returned (P2 (addO o lc 1) (addL o lc 1)) ∧ Below w.heap.size w w' := by
  have hlt : b < w.heap.size := World.block_lt_of_cell? _ _ hp
  have hlp : p < w.heap.size := World.block_lt_of_cell? _ _ h0
  go_enter Try.func20, Try.ntmps20
  go_wp2_with fail
  refine (Lit_End_any _ o lc _ (by simp [go_sem, h0, hlp]) (by simp [go_sem, h1, hlp])).mono ?_
  rintro e w1 ⟨rfl, hb1⟩
  go_wp2_with fail
  refine (addCol_any _ _ _ _ (by omega) (by omega) (by omega) (by omega) (by omega) (by omega)).mono ?_
  rintro e w2 ⟨rfl, hb2⟩
  have hB := bmore (bmore (w := w) (by go_grown) hb1) hb2
  have c0 : w2.cell? ⟨w.heap.size, 0, none⟩ = some (.int .u32 0) := keepc hb2 (keepc hb1 (by simp [go_sem]))
  have c1 : w2.cell? ⟨w.heap.size, 1, none⟩ = some (.int .u32 0) := keepc hb2 (keepc hb1 (by simp [go_sem]))
  have z0 : ∀ o, w2.frozen? ⟨w.heap.size, o, none⟩ = false := fun o => by rw [hb2.frozen (p := ⟨w.heap.size, o, none⟩) (by have := hb1.size; simp at this; exact this), hb1.frozen (p := ⟨w.heap.size, o, none⟩) (by simp)]; simp [go_sem]
  clear hb1 hb2
  go_wp2
  refine bodyPost_ret (v := P2 (addO o lc 1) (addL o lc 1)) (by simp [results, Try.results20, go_sem, c0, c1]) rfl ⟨rfl, ?_⟩
  go_grown
def SomeB (e : Ending) : Prop := ∃ b : Bool, e = .returned (.bool b)
theorem zzB2Reachable_any (o lc : Int) (w : World) :
    Calls Try.prog 17 #[.int .u32 o, .int .u32 lc] w fun e w' => SomeB e ∧ w = w' := by
  by_cases h1 : o ≤ 4294967284
  · go_enter Try.func17, Try.ntmps17
    go_wp2
    go_ret
    exact ⟨⟨_, rfl⟩, rfl⟩
  · have h1' : decide (o ≤ 4294967284) = false := by simpa using h1
    by_cases h2 : o = 4294967285
    · subst h2
      go_enter Try.func17, Try.ntmps17
      go_wp2
      go_ret
      exact ⟨⟨_, rfl⟩, rfl⟩
    · have h2' : (o == 4294967285) = false := by simpa using h2
      clear h2
      go_enter Try.func17, Try.ntmps17
      go_wp2
      go_ret
      exact ⟨⟨_, rfl⟩, rfl⟩
theorem walkFnProcSubstEndAgreesWithExtGlobEnd (a0 : Int) (a1 : Int) (a2 : Int) (a3 : Int) (w0 : (Lit.int .u32 a0).wf = true) (w1 : (Lit.int .u32 a1).wf = true) (w2 : (Lit.int .u8 a2).wf = true) (w3 : (Lit.int .u8 a3).wf = true) (w : World) :
    Calls Try.prog 5 #[.int .u32 a0, .int .u32 a1, .int .u8 a2, .int .u8 a3] w fun e w' => e = .returned (.bool true) ∧ Below w.heap.size w w' := by
  have b0 := bounds_u32 w0
  have b1 := bounds_u32 w1
  have b2 := bounds_u8 w2
  have b3 := bounds_u8 w3
  clear w0 w1 w2 w3
  go_enter Try.func5, Try.ntmps5
  go_wp2_with fail
  refine (zzB2Reachable_any _ _ _).mono ?_
  rintro e w' ⟨⟨b, rfl⟩, rfl⟩
  cases b with
  | false =>
    go_wp2
    go_ret
    exact ⟨rfl, Below.refl _ _⟩
  | true =>
    by_cases h2 : 3 ≤ a2
    · go_wp2_with fail
      go_ret
      exact ⟨rfl, Below.refl _ _⟩
    · have h2' : decide (3 ≤ a2) = false := by simpa using h2
      by_cases h3 : 5 ≤ a3
      · go_wp2_with fail
        go_ret
        exact ⟨rfl, Below.refl _ _⟩
      · go_wp2_with (go_at_call 18; go_in)
        refine (ProcSubst_End_any _ a0 a1 _ (by simp [go_sem]) (by simp [go_sem]) (by omega) (by omega) (by omega) (by omega)).mono ?_
        rintro e w1 ⟨rfl, hb1⟩
        go_wp2_with fail
        refine (ExtGlob_End_any _ (w.heap.size + 1 + 1 + 1) a0 a1 _ (keepc hb1 (by simp [go_sem])) (keepc hb1 (by simp [go_sem])) (keepc hb1 (by simp [go_sem])) (by omega) (by omega) (by omega) (by omega)).mono ?_
        rintro e w2 ⟨rfl, hb2⟩
        have B2 := bmore (w := w) (bmore (w := w) (by go_grown) hb1) hb2
        clear hb1 hb2
        go_wp2
        go_ret
        exact ⟨rfl, B2⟩
end Go.Proofs.Ytleldhnilecklaa
