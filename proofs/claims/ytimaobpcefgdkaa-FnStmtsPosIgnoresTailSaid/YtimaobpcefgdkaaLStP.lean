/- The walk of FnStmtsPosIgnoresTail. -/
import Derived.Test.YtimaobpcefgdkaaComE
import Derived.Deep.RegionHeld3
namespace Go.Proofs.Ytimaobpcefgdkaa
open Go.RowKit
theorem posV_P2 (m : Nat) (po pl O L : Int) : ∃ a b : Int, posV m po pl O L = P2 a b := by
  unfold posV
  split
  · exact ⟨_, _, rfl⟩
  · split
    · exact ⟨_, _, rfl⟩
    · exact ⟨_, _, rfl⟩
theorem zzStmtsPos_first (g b m gc n cap : Nat) (A B : Option Addr) (nb cb : Nat) (po pl O L o lc : Int) (w : World) (hv : posV m po pl O L = P2 o lc) (hm : m ≤ 1048576) (h : FirstAt g b m gc A po pl O L w) :
    Calls Try.prog 22 #[.slice (some ⟨g, 0, none⟩) (n + 1) cap, .slice B nb cb] w fun e w' => e = .returned (P2 o lc) ∧ Below w.heap.size w w' := by
  have HF := Lib.hid h
  have HV := Lib.hid hv
  clear h hv
  go_enter Try.func22, Try.ntmps22
  go_wp2_with fail
  refine (stmtsPos_first g b m gc n cap A B nb cb po pl O L _ (HF.out.keep (by go_grown)) hm).mono ?_
  rw [HV.out]
  rintro e w1 ⟨rfl, hb⟩
  obtain ⟨hc, hf, hz, hB, hs⟩ := bcell (w := w) (by go_grown) hb
  clear hb
  go_wp2
  refine bodyPost_ret (v := P2 o lc) (by simp [results, Try.results22, go_sem, hc]) rfl ⟨rfl, ?_⟩
  go_grown
def FinSP (w : World) (g b m gc : Nat) (A : Option Addr) (po pl O L : Int) (W : World) : Prop := FirstAt g b m gc A po pl O L W ∧ Below w.heap.size w W
theorem FinSP.keep {w : World} {g b m gc : Nat} {A : Option Addr} {po pl O L : Int} {W W1 : World} (h : FinSP w g b m gc A po pl O L W) (hb : Below W.heap.size W W1) : FinSP w g b m gc A po pl O L W1 := ⟨h.1.keep hb, bmore h.2 hb⟩
set_option maxHeartbeats 4000000 in
set_option maxRecDepth 100000 in
theorem walkFnStmtsPosIgnoresTail (a0 : Option Addr) (len0 cap0 : Nat) (a1 : Option Addr) (len1 cap1 : Nat) (w : World) (w0 : IsSts w a0 len0 cap0) (w1 : IsComs w a1 len1 cap1) :
    Calls Try.prog 4 #[.slice a0 len0 cap0, .slice a1 len1 cap1] w fun e w' => e = .returned (.bool true) ∧ Below w.heap.size w w' := by
  have n0 := w0.plain.1
  have n1 := w1.plain.1
  have hcap1 : a1 = none → cap1 = 0 := by
    intro h
    rcases w1 with ⟨_, _, h⟩ | ⟨x, hx, _⟩
    · exact h
    · rw [h] at hx; cases hx
  have W0 := Lib.hid w0
  have W1 := Lib.hid w1
  have HQ := Lib.hid hcap1
  clear w0 w1 hcap1
  go_enter Try.func4, Try.ntmps4
  go_wp2_with fail
  refine (zzBytes_FnStmtsPosIgnoresTail_ok a0 a1 len0 cap0 len1 cap1 w W0.out W1.out).mono ?_
  rintro e w' ⟨r, rfl, rfl, hr⟩
  cases r
  · go_wp2
    go_ret
    exact ⟨rfl, Below.refl _ _⟩
  obtain ⟨hS, hC⟩ := hr rfl
  have HS := Lib.hid hS
  have HC := Lib.hid hC
  clear hS hC hr
  go_wp2_with fail
  refine (zzTooBig_ok a0 a1 len0 cap0 len1 cap1 w HS.out HC.out).mono ?_
  rintro e w' ⟨r, rfl, rfl⟩
  cases r
  rotate_left
  · go_wp2
    go_ret
    exact ⟨rfl, Below.refl _ _⟩
  rcases len0 with _ | n
  · go_wp2
    go_ret
    exact ⟨rfl, Below.refl _ _⟩
  obtain ⟨x, rfl, hx⟩ : ∃ x, a0 = some x ∧ ∀ i, i < n + 1 → OkSt w (x.add (i * 4)) := by
    rcases HS.out.2 with ⟨_, h⟩ | h
    · omega
    · exact h
  have HX := Lib.hid hx
  have hn := HS.out.1
  have HP := Lib.hid (OkCaps.of W0.out rfl)
  have i1 : ¬ ((n : Int) + 1 = 0) := by omega
  have i2 : ((n : Int) + 1 == 0) = false := by simp; omega
  clear hx
  go_wp2_with fail
  refine (zzStmts_some x (n + 1) cap0 w hn HX.out HP.out).mono ?_
  rintro e v1 ⟨g, rfl, hg, hF, hb1⟩
  obtain ⟨b, m, gc, A, po, pl, O, L, hFA, hm⟩ := (hF (by omega)).at_
  obtain ⟨o, lc, hv⟩ := posV_P2 m po pl O L
  have HF := Lib.hid hFA
  have HB1 := Lib.hid hb1
  have HV := Lib.hid hv
  clear hF hFA hb1 hv
  go_wp2_with fail
  refine (zzComments_ok a1 len1 cap1 v1 (HC.out.keep HB1.out) HQ.out).mono ?_
  rintro e v2 ⟨B, rfl, _, hb2⟩
  have hI : FinSP w g b m gc A po pl O L v2 := ⟨HF.out.keep hb2, bmore HB1.out hb2⟩
  have k1 : (1 : Int) ≤ (n : Int) + 1 := by omega
  clear hb2 HF HB1 HC HX HP HS W0 W1 HQ
  go_wp2_with fail
  go_region_held3 (fun W => FirstAt g b m gc A po pl O L W ∧ Below w.heap.size w W) (first | exact FinSP.keep hI ⟨rfl, rfl, rfl, Nat.le_refl _, fun _ _ => rfl⟩ | exact FinSP.keep (by assumption) (by assumption))
    (first | (go_at_call 22; refine (zzStmtsPos_first g b m gc _ _ A _ _ _ po pl O L o lc _ HV.out hm (by exact And.left (by assumption))).mono ?_; rintro e w' ⟨rfl, hb⟩))
  rename_i hH
  have hBB := hH.2
  clear hH
  go_wp2
  go_ret
  exact ⟨rfl, hBB⟩
end Go.Proofs.Ytimaobpcefgdkaa
