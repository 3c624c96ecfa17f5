/- removeParensTest: the contract, over a chain of nested parentheses. -/
import Derived.Test.YtnjdffnbkjjmeaaParA
import Derived.OpenShut
import Derived.WalkSpells
import Derived.Deep.LoopGhost
import Derived.Deep.QuietTactic
import Derived.BigQuiet
import Derived.LaidEql
import Derived.Lib.Builder
import Derived.Maps.AppendAt
namespace Go.Proofs.Ytnjdffnbkjjmeaa
open Go.RowKit
/-- x is inner under d parentheses. -/
def ParChT (W : World) (inner : Value) : Nat → Value → Prop
  | 0, x => x = inner
  | d + 1, x => ∃ (b : Nat) (y : Value), x = .iface 54 (.pointer (some ⟨b, 0, none⟩)) ∧ Bk W b 170 #[.int .u32 0, .int .u32 0, .int .u32 0, .int .u32 0, y] ∧ ParChT W inner d y
theorem ParChT.keep {W W1 : World} {inner : Value} (hb : Below W.heap.size W W1) : ∀ (d : Nat) (x : Value), ParChT W inner d x → ParChT W1 inner d x
  | 0, _, h => h
  | d + 1, _, ⟨b, y, hx, k, r⟩ => ⟨b, y, hx, k.keep hb, ParChT.keep hb d y r⟩
theorem ParChT.set {W : World} {inner : Value} {sb i : Nat} {u : Value} {cs : Array Value} (hs : Bk W sb 167 cs) : ∀ (d : Nat) (x : Value), ParChT W inner d x → ParChT (W.setCell ⟨sb, i, none⟩ u) inner d x
  | 0, _, h => h
  | d + 1, _, ⟨b, y, hx, k, r⟩ => ⟨b, y, hx, k.far (p := ⟨sb, i, none⟩) (k.ne_ hs (by decide)) u, ParChT.set hs d y r⟩
theorem taT_paren (a : Option Addr) (w : World) : (Instr.typeAssert (.iface 54 (.pointer a)) 51 54 true).run Try.prog w = .ok (.tuple #[.pointer a, .bool true]) w := by kernel_rfl
set_option maxHeartbeats 2000000 in
theorem removeParensT_any (sb d : Nat) (x inner mp : Value) (m : Bool) (w : World) (hs : Bk w sb 167 #[.bool m, mp]) (hx : ParChT w inner d x)
    (hin : ∀ w, (Instr.typeAssert inner 51 54 true).run Try.prog w = .ok (.tuple #[.pointer none, .bool false]) w) :
    Calls Try.prog 74 #[.pointer (some ⟨sb, 0, none⟩), x] w fun e w' => e = .returned inner ∧ Bk w' sb 167 #[.bool (m || decide (0 < d)), mp] ∧ w.grownBy w' (some sb) := by
  have tp := taT_paren
  go_enter Try.func74, Try.ntmps74
  go_wp2
  go_loopg [1] d (fun k y wr => k ≤ d ∧ ParChT wr inner k y ∧ Bk wr sb 167 #[.bool (m || decide (k < d)), mp] ∧ w.grownBy wr (some sb))
  case atStart => exact ⟨Nat.le_refl _, hx, by simpa using hs, World.grownBy.refl w _⟩
  case round =>
    obtain ⟨hk, hch, hsr, hg⟩ := hrel
    rcases gk with _ | k
    · have hch : u1 = inner := hch
      subst hch
      have HS := Lib.hid hsr
      clear hsr
      go_wp2
      go_ret
      exact ⟨rfl, HS.out, hg⟩
    · obtain ⟨b, y, rfl, kb, hr⟩ := hch
      have cb := kb.cells
      have cs := hsr.cells
      have fs := hsr.frz
      have nb : ¬ b = sb := kb.ne_ hsr (by decide)
      have nb' : ¬ sb = b := fun h => nb h.symm
      have h2 := ParChT.set (i := 0) (u := .bool true) hsr k y hr
      have h3 := hsr.put 0 (.bool true)
      have h4 : wr.grownBy (wr.setCell ⟨sb, 0, none⟩ (.bool true)) (some sb) := by
        refine ⟨rfl, rfl, rfl, by simp [World.setCell], fun i _ hne => Below.heap_setCell wr _ _ i ?_⟩
        rintro rfl
        exact hne rfl
      have H2 := Lib.hid h2
      have H3 := Lib.hid h3
      have e1 : (m || decide (k < d)) = true := by simp; right; omega
      have E1 := Lib.hid e1
      clear h2 h3 e1 hr
      go_wp2
      go_roundg k
      case measure => omega
      case rel => exact ⟨by omega, H2.out, by rw [E1.out]; exact H3.out, hg.trans h4⟩
set_option maxHeartbeats 2000000 in
theorem ZZremoveParensT_any (d : Nat) (x inner : Value) (w : World) (hx : ParChT w inner d x)
    (hin : ∀ w, (Instr.typeAssert inner 51 54 true).run Try.prog w = .ok (.tuple #[.pointer none, .bool false]) w) :
    Calls Try.prog 21 #[x] w fun e w' => e = .returned (.tuple #[inner, .bool (decide (0 < d))]) ∧ Below w.heap.size w w' := by
  have HX := Lib.hid hx
  have HI := Lib.hid hin
  clear hx hin
  go_enter Try.func21, Try.ntmps21
  go_wp2_with fail
  refine (removeParensT_any w.heap.size d x inner (.map none) false _ (Bk.fresh _ _ _) (ParChT.keep (by go_grown) d x HX.out) HI.out).mono ?_
  rintro e w1 ⟨rfl, ks, hg⟩
  have hB := below_grown (w := w) (by go_grown) hg (Nat.le_refl _)
  have cs := ks.cells
  simp only [Bool.false_or] at cs
  clear hg ks
  go_wp2
  go_quiet (fail)
  go_wp2
  go_ret2
  exact ⟨rfl, bdrewN hB _⟩
end Go.Proofs.Ytnjdffnbkjjmeaa
