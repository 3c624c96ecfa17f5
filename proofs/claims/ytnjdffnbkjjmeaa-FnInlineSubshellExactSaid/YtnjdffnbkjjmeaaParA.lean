/- removeParensArithm: the contract, over a chain of nested parentheses. -/
import Derived.Test.YtnjdffnbkjjmeaaRow
import Derived.OpenShut
import Derived.WalkSpells
import Derived.Deep.LoopGhost
import Derived.Deep.QuietTactic
import Derived.BigQuiet
import Derived.LaidEql
import Derived.Lib.Builder
import Derived.Maps.AppendAt
namespace Go.Proofs.Ytnjdffnbkjjmeaa
open Go.RowKit
/-- x is inner under d parentheses. -/
def ParCh (W : World) (inner : Value) : Nat → Value → Prop
  | 0, x => x = inner
  | d + 1, x => ∃ (b : Nat) (y : Value), x = .iface 79 (.pointer (some ⟨b, 0, none⟩)) ∧ Bk W b 85 #[.int .u32 0, .int .u32 0, .int .u32 0, .int .u32 0, y] ∧ ParCh W inner d y
theorem ParCh.keep {W W1 : World} {inner : Value} (hb : Below W.heap.size W W1) : ∀ (d : Nat) (x : Value), ParCh W inner d x → ParCh W1 inner d x
  | 0, _, h => h
  | d + 1, _, ⟨b, y, hx, k, r⟩ => ⟨b, y, hx, k.keep hb, ParCh.keep hb d y r⟩
theorem Bk.ne_ {w : World} {g g' : Nat} {t t' : TypeId} {cs cs' : Array Value} (h : Bk w g t cs) (h' : Bk w g' t' cs') (hne : t ≠ t') : g ≠ g' := by
  rintro rfl
  unfold Bk at h h'
  rw [h] at h'
  injection h' with h'
  injection h' with _ ht
  exact hne ht
theorem ParCh.set {W : World} {inner : Value} {sb i : Nat} {u : Value} {cs : Array Value} (hs : Bk W sb 167 cs) : ∀ (d : Nat) (x : Value), ParCh W inner d x → ParCh (W.setCell ⟨sb, i, none⟩ u) inner d x
  | 0, _, h => h
  | d + 1, _, ⟨b, y, hx, k, r⟩ => ⟨b, y, hx, k.far (p := ⟨sb, i, none⟩) (k.ne_ hs (by decide)) u, ParCh.set hs d y r⟩
theorem ta_paren (a : Option Addr) (w : World) : (Instr.typeAssert (.iface 79 (.pointer a)) 78 79 true).run Try.prog w = .ok (.tuple #[.pointer a, .bool true]) w := by kernel_rfl
set_option maxHeartbeats 2000000 in
theorem removeParens_any (sb d : Nat) (x inner mp : Value) (m : Bool) (w : World) (hs : Bk w sb 167 #[.bool m, mp]) (hx : ParCh w inner d x)
    (hin : ∀ w, (Instr.typeAssert inner 78 79 true).run Try.prog w = .ok (.tuple #[.pointer none, .bool false]) w) :
    Calls Try.prog 78 #[.pointer (some ⟨sb, 0, none⟩), x] w fun e w' => e = .returned inner ∧ Bk w' sb 167 #[.bool (m || decide (0 < d)), mp] ∧ w.grownBy w' (some sb) := by
  have tp := ta_paren
  go_enter Try.func78, Try.ntmps78
  go_wp2
  go_loopg [1] d (fun k y wr => k ≤ d ∧ ParCh wr inner k y ∧ Bk wr sb 167 #[.bool (m || decide (k < d)), mp] ∧ w.grownBy wr (some sb))
  case atStart => exact ⟨Nat.le_refl _, hx, by simpa using hs, World.grownBy.refl w _⟩
  case round =>
    obtain ⟨hk, hch, hsr, hg⟩ := hrel
    rcases gk with _ | k
    · have hch : u1 = inner := hch
      subst hch
      have HS := Lib.hid hsr
      clear hsr
      go_wp2
      go_ret
      exact ⟨rfl, HS.out, hg⟩
    · obtain ⟨b, y, rfl, kb, hr⟩ := hch
      have cb := kb.cells
      have cs := hsr.cells
      have fs := hsr.frz
      have nb : ¬ b = sb := kb.ne_ hsr (by decide)
      have nb' : ¬ sb = b := fun h => nb h.symm
      have h2 := ParCh.set (i := 0) (u := .bool true) hsr k y hr
      have h3 := hsr.put 0 (.bool true)
      have h4 : wr.grownBy (wr.setCell ⟨sb, 0, none⟩ (.bool true)) (some sb) := by
        refine ⟨rfl, rfl, rfl, by simp [World.setCell], fun i _ hne => Below.heap_setCell wr _ _ i ?_⟩
        rintro rfl
        exact hne rfl
      have H2 := Lib.hid h2
      have H3 := Lib.hid h3
      have e1 : (m || decide (k < d)) = true := by simp; right; omega
      have E1 := Lib.hid e1
      clear h2 h3 e1 hr
      go_wp2
      go_roundg k
      case measure => omega
      case rel => exact ⟨by omega, H2.out, by rw [E1.out]; exact H3.out, hg.trans h4⟩
set_option maxHeartbeats 2000000 in
theorem ZZremoveParens_any (d : Nat) (x inner : Value) (w : World) (hx : ParCh w inner d x)
    (hin : ∀ w, (Instr.typeAssert inner 78 79 true).run Try.prog w = .ok (.tuple #[.pointer none, .bool false]) w) :
    Calls Try.prog 36 #[x] w fun e w' => e = .returned (.tuple #[inner, .bool (decide (0 < d))]) ∧ Below w.heap.size w w' := by
  have HX := Lib.hid hx
  have HI := Lib.hid hin
  clear hx hin
  go_enter Try.func36, Try.ntmps36
  go_wp2_with fail
  refine (removeParens_any w.heap.size d x inner (.map none) false _ (Bk.fresh _ _ _) (ParCh.keep (by go_grown) d x HX.out) HI.out).mono ?_
  rintro e w1 ⟨rfl, ks, hg⟩
  have hB := below_grown (w := w) (by go_grown) hg (Nat.le_refl _)
  have cs := ks.cells
  simp only [Bool.false_or] at cs
  clear hg ks
  go_wp2
  go_quiet (fail)
  go_wp2
  go_ret2
  exact ⟨rfl, bdrewN hB _⟩
theorem same_nil (w : World) :
    Calls Try.prog 37 #[.nilIface, .nilIface] w fun e w' => e = .returned (.bool true) ∧ Below w.heap.size w w' := by
  go_enter Try.func37, Try.ntmps37
  go_wp2
  go_quiet (fail)
  go_wp2
  go_ret
  exact ⟨rfl, bdrewN (Below.refl _ _) _⟩
theorem ieq_Word (a : Addr) (w : World) : (binOp .eql 78 (.iface 44 (.pointer (some a))) (.iface 44 (.pointer (some a)))).run Try.prog w = .ok (.bool true) w := by
  obtain ⟨j, hj⟩ : ∃ j, Try.prog.info? 129 = some j := Option.isSome_iff_exists.1 (by kernel_rfl)
  obtain ⟨i, hi, hc⟩ : ∃ i, Try.prog.info? 44 = some i ∧ i.comparable = true := by
    have h : (Try.prog.info? 44).map (·.comparable) = some true := by kernel_rfl
    cases hh : Try.prog.info? 44 with
    | none => rw [hh] at h; cases h
    | some i => rw [hh] at h; exact ⟨i, rfl, by simpa using h⟩
  exact run_eql_iface_ptr_same w a Try.underlying78 Try.underlying44 hi hc hj
theorem same_Word (a : Addr) (w : World) :
    Calls Try.prog 37 #[.iface 44 (.pointer (some a)), .iface 44 (.pointer (some a))] w fun e w' => e = .returned (.bool true) ∧ Below w.heap.size w w' := by
  have h := ieq_Word
  go_enter Try.func37, Try.ntmps37
  go_wp2
  go_ret
  exact ⟨rfl, Below.refl _ _⟩
theorem ieq_BinaryArithm (a : Addr) (w : World) : (binOp .eql 78 (.iface 80 (.pointer (some a))) (.iface 80 (.pointer (some a)))).run Try.prog w = .ok (.bool true) w := by
  obtain ⟨j, hj⟩ : ∃ j, Try.prog.info? 92 = some j := Option.isSome_iff_exists.1 (by kernel_rfl)
  obtain ⟨i, hi, hc⟩ : ∃ i, Try.prog.info? 80 = some i ∧ i.comparable = true := by
    have h : (Try.prog.info? 80).map (·.comparable) = some true := by kernel_rfl
    cases hh : Try.prog.info? 80 with
    | none => rw [hh] at h; cases h
    | some i => rw [hh] at h; exact ⟨i, rfl, by simpa using h⟩
  exact run_eql_iface_ptr_same w a Try.underlying78 Try.underlying80 hi hc hj
theorem same_BinaryArithm (a : Addr) (w : World) :
    Calls Try.prog 37 #[.iface 80 (.pointer (some a)), .iface 80 (.pointer (some a))] w fun e w' => e = .returned (.bool true) ∧ Below w.heap.size w w' := by
  have h := ieq_BinaryArithm
  go_enter Try.func37, Try.ntmps37
  go_wp2
  go_ret
  exact ⟨rfl, Below.refl _ _⟩
theorem ieq_UnaryArithm (a : Addr) (w : World) : (binOp .eql 78 (.iface 81 (.pointer (some a))) (.iface 81 (.pointer (some a)))).run Try.prog w = .ok (.bool true) w := by
  obtain ⟨j, hj⟩ : ∃ j, Try.prog.info? 95 = some j := Option.isSome_iff_exists.1 (by kernel_rfl)
  obtain ⟨i, hi, hc⟩ : ∃ i, Try.prog.info? 81 = some i ∧ i.comparable = true := by
    have h : (Try.prog.info? 81).map (·.comparable) = some true := by kernel_rfl
    cases hh : Try.prog.info? 81 with
    | none => rw [hh] at h; cases h
    | some i => rw [hh] at h; exact ⟨i, rfl, by simpa using h⟩
  exact run_eql_iface_ptr_same w a Try.underlying78 Try.underlying81 hi hc hj
theorem same_UnaryArithm (a : Addr) (w : World) :
    Calls Try.prog 37 #[.iface 81 (.pointer (some a)), .iface 81 (.pointer (some a))] w fun e w' => e = .returned (.bool true) ∧ Below w.heap.size w w' := by
  have h := ieq_UnaryArithm
  go_enter Try.func37, Try.ntmps37
  go_wp2
  go_ret
  exact ⟨rfl, Below.refl _ _⟩
theorem ieq_ParenArithm (a : Addr) (w : World) : (binOp .eql 78 (.iface 79 (.pointer (some a))) (.iface 79 (.pointer (some a)))).run Try.prog w = .ok (.bool true) w := by
  obtain ⟨j, hj⟩ : ∃ j, Try.prog.info? 85 = some j := Option.isSome_iff_exists.1 (by kernel_rfl)
  obtain ⟨i, hi, hc⟩ : ∃ i, Try.prog.info? 79 = some i ∧ i.comparable = true := by
    have h : (Try.prog.info? 79).map (·.comparable) = some true := by kernel_rfl
    cases hh : Try.prog.info? 79 with
    | none => rw [hh] at h; cases h
    | some i => rw [hh] at h; exact ⟨i, rfl, by simpa using h⟩
  exact run_eql_iface_ptr_same w a Try.underlying78 Try.underlying79 hi hc hj
theorem same_ParenArithm (a : Addr) (w : World) :
    Calls Try.prog 37 #[.iface 79 (.pointer (some a)), .iface 79 (.pointer (some a))] w fun e w' => e = .returned (.bool true) ∧ Below w.heap.size w w' := by
  have h := ieq_ParenArithm
  go_enter Try.func37, Try.ntmps37
  go_wp2
  go_ret
  exact ⟨rfl, Below.refl _ _⟩
end Go.Proofs.Ytnjdffnbkjjmeaa
