/- Word.Lit of a word with a part that is no literal: the empty string. -/
import Derived.Test.YtimaobpcefgdkaaWLit
namespace Go.Proofs.Ytimaobpcefgdkaa
open Go.RowKit
theorem assertSgl (a : Option Addr) (w : World) : (Instr.typeAssert (.iface 127 (.pointer a)) 134 28 true).run Try.prog w = .ok (.tuple #[.pointer none, .bool false]) w := by kernel_rfl
theorem assertDbl (a : Option Addr) (w : World) : (Instr.typeAssert (.iface 130 (.pointer a)) 134 28 true).run Try.prog w = .ok (.tuple #[.pointer none, .bool false]) w := by kernel_rfl
/-- A quoted part. -/
def QuoPart (v : Value) : Prop := ∃ b : Nat, v = .iface 127 (.pointer (some ⟨b, 0, none⟩)) ∨ v = .iface 130 (.pointer (some ⟨b, 0, none⟩))
set_option maxHeartbeats 2000000 in
set_option maxRecDepth 100000 in
theorem Word_Lit_not (b pt n cap p : Nat) (S : Nat → ByteArray) (vq : Value) (w : World) (hb : w.cell? ⟨b, 0, none⟩ = some (.slice (some ⟨pt, 0, none⟩) n cap))
    (hp : ∀ j, j < p → ∃ v, w.cell? ⟨pt, j, none⟩ = some v ∧ LitPart w v (S j)) (hpn : p < n) (hq : w.cell? ⟨pt, p, none⟩ = some vq) (hv : QuoPart vq) (hn : n ≤ 1048576) :
    Calls Try.prog 36 #[.pointer (some ⟨b, 0, none⟩)] w fun e w' => e = .returned (.string ByteArray.empty) ∧ Below w.heap.size w w' := by
  obtain ⟨i0, hi, hz0, hz1, hz2⟩ := info_parts infoStr
  have hi2 := Lib.hid hi
  have hz0' := Lib.hid hz0
  have hz1' := Lib.hid hz1
  have hz2' := Lib.hid hz2
  have HP := Lib.hid hp
  have HQ := Lib.hid hq
  have HV := Lib.hid hv
  have hta := fun (a : Option Addr) (w : World) => assertLit a w
  have htb := fun (a : Option Addr) (w : World) => assertSgl a w
  have htc := fun (a : Option Addr) (w : World) => assertDbl a w
  have lb := World.block_lt_of_cell? _ _ hb
  clear hi hz0 hz1 hz2 hp hq hv
  go_enter Try.func36, Try.ntmps36
  go_wp2_with (at_make; refine wpList_make_own _ rfl _ _ 71 rfl w.heap.size 9 i0 (.string ByteArray.empty) 1 Try.underlying71 hi2.out hz0'.out hz1'.out .i64 .i64 1 1 rfl rfl rfl ?c1 ?c2 ?c3 ?_; rotate_left 3; intro wm hown hgr; have hBm : Below w.heap.size w wm := ⟨hgr.os, hgr.tape, hgr.output, hgr.size, fun i hi => hgr.block i hi (by simp)⟩; have hb1 := keepc hBm hb; have lb1 := World.block_lt_of_cell? _ _ hb1; clear hgr)
  case c1 => rw [hz2'.out]; omega
  case c2 => unfold maxLen; omega
  try (case c3 => exact Nat.le_refl _)
  have hO : wm.ownsRow w.heap.size 9 1 (.slice (some ⟨w.heap.size, 0, none⟩) 0 1) 0 ((strsL S 0).map .string) := hown
  clear hown
  go_loopw [3, 14] (fun v i wr => RelL w S p v i wr) (fun _ i _ => p - (intOf i).toNat)
  case atStart => exact ⟨0, 1, _, by omega, by go_num, rfl, hO, hBm⟩
  case round =>
    clear hO hBm hb1 lb1
    obtain ⟨k, c, a, hk, rfl, rfl, hown, hB⟩ := hrel
    have HO := Lib.hid hown
    have HB := Lib.hid hB
    clear hown
    have hlt' : (k : Int) < (n : Int) := by omega
    by_cases hlt : k < p
    · obtain ⟨v, hv, lt, rfl, hs⟩ := HP.out k hlt
      have q1 := keepc hB hv
      have q2 := keepc hB hs
      have q3 := World.block_lt_of_cell? _ _ q2
      have sw := hB.size
      clear hv hs hB
      go_wp2_with (at_builtin; refine wpList_append_own _ rfl _ _ 71 rfl w.heap.size 9 i0 (.string ByteArray.empty) 1 16 Try.underlying71 hi2.out hz0'.out hz1'.out hz2'.out rfl (by decide) (.slice a k c) k _ rfl (HO.out.alloc _) ⟨wr.heap.size, 0, none⟩ 1 1 [.string (S k)] rfl rfl (news_one (Bk.fresh _ _ _)) (by simp [Value.oneCell']) (by unfold maxLen; omega) (by omega) (by simp; omega) ?_; intro v2 w2 ho2 hg2 _; have hB2 := below_app_w (HB.out.alloc (by omega) _) (by simp; omega) (HO.out.alloc _) hg2; have hS2 : ∃ (a2 : Option Addr) (c2 : Nat), v2 = .slice a2 (k + 1) c2 := (by rcases own_shape_w ho2 with ⟨h, hk0⟩ | ⟨g, c2, h, _⟩; (· omega); (· exact ⟨_, c2, h⟩)); obtain ⟨a2, c2, rfl⟩ := hS2; have HO2 := Lib.hid ho2; clear ho2 hg2)
      go_roundw
      case rel => exact ⟨k + 1, c2, a2, by omega, by go_num, rfl, by rw [strsL_succ, List.map_append]; exact HO2.out, hB2⟩
      case measure => simp [intOf]; omega
    · obtain rfl : k = p := by omega
      have q1 := keepc hB HQ.out
      have q3 := World.block_lt_of_cell? _ _ q1
      clear hB
      obtain ⟨bq, h | h⟩ := HV.out
      · subst h
        go_wp2
        go_ret
        exact ⟨rfl, HB.out⟩
      · subst h
        go_wp2
        go_ret
        exact ⟨rfl, HB.out⟩
end Go.Proofs.Ytimaobpcefgdkaa
