/- The contract of Word.Lit for a word of literals, and for one with another part. -/
import Derived.Test.YtimaobpcefgdkaaSrc
import Derived.Test.YtimaobpcefgdkaaShelf
import Derived.OwnWalk
namespace Go.Proofs.Ytimaobpcefgdkaa
open Go.RowKit
/-- A literal part that holds s. -/
def LitPart (W : World) (v : Value) (s : ByteArray) : Prop := ∃ lt : Nat, v = .iface 28 (.pointer (some ⟨lt, 0, none⟩)) ∧ W.cell? ⟨lt, 4, none⟩ = some (.string s)
theorem LitPart.keep {W W1 : World} {v : Value} {s : ByteArray} (h : LitPart W v s) (hb : Below W.heap.size W W1) : LitPart W1 v s := by
  obtain ⟨lt, hv, hc⟩ := h
  exact ⟨lt, hv, keepc hb hc⟩
def strsL (S : Nat → ByteArray) (n : Nat) : List ByteArray := (List.range n).map S
def concL (S : Nat → ByteArray) (n : Nat) : List UInt8 := ((strsL S n).map (·.data.toList)).flatten
theorem strsL_succ (S : Nat → ByteArray) (n : Nat) : strsL S (n + 1) = strsL S n ++ [S n] := by simp [strsL, List.range_succ]
theorem strsL_len (S : Nat → ByteArray) (n : Nat) : (strsL S n).length = n := by simp [strsL]
theorem join_nil : ∀ xs : List (List UInt8), Lib.join xs [] = xs.flatten
  | [] => rfl
  | [x] => by simp [Lib.join]
  | x :: y :: r => by
    have := join_nil (y :: r)
    simp [Lib.join, List.intercalate] at this ⊢
    exact this
theorem assertLit (a : Option Addr) (w : World) : (Instr.typeAssert (.iface 28 (.pointer a)) 134 28 true).run Try.prog w = .ok (.tuple #[.pointer a, .bool true]) w := by kernel_rfl
theorem infoStr : (Try.prog.info? 9).map (fun i => (i.zero, i.size, i.bytes)) = some (some (.string ByteArray.empty), 1, 16) := by kernel_rfl
theorem own_shape_w {w : World} {base n : Nat} {e : TypeId} {v : Value} {xs : List Value} (ho : w.ownsRow base e 1 v n xs) : (v = .slice none 0 0 ∧ n = 0) ∨ ∃ g c : Nat, v = .slice (some ⟨g, 0, none⟩) n c ∧ n ≤ c := by
  rcases ho.2 with h | ⟨g, c, _, h, _, _, hc, _⟩
  · exact .inl h
  · exact .inr ⟨g, c, h, hc⟩
theorem below_app_w {B : Nat} {w W w1 : World} {v : Value} {n : Nat} {e : TypeId} {xs : List Value} (h : Below B w W) (hB : B ≤ W.heap.size) (hown : W.ownsRow B e 1 v n xs) (hg : W.grownBy w1 v.ownBlock) : Below B w w1 := by
  refine h.trans ⟨hg.os, hg.tape, hg.output, hg.size, fun i hi => hg.block i (by omega) ?_⟩
  intro h1
  have := hown.lt i h1.symm
  omega
def RelL (w : World) (S : Nat → ByteArray) (n : Nat) (v i : Value) (wr : World) : Prop :=
  ∃ (k c : Nat) (a : Option Addr), k ≤ n ∧ i = .int .i64 k ∧ v = .slice a k c ∧ wr.ownsRow w.heap.size 9 1 (.slice a k c) k ((strsL S k).map .string) ∧ Below w.heap.size w wr
set_option maxHeartbeats 2000000 in
set_option maxRecDepth 100000 in
theorem Word_Lit_all (b pt n cap : Nat) (S : Nat → ByteArray) (w : World) (hb : w.cell? ⟨b, 0, none⟩ = some (.slice (some ⟨pt, 0, none⟩) n cap))
    (hp : ∀ j, j < n → ∃ v, w.cell? ⟨pt, j, none⟩ = some v ∧ LitPart w v (S j)) (hn : n ≤ 1048576) (hlen : (concL S n).length ≤ 140737488355328) :
    Calls Try.prog 36 #[.pointer (some ⟨b, 0, none⟩)] w fun e w' => e = .returned (.string ⟨(concL S n).toArray⟩) ∧ Below w.heap.size w w' := by
  obtain ⟨i0, hi, hz0, hz1, hz2⟩ := info_parts infoStr
  have hi2 := Lib.hid hi
  have hz0' := Lib.hid hz0
  have hz1' := Lib.hid hz1
  have hz2' := Lib.hid hz2
  have HP := Lib.hid hp
  have hta := fun (a : Option Addr) (w : World) => assertLit a w
  have lb := World.block_lt_of_cell? _ _ hb
  clear hi hz0 hz1 hz2 hp
  go_enter Try.func36, Try.ntmps36
  go_wp2_with (at_make; refine wpList_make_own _ rfl _ _ 71 rfl w.heap.size 9 i0 (.string ByteArray.empty) 1 Try.underlying71 hi2.out hz0'.out hz1'.out .i64 .i64 1 1 rfl rfl rfl ?c1 ?c2 ?c3 ?_; rotate_left 3; intro wm hown hgr; have hBm : Below w.heap.size w wm := ⟨hgr.os, hgr.tape, hgr.output, hgr.size, fun i hi => hgr.block i hi (by simp)⟩; have hb1 := keepc hBm hb; have lb1 := World.block_lt_of_cell? _ _ hb1; clear hgr)
  case c1 => rw [hz2'.out]; omega
  case c2 => unfold maxLen; omega
  try (case c3 => exact Nat.le_refl _)
  have hO : wm.ownsRow w.heap.size 9 1 (.slice (some ⟨w.heap.size, 0, none⟩) 0 1) 0 ((strsL S 0).map .string) := hown
  clear hown
  go_loopw [3, 14] (fun v i wr => RelL w S n v i wr) (fun _ i _ => n - (intOf i).toNat)
  case atStart => exact ⟨0, 1, _, by omega, by go_num, rfl, hO, hBm⟩
  case round =>
    clear hO hBm hb1 lb1
    obtain ⟨k, c, a, hk, rfl, rfl, hown, hB⟩ := hrel
    have HO := Lib.hid hown
    have HB := Lib.hid hB
    clear hown
    by_cases hlt : k < n
    · obtain ⟨v, hv, lt, rfl, hs⟩ := HP.out k hlt
      have q1 := keepc hB hv
      have q2 := keepc hB hs
      have q3 := World.block_lt_of_cell? _ _ q2
      have sw := hB.size
      have hlt' : (k : Int) < (n : Int) := by omega
      clear hv hs hB
      go_wp2_with (at_builtin; refine wpList_append_own _ rfl _ _ 71 rfl w.heap.size 9 i0 (.string ByteArray.empty) 1 16 Try.underlying71 hi2.out hz0'.out hz1'.out hz2'.out rfl (by decide) (.slice a k c) k _ rfl (HO.out.alloc _) ⟨wr.heap.size, 0, none⟩ 1 1 [.string (S k)] rfl rfl (news_one (Bk.fresh _ _ _)) (by simp [Value.oneCell']) (by unfold maxLen; omega) (by omega) (by simp; omega) ?_; intro v2 w2 ho2 hg2 _; have hB2 := below_app_w (HB.out.alloc (by omega) _) (by simp; omega) (HO.out.alloc _) hg2; have hS2 : ∃ (a2 : Option Addr) (c2 : Nat), v2 = .slice a2 (k + 1) c2 := (by rcases own_shape_w ho2 with ⟨h, hk0⟩ | ⟨g, c2, h, _⟩; (· omega); (· exact ⟨_, c2, h⟩)); obtain ⟨a2, c2, rfl⟩ := hS2; have HO2 := Lib.hid ho2; clear ho2 hg2)
      go_roundw
      case rel => exact ⟨k + 1, c2, a2, by omega, by go_num, rfl, by rw [strsL_succ, List.map_append]; exact HO2.out, hB2⟩
      case measure => simp [intOf]; omega
    · obtain rfl : k = n := by omega
      have HL := Lib.hid hlen
      clear hB hlen
      rcases k with _ | m
      · go_wp2_with (go_at_call 83; refine (Try.strings_Join_none _ _ _ _).mono ?_; rintro e w' ⟨rfl, rfl⟩)
        go_ret
        exact ⟨rfl, HB.out⟩
      · have hsh : ∃ g c2 : Nat, a = some ⟨g, 0, none⟩ ∧ c = c2 ∧ m + 1 ≤ c ∧ ∀ (j : Nat) x, (strsL S (m + 1))[j]? = some x → wr.cell? ⟨g, 0 + j, none⟩ = some (.string x) := by
          rcases own_shape_w HO.out with ⟨_, h0⟩ | ⟨g, c2, h, hle⟩
          · omega
          · injection h with h1 _ h3
            subst h1 h3
            refine ⟨g, c, rfl, rfl, hle, fun j x hx => ?_⟩
            have hj : j < m + 1 := by
              have := (List.getElem?_eq_some_iff.1 hx).1
              rwa [strsL_len] at this
            rw [Nat.zero_add, HO.out.cellAt j (by omega)]
            simp [hx]
        obtain ⟨g, c2, rfl, rfl, hle, hcells⟩ := hsh
        have hg : g < wr.heap.size := (HO.out.lt g rfl).2
        have hJ := Try.strings_Join g 0 c (strsL S (m + 1)) ByteArray.empty wr hcells hg (by rw [strsL_len]; omega) (by rw [strsL_len]; exact hle) (by rw [show (ByteArray.empty).data.toList = [] from rfl, join_nil]; exact HL.out)
        rw [strsL_len, show (ByteArray.empty).data.toList = [] from rfl, join_nil] at hJ
        have HJ := Lib.hid hJ
        clear hJ hcells
        go_wp2_with (go_at_call 83; refine HJ.out.mono ?_; rintro e w' ⟨rfl, hb2⟩)
        go_ret
        exact ⟨rfl, bmore HB.out hb2⟩
end Go.Proofs.Ytimaobpcefgdkaa
