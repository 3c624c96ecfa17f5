/- The walk of FnBinaryTestPosIsFirstInSource. -/
import Derived.Test.YtimaobpcefgdkaaWord
import Derived.Test.YtimaobpcefgdkaaRow
import Derived.OpenShut
namespace Go.Proofs.Ytimaobpcefgdkaa
open Go.RowKit
theorem zzBytes17_any (d b : Int) (s : ByteArray) (w : World) (hs : s.size ≤ 1048576) :
    Calls Try.prog 54 #[.int .i64 d, .int .u32 b, .string s] w fun e w' => e = .returned (.bool true) ∧ w = w' := by
  go_enter Try.func54, Try.ntmps54
  go_wp2
  go_ret
  exact ⟨rfl, rfl⟩
theorem zzBytes17_no (d b : Int) (s : ByteArray) (w : World) (hs : ¬ s.size ≤ 1048576) (_hm : s.size ≤ 9223372036854775807) :
    Calls Try.prog 54 #[.int .i64 d, .int .u32 b, .string s] w fun e w' => e = .returned (.bool false) ∧ w = w' := by
  have h1 : 1048576 < s.size := by omega
  go_enter Try.func54, Try.ntmps54
  go_wp2
  go_ret
  exact ⟨rfl, rfl⟩
/-- The packed word of line 1 and column o + 1. -/
def srcL (o : Int) : Int := bits .or .u32 16384 (o + 1)
theorem srcL_ne (o : Int) (h0 : 0 ≤ o) (h1 : o < 4294967295) : srcL o ≠ 0 ∧ 0 ≤ srcL o ∧ srcL o < 4294967296 := by
  unfold srcL
  rw [u32_or 16384 (o + 1) (by omega) (by omega) (by omega) (by omega)]
  have h : (16384 : Int).toNat ≤ (16384 : Int).toNat ||| (o + 1).toNat := Nat.left_le_or
  have h2 : (16384 : Int).toNat ||| (o + 1).toNat < 2 ^ 32 := Nat.or_lt_two_pow (by decide) (by have : (2 : Nat) ^ 32 = 4294967296 := by decide
                                                                                                omega)
  have h3 : (16384 : Int).toNat = 16384 := by decide
  have h4 : (2 : Nat) ^ 32 = 4294967296 := by decide
  rw [h3] at h h2 ⊢
  rw [h4] at h2
  omega
theorem srcL_small (o : Int) (h0 : 0 ≤ o) (h1 : o < 16383) : srcL o = 16384 + (o + 1) :=
  or_col 16384 (o + 1) (by omega) (by omega) (by omega) (by omega) (by omega)
theorem srcPos17 (o : Int) (w : World) (h0 : 0 ≤ o) (h1 : o < 4294967295) :
    Calls Try.prog 56 #[.int .u32 o] w fun e w' => e = .returned (P2 o (srcL o)) ∧ Below w.heap.size w w' := by
  have e0 : bits .or .u32 16384 (o + 1) = srcL o := rfl
  go_enter Try.func56, Try.ntmps56
  go_wp2
  go_returns
  exact ⟨rfl, by go_grown⟩
/-- A word of one literal that starts at (xs, xl). -/
def LitWd (W : World) (wd : Nat) (xs xl : Int) : Prop :=
  ∃ (pt lt : Nat) (xe el : Int) (s : ByteArray), Bk W wd 37 #[.slice (some ⟨pt, 0, none⟩) 1 1] ∧ Bk W pt 134 #[.iface 28 (.pointer (some ⟨lt, 0, none⟩))] ∧ Bk W lt 33 #[.int .u32 xs, .int .u32 xl, .int .u32 xe, .int .u32 el, .string s]
theorem LitWd.keep {W W1 : World} {wd : Nat} {xs xl : Int} (h : LitWd W wd xs xl) (hb : Below W.heap.size W W1) : LitWd W1 wd xs xl := by
  obtain ⟨pt, lt, xe, el, s, h1, h2, h3⟩ := h
  exact ⟨pt, lt, xe, el, s, h1.keep hb, h2.keep hb, h3.keep hb⟩
theorem LitWd.pos {W : World} {wd : Nat} {xs xl : Int} (h : LitWd W wd xs xl) :
    Calls Try.prog 65 #[.pointer (some ⟨wd, 0, none⟩)] W fun e w' => e = .returned (P2 xs xl) ∧ Below W.heap.size W w' := by
  obtain ⟨pt, lt, xe, el, s, h1, h2, h3⟩ := h
  exact Word_Pos_lit wd pt 0 1 lt xs xl W (by rw [h1.cells]; rfl) (by omega) (by rw [h2.cells]; rfl) (by rw [h3.cells]; rfl) (by rw [h3.cells]; rfl)
def PtrTo (Pw : Nat → World → Prop) (w : World) (e : Ending) (w' : World) : Prop := ∃ b : Nat, e = .returned (.pointer (some ⟨b, 0, none⟩)) ∧ Pw b w' ∧ Below w.heap.size w w'
theorem wordOfLit17 (xs xl xe el : Int) (s : ByteArray) (w : World) :
    Calls Try.prog 55 #[P2 xs xl, P2 xe el, .string s] w (PtrTo (fun b W => LitWd W b xs xl) w) := by
  go_enter Try.func55, Try.ntmps55
  go_wp2
  go_ret
  exact ⟨w.heap.size + 1 + 1 + 1 + 1, rfl, ⟨w.heap.size + 1 + 1 + 1, w.heap.size + 1 + 1, xe, el, s, by repeat (first | (refine Bk.newAt ?_; simp; done) | refine Bk.alloc ?_ _ | refine Bk.drew ?_), by repeat (first | (refine Bk.newAt ?_; simp; done) | refine Bk.alloc ?_ _ | refine Bk.drew ?_), by repeat (first | (refine Bk.newAt ?_; simp; done) | refine Bk.alloc ?_ _ | refine Bk.drew ?_)⟩, by go_grown⟩
/-- A chain of d + 1 binary tests, nested on the left, whose leaf starts at (xs, xl). -/
def Chain17 (W : World) (xs xl : Int) : Nat → Nat → Prop
  | 0, b => ∃ (wd : Nat) (c0 c1 c2 c4 : Value), Bk W b 154 #[c0, c1, c2, .iface 34 (.pointer (some ⟨wd, 0, none⟩)), c4] ∧ LitWd W wd xs xl
  | d + 1, b => ∃ (b' : Nat) (c0 c1 c2 c4 : Value), Bk W b 154 #[c0, c1, c2, .iface 106 (.pointer (some ⟨b', 0, none⟩)), c4] ∧ Chain17 W xs xl d b'
theorem Chain17.keep {W W1 : World} {xs xl : Int} (hb : Below W.heap.size W W1) : ∀ (d b : Nat), Chain17 W xs xl d b → Chain17 W1 xs xl d b
  | 0, _, ⟨wd, c0, c1, c2, c4, h, k⟩ => ⟨wd, c0, c1, c2, c4, h.keep hb, k.keep hb⟩
  | d + 1, _, ⟨b', c0, c1, c2, c4, h, k⟩ => ⟨b', c0, c1, c2, c4, h.keep hb, Chain17.keep hb d b' k⟩
theorem BinaryTest_Pos_word (b bw : Nat) (o lc : Int) (w : World) (h3 : w.cell? ⟨b, 3, none⟩ = some (.iface 34 (.pointer (some ⟨bw, 0, none⟩))))
    (hend : ∀ W, Below w.heap.size w W → Calls Try.prog 65 #[.pointer (some ⟨bw, 0, none⟩)] W fun e w' => e = .returned (P2 o lc) ∧ Below W.heap.size W w') :
    Calls Try.prog 59 #[.pointer (some ⟨b, 0, none⟩)] w fun e w' => e = .returned (P2 o lc) ∧ Below w.heap.size w w' := by
  have hlt : b < w.heap.size := World.block_lt_of_cell? _ _ h3
  have HE := Lib.hid hend
  clear hend
  go_enter Try.func59, Try.ntmps59
  go_wp2_with (go_at_call 65; refine (HE.out _ (by go_grown)).mono ?_; rintro e w1 ⟨rfl, hb⟩; obtain ⟨hc, hf, hz, hB, hs⟩ := bcell (w := w) (by go_grown) hb; clear hb)
  refine bodyPost_ret (v := P2 o lc) (by simp [results, Try.results59, go_sem, hc]) rfl ⟨rfl, ?_⟩
  go_grown
theorem BinaryTest_Pos_bin (b bw : Nat) (o lc : Int) (w : World) (h3 : w.cell? ⟨b, 3, none⟩ = some (.iface 106 (.pointer (some ⟨bw, 0, none⟩))))
    (hend : ∀ W, Below w.heap.size w W → Calls Try.prog 59 #[.pointer (some ⟨bw, 0, none⟩)] W fun e w' => e = .returned (P2 o lc) ∧ Below W.heap.size W w') :
    Calls Try.prog 59 #[.pointer (some ⟨b, 0, none⟩)] w fun e w' => e = .returned (P2 o lc) ∧ Below w.heap.size w w' := by
  have hlt : b < w.heap.size := World.block_lt_of_cell? _ _ h3
  have HE := Lib.hid hend
  clear hend
  go_enter Try.func59, Try.ntmps59
  go_wp2_with (go_at_call 59; refine (HE.out _ (by go_grown)).mono ?_; rintro e w1 ⟨rfl, hb⟩; obtain ⟨hc, hf, hz, hB, hs⟩ := bcell (w := w) (by go_grown) hb; clear hb)
  refine bodyPost_ret (v := P2 o lc) (by simp [results, Try.results59, go_sem, hc]) rfl ⟨rfl, ?_⟩
  go_grown
theorem Chain17.pos {xs xl : Int} : ∀ (d b : Nat) (W : World), Chain17 W xs xl d b → Calls Try.prog 59 #[.pointer (some ⟨b, 0, none⟩)] W fun e w' => e = .returned (P2 xs xl) ∧ Below W.heap.size W w'
  | 0, b, W, ⟨wd, _, _, _, _, h, k⟩ => BinaryTest_Pos_word b wd xs xl W (by rw [h.cells]; rfl) fun _ hb => (k.keep hb).pos
  | d + 1, b, W, ⟨b', _, _, _, _, h, k⟩ => BinaryTest_Pos_bin b b' xs xl W (by rw [h.cells]; rfl) fun W1 hb => Chain17.pos d b' W1 (Chain17.keep hb d b' k)
theorem binOverWord17 (o lc xs xl : Int) (wx wy : Nat) (w : World) (hx : LitWd w wx xs xl) :
    Calls Try.prog 57 #[P2 o lc, .pointer (some ⟨wx, 0, none⟩), .pointer (some ⟨wy, 0, none⟩)] w (PtrTo (fun b W => Chain17 W xs xl 0 b) w) := by
  have HX := Lib.hid hx
  clear hx
  go_enter Try.func57, Try.ntmps57
  go_wp2
  go_ret
  exact ⟨w.heap.size + 1, rfl, ⟨wx, _, _, _, _, by repeat (first | (refine Bk.newAt ?_; simp; done) | refine Bk.alloc ?_ _ | refine Bk.drew ?_), HX.out.keep (by go_grown)⟩, by go_grown⟩
theorem binOverBin17 (o lc xs xl : Int) (d bx wy : Nat) (w : World) (hx : Chain17 w xs xl d bx) :
    Calls Try.prog 58 #[P2 o lc, .pointer (some ⟨bx, 0, none⟩), .pointer (some ⟨wy, 0, none⟩)] w (PtrTo (fun b W => Chain17 W xs xl (d + 1) b) w) := by
  have HX := Lib.hid hx
  clear hx
  go_enter Try.func58, Try.ntmps58
  go_wp2
  go_ret
  exact ⟨w.heap.size + 1, rfl, ⟨bx, _, _, _, _, by repeat (first | (refine Bk.newAt ?_; simp; done) | refine Bk.alloc ?_ _ | refine Bk.drew ?_), Chain17.keep (by go_grown) d bx HX.out⟩, by go_grown⟩
end Go.Proofs.Ytimaobpcefgdkaa
