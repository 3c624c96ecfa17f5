/- Binary arithmetic trees over words of one literal: their start and end, in every later world. -/
import Derived.Test.YtimaobpcefgdkaaCallX
import Derived.Deep.RegionHeld3
import Derived.Deep.Cut
namespace Go.Proofs.Ytimaobpcefgdkaa
open Go.RowKit
theorem zzPos19_any (o lc : Int) (w : World) :
    Calls Try.prog 67 #[.int .u32 o, .int .u32 lc] w fun e w' => e = .returned (P2 o lc) ∧ Below w.heap.size w w' := by
  go_enter Try.func67, Try.ntmps67
  go_wp2
  go_returns
  exact ⟨rfl, by go_grown⟩
def PtrW (Pw : Nat → World → Prop) (w : World) (e : Ending) (w' : World) : Prop := ∃ b : Nat, e = .returned (.pointer (some ⟨b, 0, none⟩)) ∧ Pw b w' ∧ Below w.heap.size w w'
theorem zzLitWord19_any (xs xl xe el : Int) (w : World) :
    Calls Try.prog 68 #[P2 xs xl, P2 xe el] w (PtrW (fun b W => LitW W b xs xl xe el) w) := by
  go_enter Try.func68, Try.ntmps68
  go_wp2
  go_ret
  exact ⟨w.heap.size + 1 + 1 + 1 + 1, rfl, ⟨w.heap.size + 1 + 1 + 1, w.heap.size + 1 + 1, _, by repeat (first | (refine Bk.newAt ?_; simp; done) | refine Bk.alloc ?_ _ | refine Bk.drew ?_), by repeat (first | (refine Bk.newAt ?_; simp; done) | refine Bk.alloc ?_ _ | refine Bk.drew ?_), by repeat (first | (refine Bk.newAt ?_; simp; done) | refine Bk.alloc ?_ _ | refine Bk.drew ?_)⟩, by go_grown⟩
theorem BinaryArithm_Pos_word (b bw : Nat) (o lc : Int) (w : World) (h3 : w.cell? ⟨b, 3, none⟩ = some (.iface 34 (.pointer (some ⟨bw, 0, none⟩))))
    (hend : ∀ W, Below w.heap.size w W → Calls Try.prog 65 #[.pointer (some ⟨bw, 0, none⟩)] W fun e w' => e = .returned (P2 o lc) ∧ Below W.heap.size W w') :
    Calls Try.prog 69 #[.pointer (some ⟨b, 0, none⟩)] w fun e w' => e = .returned (P2 o lc) ∧ Below w.heap.size w w' := by
  have hlt : b < w.heap.size := World.block_lt_of_cell? _ _ h3
  have HE := Lib.hid hend
  clear hend
  go_enter Try.func69, Try.ntmps69
  go_wp2_with (go_at_call 65; refine (HE.out _ (by go_grown)).mono ?_; rintro e w1 ⟨rfl, hb⟩; obtain ⟨hc, hf, hz, hB, hs⟩ := bcell (w := w) (by go_grown) hb; clear hb)
  refine bodyPost_ret (v := P2 o lc) (by simp [results, Try.results69, go_sem, hc]) rfl ⟨rfl, ?_⟩
  go_grown
theorem BinaryArithm_Pos_bin (b bw : Nat) (o lc : Int) (w : World) (h3 : w.cell? ⟨b, 3, none⟩ = some (.iface 111 (.pointer (some ⟨bw, 0, none⟩))))
    (hend : ∀ W, Below w.heap.size w W → Calls Try.prog 69 #[.pointer (some ⟨bw, 0, none⟩)] W fun e w' => e = .returned (P2 o lc) ∧ Below W.heap.size W w') :
    Calls Try.prog 69 #[.pointer (some ⟨b, 0, none⟩)] w fun e w' => e = .returned (P2 o lc) ∧ Below w.heap.size w w' := by
  have hlt : b < w.heap.size := World.block_lt_of_cell? _ _ h3
  have HE := Lib.hid hend
  clear hend
  go_enter Try.func69, Try.ntmps69
  go_wp2_with (go_at_call 69; refine (HE.out _ (by go_grown)).mono ?_; rintro e w1 ⟨rfl, hb⟩; obtain ⟨hc, hf, hz, hB, hs⟩ := bcell (w := w) (by go_grown) hb; clear hb)
  refine bodyPost_ret (v := P2 o lc) (by simp [results, Try.results69, go_sem, hc]) rfl ⟨rfl, ?_⟩
  go_grown
theorem BinaryArithm_End_word (b bw : Nat) (o lc : Int) (w : World) (h3 : w.cell? ⟨b, 4, none⟩ = some (.iface 34 (.pointer (some ⟨bw, 0, none⟩))))
    (hend : ∀ W, Below w.heap.size w W → Calls Try.prog 64 #[.pointer (some ⟨bw, 0, none⟩)] W fun e w' => e = .returned (P2 o lc) ∧ Below W.heap.size W w') :
    Calls Try.prog 70 #[.pointer (some ⟨b, 0, none⟩)] w fun e w' => e = .returned (P2 o lc) ∧ Below w.heap.size w w' := by
  have hlt : b < w.heap.size := World.block_lt_of_cell? _ _ h3
  have HE := Lib.hid hend
  clear hend
  go_enter Try.func70, Try.ntmps70
  go_wp2_with (go_at_call 64; refine (HE.out _ (by go_grown)).mono ?_; rintro e w1 ⟨rfl, hb⟩; obtain ⟨hc, hf, hz, hB, hs⟩ := bcell (w := w) (by go_grown) hb; clear hb)
  refine bodyPost_ret (v := P2 o lc) (by simp [results, Try.results70, go_sem, hc]) rfl ⟨rfl, ?_⟩
  go_grown
theorem BinaryArithm_End_bin (b bw : Nat) (o lc : Int) (w : World) (h3 : w.cell? ⟨b, 4, none⟩ = some (.iface 111 (.pointer (some ⟨bw, 0, none⟩))))
    (hend : ∀ W, Below w.heap.size w W → Calls Try.prog 70 #[.pointer (some ⟨bw, 0, none⟩)] W fun e w' => e = .returned (P2 o lc) ∧ Below W.heap.size W w') :
    Calls Try.prog 70 #[.pointer (some ⟨b, 0, none⟩)] w fun e w' => e = .returned (P2 o lc) ∧ Below w.heap.size w w' := by
  have hlt : b < w.heap.size := World.block_lt_of_cell? _ _ h3
  have HE := Lib.hid hend
  clear hend
  go_enter Try.func70, Try.ntmps70
  go_wp2_with (go_at_call 70; refine (HE.out _ (by go_grown)).mono ?_; rintro e w1 ⟨rfl, hb⟩; obtain ⟨hc, hf, hz, hB, hs⟩ := bcell (w := w) (by go_grown) hb; clear hb)
  refine bodyPost_ret (v := P2 o lc) (by simp [results, Try.results70, go_sem, hc]) rfl ⟨rfl, ?_⟩
  go_grown
/-- What is asked of a tree later on: its start is (f, lc), its end (l, lc). -/
def BA (W : World) (b : Nat) (f l lc : Int) : Prop :=
  (∀ W1, Below W.heap.size W W1 → Calls Try.prog 69 #[.pointer (some ⟨b, 0, none⟩)] W1 fun e w' => e = .returned (P2 f lc) ∧ Below W1.heap.size W1 w') ∧
  (∀ W1, Below W.heap.size W W1 → Calls Try.prog 70 #[.pointer (some ⟨b, 0, none⟩)] W1 fun e w' => e = .returned (P2 l lc) ∧ Below W1.heap.size W1 w')
theorem BA.keep {W W1 : World} {b : Nat} {f l lc : Int} (h : BA W b f l lc) (hb : Below W.heap.size W W1) : BA W1 b f l lc := ⟨fun _ k => h.1 _ (bmore hb k), fun _ k => h.2 _ (bmore hb k)⟩
theorem BA.ww {W : World} {b x y : Nat} {c0 c1 c2 : Value} {f l lc e1 e2 e3 e4 : Int} (h : Bk W b 116 #[c0, c1, c2, .iface 34 (.pointer (some ⟨x, 0, none⟩)), .iface 34 (.pointer (some ⟨y, 0, none⟩))]) (hx : LitW W x f lc e1 e2) (hy : LitW W y e3 e4 l lc) : BA W b f l lc :=
  ⟨fun W1 k => BinaryArithm_Pos_word b x f lc W1 (by rw [(h.keep k).cells]; rfl) (fun _ k2 => ((hx.keep k).keep k2).pos_), fun W1 k => BinaryArithm_End_word b y l lc W1 (by rw [(h.keep k).cells]; rfl) (fun _ k2 => ((hy.keep k).keep k2).end_)⟩
theorem BA.bw {W : World} {b x y : Nat} {c0 c1 c2 : Value} {f l l0 lc e3 e4 : Int} (h : Bk W b 116 #[c0, c1, c2, .iface 111 (.pointer (some ⟨x, 0, none⟩)), .iface 34 (.pointer (some ⟨y, 0, none⟩))]) (hx : BA W x f l0 lc) (hy : LitW W y e3 e4 l lc) : BA W b f l lc :=
  ⟨fun W1 k => BinaryArithm_Pos_bin b x f lc W1 (by rw [(h.keep k).cells]; rfl) (fun _ k2 => hx.1 _ (bmore k k2)), fun W1 k => BinaryArithm_End_word b y l lc W1 (by rw [(h.keep k).cells]; rfl) (fun _ k2 => ((hy.keep k).keep k2).end_)⟩
theorem BA.wb {W : World} {b x y : Nat} {c0 c1 c2 : Value} {f f0 l lc e1 e2 : Int} (h : Bk W b 116 #[c0, c1, c2, .iface 34 (.pointer (some ⟨x, 0, none⟩)), .iface 111 (.pointer (some ⟨y, 0, none⟩))]) (hx : LitW W x f lc e1 e2) (hy : BA W y f0 l lc) : BA W b f l lc :=
  ⟨fun W1 k => BinaryArithm_Pos_word b x f lc W1 (by rw [(h.keep k).cells]; rfl) (fun _ k2 => ((hx.keep k).keep k2).pos_), fun W1 k => BinaryArithm_End_bin b y l lc W1 (by rw [(h.keep k).cells]; rfl) (fun _ k2 => hy.2 _ (bmore k k2))⟩
theorem zzBytes19_any (a : Option Addr) (l c : Nat) (lc : Int) (w : World) (h1 : l ≤ 9223372036854775807) :
    Calls Try.prog 66 #[.slice a l c, .int .u32 lc] w fun e w' => ∃ b : Bool, e = .returned (.bool b) ∧ w = w' := by
  go_enter Try.func66, Try.ntmps66
  go_wp2
  all_goals (go_ret; exact ⟨_, rfl, rfl⟩)
theorem make19 (n : Nat) (hn : n ≤ 1048576) (W : World) : (Instr.makeSlice 22 (.int .i64 (n : Int)) (.int .i64 (n : Int))).run Try.prog W = .ok (.slice (some ⟨W.heap.size, 0, none⟩) n n) (W.alloc (.cells (madeCells #[.int .u32 0] n) 26)) :=
  makeN 22 26 (.int .u32 0) 4 Try.underlying22 (by kernel_rfl) rfl n (by omega) (by omega) W
end Go.Proofs.Ytimaobpcefgdkaa
