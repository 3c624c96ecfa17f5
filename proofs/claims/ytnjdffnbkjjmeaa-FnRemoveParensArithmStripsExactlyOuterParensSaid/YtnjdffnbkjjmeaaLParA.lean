/- The walk of FnRemoveParensArithmStripsExactlyOuterParens. -/
import Derived.Test.YtnjdffnbkjjmeaaParA
namespace Go.Proofs.Ytnjdffnbkjjmeaa
open Go.RowKit
set_option maxRecDepth 100000 in
theorem inner153_0 (s : ByteArray) (w : World) :
    Calls Try.prog 35 #[.int .i64 0, .string s] w fun e w' => e = .returned (.tuple #[.iface 44 (.pointer (some ⟨w.heap.size + 1 + 1, 0, none⟩)), .pointer (some ⟨w.heap.size + 1 + 1 + 1, 0, none⟩), .pointer (some ⟨w.heap.size + 1 + 1, 0, none⟩), .pointer (some ⟨w.heap.size + 1 + 1 + 1 + 1, 0, none⟩), .pointer (some ⟨w.heap.size + 1 + 1 + 1 + 1 + 1, 0, none⟩)]) ∧ (((((w.alloc (.cells #[.int .u32 0, .int .u32 0, .int .u32 0, .int .u32 0, .string s] 66)).alloc (.cells #[.iface 64 (.pointer (some ⟨w.heap.size, 0, none⟩))] 135)).alloc (.cells #[.slice (some ⟨w.heap.size + 1, 0, none⟩) 1 1] 129)).alloc (.cells #[.int .u32 0, .int .u32 0, .int .u32 0, .int .u32 0, .iface 44 (.pointer (some ⟨w.heap.size + 1 + 1, 0, none⟩))] 85)).alloc (.cells #[.int .u32 0, .int .u32 0, .int .u32 81, .iface 79 (.pointer (some ⟨w.heap.size + 1 + 1 + 1, 0, none⟩)), .iface 44 (.pointer (some ⟨w.heap.size + 1 + 1, 0, none⟩))] 92)).alloc (.cells #[.int .u32 0, .int .u32 0, .int .u32 83, .bool false, .iface 79 (.pointer (some ⟨w.heap.size + 1 + 1 + 1, 0, none⟩))] 95) = w' := by
  go_enter Try.func35, Try.ntmps35
  go_wp2
  refine bodyPost_ret (v := .tuple #[.iface 44 (.pointer (some ⟨w.heap.size + 1 + 1, 0, none⟩)), .pointer (some ⟨w.heap.size + 1 + 1 + 1, 0, none⟩), .pointer (some ⟨w.heap.size + 1 + 1, 0, none⟩), .pointer (some ⟨w.heap.size + 1 + 1 + 1 + 1, 0, none⟩), .pointer (some ⟨w.heap.size + 1 + 1 + 1 + 1 + 1, 0, none⟩)]) (by simp [results, Try.results35]) rfl ⟨rfl, rfl⟩
set_option maxRecDepth 100000 in
theorem inner153_1 (s : ByteArray) (w : World) :
    Calls Try.prog 35 #[.int .i64 1, .string s] w fun e w' => e = .returned (.tuple #[.iface 80 (.pointer (some ⟨w.heap.size + 1 + 1 + 1 + 1, 0, none⟩)), .pointer (some ⟨w.heap.size + 1 + 1 + 1, 0, none⟩), .pointer (some ⟨w.heap.size + 1 + 1, 0, none⟩), .pointer (some ⟨w.heap.size + 1 + 1 + 1 + 1, 0, none⟩), .pointer (some ⟨w.heap.size + 1 + 1 + 1 + 1 + 1, 0, none⟩)]) ∧ (((((w.alloc (.cells #[.int .u32 0, .int .u32 0, .int .u32 0, .int .u32 0, .string s] 66)).alloc (.cells #[.iface 64 (.pointer (some ⟨w.heap.size, 0, none⟩))] 135)).alloc (.cells #[.slice (some ⟨w.heap.size + 1, 0, none⟩) 1 1] 129)).alloc (.cells #[.int .u32 0, .int .u32 0, .int .u32 0, .int .u32 0, .iface 44 (.pointer (some ⟨w.heap.size + 1 + 1, 0, none⟩))] 85)).alloc (.cells #[.int .u32 0, .int .u32 0, .int .u32 81, .iface 79 (.pointer (some ⟨w.heap.size + 1 + 1 + 1, 0, none⟩)), .iface 44 (.pointer (some ⟨w.heap.size + 1 + 1, 0, none⟩))] 92)).alloc (.cells #[.int .u32 0, .int .u32 0, .int .u32 83, .bool false, .iface 79 (.pointer (some ⟨w.heap.size + 1 + 1 + 1, 0, none⟩))] 95) = w' := by
  go_enter Try.func35, Try.ntmps35
  go_wp2
  refine bodyPost_ret (v := .tuple #[.iface 80 (.pointer (some ⟨w.heap.size + 1 + 1 + 1 + 1, 0, none⟩)), .pointer (some ⟨w.heap.size + 1 + 1 + 1, 0, none⟩), .pointer (some ⟨w.heap.size + 1 + 1, 0, none⟩), .pointer (some ⟨w.heap.size + 1 + 1 + 1 + 1, 0, none⟩), .pointer (some ⟨w.heap.size + 1 + 1 + 1 + 1 + 1, 0, none⟩)]) (by simp [results, Try.results35]) rfl ⟨rfl, rfl⟩
set_option maxRecDepth 100000 in
theorem inner153_2 (s : ByteArray) (w : World) :
    Calls Try.prog 35 #[.int .i64 2, .string s] w fun e w' => e = .returned (.tuple #[.iface 81 (.pointer (some ⟨w.heap.size + 1 + 1 + 1 + 1 + 1, 0, none⟩)), .pointer (some ⟨w.heap.size + 1 + 1 + 1, 0, none⟩), .pointer (some ⟨w.heap.size + 1 + 1, 0, none⟩), .pointer (some ⟨w.heap.size + 1 + 1 + 1 + 1, 0, none⟩), .pointer (some ⟨w.heap.size + 1 + 1 + 1 + 1 + 1, 0, none⟩)]) ∧ (((((w.alloc (.cells #[.int .u32 0, .int .u32 0, .int .u32 0, .int .u32 0, .string s] 66)).alloc (.cells #[.iface 64 (.pointer (some ⟨w.heap.size, 0, none⟩))] 135)).alloc (.cells #[.slice (some ⟨w.heap.size + 1, 0, none⟩) 1 1] 129)).alloc (.cells #[.int .u32 0, .int .u32 0, .int .u32 0, .int .u32 0, .iface 44 (.pointer (some ⟨w.heap.size + 1 + 1, 0, none⟩))] 85)).alloc (.cells #[.int .u32 0, .int .u32 0, .int .u32 81, .iface 79 (.pointer (some ⟨w.heap.size + 1 + 1 + 1, 0, none⟩)), .iface 44 (.pointer (some ⟨w.heap.size + 1 + 1, 0, none⟩))] 92)).alloc (.cells #[.int .u32 0, .int .u32 0, .int .u32 83, .bool false, .iface 79 (.pointer (some ⟨w.heap.size + 1 + 1 + 1, 0, none⟩))] 95) = w' := by
  go_enter Try.func35, Try.ntmps35
  go_wp2
  refine bodyPost_ret (v := .tuple #[.iface 81 (.pointer (some ⟨w.heap.size + 1 + 1 + 1 + 1 + 1, 0, none⟩)), .pointer (some ⟨w.heap.size + 1 + 1 + 1, 0, none⟩), .pointer (some ⟨w.heap.size + 1 + 1, 0, none⟩), .pointer (some ⟨w.heap.size + 1 + 1 + 1 + 1, 0, none⟩), .pointer (some ⟨w.heap.size + 1 + 1 + 1 + 1 + 1, 0, none⟩)]) (by simp [results, Try.results35]) rfl ⟨rfl, rfl⟩
set_option maxRecDepth 100000 in
theorem inner153_3 (s : ByteArray) (w : World) :
    Calls Try.prog 35 #[.int .i64 3, .string s] w fun e w' => e = .returned (.tuple #[.nilIface, .pointer (some ⟨w.heap.size + 1 + 1 + 1, 0, none⟩), .pointer (some ⟨w.heap.size + 1 + 1, 0, none⟩), .pointer (some ⟨w.heap.size + 1 + 1 + 1 + 1, 0, none⟩), .pointer (some ⟨w.heap.size + 1 + 1 + 1 + 1 + 1, 0, none⟩)]) ∧ (((((w.alloc (.cells #[.int .u32 0, .int .u32 0, .int .u32 0, .int .u32 0, .string s] 66)).alloc (.cells #[.iface 64 (.pointer (some ⟨w.heap.size, 0, none⟩))] 135)).alloc (.cells #[.slice (some ⟨w.heap.size + 1, 0, none⟩) 1 1] 129)).alloc (.cells #[.int .u32 0, .int .u32 0, .int .u32 0, .int .u32 0, .iface 44 (.pointer (some ⟨w.heap.size + 1 + 1, 0, none⟩))] 85)).alloc (.cells #[.int .u32 0, .int .u32 0, .int .u32 81, .iface 79 (.pointer (some ⟨w.heap.size + 1 + 1 + 1, 0, none⟩)), .iface 44 (.pointer (some ⟨w.heap.size + 1 + 1, 0, none⟩))] 92)).alloc (.cells #[.int .u32 0, .int .u32 0, .int .u32 83, .bool false, .iface 79 (.pointer (some ⟨w.heap.size + 1 + 1 + 1, 0, none⟩))] 95) = w' := by
  go_enter Try.func35, Try.ntmps35
  go_wp2
  refine bodyPost_ret (v := .tuple #[.nilIface, .pointer (some ⟨w.heap.size + 1 + 1 + 1, 0, none⟩), .pointer (some ⟨w.heap.size + 1 + 1, 0, none⟩), .pointer (some ⟨w.heap.size + 1 + 1 + 1 + 1, 0, none⟩), .pointer (some ⟨w.heap.size + 1 + 1 + 1 + 1 + 1, 0, none⟩)]) (by simp [results, Try.results35]) rfl ⟨rfl, rfl⟩
theorem tan_Word (a : Option Addr) (w : World) : (Instr.typeAssert (.iface 44 (.pointer a)) 78 79 true).run Try.prog w = .ok (.tuple #[.pointer none, .bool false]) w := by kernel_rfl
theorem tan_BinaryArithm (a : Option Addr) (w : World) : (Instr.typeAssert (.iface 80 (.pointer a)) 78 79 true).run Try.prog w = .ok (.tuple #[.pointer none, .bool false]) w := by kernel_rfl
theorem tan_UnaryArithm (a : Option Addr) (w : World) : (Instr.typeAssert (.iface 81 (.pointer a)) 78 79 true).run Try.prog w = .ok (.tuple #[.pointer none, .bool false]) w := by kernel_rfl
theorem tan_nil (w : World) : (Instr.typeAssert .nilIface 78 79 true).run Try.prog w = .ok (.tuple #[.pointer none, .bool false]) w := by kernel_rfl
theorem taw_Word (a : Option Addr) (w : World) : (Instr.typeAssert (.iface 44 (.pointer a)) 78 44 true).run Try.prog w = .ok (.tuple #[.pointer a, .bool true]) w := by kernel_rfl
theorem arithmWord_any (a : Option Addr) (w : World) :
    Calls Try.prog 38 #[.iface 44 (.pointer a)] w fun e w' => e = .returned (.pointer a) ∧ w = w' := by
  have h := taw_Word
  go_enter Try.func38, Try.ntmps38
  go_wp2
  go_ret
  exact ⟨rfl, rfl⟩
theorem neW (a : Addr) (w : World) : (binOp .neq 44 (.pointer (some a)) (.pointer (some a))).run Try.prog w = .ok (.bool false) w := by
  obtain ⟨j, hj⟩ : ∃ j, Try.prog.info? 129 = some j := Option.isSome_iff_exists.1 (by kernel_rfl)
  exact Lib.run_neq_ptr_same w a Try.underlying44 hj
theorem zzBytes153_any (a b : Int) (s : ByteArray) (w : World) (hs : s.size ≤ 1048576) :
    Calls Try.prog 34 #[.int .i64 a, .int .i64 b, .string s] w fun e w' => e = .returned (.bool true) ∧ w = w' := by
  go_enter Try.func34, Try.ntmps34
  go_wp2
  go_ret
  exact ⟨rfl, rfl⟩
theorem zzBytes153_no (a b : Int) (s : ByteArray) (w : World) (hs : ¬ s.size ≤ 1048576) (_hm : s.size ≤ 9223372036854775807) :
    Calls Try.prog 34 #[.int .i64 a, .int .i64 b, .string s] w fun e w' => e = .returned (.bool false) ∧ w = w' := by
  have h1 : 1048576 < s.size := by omega
  go_enter Try.func34, Try.ntmps34
  go_wp2
  go_ret
  exact ⟨rfl, rfl⟩
/-- What was laid: the word, the parenthesised word, the sum, the negation. -/
def Laid153 (W : World) (dp wd bn un : Nat) : Prop :=
  Bk W dp 85 #[.int .u32 0, .int .u32 0, .int .u32 0, .int .u32 0, .iface 44 (.pointer (some ⟨wd, 0, none⟩))] ∧ Bk W bn 92 #[.int .u32 0, .int .u32 0, .int .u32 81, .iface 79 (.pointer (some ⟨dp, 0, none⟩)), .iface 44 (.pointer (some ⟨wd, 0, none⟩))] ∧ Bk W un 95 #[.int .u32 0, .int .u32 0, .int .u32 83, .bool false, .iface 79 (.pointer (some ⟨dp, 0, none⟩))]
theorem Laid153.keep {W W1 : World} {dp wd bn un : Nat} (h : Laid153 W dp wd bn un) (hb : Below W.heap.size W W1) : Laid153 W1 dp wd bn un :=
  ⟨h.1.keep hb, h.2.1.keep hb, h.2.2.keep hb⟩
theorem parShape {W : World} {inner x : Value} {k : Nat} (h : ParCh W inner k x) : x = inner ∨ ∃ b : Nat, x = .iface 79 (.pointer (some ⟨b, 0, none⟩)) := by
  cases k with
  | zero => exact .inl h
  | succ k => obtain ⟨b, y, hx, _⟩ := h; exact .inr ⟨b, hx⟩
def Rel153 (w : World) (inner : Value) (dp wd bn un n : Nat) (x i : Value) (wr : World) : Prop :=
  ∃ k : Nat, k ≤ n ∧ i = .int .i64 k ∧ ParCh wr inner k x ∧ Laid153 wr dp wd bn un ∧ Below w.heap.size w wr
set_option maxHeartbeats 4000000 in
set_option maxRecDepth 100000 in
theorem rpa_0 (n : Nat) (hn : n ≤ 65536) (s : ByteArray) (hs : s.size ≤ 1048576) (w : World) :
    Calls Try.prog 7 #[.int .i64 (n : Int), .int .i64 0, .string s] w fun e w' => e = .returned (.bool true) ∧ Below w.heap.size w w' := by
  have nw := neW
  go_enter Try.func7, Try.ntmps7
  go_wp2_with (first | (go_at_call 34; refine (zzBytes153_any _ _ _ _ hs).mono ?_; rintro e w' ⟨rfl, rfl⟩) | (go_at_call 35; refine (inner153_0 _ _).mono ?_; rintro e w' ⟨rfl, rfl⟩))
  refine wp_gen (S := fun W => Laid153 W (w.heap.size + 1 + 1 + 1) (w.heap.size + 1 + 1) (w.heap.size + 1 + 1 + 1 + 1) (w.heap.size + 1 + 1 + 1 + 1 + 1) ∧ Below w.heap.size w W) ⟨⟨(by repeat (first | (refine Bk.newAt ?_; simp; done) | refine Bk.alloc ?_ _ | refine Bk.drew ?_)), (by repeat (first | (refine Bk.newAt ?_; simp; done) | refine Bk.alloc ?_ _ | refine Bk.drew ?_)), (by repeat (first | (refine Bk.newAt ?_; simp; done) | refine Bk.alloc ?_ _ | refine Bk.drew ?_))⟩, by go_grown⟩ ?_
  rintro W ⟨hL, hB⟩
  go_loopw [12, 13] (fun x i wr => Rel153 w (.iface 44 (.pointer (some ⟨w.heap.size + 1 + 1, 0, none⟩))) (w.heap.size + 1 + 1 + 1) (w.heap.size + 1 + 1) (w.heap.size + 1 + 1 + 1 + 1) (w.heap.size + 1 + 1 + 1 + 1 + 1) n x i wr) (fun _ i _ => n - (intOf i).toNat)
  case atStart => exact ⟨0, by omega, by go_num, rfl, hL, hB⟩
  case round =>
    clear hL hB
    obtain ⟨k, hk, rfl, hch, hL, hB⟩ := hrel
    have sB := hB.size
    by_cases hlt : k < n
    · have hlt' : (k : Int) < (n : Int) := by omega
      have hsh := parShape hch
      have HC := Lib.hid hch
      clear hch
      rcases hsh with rfl | ⟨b, rfl⟩
      all_goals
        go_wp2
        go_roundw
        case rel => exact ⟨k + 1, by omega, by go_num, ⟨wr.heap.size, _, rfl, Bk.fresh _ _ _, ParCh.keep (by go_grown) k _ HC.out⟩, hL.keep (by go_grown), by go_grown⟩
        case measure => simp [intOf]; omega
    · obtain rfl : k = n := by omega
      have hge : ¬ ((k : Int) < (k : Int)) := by omega
      have HC := Lib.hid hch
      clear hch
      go_wp2_with fail
      refine (ZZremoveParens_any k _ _ _ HC.out (fun W => tan_Word _ W)).mono ?_
      rintro e v1 ⟨rfl, hb⟩
      have hL := hL.keep hb
      have hB := bmore hB hb
      have hd : decide ((0 : Int) < (k : Int)) = decide (0 < k) := by simp
      clear hb HC
      go_wp2_with fail
      refine (same_Word _ _).mono ?_
      rintro e v2 ⟨rfl, hb⟩
      have hL := hL.keep hb
      have hB := bmore hB hb
      have c1 := hL.1.cells
      have c2 := hL.2.1.cells
      have c3 := hL.2.2.cells
      clear hb hd
      go_wp2_with (go_at_call 38; refine (arithmWord_any _ _).mono ?_; rintro e w' ⟨rfl, rfl⟩)
      refine (same_ParenArithm _ _).mono ?_
      rintro e v3 ⟨rfl, hb⟩
      have hL := hL.keep hb
      have hB := bmore hB hb
      clear c1 c2 c3 hb
      have c2 := hL.2.1.cells
      have c3 := hL.2.2.cells
      go_wp2_with (go_at_call 38; refine (arithmWord_any _ _).mono ?_; rintro e w' ⟨rfl, rfl⟩)
      refine (same_ParenArithm _ _).mono ?_
      rintro e v4 ⟨rfl, hb⟩
      have hB := bmore hB hb
      clear c2 c3 hb
      go_wp2
      go_ret
      exact ⟨rfl, hB⟩
set_option maxHeartbeats 4000000 in
set_option maxRecDepth 100000 in
theorem rpa_1 (n : Nat) (hn : n ≤ 65536) (s : ByteArray) (hs : s.size ≤ 1048576) (w : World) :
    Calls Try.prog 7 #[.int .i64 (n : Int), .int .i64 1, .string s] w fun e w' => e = .returned (.bool true) ∧ Below w.heap.size w w' := by
  have nw := neW
  go_enter Try.func7, Try.ntmps7
  go_wp2_with (first | (go_at_call 34; refine (zzBytes153_any _ _ _ _ hs).mono ?_; rintro e w' ⟨rfl, rfl⟩) | (go_at_call 35; refine (inner153_1 _ _).mono ?_; rintro e w' ⟨rfl, rfl⟩))
  refine wp_gen (S := fun W => Laid153 W (w.heap.size + 1 + 1 + 1) (w.heap.size + 1 + 1) (w.heap.size + 1 + 1 + 1 + 1) (w.heap.size + 1 + 1 + 1 + 1 + 1) ∧ Below w.heap.size w W) ⟨⟨(by repeat (first | (refine Bk.newAt ?_; simp; done) | refine Bk.alloc ?_ _ | refine Bk.drew ?_)), (by repeat (first | (refine Bk.newAt ?_; simp; done) | refine Bk.alloc ?_ _ | refine Bk.drew ?_)), (by repeat (first | (refine Bk.newAt ?_; simp; done) | refine Bk.alloc ?_ _ | refine Bk.drew ?_))⟩, by go_grown⟩ ?_
  rintro W ⟨hL, hB⟩
  go_loopw [12, 13] (fun x i wr => Rel153 w (.iface 80 (.pointer (some ⟨w.heap.size + 1 + 1 + 1 + 1, 0, none⟩))) (w.heap.size + 1 + 1 + 1) (w.heap.size + 1 + 1) (w.heap.size + 1 + 1 + 1 + 1) (w.heap.size + 1 + 1 + 1 + 1 + 1) n x i wr) (fun _ i _ => n - (intOf i).toNat)
  case atStart => exact ⟨0, by omega, by go_num, rfl, hL, hB⟩
  case round =>
    clear hL hB
    obtain ⟨k, hk, rfl, hch, hL, hB⟩ := hrel
    have sB := hB.size
    by_cases hlt : k < n
    · have hlt' : (k : Int) < (n : Int) := by omega
      have hsh := parShape hch
      have HC := Lib.hid hch
      clear hch
      rcases hsh with rfl | ⟨b, rfl⟩
      all_goals
        go_wp2
        go_roundw
        case rel => exact ⟨k + 1, by omega, by go_num, ⟨wr.heap.size, _, rfl, Bk.fresh _ _ _, ParCh.keep (by go_grown) k _ HC.out⟩, hL.keep (by go_grown), by go_grown⟩
        case measure => simp [intOf]; omega
    · obtain rfl : k = n := by omega
      have hge : ¬ ((k : Int) < (k : Int)) := by omega
      have HC := Lib.hid hch
      clear hch
      go_wp2_with fail
      refine (ZZremoveParens_any k _ _ _ HC.out (fun W => tan_BinaryArithm _ W)).mono ?_
      rintro e v1 ⟨rfl, hb⟩
      have hL := hL.keep hb
      have hB := bmore hB hb
      have hd : decide ((0 : Int) < (k : Int)) = decide (0 < k) := by simp
      clear hb HC
      go_wp2_with fail
      refine (same_BinaryArithm _ _).mono ?_
      rintro e v2 ⟨rfl, hb⟩
      have hL := hL.keep hb
      have hB := bmore hB hb
      have c1 := hL.1.cells
      have c2 := hL.2.1.cells
      have c3 := hL.2.2.cells
      clear hb hd
      go_wp2_with (go_at_call 38; refine (arithmWord_any _ _).mono ?_; rintro e w' ⟨rfl, rfl⟩)
      refine (same_ParenArithm _ _).mono ?_
      rintro e v3 ⟨rfl, hb⟩
      have hL := hL.keep hb
      have hB := bmore hB hb
      clear c1 c2 c3 hb
      have c2 := hL.2.1.cells
      have c3 := hL.2.2.cells
      go_wp2_with (go_at_call 38; refine (arithmWord_any _ _).mono ?_; rintro e w' ⟨rfl, rfl⟩)
      refine (same_ParenArithm _ _).mono ?_
      rintro e v4 ⟨rfl, hb⟩
      have hB := bmore hB hb
      clear c2 c3 hb
      go_wp2
      go_ret
      exact ⟨rfl, hB⟩
set_option maxHeartbeats 4000000 in
set_option maxRecDepth 100000 in
theorem rpa_2 (n : Nat) (hn : n ≤ 65536) (s : ByteArray) (hs : s.size ≤ 1048576) (w : World) :
    Calls Try.prog 7 #[.int .i64 (n : Int), .int .i64 2, .string s] w fun e w' => e = .returned (.bool true) ∧ Below w.heap.size w w' := by
  have nw := neW
  go_enter Try.func7, Try.ntmps7
  go_wp2_with (first | (go_at_call 34; refine (zzBytes153_any _ _ _ _ hs).mono ?_; rintro e w' ⟨rfl, rfl⟩) | (go_at_call 35; refine (inner153_2 _ _).mono ?_; rintro e w' ⟨rfl, rfl⟩))
  refine wp_gen (S := fun W => Laid153 W (w.heap.size + 1 + 1 + 1) (w.heap.size + 1 + 1) (w.heap.size + 1 + 1 + 1 + 1) (w.heap.size + 1 + 1 + 1 + 1 + 1) ∧ Below w.heap.size w W) ⟨⟨(by repeat (first | (refine Bk.newAt ?_; simp; done) | refine Bk.alloc ?_ _ | refine Bk.drew ?_)), (by repeat (first | (refine Bk.newAt ?_; simp; done) | refine Bk.alloc ?_ _ | refine Bk.drew ?_)), (by repeat (first | (refine Bk.newAt ?_; simp; done) | refine Bk.alloc ?_ _ | refine Bk.drew ?_))⟩, by go_grown⟩ ?_
  rintro W ⟨hL, hB⟩
  go_loopw [12, 13] (fun x i wr => Rel153 w (.iface 81 (.pointer (some ⟨w.heap.size + 1 + 1 + 1 + 1 + 1, 0, none⟩))) (w.heap.size + 1 + 1 + 1) (w.heap.size + 1 + 1) (w.heap.size + 1 + 1 + 1 + 1) (w.heap.size + 1 + 1 + 1 + 1 + 1) n x i wr) (fun _ i _ => n - (intOf i).toNat)
  case atStart => exact ⟨0, by omega, by go_num, rfl, hL, hB⟩
  case round =>
    clear hL hB
    obtain ⟨k, hk, rfl, hch, hL, hB⟩ := hrel
    have sB := hB.size
    by_cases hlt : k < n
    · have hlt' : (k : Int) < (n : Int) := by omega
      have hsh := parShape hch
      have HC := Lib.hid hch
      clear hch
      rcases hsh with rfl | ⟨b, rfl⟩
      all_goals
        go_wp2
        go_roundw
        case rel => exact ⟨k + 1, by omega, by go_num, ⟨wr.heap.size, _, rfl, Bk.fresh _ _ _, ParCh.keep (by go_grown) k _ HC.out⟩, hL.keep (by go_grown), by go_grown⟩
        case measure => simp [intOf]; omega
    · obtain rfl : k = n := by omega
      have hge : ¬ ((k : Int) < (k : Int)) := by omega
      have HC := Lib.hid hch
      clear hch
      go_wp2_with fail
      refine (ZZremoveParens_any k _ _ _ HC.out (fun W => tan_UnaryArithm _ W)).mono ?_
      rintro e v1 ⟨rfl, hb⟩
      have hL := hL.keep hb
      have hB := bmore hB hb
      have hd : decide ((0 : Int) < (k : Int)) = decide (0 < k) := by simp
      clear hb HC
      go_wp2_with fail
      refine (same_UnaryArithm _ _).mono ?_
      rintro e v2 ⟨rfl, hb⟩
      have hL := hL.keep hb
      have hB := bmore hB hb
      have c1 := hL.1.cells
      have c2 := hL.2.1.cells
      have c3 := hL.2.2.cells
      clear hb hd
      go_wp2_with (go_at_call 38; refine (arithmWord_any _ _).mono ?_; rintro e w' ⟨rfl, rfl⟩)
      refine (same_ParenArithm _ _).mono ?_
      rintro e v3 ⟨rfl, hb⟩
      have hL := hL.keep hb
      have hB := bmore hB hb
      clear c1 c2 c3 hb
      have c2 := hL.2.1.cells
      have c3 := hL.2.2.cells
      go_wp2_with (go_at_call 38; refine (arithmWord_any _ _).mono ?_; rintro e w' ⟨rfl, rfl⟩)
      refine (same_ParenArithm _ _).mono ?_
      rintro e v4 ⟨rfl, hb⟩
      have hB := bmore hB hb
      clear c2 c3 hb
      go_wp2
      go_ret
      exact ⟨rfl, hB⟩
set_option maxHeartbeats 4000000 in
set_option maxRecDepth 100000 in
theorem rpa_3 (n : Nat) (hn : n ≤ 65536) (s : ByteArray) (hs : s.size ≤ 1048576) (w : World) :
    Calls Try.prog 7 #[.int .i64 (n : Int), .int .i64 3, .string s] w fun e w' => e = .returned (.bool true) ∧ Below w.heap.size w w' := by
  have nw := neW
  go_enter Try.func7, Try.ntmps7
  go_wp2_with (first | (go_at_call 34; refine (zzBytes153_any _ _ _ _ hs).mono ?_; rintro e w' ⟨rfl, rfl⟩) | (go_at_call 35; refine (inner153_3 _ _).mono ?_; rintro e w' ⟨rfl, rfl⟩))
  refine wp_gen (S := fun W => Laid153 W (w.heap.size + 1 + 1 + 1) (w.heap.size + 1 + 1) (w.heap.size + 1 + 1 + 1 + 1) (w.heap.size + 1 + 1 + 1 + 1 + 1) ∧ Below w.heap.size w W) ⟨⟨(by repeat (first | (refine Bk.newAt ?_; simp; done) | refine Bk.alloc ?_ _ | refine Bk.drew ?_)), (by repeat (first | (refine Bk.newAt ?_; simp; done) | refine Bk.alloc ?_ _ | refine Bk.drew ?_)), (by repeat (first | (refine Bk.newAt ?_; simp; done) | refine Bk.alloc ?_ _ | refine Bk.drew ?_))⟩, by go_grown⟩ ?_
  rintro W ⟨hL, hB⟩
  go_loopw [12, 13] (fun x i wr => Rel153 w (.nilIface) (w.heap.size + 1 + 1 + 1) (w.heap.size + 1 + 1) (w.heap.size + 1 + 1 + 1 + 1) (w.heap.size + 1 + 1 + 1 + 1 + 1) n x i wr) (fun _ i _ => n - (intOf i).toNat)
  case atStart => exact ⟨0, by omega, by go_num, rfl, hL, hB⟩
  case round =>
    clear hL hB
    obtain ⟨k, hk, rfl, hch, hL, hB⟩ := hrel
    have sB := hB.size
    by_cases hlt : k < n
    · have hlt' : (k : Int) < (n : Int) := by omega
      have hsh := parShape hch
      have HC := Lib.hid hch
      clear hch
      rcases hsh with rfl | ⟨b, rfl⟩
      all_goals
        go_wp2
        go_roundw
        case rel => exact ⟨k + 1, by omega, by go_num, ⟨wr.heap.size, _, rfl, Bk.fresh _ _ _, ParCh.keep (by go_grown) k _ HC.out⟩, hL.keep (by go_grown), by go_grown⟩
        case measure => simp [intOf]; omega
    · obtain rfl : k = n := by omega
      have hge : ¬ ((k : Int) < (k : Int)) := by omega
      have HC := Lib.hid hch
      clear hch
      go_wp2_with fail
      refine (ZZremoveParens_any k _ _ _ HC.out (fun W => tan_nil W)).mono ?_
      rintro e v1 ⟨rfl, hb⟩
      have hL := hL.keep hb
      have hB := bmore hB hb
      have hd : decide ((0 : Int) < (k : Int)) = decide (0 < k) := by simp
      clear hb HC
      go_wp2_with fail
      refine (same_nil _).mono ?_
      rintro e v2 ⟨rfl, hb⟩
      have hL := hL.keep hb
      have hB := bmore hB hb
      have c1 := hL.1.cells
      have c2 := hL.2.1.cells
      have c3 := hL.2.2.cells
      clear hb hd
      go_wp2_with (go_at_call 38; refine (arithmWord_any _ _).mono ?_; rintro e w' ⟨rfl, rfl⟩)
      refine (same_ParenArithm _ _).mono ?_
      rintro e v3 ⟨rfl, hb⟩
      have hL := hL.keep hb
      have hB := bmore hB hb
      clear c1 c2 c3 hb
      have c2 := hL.2.1.cells
      have c3 := hL.2.2.cells
      go_wp2_with (go_at_call 38; refine (arithmWord_any _ _).mono ?_; rintro e w' ⟨rfl, rfl⟩)
      refine (same_ParenArithm _ _).mono ?_
      rintro e v4 ⟨rfl, hb⟩
      have hB := bmore hB hb
      clear c2 c3 hb
      go_wp2
      go_ret
      exact ⟨rfl, hB⟩
theorem walkFnRemoveParensArithmStripsExactlyOuterParens (a0 : Int) (a1 : Int) (a2 : ByteArray) (w0 : (Lit.int .i64 a0).wf = true) (w1 : (Lit.int .i64 a1).wf = true) (w2 : a2.size ≤ maxLen) (w : World) :
    Calls Try.prog 7 #[.int .i64 a0, .int .i64 a1, .string a2] w fun e w' => e = .returned (.bool true) ∧ Below w.heap.size w w' := by
  have b0 := bounds_i64 w0
  have b1 := bounds_i64 w1
  unfold maxLen at w2
  clear w0 w1
  by_cases hs : a2.size ≤ 1048576
  case neg =>
    go_enter Try.func7, Try.ntmps7
    go_wp2_with (go_at_call 34; refine (zzBytes153_no _ _ _ _ hs w2).mono ?_; rintro e w' ⟨rfl, rfl⟩)
    go_ret
    exact ⟨rfl, Below.refl _ _⟩
  by_cases h1 : a0 < 0
  · go_enter Try.func7, Try.ntmps7
    go_wp2_with (go_at_call 34; refine (zzBytes153_any _ _ _ _ hs).mono ?_; rintro e w' ⟨rfl, rfl⟩)
    go_ret
    exact ⟨rfl, Below.refl _ _⟩
  have h1' : decide (a0 < 0) = false := by simpa using h1
  by_cases h2 : 65536 < a0
  · go_enter Try.func7, Try.ntmps7
    go_wp2_with (go_at_call 34; refine (zzBytes153_any _ _ _ _ hs).mono ?_; rintro e w' ⟨rfl, rfl⟩)
    go_ret
    exact ⟨rfl, Below.refl _ _⟩
  have h2' : decide (65536 < a0) = false := by simpa using h2
  by_cases h3 : a1 < 0
  · go_enter Try.func7, Try.ntmps7
    go_wp2_with (go_at_call 34; refine (zzBytes153_any _ _ _ _ hs).mono ?_; rintro e w' ⟨rfl, rfl⟩)
    go_ret
    exact ⟨rfl, Below.refl _ _⟩
  have h3' : decide (a1 < 0) = false := by simpa using h3
  by_cases h4 : 3 < a1
  · go_enter Try.func7, Try.ntmps7
    go_wp2_with (go_at_call 34; refine (zzBytes153_any _ _ _ _ hs).mono ?_; rintro e w' ⟨rfl, rfl⟩)
    go_ret
    exact ⟨rfl, Below.refl _ _⟩
  have h4' : decide (3 < a1) = false := by simpa using h4
  obtain ⟨n, rfl⟩ : ∃ n : Nat, a0 = (n : Int) := ⟨a0.toNat, by omega⟩
  clear h1' h2' h3' h4'
  rcases (by omega : a1 = 0 ∨ a1 = 1 ∨ a1 = 2 ∨ a1 = 3) with rfl | rfl | rfl | rfl
  · exact rpa_0 n (by omega) a2 hs w
  · exact rpa_1 n (by omega) a2 hs w
  · exact rpa_2 n (by omega) a2 hs w
  · exact rpa_3 n (by omega) a2 hs w
end Go.Proofs.Ytnjdffnbkjjmeaa
