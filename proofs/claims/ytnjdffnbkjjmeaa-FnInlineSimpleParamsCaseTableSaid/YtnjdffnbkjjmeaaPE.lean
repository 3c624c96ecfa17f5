/- What zzParamExp_b2 lays. -/
import Derived.Test.YtnjdffnbkjjmeaaPEa
import Derived.Test.YtnjdffnbkjjmeaaPEb
import Derived.Test.YtnjdffnbkjjmeaaPEc
namespace Go.Proofs.Ytnjdffnbkjjmeaa
open Go.RowKit
/-- What zzParamExp_b2 answers: the expansion, its name, and whether it is simple. -/
def PEB (w : World) (k : Nat) (s : ByteArray) (e : Ending) (w' : World) : Prop :=
  ∃ (pe lt : Nat) (cs : Array Value), e = .returned (.tuple #[.pointer (some ⟨pe, 0, none⟩), .pointer (some ⟨lt, 0, none⟩)]) ∧ Bk w' pe 142 cs ∧ w'.cell? ⟨lt, 4, none⟩ = some (.string s) ∧ cs[13]? = some (if k = 16 then .pointer none else .pointer (some ⟨lt, 0, none⟩)) ∧ (k ≠ 16 → SimpleIs cs (k == 0)) ∧ (w.heap.size ≤ lt ∧ w.heap.size ≤ pe) ∧ Below w.heap.size w w'
set_option maxRecDepth 100000 in
theorem pex_0 (s : ByteArray) (w : World) : Calls Try.prog 85 #[.string s, .int .i64 0] w (PEB w 0 s) := by
  go_enter Try.func85, Try.ntmps85
  go_wp2
  refine bodyPost_ret (v := .tuple #[.pointer (some ⟨w.heap.size + 1, 0, none⟩), .pointer (some ⟨w.heap.size, 0, none⟩)]) (by simp [results, Try.results85]) rfl ⟨_, _, (peC (.pointer none) false false false false 0 0 0 (.pointer (some ⟨w.heap.size, 0, none⟩)) .nilIface .nilIface (.slice none 0 0) (.pointer none) (.pointer none) 0 (.pointer none)), rfl, ?_, by simp [go_sem], by simp, fun _ => simple_0 _ ⟨w.heap.size + 1 + 1, 0, none⟩, by omega, by go_grown⟩
  repeat (first | (refine Bk.newAt ?_; simp; done) | refine Bk.alloc ?_ _ | refine Bk.drew ?_)
set_option maxRecDepth 100000 in
theorem pex_1 (s : ByteArray) (w : World) : Calls Try.prog 85 #[.string s, .int .i64 1] w (PEB w 1 s) := by
  go_enter Try.func85, Try.ntmps85
  go_wp2
  refine bodyPost_ret (v := .tuple #[.pointer (some ⟨w.heap.size + 1, 0, none⟩), .pointer (some ⟨w.heap.size, 0, none⟩)]) (by simp [results, Try.results85]) rfl ⟨_, _, (peC (.pointer none) true false false false 0 0 0 (.pointer (some ⟨w.heap.size, 0, none⟩)) .nilIface .nilIface (.slice none 0 0) (.pointer none) (.pointer none) 0 (.pointer none)), rfl, ?_, by simp [go_sem], by simp, fun _ => simple_1 _ ⟨w.heap.size + 1 + 1, 0, none⟩, by omega, by go_grown⟩
  repeat (first | (refine Bk.newAt ?_; simp; done) | refine Bk.alloc ?_ _ | refine Bk.drew ?_)
set_option maxRecDepth 100000 in
theorem pex_2 (s : ByteArray) (w : World) : Calls Try.prog 85 #[.string s, .int .i64 2] w (PEB w 2 s) := by
  go_enter Try.func85, Try.ntmps85
  go_wp2
  refine bodyPost_ret (v := .tuple #[.pointer (some ⟨w.heap.size + 1, 0, none⟩), .pointer (some ⟨w.heap.size, 0, none⟩)]) (by simp [results, Try.results85]) rfl ⟨_, _, (peC (.pointer none) false true false false 0 0 0 (.pointer (some ⟨w.heap.size, 0, none⟩)) .nilIface .nilIface (.slice none 0 0) (.pointer none) (.pointer none) 0 (.pointer none)), rfl, ?_, by simp [go_sem], by simp, fun _ => simple_2 _ ⟨w.heap.size + 1 + 1, 0, none⟩, by omega, by go_grown⟩
  repeat (first | (refine Bk.newAt ?_; simp; done) | refine Bk.alloc ?_ _ | refine Bk.drew ?_)
set_option maxRecDepth 100000 in
theorem pex_3 (s : ByteArray) (w : World) : Calls Try.prog 85 #[.string s, .int .i64 3] w (PEB w 3 s) := by
  go_enter Try.func85, Try.ntmps85
  go_wp2
  refine bodyPost_ret (v := .tuple #[.pointer (some ⟨w.heap.size + 1, 0, none⟩), .pointer (some ⟨w.heap.size, 0, none⟩)]) (by simp [results, Try.results85]) rfl ⟨_, _, (peC (.pointer none) false false true false 0 0 0 (.pointer (some ⟨w.heap.size, 0, none⟩)) .nilIface .nilIface (.slice none 0 0) (.pointer none) (.pointer none) 0 (.pointer none)), rfl, ?_, by simp [go_sem], by simp, fun _ => simple_3 _ ⟨w.heap.size + 1 + 1, 0, none⟩, by omega, by go_grown⟩
  repeat (first | (refine Bk.newAt ?_; simp; done) | refine Bk.alloc ?_ _ | refine Bk.drew ?_)
set_option maxRecDepth 100000 in
theorem pex_4 (s : ByteArray) (w : World) : Calls Try.prog 85 #[.string s, .int .i64 4] w (PEB w 4 s) := by
  go_enter Try.func85, Try.ntmps85
  go_wp2
  refine bodyPost_ret (v := .tuple #[.pointer (some ⟨w.heap.size + 1, 0, none⟩), .pointer (some ⟨w.heap.size, 0, none⟩)]) (by simp [results, Try.results85]) rfl ⟨_, _, (peC (.pointer none) false false false true 0 0 0 (.pointer (some ⟨w.heap.size, 0, none⟩)) .nilIface .nilIface (.slice none 0 0) (.pointer none) (.pointer none) 0 (.pointer none)), rfl, ?_, by simp [go_sem], by simp, fun _ => simple_4 _ ⟨w.heap.size + 1 + 1, 0, none⟩, by omega, by go_grown⟩
  repeat (first | (refine Bk.newAt ?_; simp; done) | refine Bk.alloc ?_ _ | refine Bk.drew ?_)
set_option maxRecDepth 100000 in
theorem pex_5 (s : ByteArray) (w : World) : Calls Try.prog 85 #[.string s, .int .i64 5] w (PEB w 5 s) := by
  go_enter Try.func85, Try.ntmps85
  go_wp2
  refine bodyPost_ret (v := .tuple #[.pointer (some ⟨w.heap.size + 1, 0, none⟩), .pointer (some ⟨w.heap.size, 0, none⟩)]) (by simp [results, Try.results85]) rfl ⟨_, _, (peC (.pointer none) false false false false 1 0 0 (.pointer (some ⟨w.heap.size, 0, none⟩)) .nilIface .nilIface (.slice none 0 0) (.pointer none) (.pointer none) 0 (.pointer none)), rfl, ?_, by simp [go_sem], by simp, fun _ => simple_5 _ ⟨w.heap.size + 1 + 1, 0, none⟩, by omega, by go_grown⟩
  repeat (first | (refine Bk.newAt ?_; simp; done) | refine Bk.alloc ?_ _ | refine Bk.drew ?_)
set_option maxRecDepth 100000 in
theorem pex_6 (s : ByteArray) (w : World) : Calls Try.prog 85 #[.string s, .int .i64 6] w (PEB w 6 s) := by
  go_enter Try.func85, Try.ntmps85
  go_wp2
  refine bodyPost_ret (v := .tuple #[.pointer (some ⟨w.heap.size + 1, 0, none⟩), .pointer (some ⟨w.heap.size, 0, none⟩)]) (by simp [results, Try.results85]) rfl ⟨_, _, (peC (.pointer none) false false false false 0 2 0 (.pointer (some ⟨w.heap.size, 0, none⟩)) .nilIface .nilIface (.slice none 0 0) (.pointer none) (.pointer none) 0 (.pointer none)), rfl, ?_, by simp [go_sem], by simp, fun _ => simple_6 _ ⟨w.heap.size + 1 + 1, 0, none⟩, by omega, by go_grown⟩
  repeat (first | (refine Bk.newAt ?_; simp; done) | refine Bk.alloc ?_ _ | refine Bk.drew ?_)
set_option maxRecDepth 100000 in
theorem pex_7 (s : ByteArray) (w : World) : Calls Try.prog 85 #[.string s, .int .i64 7] w (PEB w 7 s) := by
  go_enter Try.func85, Try.ntmps85
  go_wp2
  refine bodyPost_ret (v := .tuple #[.pointer (some ⟨w.heap.size + 1, 0, none⟩), .pointer (some ⟨w.heap.size, 0, none⟩)]) (by simp [results, Try.results85]) rfl ⟨_, _, (peC (.pointer none) false false false false 0 0 1 (.pointer (some ⟨w.heap.size, 0, none⟩)) .nilIface .nilIface (.slice none 0 0) (.pointer none) (.pointer none) 0 (.pointer none)), rfl, ?_, by simp [go_sem], by simp, fun _ => simple_7 _ ⟨w.heap.size + 1 + 1, 0, none⟩, by omega, by go_grown⟩
  repeat (first | (refine Bk.newAt ?_; simp; done) | refine Bk.alloc ?_ _ | refine Bk.drew ?_)
set_option maxRecDepth 100000 in
theorem pex_8 (s : ByteArray) (w : World) : Calls Try.prog 85 #[.string s, .int .i64 8] w (PEB w 8 s) := by
  go_enter Try.func85, Try.ntmps85
  go_wp2
  refine bodyPost_ret (v := .tuple #[.pointer (some ⟨w.heap.size + 1, 0, none⟩), .pointer (some ⟨w.heap.size, 0, none⟩)]) (by simp [results, Try.results85]) rfl ⟨_, _, (peC (.pointer none) false false false false 0 0 0 (.pointer (some ⟨w.heap.size, 0, none⟩)) (.iface 64 (.pointer (some ⟨w.heap.size + 1 + 1, 0, none⟩))) .nilIface (.slice none 0 0) (.pointer none) (.pointer none) 0 (.pointer none)), rfl, ?_, by simp [go_sem], by simp, fun _ => simple_8 _ ⟨w.heap.size + 1 + 1, 0, none⟩, by omega, by go_grown⟩
  repeat (first | (refine Bk.newAt ?_; simp; done) | refine Bk.alloc ?_ _ | refine Bk.drew ?_)
set_option maxRecDepth 100000 in
theorem pex_9 (s : ByteArray) (w : World) : Calls Try.prog 85 #[.string s, .int .i64 9] w (PEB w 9 s) := by
  go_enter Try.func85, Try.ntmps85
  go_wp2
  refine bodyPost_ret (v := .tuple #[.pointer (some ⟨w.heap.size + 1, 0, none⟩), .pointer (some ⟨w.heap.size, 0, none⟩)]) (by simp [results, Try.results85]) rfl ⟨_, _, (peC (.pointer none) false false false false 0 0 0 (.pointer (some ⟨w.heap.size, 0, none⟩)) .nilIface (.iface 44 (.pointer (some ⟨w.heap.size + 1 + 1 + 1 + 1, 0, none⟩))) (.slice none 0 0) (.pointer none) (.pointer none) 0 (.pointer none)), rfl, ?_, by simp [go_sem], by simp, fun _ => simple_9 _ ⟨w.heap.size + 1 + 1 + 1 + 1, 0, none⟩, by omega, by go_grown⟩
  repeat (first | (refine Bk.newAt ?_; simp; done) | refine Bk.alloc ?_ _ | refine Bk.drew ?_)
set_option maxRecDepth 100000 in
theorem pex_10 (s : ByteArray) (w : World) : Calls Try.prog 85 #[.string s, .int .i64 10] w (PEB w 10 s) := by
  go_enter Try.func85, Try.ntmps85
  go_wp2
  refine bodyPost_ret (v := .tuple #[.pointer (some ⟨w.heap.size + 1, 0, none⟩), .pointer (some ⟨w.heap.size, 0, none⟩)]) (by simp [results, Try.results85]) rfl ⟨_, _, (peC (.pointer none) false false false false 0 0 0 (.pointer (some ⟨w.heap.size, 0, none⟩)) .nilIface .nilIface (.slice (some ⟨w.heap.size + 1 + 1 + 1, 0, none⟩) 1 1) (.pointer none) (.pointer none) 0 (.pointer none)), rfl, ?_, by simp [go_sem], by simp, fun _ => simple_10 _ ⟨w.heap.size + 1 + 1 + 1, 0, none⟩, by omega, by go_grown⟩
  repeat (first | (refine Bk.newAt ?_; simp; done) | refine Bk.alloc ?_ _ | refine Bk.drew ?_)
set_option maxRecDepth 100000 in
theorem pex_11 (s : ByteArray) (w : World) : Calls Try.prog 85 #[.string s, .int .i64 11] w (PEB w 11 s) := by
  go_enter Try.func85, Try.ntmps85
  go_wp2
  refine bodyPost_ret (v := .tuple #[.pointer (some ⟨w.heap.size + 1, 0, none⟩), .pointer (some ⟨w.heap.size, 0, none⟩)]) (by simp [results, Try.results85]) rfl ⟨_, _, (peC (.pointer none) false false false false 0 0 0 (.pointer (some ⟨w.heap.size, 0, none⟩)) .nilIface .nilIface (.slice none 0 0) (.pointer (some ⟨w.heap.size + 1 + 1, 0, none⟩)) (.pointer none) 0 (.pointer none)), rfl, ?_, by simp [go_sem], by simp, fun _ => simple_11 _ ⟨w.heap.size + 1 + 1, 0, none⟩, by omega, by go_grown⟩
  repeat (first | (refine Bk.newAt ?_; simp; done) | refine Bk.alloc ?_ _ | refine Bk.drew ?_)
set_option maxRecDepth 100000 in
theorem pex_12 (s : ByteArray) (w : World) : Calls Try.prog 85 #[.string s, .int .i64 12] w (PEB w 12 s) := by
  go_enter Try.func85, Try.ntmps85
  go_wp2
  refine bodyPost_ret (v := .tuple #[.pointer (some ⟨w.heap.size + 1, 0, none⟩), .pointer (some ⟨w.heap.size, 0, none⟩)]) (by simp [results, Try.results85]) rfl ⟨_, _, (peC (.pointer none) false false false false 0 0 0 (.pointer (some ⟨w.heap.size, 0, none⟩)) .nilIface .nilIface (.slice none 0 0) (.pointer none) (.pointer (some ⟨w.heap.size + 1 + 1, 0, none⟩)) 0 (.pointer none)), rfl, ?_, by simp [go_sem], by simp, fun _ => simple_12 _ ⟨w.heap.size + 1 + 1, 0, none⟩, by omega, by go_grown⟩
  repeat (first | (refine Bk.newAt ?_; simp; done) | refine Bk.alloc ?_ _ | refine Bk.drew ?_)
set_option maxRecDepth 100000 in
theorem pex_13 (s : ByteArray) (w : World) : Calls Try.prog 85 #[.string s, .int .i64 13] w (PEB w 13 s) := by
  go_enter Try.func85, Try.ntmps85
  go_wp2
  refine bodyPost_ret (v := .tuple #[.pointer (some ⟨w.heap.size + 1, 0, none⟩), .pointer (some ⟨w.heap.size, 0, none⟩)]) (by simp [results, Try.results85]) rfl ⟨_, _, (peC (.pointer none) false false false false 0 0 0 (.pointer (some ⟨w.heap.size, 0, none⟩)) .nilIface .nilIface (.slice none 0 0) (.pointer none) (.pointer none) 43 (.pointer none)), rfl, ?_, by simp [go_sem], by simp, fun _ => simple_13 _ ⟨w.heap.size + 1 + 1, 0, none⟩, by omega, by go_grown⟩
  repeat (first | (refine Bk.newAt ?_; simp; done) | refine Bk.alloc ?_ _ | refine Bk.drew ?_)
set_option maxRecDepth 100000 in
theorem pex_14 (s : ByteArray) (w : World) : Calls Try.prog 85 #[.string s, .int .i64 14] w (PEB w 14 s) := by
  go_enter Try.func85, Try.ntmps85
  go_wp2
  refine bodyPost_ret (v := .tuple #[.pointer (some ⟨w.heap.size + 1, 0, none⟩), .pointer (some ⟨w.heap.size, 0, none⟩)]) (by simp [results, Try.results85]) rfl ⟨_, _, (peC (.pointer none) false false false false 0 0 0 (.pointer (some ⟨w.heap.size, 0, none⟩)) .nilIface .nilIface (.slice none 0 0) (.pointer none) (.pointer none) 0 (.pointer (some ⟨w.heap.size + 1 + 1, 0, none⟩))), rfl, ?_, by simp [go_sem], by simp, fun _ => simple_14 _ ⟨w.heap.size + 1 + 1, 0, none⟩, by omega, by go_grown⟩
  repeat (first | (refine Bk.newAt ?_; simp; done) | refine Bk.alloc ?_ _ | refine Bk.drew ?_)
set_option maxRecDepth 100000 in
theorem pex_15 (s : ByteArray) (w : World) : Calls Try.prog 85 #[.string s, .int .i64 15] w (PEB w 15 s) := by
  go_enter Try.func85, Try.ntmps85
  go_wp2
  refine bodyPost_ret (v := .tuple #[.pointer (some ⟨w.heap.size + 1, 0, none⟩), .pointer (some ⟨w.heap.size, 0, none⟩)]) (by simp [results, Try.results85]) rfl ⟨_, _, (peC (.pointer (some ⟨w.heap.size + 1 + 1, 0, none⟩)) false false false false 0 0 0 (.pointer (some ⟨w.heap.size, 0, none⟩)) .nilIface .nilIface (.slice none 0 0) (.pointer none) (.pointer none) 0 (.pointer none)), rfl, ?_, by simp [go_sem], by simp, fun _ => simple_15 _ ⟨w.heap.size + 1 + 1, 0, none⟩, by omega, by go_grown⟩
  repeat (first | (refine Bk.newAt ?_; simp; done) | refine Bk.alloc ?_ _ | refine Bk.drew ?_)
set_option maxRecDepth 100000 in
theorem pex_16 (s : ByteArray) (w : World) : Calls Try.prog 85 #[.string s, .int .i64 16] w (PEB w 16 s) := by
  go_enter Try.func85, Try.ntmps85
  go_wp2
  refine bodyPost_ret (v := .tuple #[.pointer (some ⟨w.heap.size + 1, 0, none⟩), .pointer (some ⟨w.heap.size, 0, none⟩)]) (by simp [results, Try.results85]) rfl ⟨_, _, (peC (.pointer none) false false false false 0 0 0 (.pointer none) .nilIface .nilIface (.slice none 0 0) (.pointer none) (.pointer none) 0 (.pointer none)), rfl, ?_, by simp [go_sem], by simp, fun h => absurd rfl h, by omega, by go_grown⟩
  repeat (first | (refine Bk.newAt ?_; simp; done) | refine Bk.alloc ?_ _ | refine Bk.drew ?_)
theorem pex_any (k : Nat) (hk : k ≤ 16) (s : ByteArray) (w : World) : Calls Try.prog 85 #[.string s, .int .i64 (k : Int)] w (PEB w k s) := by
  rcases (by omega : k = 0 ∨ k = 1 ∨ k = 2 ∨ k = 3 ∨ k = 4 ∨ k = 5 ∨ k = 6 ∨ k = 7 ∨ k = 8 ∨ k = 9 ∨ k = 10 ∨ k = 11 ∨ k = 12 ∨ k = 13 ∨ k = 14 ∨ k = 15 ∨ k = 16) with rfl | rfl | rfl | rfl | rfl | rfl | rfl | rfl | rfl | rfl | rfl | rfl | rfl | rfl | rfl | rfl | rfl
  · exact pex_0 s w
  · exact pex_1 s w
  · exact pex_2 s w
  · exact pex_3 s w
  · exact pex_4 s w
  · exact pex_5 s w
  · exact pex_6 s w
  · exact pex_7 s w
  · exact pex_8 s w
  · exact pex_9 s w
  · exact pex_10 s w
  · exact pex_11 s w
  · exact pex_12 s w
  · exact pex_13 s w
  · exact pex_14 s w
  · exact pex_15 s w
  · exact pex_16 s w
end Go.Proofs.Ytnjdffnbkjjmeaa
