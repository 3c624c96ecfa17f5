/- The walk of FnRemoveNegateTestNegatingTwiceRestoresOperator. -/
import Derived.Test.YtnjdffnbkjjmeaaRows
import Derived.WalkKit
import Derived.WalkLawsBesides
import Derived.WalkSpells
import Derived.Handy
import Derived.OpenShut
import Derived.Lib.Hide
import Derived.LaidEqlPtr
import Derived.Lib.Builder
namespace Go.Proofs.Ytnjdffnbkjjmeaa
open Go.RowKit
theorem ta_Word_Word (a : Option Addr) (w : World) : (Instr.typeAssert (.iface 44 (.pointer a)) 51 44 true).run Try.prog w = .ok (.tuple #[.pointer a, .bool true]) w := by kernel_rfl
theorem ta_Word_UnaryTest (a : Option Addr) (w : World) : (Instr.typeAssert (.iface 44 (.pointer a)) 51 45 true).run Try.prog w = .ok (.tuple #[.pointer none, .bool false]) w := by kernel_rfl
theorem ta_Word_BinaryTest (a : Option Addr) (w : World) : (Instr.typeAssert (.iface 44 (.pointer a)) 51 46 true).run Try.prog w = .ok (.tuple #[.pointer none, .bool false]) w := by kernel_rfl
theorem ta_Word_ParenTest (a : Option Addr) (w : World) : (Instr.typeAssert (.iface 44 (.pointer a)) 51 54 true).run Try.prog w = .ok (.tuple #[.pointer none, .bool false]) w := by kernel_rfl
theorem ta_UnaryTest_Word (a : Option Addr) (w : World) : (Instr.typeAssert (.iface 45 (.pointer a)) 51 44 true).run Try.prog w = .ok (.tuple #[.pointer none, .bool false]) w := by kernel_rfl
theorem ta_UnaryTest_UnaryTest (a : Option Addr) (w : World) : (Instr.typeAssert (.iface 45 (.pointer a)) 51 45 true).run Try.prog w = .ok (.tuple #[.pointer a, .bool true]) w := by kernel_rfl
theorem ta_UnaryTest_BinaryTest (a : Option Addr) (w : World) : (Instr.typeAssert (.iface 45 (.pointer a)) 51 46 true).run Try.prog w = .ok (.tuple #[.pointer none, .bool false]) w := by kernel_rfl
theorem ta_UnaryTest_ParenTest (a : Option Addr) (w : World) : (Instr.typeAssert (.iface 45 (.pointer a)) 51 54 true).run Try.prog w = .ok (.tuple #[.pointer none, .bool false]) w := by kernel_rfl
theorem ta_BinaryTest_Word (a : Option Addr) (w : World) : (Instr.typeAssert (.iface 46 (.pointer a)) 51 44 true).run Try.prog w = .ok (.tuple #[.pointer none, .bool false]) w := by kernel_rfl
theorem ta_BinaryTest_UnaryTest (a : Option Addr) (w : World) : (Instr.typeAssert (.iface 46 (.pointer a)) 51 45 true).run Try.prog w = .ok (.tuple #[.pointer none, .bool false]) w := by kernel_rfl
theorem ta_BinaryTest_BinaryTest (a : Option Addr) (w : World) : (Instr.typeAssert (.iface 46 (.pointer a)) 51 46 true).run Try.prog w = .ok (.tuple #[.pointer a, .bool true]) w := by kernel_rfl
theorem ta_BinaryTest_ParenTest (a : Option Addr) (w : World) : (Instr.typeAssert (.iface 46 (.pointer a)) 51 54 true).run Try.prog w = .ok (.tuple #[.pointer none, .bool false]) w := by kernel_rfl
theorem ta_ParenTest_Word (a : Option Addr) (w : World) : (Instr.typeAssert (.iface 54 (.pointer a)) 51 44 true).run Try.prog w = .ok (.tuple #[.pointer none, .bool false]) w := by kernel_rfl
theorem ta_ParenTest_UnaryTest (a : Option Addr) (w : World) : (Instr.typeAssert (.iface 54 (.pointer a)) 51 45 true).run Try.prog w = .ok (.tuple #[.pointer none, .bool false]) w := by kernel_rfl
theorem ta_ParenTest_BinaryTest (a : Option Addr) (w : World) : (Instr.typeAssert (.iface 54 (.pointer a)) 51 46 true).run Try.prog w = .ok (.tuple #[.pointer none, .bool false]) w := by kernel_rfl
theorem ta_ParenTest_ParenTest (a : Option Addr) (w : World) : (Instr.typeAssert (.iface 54 (.pointer a)) 51 54 true).run Try.prog w = .ok (.tuple #[.pointer a, .bool true]) w := by kernel_rfl
theorem eq_Word (a : Addr) (w : World) : (binOp .eql 44 (.pointer (some a)) (.pointer (some a))).run Try.prog w = .ok (.bool true) w := by
  obtain ⟨j, hj⟩ : ∃ j, Try.prog.info? 129 = some j := Option.isSome_iff_exists.1 (by kernel_rfl)
  exact run_eql_ptr_same w a Try.underlying44 hj
theorem ne_Word (a : Addr) (w : World) : (binOp .neq 44 (.pointer (some a)) (.pointer (some a))).run Try.prog w = .ok (.bool false) w := by
  obtain ⟨j, hj⟩ : ∃ j, Try.prog.info? 129 = some j := Option.isSome_iff_exists.1 (by kernel_rfl)
  exact Lib.run_neq_ptr_same w a Try.underlying44 hj
theorem eq_UnaryTest (a : Addr) (w : World) : (binOp .eql 45 (.pointer (some a)) (.pointer (some a))).run Try.prog w = .ok (.bool true) w := by
  obtain ⟨j, hj⟩ : ∃ j, Try.prog.info? 103 = some j := Option.isSome_iff_exists.1 (by kernel_rfl)
  exact run_eql_ptr_same w a Try.underlying45 hj
theorem ne_UnaryTest (a : Addr) (w : World) : (binOp .neq 45 (.pointer (some a)) (.pointer (some a))).run Try.prog w = .ok (.bool false) w := by
  obtain ⟨j, hj⟩ : ∃ j, Try.prog.info? 103 = some j := Option.isSome_iff_exists.1 (by kernel_rfl)
  exact Lib.run_neq_ptr_same w a Try.underlying45 hj
theorem eq_BinaryTest (a : Addr) (w : World) : (binOp .eql 46 (.pointer (some a)) (.pointer (some a))).run Try.prog w = .ok (.bool true) w := by
  obtain ⟨j, hj⟩ : ∃ j, Try.prog.info? 100 = some j := Option.isSome_iff_exists.1 (by kernel_rfl)
  exact run_eql_ptr_same w a Try.underlying46 hj
theorem ne_BinaryTest (a : Addr) (w : World) : (binOp .neq 46 (.pointer (some a)) (.pointer (some a))).run Try.prog w = .ok (.bool false) w := by
  obtain ⟨j, hj⟩ : ∃ j, Try.prog.info? 100 = some j := Option.isSome_iff_exists.1 (by kernel_rfl)
  exact Lib.run_neq_ptr_same w a Try.underlying46 hj
set_option maxHeartbeats 4000000 in
set_option maxRecDepth 100000 in
theorem neg_true_true (s : ByteArray) (hs : s.size ≤ 1048576) (w : World) :
    Calls Try.prog 8 #[.bool true, .bool true, .string s] w fun e w' => e = .returned (.bool true) ∧ Below w.heap.size w w' := by
  have t0 := ta_Word_Word
  have t1 := ta_Word_UnaryTest
  have t2 := ta_Word_BinaryTest
  have t4 := ta_UnaryTest_Word
  have t5 := ta_UnaryTest_UnaryTest
  have t6 := ta_UnaryTest_BinaryTest
  have t8 := ta_BinaryTest_Word
  have t9 := ta_BinaryTest_UnaryTest
  have t10 := ta_BinaryTest_BinaryTest
  have u0 := eq_Word
  have v0 := ne_Word
  have u1 := eq_UnaryTest
  have v1 := ne_UnaryTest
  have u2 := eq_BinaryTest
  have v2 := ne_BinaryTest
  go_enter Try.func8, Try.ntmps8
  go_wp2
  go_region
  all_goals go_wp2
  all_goals go_region
  all_goals go_wp2
  all_goals go_ret
  all_goals exact ⟨rfl, by go_grown⟩
set_option maxHeartbeats 4000000 in
set_option maxRecDepth 100000 in
theorem neg_true_false (s : ByteArray) (hs : s.size ≤ 1048576) (w : World) :
    Calls Try.prog 8 #[.bool true, .bool false, .string s] w fun e w' => e = .returned (.bool true) ∧ Below w.heap.size w w' := by
  have t0 := ta_Word_Word
  have t1 := ta_Word_UnaryTest
  have t2 := ta_Word_BinaryTest
  have t4 := ta_UnaryTest_Word
  have t5 := ta_UnaryTest_UnaryTest
  have t6 := ta_UnaryTest_BinaryTest
  have t8 := ta_BinaryTest_Word
  have t9 := ta_BinaryTest_UnaryTest
  have t10 := ta_BinaryTest_BinaryTest
  have u0 := eq_Word
  have v0 := ne_Word
  have u1 := eq_UnaryTest
  have v1 := ne_UnaryTest
  have u2 := eq_BinaryTest
  have v2 := ne_BinaryTest
  go_enter Try.func8, Try.ntmps8
  go_wp2
  go_region
  all_goals go_wp2
  all_goals go_region
  all_goals go_wp2
  all_goals go_ret
  all_goals exact ⟨rfl, by go_grown⟩
set_option maxHeartbeats 4000000 in
set_option maxRecDepth 100000 in
theorem neg_false_true (s : ByteArray) (hs : s.size ≤ 1048576) (w : World) :
    Calls Try.prog 8 #[.bool false, .bool true, .string s] w fun e w' => e = .returned (.bool true) ∧ Below w.heap.size w w' := by
  have t0 := ta_Word_Word
  have t1 := ta_Word_UnaryTest
  have t2 := ta_Word_BinaryTest
  have t4 := ta_UnaryTest_Word
  have t5 := ta_UnaryTest_UnaryTest
  have t6 := ta_UnaryTest_BinaryTest
  have t8 := ta_BinaryTest_Word
  have t9 := ta_BinaryTest_UnaryTest
  have t10 := ta_BinaryTest_BinaryTest
  have u0 := eq_Word
  have v0 := ne_Word
  have u1 := eq_UnaryTest
  have v1 := ne_UnaryTest
  have u2 := eq_BinaryTest
  have v2 := ne_BinaryTest
  go_enter Try.func8, Try.ntmps8
  go_wp2
  go_region
  all_goals go_wp2
  all_goals go_region
  all_goals go_wp2
  all_goals go_ret
  all_goals exact ⟨rfl, by go_grown⟩
set_option maxHeartbeats 4000000 in
set_option maxRecDepth 100000 in
theorem neg_false_false (s : ByteArray) (hs : s.size ≤ 1048576) (w : World) :
    Calls Try.prog 8 #[.bool false, .bool false, .string s] w fun e w' => e = .returned (.bool true) ∧ Below w.heap.size w w' := by
  have t0 := ta_Word_Word
  have t1 := ta_Word_UnaryTest
  have t2 := ta_Word_BinaryTest
  have t4 := ta_UnaryTest_Word
  have t5 := ta_UnaryTest_UnaryTest
  have t6 := ta_UnaryTest_BinaryTest
  have t8 := ta_BinaryTest_Word
  have t9 := ta_BinaryTest_UnaryTest
  have t10 := ta_BinaryTest_BinaryTest
  have u0 := eq_Word
  have v0 := ne_Word
  have u1 := eq_UnaryTest
  have v1 := ne_UnaryTest
  have u2 := eq_BinaryTest
  have v2 := ne_BinaryTest
  go_enter Try.func8, Try.ntmps8
  go_wp2
  go_region
  all_goals go_wp2
  all_goals go_region
  all_goals go_wp2
  all_goals go_ret
  all_goals exact ⟨rfl, by go_grown⟩
theorem neg_big (a b : Bool) (s : ByteArray) (hs : ¬ s.size ≤ 1048576) (_hm : s.size ≤ 9223372036854775807) (w : World) :
    Calls Try.prog 8 #[.bool a, .bool b, .string s] w fun e w' => e = .returned (.bool true) ∧ Below w.heap.size w w' := by
  have h1 : 1048576 < s.size := by omega
  go_enter Try.func8, Try.ntmps8
  go_wp2
  go_ret
  exact ⟨rfl, by go_grown⟩
theorem walkFnRemoveNegateTestNegatingTwiceRestoresOperator (a0 : Bool) (a1 : Bool) (a2 : ByteArray) (w2 : a2.size ≤ maxLen) (w : World) :
    Calls Try.prog 8 #[.bool a0, .bool a1, .string a2] w fun e w' => e = .returned (.bool true) ∧ Below w.heap.size w w' := by
  unfold maxLen at w2
  by_cases hs : a2.size ≤ 1048576
  · cases a0 <;> cases a1
    · exact neg_false_false a2 hs w
    · exact neg_false_true a2 hs w
    · exact neg_true_false a2 hs w
    · exact neg_true_true a2 hs w
  · exact neg_big a0 a1 a2 hs w2 w
end Go.Proofs.Ytnjdffnbkjjmeaa
