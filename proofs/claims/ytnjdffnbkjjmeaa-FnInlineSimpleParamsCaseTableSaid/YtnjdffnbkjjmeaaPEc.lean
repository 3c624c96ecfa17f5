/- ParamExp.simple at some of the expansion's extras. -/
import Derived.Test.YtnjdffnbkjjmeaaPED
namespace Go.Proofs.Ytnjdffnbkjjmeaa
open Go.RowKit
set_option maxHeartbeats 4000000 in
set_option maxRecDepth 100000 in
theorem simple_11 (lt a : Addr) : SimpleIs (peC (.pointer none) false false false false 0 0 0 (.pointer (some lt)) .nilIface .nilIface (.slice none 0 0) (.pointer (some a)) (.pointer none) 0 (.pointer none)) false := by
  intro pe W h
  have c5 : W.cell? ⟨pe, 5, none⟩ = _ := (h.cells 5).trans rfl
  have c6 : W.cell? ⟨pe, 6, none⟩ = _ := (h.cells 6).trans rfl
  have c7 : W.cell? ⟨pe, 7, none⟩ = _ := (h.cells 7).trans rfl
  have c8 : W.cell? ⟨pe, 8, none⟩ = _ := (h.cells 8).trans rfl
  have c9 : W.cell? ⟨pe, 9, none⟩ = _ := (h.cells 9).trans rfl
  have c10 : W.cell? ⟨pe, 10, none⟩ = _ := (h.cells 10).trans rfl
  have c11 : W.cell? ⟨pe, 11, none⟩ = _ := (h.cells 11).trans rfl
  have c12 : W.cell? ⟨pe, 12, none⟩ = _ := (h.cells 12).trans rfl
  have c13 : W.cell? ⟨pe, 13, none⟩ = _ := (h.cells 13).trans rfl
  have c14 : W.cell? ⟨pe, 14, none⟩ = _ := (h.cells 14).trans rfl
  have c15 : W.cell? ⟨pe, 15, none⟩ = _ := (h.cells 15).trans rfl
  have c16 : W.cell? ⟨pe, 16, none⟩ = _ := (h.cells 16).trans rfl
  have c17 : W.cell? ⟨pe, 17, none⟩ = _ := (h.cells 17).trans rfl
  have c18 : W.cell? ⟨pe, 18, none⟩ = _ := (h.cells 18).trans rfl
  have c19 : W.cell? ⟨pe, 19, none⟩ = _ := (h.cells 19).trans rfl
  have c20 : W.cell? ⟨pe, 20, none⟩ = _ := (h.cells 20).trans rfl
  clear h
  go_enter Try.func88, Try.ntmps88
  go_wp2
  go_ret
  exact ⟨rfl, rfl⟩
set_option maxHeartbeats 4000000 in
set_option maxRecDepth 100000 in
theorem simple_12 (lt a : Addr) : SimpleIs (peC (.pointer none) false false false false 0 0 0 (.pointer (some lt)) .nilIface .nilIface (.slice none 0 0) (.pointer none) (.pointer (some a)) 0 (.pointer none)) false := by
  intro pe W h
  have c5 : W.cell? ⟨pe, 5, none⟩ = _ := (h.cells 5).trans rfl
  have c6 : W.cell? ⟨pe, 6, none⟩ = _ := (h.cells 6).trans rfl
  have c7 : W.cell? ⟨pe, 7, none⟩ = _ := (h.cells 7).trans rfl
  have c8 : W.cell? ⟨pe, 8, none⟩ = _ := (h.cells 8).trans rfl
  have c9 : W.cell? ⟨pe, 9, none⟩ = _ := (h.cells 9).trans rfl
  have c10 : W.cell? ⟨pe, 10, none⟩ = _ := (h.cells 10).trans rfl
  have c11 : W.cell? ⟨pe, 11, none⟩ = _ := (h.cells 11).trans rfl
  have c12 : W.cell? ⟨pe, 12, none⟩ = _ := (h.cells 12).trans rfl
  have c13 : W.cell? ⟨pe, 13, none⟩ = _ := (h.cells 13).trans rfl
  have c14 : W.cell? ⟨pe, 14, none⟩ = _ := (h.cells 14).trans rfl
  have c15 : W.cell? ⟨pe, 15, none⟩ = _ := (h.cells 15).trans rfl
  have c16 : W.cell? ⟨pe, 16, none⟩ = _ := (h.cells 16).trans rfl
  have c17 : W.cell? ⟨pe, 17, none⟩ = _ := (h.cells 17).trans rfl
  have c18 : W.cell? ⟨pe, 18, none⟩ = _ := (h.cells 18).trans rfl
  have c19 : W.cell? ⟨pe, 19, none⟩ = _ := (h.cells 19).trans rfl
  have c20 : W.cell? ⟨pe, 20, none⟩ = _ := (h.cells 20).trans rfl
  clear h
  go_enter Try.func88, Try.ntmps88
  go_wp2
  go_ret
  exact ⟨rfl, rfl⟩
set_option maxHeartbeats 4000000 in
set_option maxRecDepth 100000 in
theorem simple_13 (lt _a : Addr) : SimpleIs (peC (.pointer none) false false false false 0 0 0 (.pointer (some lt)) .nilIface .nilIface (.slice none 0 0) (.pointer none) (.pointer none) 43 (.pointer none)) false := by
  intro pe W h
  have c5 : W.cell? ⟨pe, 5, none⟩ = _ := (h.cells 5).trans rfl
  have c6 : W.cell? ⟨pe, 6, none⟩ = _ := (h.cells 6).trans rfl
  have c7 : W.cell? ⟨pe, 7, none⟩ = _ := (h.cells 7).trans rfl
  have c8 : W.cell? ⟨pe, 8, none⟩ = _ := (h.cells 8).trans rfl
  have c9 : W.cell? ⟨pe, 9, none⟩ = _ := (h.cells 9).trans rfl
  have c10 : W.cell? ⟨pe, 10, none⟩ = _ := (h.cells 10).trans rfl
  have c11 : W.cell? ⟨pe, 11, none⟩ = _ := (h.cells 11).trans rfl
  have c12 : W.cell? ⟨pe, 12, none⟩ = _ := (h.cells 12).trans rfl
  have c13 : W.cell? ⟨pe, 13, none⟩ = _ := (h.cells 13).trans rfl
  have c14 : W.cell? ⟨pe, 14, none⟩ = _ := (h.cells 14).trans rfl
  have c15 : W.cell? ⟨pe, 15, none⟩ = _ := (h.cells 15).trans rfl
  have c16 : W.cell? ⟨pe, 16, none⟩ = _ := (h.cells 16).trans rfl
  have c17 : W.cell? ⟨pe, 17, none⟩ = _ := (h.cells 17).trans rfl
  have c18 : W.cell? ⟨pe, 18, none⟩ = _ := (h.cells 18).trans rfl
  have c19 : W.cell? ⟨pe, 19, none⟩ = _ := (h.cells 19).trans rfl
  have c20 : W.cell? ⟨pe, 20, none⟩ = _ := (h.cells 20).trans rfl
  clear h
  go_enter Try.func88, Try.ntmps88
  go_wp2
  go_ret
  exact ⟨rfl, rfl⟩
set_option maxHeartbeats 4000000 in
set_option maxRecDepth 100000 in
theorem simple_14 (lt a : Addr) : SimpleIs (peC (.pointer none) false false false false 0 0 0 (.pointer (some lt)) .nilIface .nilIface (.slice none 0 0) (.pointer none) (.pointer none) 0 (.pointer (some a))) false := by
  intro pe W h
  have c5 : W.cell? ⟨pe, 5, none⟩ = _ := (h.cells 5).trans rfl
  have c6 : W.cell? ⟨pe, 6, none⟩ = _ := (h.cells 6).trans rfl
  have c7 : W.cell? ⟨pe, 7, none⟩ = _ := (h.cells 7).trans rfl
  have c8 : W.cell? ⟨pe, 8, none⟩ = _ := (h.cells 8).trans rfl
  have c9 : W.cell? ⟨pe, 9, none⟩ = _ := (h.cells 9).trans rfl
  have c10 : W.cell? ⟨pe, 10, none⟩ = _ := (h.cells 10).trans rfl
  have c11 : W.cell? ⟨pe, 11, none⟩ = _ := (h.cells 11).trans rfl
  have c12 : W.cell? ⟨pe, 12, none⟩ = _ := (h.cells 12).trans rfl
  have c13 : W.cell? ⟨pe, 13, none⟩ = _ := (h.cells 13).trans rfl
  have c14 : W.cell? ⟨pe, 14, none⟩ = _ := (h.cells 14).trans rfl
  have c15 : W.cell? ⟨pe, 15, none⟩ = _ := (h.cells 15).trans rfl
  have c16 : W.cell? ⟨pe, 16, none⟩ = _ := (h.cells 16).trans rfl
  have c17 : W.cell? ⟨pe, 17, none⟩ = _ := (h.cells 17).trans rfl
  have c18 : W.cell? ⟨pe, 18, none⟩ = _ := (h.cells 18).trans rfl
  have c19 : W.cell? ⟨pe, 19, none⟩ = _ := (h.cells 19).trans rfl
  have c20 : W.cell? ⟨pe, 20, none⟩ = _ := (h.cells 20).trans rfl
  clear h
  go_enter Try.func88, Try.ntmps88
  go_wp2
  go_ret
  exact ⟨rfl, rfl⟩
set_option maxHeartbeats 4000000 in
set_option maxRecDepth 100000 in
theorem simple_15 (lt a : Addr) : SimpleIs (peC (.pointer (some a)) false false false false 0 0 0 (.pointer (some lt)) .nilIface .nilIface (.slice none 0 0) (.pointer none) (.pointer none) 0 (.pointer none)) false := by
  intro pe W h
  have c5 : W.cell? ⟨pe, 5, none⟩ = _ := (h.cells 5).trans rfl
  have c6 : W.cell? ⟨pe, 6, none⟩ = _ := (h.cells 6).trans rfl
  have c7 : W.cell? ⟨pe, 7, none⟩ = _ := (h.cells 7).trans rfl
  have c8 : W.cell? ⟨pe, 8, none⟩ = _ := (h.cells 8).trans rfl
  have c9 : W.cell? ⟨pe, 9, none⟩ = _ := (h.cells 9).trans rfl
  have c10 : W.cell? ⟨pe, 10, none⟩ = _ := (h.cells 10).trans rfl
  have c11 : W.cell? ⟨pe, 11, none⟩ = _ := (h.cells 11).trans rfl
  have c12 : W.cell? ⟨pe, 12, none⟩ = _ := (h.cells 12).trans rfl
  have c13 : W.cell? ⟨pe, 13, none⟩ = _ := (h.cells 13).trans rfl
  have c14 : W.cell? ⟨pe, 14, none⟩ = _ := (h.cells 14).trans rfl
  have c15 : W.cell? ⟨pe, 15, none⟩ = _ := (h.cells 15).trans rfl
  have c16 : W.cell? ⟨pe, 16, none⟩ = _ := (h.cells 16).trans rfl
  have c17 : W.cell? ⟨pe, 17, none⟩ = _ := (h.cells 17).trans rfl
  have c18 : W.cell? ⟨pe, 18, none⟩ = _ := (h.cells 18).trans rfl
  have c19 : W.cell? ⟨pe, 19, none⟩ = _ := (h.cells 19).trans rfl
  have c20 : W.cell? ⟨pe, 20, none⟩ = _ := (h.cells 20).trans rfl
  clear h
  go_enter Try.func88, Try.ntmps88
  go_wp2
  go_ret
  exact ⟨rfl, rfl⟩
end Go.Proofs.Ytnjdffnbkjjmeaa
