/- zzBytesComments, zzBytesStmts and zzTooBig over bounded statements and comments. -/
import Derived.Test.YtimaobpcefgdkaaCom
namespace Go.Proofs.Ytimaobpcefgdkaa
open Go.RowKit
def RetI (w : World) (B : Int) (e : Ending) (w' : World) : Prop := ∃ v : Int, e = .returned (.int .i64 v) ∧ w = w' ∧ 0 ≤ v ∧ v ≤ B
def RelI (w : World) (n : Nat) (zn i : Value) (wr : World) : Prop :=
  ∃ (k : Nat) (z : Int), k ≤ n ∧ i = .int .i64 k ∧ zn = .int .i64 z ∧ 0 ≤ z ∧ z ≤ 8388608 ∧ w = wr
set_option maxHeartbeats 2000000 in
set_option maxRecDepth 100000 in
theorem zzBytesComments_ok (a : Option Addr) (n c : Nat) (w : World) (h : OkComs w a n) : Calls Try.prog 75 #[.slice a n c] w (RetI w 9437184) := by
  obtain ⟨hn, h⟩ := h
  have HC := Lib.hid h
  clear h
  go_enter Try.func75, Try.ntmps75
  go_wp2_with fail
  go_loopw [3, 10] (fun zn i wr => RelI w n zn i wr) (fun _ i _ => n - (intOf i).toNat)
  case atStart => exact ⟨0, _, by omega, by go_num, rfl, by omega, by omega, rfl⟩
  case round =>
    obtain ⟨q, z2, hq, rfl, rfl, z20, z21, rfl⟩ := hrel
    by_cases hlt2 : q < n
    · have hlt2' : (q : Int) < (n : Int) := by omega
      obtain ⟨y, rfl, hy⟩ : ∃ y, a = some y ∧ ∀ i, i < n → OkCom w (y.add (i * 4)) := by
        rcases HC.out with ⟨_, h⟩ | h
        · omega
        · exact h
      obtain ⟨P3, s, hs, hsz⟩ := hy q hlt2
      have t3 : w.cell? { block := (y.add (q * 4)).block, off := (y.add (q * 4)).off + 3 } = some (.string s) := hs
      have j0 : (0 : Int) ≤ (q : Int) := by omega
      have lt3 := World.block_lt_of_cell? _ _ t3
      clear hy
      by_cases g2 : (1048576 : Int) < z2 + (s.size : Int)
      · go_wp2
        go_ret
        exact ⟨_, rfl, rfl, by omega, by omega⟩
      · go_wp2
        go_roundw
        case rel => exact ⟨q + 1, _, by omega, by go_num, rfl, by omega, by omega, rfl⟩
        case measure => simp [intOf]; omega
    · obtain rfl : q = n := by omega
      have hlt2' : ¬ (q : Int) < (q : Int) := by omega
      go_wp2
      go_ret
      exact ⟨_, rfl, rfl, by omega, by omega⟩
set_option maxHeartbeats 2000000 in
set_option maxRecDepth 100000 in
theorem zzBytesStmts_ok (a : Option Addr) (n c : Nat) (w : World) (h : OkSts w a n) : Calls Try.prog 74 #[.slice a n c] w (RetI w 33554432) := by
  obtain ⟨hn, h⟩ := h
  have HC := Lib.hid h
  clear h
  go_enter Try.func74, Try.ntmps74
  go_wp2_with fail
  go_loopw [3, 10] (fun zn i wr => RelI w n zn i wr) (fun _ i _ => n - (intOf i).toNat)
  case atStart => exact ⟨0, _, by omega, by go_num, rfl, by omega, by omega, rfl⟩
  case round =>
    obtain ⟨q, z2, hq, rfl, rfl, z20, z21, rfl⟩ := hrel
    by_cases hlt2 : q < n
    · have hlt2' : (q : Int) < (n : Int) := by omega
      obtain ⟨y, rfl, hy⟩ : ∃ y, a = some y ∧ ∀ i, i < n → OkSt w (y.add (i * 4)) := by
        rcases HC.out with ⟨_, h⟩ | h
        · omega
        · exact h
      obtain ⟨P3, b, m, d, hs, hok⟩ := hy q hlt2
      have t3 : w.cell? { block := (y.add (q * 4)).block, off := (y.add (q * 4)).off + 3 } = some (.slice b m d) := hs
      have j0 : (0 : Int) ≤ (q : Int) := by omega
      have lt3 := World.block_lt_of_cell? _ _ t3
      have hm := hok.1
      have g1' : ¬ (1048576 : Int) < (m : Int) := by omega
      have HO := Lib.hid hok
      clear hy hok
      go_wp2_with fail
      refine (zzBytesComments_ok b m d w HO.out).mono ?_
      rintro e w' ⟨v, rfl, rfl, v0, v1⟩
      by_cases g2 : (1048576 : Int) < z2 + v
      · go_wp2
        go_ret
        exact ⟨_, rfl, rfl, by omega, by omega⟩
      · go_wp2
        go_roundw
        case rel => exact ⟨q + 1, _, by omega, by go_num, rfl, by omega, by omega, rfl⟩
        case measure => simp [intOf]; omega
    · obtain rfl : q = n := by omega
      have hlt2' : ¬ (q : Int) < (q : Int) := by omega
      go_wp2
      go_ret
      exact ⟨_, rfl, rfl, by omega, by omega⟩
def RetTB (w : World) (e : Ending) (w' : World) : Prop := ∃ r : Bool, e = .returned (.bool r) ∧ w = w'
theorem zzTooBig_ok (a b : Option Addr) (n c m d : Nat) (w : World) (hS : OkSts w a n) (hC : OkComs w b m) :
    Calls Try.prog 19 #[.slice a n c, .slice b m d, .string ByteArray.empty] w (RetTB w) := by
  have hn := hS.1
  have hm := hC.1
  have HS := Lib.hid hS
  have HC := Lib.hid hC
  clear hS hC
  by_cases h1 : 65536 < n
  · go_enter Try.func19, Try.ntmps19
    go_wp2
    go_ret
    exact ⟨_, rfl, rfl⟩
  have h1' : ¬ (65536 : Int) < (n : Int) := by omega
  by_cases h2 : 65536 < m
  · go_enter Try.func19, Try.ntmps19
    go_wp2
    go_ret
    exact ⟨_, rfl, rfl⟩
  have h2' : ¬ (65536 : Int) < (m : Int) := by omega
  go_enter Try.func19, Try.ntmps19
  go_wp2_with fail
  refine (zzBytesStmts_ok a n c w HS.out).mono ?_
  rintro e w' ⟨v, rfl, rfl, v0, v1⟩
  go_wp2_with fail
  refine (zzBytesComments_ok b m d w HC.out).mono ?_
  rintro e w' ⟨v2, rfl, rfl, v20, v21⟩
  go_wp2
  go_ret
  exact ⟨_, rfl, rfl⟩
end Go.Proofs.Ytimaobpcefgdkaa
