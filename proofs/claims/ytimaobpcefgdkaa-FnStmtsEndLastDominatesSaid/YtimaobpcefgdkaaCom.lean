/- Bounds on statements and comments that came in: zzBytes_*, zzBytesComments, zzBytesStmts, zzTooBig. -/
import Derived.Test.YtimaobpcefgdkaaZArg
import Derived.Test.YtimaobpcefgdkaaStep
namespace Go.Proofs.Ytimaobpcefgdkaa
open Go.RowKit
def OkCom (w : World) (p : Addr) : Prop := Pos3At w p ∧ ∃ s : ByteArray, w.cell? (p.add 3) = some (.string s) ∧ s.size ≤ 1048576
def OkComs (w : World) (a : Option Addr) (n : Nat) : Prop := n ≤ 1048576 ∧ ((a = none ∧ n = 0) ∨ ∃ x, a = some x ∧ ∀ i, i < n → OkCom w (x.add (i * 4)))
def OkSt (w : World) (p : Addr) : Prop := Pos3At w p ∧ ∃ (a : Option Addr) (n c : Nat), w.cell? (p.add 3) = some (.slice a n c) ∧ OkComs w a n
def OkSts (w : World) (a : Option Addr) (n : Nat) : Prop := n ≤ 1048576 ∧ ((a = none ∧ n = 0) ∨ ∃ x, a = some x ∧ ∀ i, i < n → OkSt w (x.add (i * 4)))
theorem IsComs.plain {w : World} {a : Option Addr} {n c : Nat} (h : IsComs w a n c) : n ≤ 9223372036854775807 ∧ ((a = none ∧ n = 0) ∨ ∃ x, a = some x ∧ ∀ i, i < n → ComAt w (x.add (i * 4))) := by
  rcases h with ⟨h1, h2, _⟩ | ⟨x, h1, h2, h3, h4⟩
  · exact ⟨by omega, .inl ⟨h1, h2⟩⟩
  · unfold maxLen at h3
    exact ⟨by omega, .inr ⟨x, h1, fun i hi => h4 i (by omega)⟩⟩
theorem IsSts.plain {w : World} {a : Option Addr} {n c : Nat} (h : IsSts w a n c) : n ≤ 9223372036854775807 ∧ ((a = none ∧ n = 0) ∨ ∃ x, a = some x ∧ ∀ i, i < n → StAt w (x.add (i * 4))) := by
  rcases h with ⟨h1, h2, _⟩ | ⟨x, h1, h2, h3, h4⟩
  · exact ⟨by omega, .inl ⟨h1, h2⟩⟩
  · unfold maxLen at h3
    exact ⟨by omega, .inr ⟨x, h1, fun i hi => h4 i (by omega)⟩⟩
def RelC1 (w : World) (a : Option Addr) (n : Nat) (zn i : Value) (wr : World) : Prop :=
  ∃ (k : Nat) (z : Int), k ≤ n ∧ i = .int .i64 k ∧ zn = .int .i64 z ∧ 0 ≤ z ∧ z ≤ 1048576 ∧ w = wr ∧ Hid (∀ x, a = some x → ∀ j, j < k → OkSt w (x.add (j * 4)))
def RelC2 (w : World) (a : Option Addr) (n : Nat) (zn i : Value) (wr : World) : Prop :=
  ∃ (k : Nat) (z : Int), k ≤ n ∧ i = .int .i64 k ∧ zn = .int .i64 z ∧ 0 ≤ z ∧ z ≤ 1048576 ∧ w = wr ∧ Hid (∀ x, a = some x → ∀ j, j < k → OkCom w (x.add (j * 4)))
theorem okComs_mk {w : World} {a : Option Addr} {n : Nat} (hn : n ≤ 1048576) (h : (a = none ∧ n = 0) ∨ ∃ x, a = some x ∧ ∀ i, i < n → ComAt w (x.add (i * 4))) (h2 : ∀ x, a = some x → ∀ j, j < n → OkCom w (x.add (j * 4))) : OkComs w a n := by
  refine ⟨hn, ?_⟩
  rcases h with h | ⟨x, hx, _⟩
  · exact .inl h
  · exact .inr ⟨x, hx, h2 x hx⟩
theorem okSts_mk {w : World} {a : Option Addr} {n : Nat} (hn : n ≤ 1048576) (h : (a = none ∧ n = 0) ∨ ∃ x, a = some x ∧ ∀ i, i < n → StAt w (x.add (i * 4))) (h2 : ∀ x, a = some x → ∀ j, j < n → OkSt w (x.add (j * 4))) : OkSts w a n := by
  refine ⟨hn, ?_⟩
  rcases h with h | ⟨x, hx, _⟩
  · exact .inl h
  · exact .inr ⟨x, hx, h2 x hx⟩
theorem upto_succ {k : Nat} {P : Nat → Prop} (h : ∀ j, j < k → P j) (hk : P k) : ∀ j, j < k + 1 → P j := by
  intro j hj
  rcases Nat.lt_or_ge j k with h1 | h1
  · exact h j h1
  · obtain rfl : j = k := by omega
    exact hk
def RetOk (w : World) (a b : Option Addr) (n m : Nat) (e : Ending) (w' : World) : Prop := ∃ r : Bool, e = .returned (.bool r) ∧ w = w' ∧ (r = true → OkSts w a n ∧ OkComs w b m)
set_option maxHeartbeats 4000000 in
set_option maxRecDepth 100000 in
theorem zzBytes_FnStmtsPosIgnoresTail_ok (a b : Option Addr) (n c m d : Nat) (w : World) (hS : IsSts w a n c) (hC : IsComs w b m d) :
    Calls Try.prog 18 #[.slice a n c, .slice b m d] w (RetOk w a b n m) := by
  obtain ⟨hn, hS⟩ := hS.plain
  obtain ⟨hm, hC⟩ := hC.plain
  have HS := Lib.hid hS
  have HC := Lib.hid hC
  clear hS hC
  by_cases h1 : 1048576 < n
  · go_enter Try.func18, Try.ntmps18
    go_wp2
    go_ret
    exact ⟨false, rfl, rfl, by simp⟩
  have h1' : ¬ (1048576 : Int) < (n : Int) := by omega
  go_enter Try.func18, Try.ntmps18
  go_wp2_with fail
  go_loopw [5, 6] (fun zn i wr => RelC1 w a n zn i wr) (fun _ i _ => n - (intOf i).toNat)
  case atStart => exact ⟨0, _, by omega, by go_num, rfl, by omega, by omega, rfl, Lib.hid (fun _ _ j hj => by omega)⟩
  case round =>
    obtain ⟨k, z, hk, rfl, rfl, z0, z1, rfl, HK⟩ := hrel
    by_cases hlt : k < n
    · have hlt' : (k : Int) < (n : Int) := by omega
      obtain ⟨x, rfl, hx⟩ : ∃ x, a = some x ∧ ∀ i, i < n → StAt w (x.add (i * 4)) := by
        rcases HS.out with ⟨_, h⟩ | h
        · omega
        · exact h
      obtain ⟨P3s, b2, m2, c2, hc, hcoms⟩ := hx k hlt
      have c3 : w.cell? { block := (x.add (k * 4)).block, off := (x.add (k * 4)).off + 3 } = some (.slice b2 m2 c2) := hc
      have i0 : (0 : Int) ≤ (k : Int) := by omega
      have lc3 := World.block_lt_of_cell? _ _ c3
      obtain ⟨hm2, hC2⟩ := hcoms.plain
      have HC2 := Lib.hid hC2
      clear hx hC2 hcoms
      by_cases g3 : 1048576 < m2
      · go_wp2
        go_ret
        exact ⟨false, rfl, rfl, by simp⟩
      have g3' : ¬ (1048576 : Int) < (m2 : Int) := by omega
      by_cases g4 : (1048576 : Int) < z + (m2 : Int)
      · go_wp2
        go_ret
        exact ⟨false, rfl, rfl, by simp⟩
      go_wp2_with fail
      go_loopw [5, 7] (fun zn i wr => RelC2 w b2 m2 zn i wr) (fun _ i _ => m2 - (intOf i).toNat)
      case atStart => exact ⟨0, _, by omega, by go_num, rfl, by omega, by omega, rfl, Lib.hid (fun _ _ j hj => by omega)⟩
      case round =>
        obtain ⟨q, z2, hq, rfl, rfl, z20, z21, rfl, HQ⟩ := hrel
        by_cases hlt2 : q < m2
        · have hlt2' : (q : Int) < (m2 : Int) := by omega
          obtain ⟨y, rfl, hy⟩ : ∃ y, b2 = some y ∧ ∀ i, i < m2 → ComAt w (y.add (i * 4)) := by
            rcases HC2.out with ⟨_, h⟩ | h
            · omega
            · exact h
          obtain ⟨P3, s, hs, hsz⟩ := hy q hlt2
          have t3 : w.cell? { block := (y.add (q * 4)).block, off := (y.add (q * 4)).off + 3 } = some (.string s) := hs
          have j0 : (0 : Int) ≤ (q : Int) := by omega
          have lt3 := World.block_lt_of_cell? _ _ t3
          unfold maxLen at hsz
          clear hy
          by_cases g1 : 1048576 < s.size
          · go_wp2
            go_ret
            exact ⟨false, rfl, rfl, by simp⟩
          have g1' : ¬ (1048576 : Int) < (s.size : Int) := by omega
          by_cases g2 : (1048576 : Int) < z2 + (s.size : Int)
          · go_wp2
            go_ret
            exact ⟨false, rfl, rfl, by simp⟩
          · go_wp2
            go_roundw
            case rel => exact ⟨q + 1, _, by omega, by go_num, rfl, by omega, by omega, rfl, Lib.hid (fun x hx => upto_succ (HQ.out x hx) (by injection hx with hx; subst hx; exact ⟨P3, s, hs, by omega⟩))⟩
            case measure => simp [intOf]; omega
        · obtain rfl : q = m2 := by omega
          have hlt2' : ¬ (q : Int) < (q : Int) := by omega
          go_wp2
          go_roundw
          case rel => exact ⟨k + 1, _, by omega, by go_num, rfl, by omega, by omega, rfl, Lib.hid (fun x' hx => upto_succ (HK.out x' hx) (by injection hx with hx; subst hx; exact ⟨P3s, b2, q, c2, hc, okComs_mk (by omega) HC2.out HQ.out⟩))⟩
          case measure => simp [intOf]; omega
    · obtain rfl : k = n := by omega
      have hlt' : ¬ (k : Int) < (k : Int) := by omega
      by_cases g5 : 1048576 < m
      · go_wp2
        go_ret
        exact ⟨false, rfl, rfl, by simp⟩
      have g5' : ¬ (1048576 : Int) < (m : Int) := by omega
      by_cases g6 : (1048576 : Int) < z + (m : Int)
      · go_wp2
        go_ret
        exact ⟨false, rfl, rfl, by simp⟩
      go_wp2_with fail
      go_loopw [5, 8] (fun zn i wr => RelC2 w b m zn i wr) (fun _ i _ => m - (intOf i).toNat)
      case atStart => exact ⟨0, _, by omega, by go_num, rfl, by omega, by omega, rfl, Lib.hid (fun _ _ j hj => by omega)⟩
      case round =>
        obtain ⟨q, z2, hq, rfl, rfl, z20, z21, rfl, HQ⟩ := hrel
        by_cases hlt2 : q < m
        · have hlt2' : (q : Int) < (m : Int) := by omega
          obtain ⟨y, rfl, hy⟩ : ∃ y, b = some y ∧ ∀ i, i < m → ComAt w (y.add (i * 4)) := by
            rcases HC.out with ⟨_, h⟩ | h
            · omega
            · exact h
          obtain ⟨P3, s, hs, hsz⟩ := hy q hlt2
          have t3 : w.cell? { block := (y.add (q * 4)).block, off := (y.add (q * 4)).off + 3 } = some (.string s) := hs
          have j0 : (0 : Int) ≤ (q : Int) := by omega
          have lt3 := World.block_lt_of_cell? _ _ t3
          unfold maxLen at hsz
          clear hy
          by_cases g1 : 1048576 < s.size
          · go_wp2
            go_ret
            exact ⟨false, rfl, rfl, by simp⟩
          have g1' : ¬ (1048576 : Int) < (s.size : Int) := by omega
          by_cases g2 : (1048576 : Int) < z2 + (s.size : Int)
          · go_wp2
            go_ret
            exact ⟨false, rfl, rfl, by simp⟩
          · go_wp2
            go_roundw
            case rel => exact ⟨q + 1, _, by omega, by go_num, rfl, by omega, by omega, rfl, Lib.hid (fun x hx => upto_succ (HQ.out x hx) (by injection hx with hx; subst hx; exact ⟨P3, s, hs, by omega⟩))⟩
            case measure => simp [intOf]; omega
        · obtain rfl : q = m := by omega
          have hlt2' : ¬ (q : Int) < (q : Int) := by omega
          go_wp2
          go_ret
          exact ⟨true, rfl, rfl, fun _ => ⟨okSts_mk (by omega) HS.out HK.out, okComs_mk (by omega) HC.out HQ.out⟩⟩
set_option maxHeartbeats 4000000 in
set_option maxRecDepth 100000 in
theorem zzBytes_FnStmtsEndLastDominates_ok (a b : Option Addr) (n c m d : Nat) (w : World) (hS : IsSts w a n c) (hC : IsComs w b m d) :
    Calls Try.prog 23 #[.slice a n c, .slice b m d] w (RetOk w a b n m) := by
  obtain ⟨hn, hS⟩ := hS.plain
  obtain ⟨hm, hC⟩ := hC.plain
  have HS := Lib.hid hS
  have HC := Lib.hid hC
  clear hS hC
  by_cases h1 : 1048576 < n
  · go_enter Try.func23, Try.ntmps23
    go_wp2
    go_ret
    exact ⟨false, rfl, rfl, by simp⟩
  have h1' : ¬ (1048576 : Int) < (n : Int) := by omega
  go_enter Try.func23, Try.ntmps23
  go_wp2_with fail
  go_loopw [5, 6] (fun zn i wr => RelC1 w a n zn i wr) (fun _ i _ => n - (intOf i).toNat)
  case atStart => exact ⟨0, _, by omega, by go_num, rfl, by omega, by omega, rfl, Lib.hid (fun _ _ j hj => by omega)⟩
  case round =>
    obtain ⟨k, z, hk, rfl, rfl, z0, z1, rfl, HK⟩ := hrel
    by_cases hlt : k < n
    · have hlt' : (k : Int) < (n : Int) := by omega
      obtain ⟨x, rfl, hx⟩ : ∃ x, a = some x ∧ ∀ i, i < n → StAt w (x.add (i * 4)) := by
        rcases HS.out with ⟨_, h⟩ | h
        · omega
        · exact h
      obtain ⟨P3s, b2, m2, c2, hc, hcoms⟩ := hx k hlt
      have c3 : w.cell? { block := (x.add (k * 4)).block, off := (x.add (k * 4)).off + 3 } = some (.slice b2 m2 c2) := hc
      have i0 : (0 : Int) ≤ (k : Int) := by omega
      have lc3 := World.block_lt_of_cell? _ _ c3
      obtain ⟨hm2, hC2⟩ := hcoms.plain
      have HC2 := Lib.hid hC2
      clear hx hC2 hcoms
      by_cases g3 : 1048576 < m2
      · go_wp2
        go_ret
        exact ⟨false, rfl, rfl, by simp⟩
      have g3' : ¬ (1048576 : Int) < (m2 : Int) := by omega
      by_cases g4 : (1048576 : Int) < z + (m2 : Int)
      · go_wp2
        go_ret
        exact ⟨false, rfl, rfl, by simp⟩
      go_wp2_with fail
      go_loopw [5, 7] (fun zn i wr => RelC2 w b2 m2 zn i wr) (fun _ i _ => m2 - (intOf i).toNat)
      case atStart => exact ⟨0, _, by omega, by go_num, rfl, by omega, by omega, rfl, Lib.hid (fun _ _ j hj => by omega)⟩
      case round =>
        obtain ⟨q, z2, hq, rfl, rfl, z20, z21, rfl, HQ⟩ := hrel
        by_cases hlt2 : q < m2
        · have hlt2' : (q : Int) < (m2 : Int) := by omega
          obtain ⟨y, rfl, hy⟩ : ∃ y, b2 = some y ∧ ∀ i, i < m2 → ComAt w (y.add (i * 4)) := by
            rcases HC2.out with ⟨_, h⟩ | h
            · omega
            · exact h
          obtain ⟨P3, s, hs, hsz⟩ := hy q hlt2
          have t3 : w.cell? { block := (y.add (q * 4)).block, off := (y.add (q * 4)).off + 3 } = some (.string s) := hs
          have j0 : (0 : Int) ≤ (q : Int) := by omega
          have lt3 := World.block_lt_of_cell? _ _ t3
          unfold maxLen at hsz
          clear hy
          by_cases g1 : 1048576 < s.size
          · go_wp2
            go_ret
            exact ⟨false, rfl, rfl, by simp⟩
          have g1' : ¬ (1048576 : Int) < (s.size : Int) := by omega
          by_cases g2 : (1048576 : Int) < z2 + (s.size : Int)
          · go_wp2
            go_ret
            exact ⟨false, rfl, rfl, by simp⟩
          · go_wp2
            go_roundw
            case rel => exact ⟨q + 1, _, by omega, by go_num, rfl, by omega, by omega, rfl, Lib.hid (fun x hx => upto_succ (HQ.out x hx) (by injection hx with hx; subst hx; exact ⟨P3, s, hs, by omega⟩))⟩
            case measure => simp [intOf]; omega
        · obtain rfl : q = m2 := by omega
          have hlt2' : ¬ (q : Int) < (q : Int) := by omega
          go_wp2
          go_roundw
          case rel => exact ⟨k + 1, _, by omega, by go_num, rfl, by omega, by omega, rfl, Lib.hid (fun x' hx => upto_succ (HK.out x' hx) (by injection hx with hx; subst hx; exact ⟨P3s, b2, q, c2, hc, okComs_mk (by omega) HC2.out HQ.out⟩))⟩
          case measure => simp [intOf]; omega
    · obtain rfl : k = n := by omega
      have hlt' : ¬ (k : Int) < (k : Int) := by omega
      by_cases g5 : 1048576 < m
      · go_wp2
        go_ret
        exact ⟨false, rfl, rfl, by simp⟩
      have g5' : ¬ (1048576 : Int) < (m : Int) := by omega
      by_cases g6 : (1048576 : Int) < z + (m : Int)
      · go_wp2
        go_ret
        exact ⟨false, rfl, rfl, by simp⟩
      go_wp2_with fail
      go_loopw [5, 8] (fun zn i wr => RelC2 w b m zn i wr) (fun _ i _ => m - (intOf i).toNat)
      case atStart => exact ⟨0, _, by omega, by go_num, rfl, by omega, by omega, rfl, Lib.hid (fun _ _ j hj => by omega)⟩
      case round =>
        obtain ⟨q, z2, hq, rfl, rfl, z20, z21, rfl, HQ⟩ := hrel
        by_cases hlt2 : q < m
        · have hlt2' : (q : Int) < (m : Int) := by omega
          obtain ⟨y, rfl, hy⟩ : ∃ y, b = some y ∧ ∀ i, i < m → ComAt w (y.add (i * 4)) := by
            rcases HC.out with ⟨_, h⟩ | h
            · omega
            · exact h
          obtain ⟨P3, s, hs, hsz⟩ := hy q hlt2
          have t3 : w.cell? { block := (y.add (q * 4)).block, off := (y.add (q * 4)).off + 3 } = some (.string s) := hs
          have j0 : (0 : Int) ≤ (q : Int) := by omega
          have lt3 := World.block_lt_of_cell? _ _ t3
          unfold maxLen at hsz
          clear hy
          by_cases g1 : 1048576 < s.size
          · go_wp2
            go_ret
            exact ⟨false, rfl, rfl, by simp⟩
          have g1' : ¬ (1048576 : Int) < (s.size : Int) := by omega
          by_cases g2 : (1048576 : Int) < z2 + (s.size : Int)
          · go_wp2
            go_ret
            exact ⟨false, rfl, rfl, by simp⟩
          · go_wp2
            go_roundw
            case rel => exact ⟨q + 1, _, by omega, by go_num, rfl, by omega, by omega, rfl, Lib.hid (fun x hx => upto_succ (HQ.out x hx) (by injection hx with hx; subst hx; exact ⟨P3, s, hs, by omega⟩))⟩
            case measure => simp [intOf]; omega
        · obtain rfl : q = m := by omega
          have hlt2' : ¬ (q : Int) < (q : Int) := by omega
          go_wp2
          go_ret
          exact ⟨true, rfl, rfl, fun _ => ⟨okSts_mk (by omega) HS.out HK.out, okComs_mk (by omega) HC.out HQ.out⟩⟩
end Go.Proofs.Ytimaobpcefgdkaa
