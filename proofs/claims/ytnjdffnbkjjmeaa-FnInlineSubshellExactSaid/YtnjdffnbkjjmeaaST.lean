/- simplifier.inlineSubshell over a chain of levels; its shim; the comparisons of statements and commands. -/
import Derived.Test.YtnjdffnbkjjmeaaSS
import Derived.Deep.LoopGhost
import Derived.LaidEqlPtr
namespace Go.Proofs.Ytnjdffnbkjjmeaa
open Go.RowKit
theorem st_ss (a : Option Addr) (w : World) : (Instr.typeAssert (.iface 158 (.pointer a)) 31 158 true).run Try.prog w = .ok (.tuple #[.pointer a, .bool true]) w := by kernel_rfl
theorem st_sc (a : Option Addr) (w : World) : (Instr.typeAssert (.iface 153 (.pointer a)) 31 158 true).run Try.prog w = .ok (.tuple #[.pointer none, .bool false]) w := by kernel_rfl
/-- Where the descent ends: a flagged level, or the leaf. -/
def Term (gL gl m : Nat) (v : Value) (W : World) : Prop :=
  (∃ q next, q < 5 ∧ Lv gL v next q W) ∨ (v = .slice (some ⟨gl, 0, none⟩) m m ∧ (m = 1 → ∃ u, W.cell? ⟨gl, 0, none⟩ = some u ∧ Leaf gl gL u W))
theorem Term.keep {gL gl m : Nat} {v : Value} {W W1 : World} (h : Term gL gl m v W) (hb : Below W.heap.size W W1) : Term gL gl m v W1 := by
  rcases h with ⟨q, next, hq, hl⟩ | ⟨h1, h2⟩
  · exact .inl ⟨q, next, hq, hl.keep hb⟩
  · exact .inr ⟨h1, fun hm => by obtain ⟨u, h3, h4⟩ := h2 hm; exact ⟨u, keepc hb h3, h4.keep hb⟩⟩
theorem Term.keepB {gL gl m : Nat} {v : Value} {W W1 : World} (h : Term gL gl m v W) (hb : Below W.heap.size W W1) : (∃ q next, q < 5 ∧ Lv gL v next q W1) ∨ (v = .slice (some ⟨gl, 0, none⟩) m m ∧ (m = 1 → ∃ u, W1.cell? ⟨gl, 0, none⟩ = some u ∧ Leaf gl gL u W1)) := h.keep hb
def RelI (w0 : World) (sb s : Nat) (f : Nat → Value) (mp : Value) (k : Nat) (y : Value) (wr : World) : Prop :=
  k ≤ s ∧ y = f (s - k) ∧ Bk wr sb 167 #[.bool (decide (k < s)), mp] ∧ Below w0.heap.size w0 wr
def EndI (w0 : World) (sb s : Nat) (f : Nat → Value) (mp : Value) (e : Ending) (w' : World) : Prop :=
  e = .returned (f s) ∧ Bk w' sb 167 #[.bool (decide (0 < s)), mp] ∧ Below w0.heap.size w0 w'
set_option maxHeartbeats 4000000 in
set_option maxRecDepth 100000 in
theorem inline_any (sb s gL gl m : Nat) (f : Nat → Value) (mp : Value) (w0 w : World) (h0 : Below w0.heap.size w0 w) (hsb : w0.heap.size ≤ sb) (ks : Bk w sb 167 #[.bool false, mp]) (hm : m ≤ 65536)
    (hLv : ∀ j, j < s → Lv gL (f j) (f (j + 1)) 5 w0) (hT : Term gL gl m (f s) w0) :
    Calls Try.prog 72 #[.pointer (some ⟨sb, 0, none⟩), f 0] w (EndI w0 sb s f mp) := by
  have t1 := st_ss
  have t2 := st_sc
  have HL := Lib.hid hLv
  have HT := Lib.hid hT
  have KS := Lib.hid ks
  have H0 := Lib.hid h0
  clear hLv hT ks h0
  go_enter Try.func72, Try.ntmps72
  go_wp2
  go_loopg [1] s (fun k y wr => RelI w0 sb s f mp k y wr)
  case atStart => exact ⟨Nat.le_refl _, by simp, by simpa using KS.out, H0.out⟩
  case round =>
    clear KS H0
    obtain ⟨hk, hy, hsr, hB⟩ := hrel
    rcases gk with _ | k
    · have hy' : u1 = f s := by rw [hy]; simp
      rcases HT.out.keepB hB with ⟨q, next, hq, lb, st, sub, ra, rn, e, h1, h2, h3, h4, h5, h6, h7, h8, h9, _, _, _⟩ | ⟨e, hl⟩
      · rw [e] at hy'
        have E1 := Lib.hid e
        have hs2 : Bk wr sb 167 #[.bool (decide (0 < s)), mp] := hsr
        have HS := Lib.hid hs2
        clear hsr hs2 e hy
        subst hy'
        rcases (by omega : q = 0 ∨ q = 1 ∨ q = 2 ∨ q = 3 ∨ q = 4) with rfl | rfl | rfl | rfl | rfl
        all_goals
          simp at h3 h4 h5 h6 h8
          (try subst h8)
          go_wp2
          go_ret
          exact ⟨by rw [E1.out]; rfl, HS.out, hB⟩
      · rw [e] at hy'
        have E1 := Lib.hid e
        have hs2 : Bk wr sb 167 #[.bool (decide (0 < s)), mp] := hsr
        have HS := Lib.hid hs2
        clear hsr hs2 e hy
        subst hy'
        by_cases h1 : m = 1
        · obtain ⟨u, h2, a, c, rfl, h3, h4, h5, h6, h7, h8, _, _⟩ := hl h1
          clear hl
          subst h1
          go_wp2
          go_ret
          exact ⟨by rw [E1.out]; rfl, HS.out, hB⟩
        · have h1' : ((m : Int) == 1) = false := beq_eq_false_iff_ne.2 (by omega)
          clear h1 hl
          go_wp2
          go_ret
          exact ⟨by rw [E1.out]; rfl, HS.out, hB⟩
    · obtain ⟨i, hi⟩ : ∃ i, s = i + (k + 1) := ⟨s - (k + 1), by omega⟩
      have e0 : s - (k + 1) = i := by omega
      rw [e0] at hy
      obtain ⟨lb, st, sub, ra, rn, e, h1, h2, h3, h4, h5, h6, h7, h8, h9, _, _, _⟩ := HL.out i (by omega)
      have hsub := World.block_lt_of_cell? _ _ h9
      have hne : ¬ sub = sb := by simp at hsub; omega
      have hne2 : ¬ sb = sub := fun h => hne h.symm
      rw [e] at hy
      have c1 := keepc hB h1
      have c2 := keepc hB h2
      have c3 := keepc hB h3
      have c4 := keepc hB h4
      have c5 := keepc hB h5
      have c6 := keepc hB h6
      have c7 := keepc hB h7
      have c9 := keepc hB h9
      simp at c3 c4 c5 c6 h8
      have cs := hsr.cells
      have fs := hsr.frz
      have lsb := hsr.lt
      have k2 := hsr.put 0 (.bool true)
      have b2 := hB.setCell (p := ⟨sb, 0, none⟩) hsb (.bool true)
      have K2 := Lib.hid k2
      have B2 := Lib.hid b2
      have HI := Lib.hid hi
      clear h1 h2 h3 h4 h5 h6 h7 h9 e hsr k2 b2 hi e0 hsub
      subst hy h8
      go_wp2
      go_roundg k
      case measure => omega
      case rel =>
        have hi := HI.out
        refine ⟨by omega, ?_, ?_, B2.out⟩
        · rw [show s - k = i + 1 by omega]
        · have e : decide (k < s) = true := by simp; omega
          rw [e]
          exact K2.out
set_option maxHeartbeats 1000000 in
theorem ZZinline_any (s gL gl m : Nat) (f : Nat → Value) (w : World) (hf : ∃ a n c, f 0 = .slice a n c) (hm : m ≤ 65536) (hLv : ∀ j, j < s → Lv gL (f j) (f (j + 1)) 5 w) (hT : Term gL gl m (f s) w) :
    Calls Try.prog 14 #[f 0] w (fun e w' => e = .returned (.tuple #[f s, .bool (decide (0 < s))]) ∧ Below w.heap.size w w') := by
  have HL := Lib.hid hLv
  have HT := Lib.hid hT
  obtain ⟨xa, xn, xc, hx⟩ := hf
  have HX := Lib.hid hx
  obtain ⟨v, hv⟩ : ∃ v, v = f s := ⟨_, rfl⟩
  have HV := Lib.hid hv
  obtain ⟨b, hb⟩ : ∃ b, b = decide (0 < s) := ⟨_, rfl⟩
  have HB0 := Lib.hid hb
  rw [← hv, hx, ← hb]
  clear hLv hT hx hv hb
  go_enter Try.func14, Try.ntmps14
  go_wp2_with fail
  have h := inline_any w.heap.size s gL gl m f (.map none) w (w.alloc (.cells #[.bool false, .map none] 167)) (by go_grown) (Nat.le_refl _) (Bk.fresh _ _ _) hm HL.out HT.out
  rw [HX.out] at h
  refine h.mono ?_
  clear h
  rintro e w1 ⟨rfl, ks, hB⟩
  rw [← HV.out]
  rw [← HB0.out] at ks
  have cs := ks.cells
  clear ks
  go_wp2
  go_quiet (fail)
  go_wp2
  go_ret2
  exact ⟨rfl, bdrewN hB _⟩
theorem st_neP (a : Addr) (w : World) : (binOp .neq 28 (.pointer (some a)) (.pointer (some a))).run Try.prog w = .ok (.bool false) w := by
  obtain ⟨j, hj⟩ : ∃ j, Try.prog.info? 37 = some j := Option.isSome_iff_exists.1 (by kernel_rfl)
  exact Lib.run_neq_ptr_same w a Try.underlying28 hj
set_option maxHeartbeats 1000000 in
theorem sameStmts_any (a b : Option Addr) (n c1 c2 : Nat) (f : Nat → Value) (w : World) (h1 : Src w a n f) (h2 : Src w b n f) (hv : ∀ j, j < n → ∃ p : Addr, f j = .pointer (some p)) (hn : n ≤ 65536) :
    Calls Try.prog 15 #[.slice a n c1, .slice b n c2] w fun e w' => e = .returned (.bool true) ∧ Below w.heap.size w w' := by
  have H1 := Lib.hid h1
  have H2 := Lib.hid h2
  have HV := Lib.hid hv
  have hne := st_neP
  clear h1 h2 hv
  go_enter Try.func15, Try.ntmps15
  go_wp2
  go_loopw [5] (fun i wr => ∃ k : Nat, k ≤ n ∧ i = .int .i64 k ∧ Below w.heap.size w wr) (fun i _ => n - (intOf i).toNat)
  case atStart => exact ⟨0, by omega, by go_num, Below.refl _ _⟩
  case round =>
    obtain ⟨k, hk, rfl, hB⟩ := hrel
    by_cases hlt : k < n
    · obtain ⟨x, rfl, e1⟩ := (H1.out.keep hB).at_ hlt
      obtain ⟨y, rfl, e2⟩ := (H2.out.keep hB).at_ hlt
      obtain ⟨p, hp⟩ := HV.out k hlt
      rw [hp] at e1 e2
      have hlt' : (k : Int) < (n : Int) := by omega
      have i0 : (0 : Int) ≤ (k : Int) := by omega
      clear hp
      go_wp2
      go_quiet (fail)
      go_wp2
      go_roundw
      case rel => exact ⟨k + 1, by omega, by go_num, bdrewN hB _⟩
      case measure => simp [intOf]; omega
    · obtain rfl : k = n := by omega
      have hge : ¬ (k : Int) < (k : Int) := by omega
      go_wp2
      go_ret
      exact ⟨rfl, hB⟩
theorem st_eqC (a : Addr) (w : World) : (binOp .eql 31 (.iface 158 (.pointer (some a))) (.iface 158 (.pointer (some a)))).run Try.prog w = .ok (.bool true) w := by
  obtain ⟨j, hj⟩ : ∃ j, Try.prog.info? 160 = some j := Option.isSome_iff_exists.1 (by kernel_rfl)
  obtain ⟨i, hi, hc⟩ : ∃ i, Try.prog.info? 158 = some i ∧ i.comparable = true := by
    have h : (Try.prog.info? 158).map (·.comparable) = some true := by kernel_rfl
    cases hh : Try.prog.info? 158 with
    | none => rw [hh] at h; cases h
    | some i => rw [hh] at h; exact ⟨i, rfl, by simpa using h⟩
  exact run_eql_iface_ptr_same w a Try.underlying31 Try.underlying158 hi hc hj
theorem sameCmd_any (a : Addr) (w : World) :
    Calls Try.prog 16 #[.iface 158 (.pointer (some a)), .iface 158 (.pointer (some a))] w fun e w' => e = .returned (.bool true) ∧ w' = w := by
  have h := st_eqC
  go_enter Try.func16, Try.ntmps16
  go_wp2
  go_ret
  exact ⟨rfl, rfl⟩
end Go.Proofs.Ytnjdffnbkjjmeaa
