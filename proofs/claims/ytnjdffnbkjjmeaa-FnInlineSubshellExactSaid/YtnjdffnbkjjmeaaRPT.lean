/- zzRPTBuild: a chain of n parentheses around a word, a unary or a binary test. -/
import Derived.Test.YtnjdffnbkjjmeaaRowF
import Derived.Test.YtnjdffnbkjjmeaaParT
import Derived.Test.YtnjdffnbkjjmeaaSrc
namespace Go.Proofs.Ytnjdffnbkjjmeaa
open Go.RowKit
theorem RowF.newAt {base g n : Nat} {W : World} (h : W.heap.size = g) (e : TypeId) (z : Value) (hb : base ≤ g) (hn : n ≤ maxLen) : RowF (W.alloc (.cells (madeCells #[z] n) e)) base g e n (fun _ => z) := by
  subst h
  exact RowF.fresh W e z hb hn
theorem size_setCell (w : World) (p : Addr) (v : Value) : (w.setCell p v).heap.size = w.heap.size := by simp [World.setCell]
theorem size_alloc (w : World) (o : Obj) : (w.alloc o).heap.size = w.heap.size + 1 := by simp
abbrev ptC (x : Value) : Array Value := #[.int .u32 0, .int .u32 0, .int .u32 0, .int .u32 0, x]
/-- The node under the parentheses, by its kind. -/
def inn (kd : Int) (wd u b : Nat) : Value := if kd = 1 then .iface 45 (.pointer (some ⟨u, 0, none⟩)) else if kd = 2 then .iface 46 (.pointer (some ⟨b, 0, none⟩)) else .iface 44 (.pointer (some ⟨wd, 0, none⟩))
theorem setInner149 (kd : Int) (p wd u b : Nat) (x : Value) (w : World) (hp : Bk w p 170 (ptC x)) (hk : -9223372036854775808 ≤ kd ∧ kd ≤ 9223372036854775807) :
    Calls Try.prog 73 #[.pointer (some ⟨p, 0, none⟩), .int .i64 kd, .pointer (some ⟨wd, 0, none⟩), .pointer (some ⟨u, 0, none⟩), .pointer (some ⟨b, 0, none⟩)] w fun e w' => e = .returned (.tuple #[]) ∧ w.setCell ⟨p, 4, none⟩ (inn kd wd u b) = w' := by
  have hc := hp.cells
  have hf := hp.frz
  have hl := hp.lt
  clear hp
  by_cases h1 : kd = 1
  · subst h1
    have e : inn 1 wd u b = .iface 45 (.pointer (some ⟨u, 0, none⟩)) := by simp [inn]
    rw [e]
    clear e
    go_enter Try.func73, Try.ntmps73
    go_wp2
    go_end0
    exact ⟨rfl, rfl⟩
  by_cases h2 : kd = 2
  · subst h2
    have e : inn 2 wd u b = .iface 46 (.pointer (some ⟨b, 0, none⟩)) := by simp [inn]
    rw [e]
    clear e
    go_enter Try.func73, Try.ntmps73
    go_wp2
    go_end0
    exact ⟨rfl, rfl⟩
  · have e : inn kd wd u b = .iface 44 (.pointer (some ⟨wd, 0, none⟩)) := by simp [inn, h1, h2]
    rw [e]
    clear e
    have h1' : (kd == 1) = false := beq_eq_false_iff_ne.2 h1
    have h2' : (kd == 2) = false := beq_eq_false_iff_ne.2 h2
    clear h1 h2
    go_enter Try.func73, Try.ntmps73
    go_wp2
    go_end0
    exact ⟨rfl, rfl⟩
/-- The first k places hold the parentheses from p0 on, each still empty. -/
def Rel149a (w : World) (g p0 n : Nat) (i : Value) (wr : World) : Prop :=
  ∃ k : Nat, k ≤ n ∧ i = .int .i64 k ∧ RowF wr w.heap.size g 54 n (fun j => if j < k then .pointer (some ⟨p0 + j, 0, none⟩) else .pointer none) ∧ Hid (∀ j, j < k → Bk wr (p0 + j) 170 (ptC .nilIface)) ∧ Hid (wr.heap.size = p0 + k) ∧ Below w.heap.size w wr
/-- The first k parentheses hold the next one. -/
def Rel149b (w : World) (g p0 n : Nat) (i : Value) (wr : World) : Prop :=
  ∃ k : Nat, k + 1 ≤ n ∧ i = .int .i64 k ∧ RowF wr w.heap.size g 54 n (fun j => .pointer (some ⟨p0 + j, 0, none⟩)) ∧ Hid (∀ j, j < k → Bk wr (p0 + j) 170 (ptC (.iface 54 (.pointer (some ⟨p0 + (j + 1), 0, none⟩))))) ∧ Hid (∀ j, k ≤ j → j < n → Bk wr (p0 + j) 170 (ptC .nilIface)) ∧ Below w.heap.size w wr
def Built149 (w : World) (n : Nat) (kd : Int) (e : Ending) (w' : World) : Prop :=
  ∃ wd u b g p0 : Nat, e = .returned (.tuple #[.pointer (some ⟨wd, 0, none⟩), .pointer (some ⟨u, 0, none⟩), .pointer (some ⟨b, 0, none⟩), .slice (some ⟨g, 0, none⟩) n n]) ∧ (0 < n → w'.cell? ⟨g, 0, none⟩ = some (.pointer (some ⟨p0, 0, none⟩)) ∧ ParChT w' (inn kd wd u b) n (.iface 54 (.pointer (some ⟨p0, 0, none⟩)))) ∧ Below w.heap.size w w'
theorem make149 (n : Nat) (hn : n ≤ 65536) (W : World) : (Instr.makeSlice 47 (.int .i64 (n : Int)) (.int .i64 (n : Int))).run Try.prog W = .ok (.slice (some ⟨W.heap.size, 0, none⟩) n n) (W.alloc (.cells (madeCells #[.pointer none] n) 54)) :=
  makeN 47 54 (.pointer none) 8 Try.underlying47 (by kernel_rfl) rfl n (by omega) (by omega) W
theorem chainT {W : World} {inner : Value} {p0 n : Nat} (h1 : ∀ j, j + 1 < n → Bk W (p0 + j) 170 (ptC (.iface 54 (.pointer (some ⟨p0 + (j + 1), 0, none⟩))))) (h2 : ∀ j, j + 1 = n → Bk W (p0 + j) 170 (ptC inner)) :
    ∀ d j, d + 1 + j = n → ParChT W inner (d + 1) (.iface 54 (.pointer (some ⟨p0 + j, 0, none⟩)))
  | 0, j, h => ⟨p0 + j, inner, rfl, h2 j (by omega), rfl⟩
  | d + 1, j, h => ⟨p0 + j, _, rfl, h1 j (by omega), chainT h1 h2 d (j + 1) (by omega)⟩
set_option maxHeartbeats 4000000 in
set_option maxRecDepth 100000 in
theorem build149 (n : Nat) (hn : n ≤ 65536) (kd : Int) (hk : -9223372036854775808 ≤ kd ∧ kd ≤ 9223372036854775807) (s : ByteArray) (w : World) :
    Calls Try.prog 18 #[.int .i64 (n : Int), .int .i64 kd, .string s] w (Built149 w n kd) := by
  have hmk := make149 n hn
  go_enter Try.func18, Try.ntmps18
  go_wp2_with (go_at_call 40; go_in)
  refine wp_gen (S := fun W => RowF W w.heap.size (w.heap.size + 1 + 1 + 1 + 1 + 1 + 1 + 1 + 1) 54 n (fun _ => .pointer none) ∧ Hid (W.heap.size = w.heap.size + 1 + 1 + 1 + 1 + 1 + 1 + 1 + 1 + 1) ∧ Below w.heap.size w W) ⟨?_, ?_, by go_grown⟩ ?_
  · refine RowF.newAt (by simp) _ _ ?_ ?_
    · omega
    · unfold maxLen; omega
  · exact Lib.hid (by simp)
  rintro W ⟨hR, hz, hB⟩
  obtain ⟨g, hg⟩ : ∃ g, g = w.heap.size + 1 + 1 + 1 + 1 + 1 + 1 + 1 + 1 := ⟨_, rfl⟩
  rw [← hg] at hR
  have hz2 : W.heap.size = g + 1 := by rw [hz.out, hg]
  have HG := Lib.hid hg
  have HZ2 := Lib.hid hz2
  have gw : w.heap.size ≤ g := by omega
  clear hz hz2
  rw [← HG.out]
  clear hg
  go_loopw [14] (fun i wr => Rel149a w g (g + 1) n i wr) (fun i _ => n - (intOf i).toNat)
  case atStart => exact ⟨0, by omega, by go_num, hR.congr (fun j _ => by simp), Lib.hid (fun j hj => by omega), Lib.hid (by rw [HZ2.out]), hB⟩
  case round =>
    clear hR hB HZ2
    obtain ⟨k, hk2, rfl, hR, HB, HZ, hB⟩ := hrel
    by_cases hlt : k < n
    · have hlt' : (k : Int) < (n : Int) := by omega
      have hd := hR.cell hlt
      rw [if_neg (by omega)] at hd
      have hf := hR.frz k
      have lg := hR.lt.2
      have HR := Lib.hid hR
      clear hR
      go_wp2
      go_roundw
      case rel =>
        have hz := HZ.out
        refine ⟨k + 1, by omega, by go_num, ?_, Lib.hid ?_, Lib.hid ?_, ?_⟩
        · refine RowF.congr (RowF.keep (RowF.put HR.out _) ((Below.refl _ _).alloc (Nat.le_refl _) _)) (fun j _ => ?_)
          by_cases h1 : j = k
          · subst h1
            rw [if_pos rfl, if_pos (by omega), hz]
          · by_cases h2 : j < k
            · rw [if_neg h1, if_pos h2, if_pos (by omega)]
            · rw [if_neg h1, if_neg h2, if_neg (by omega)]
        · intro j hj
          by_cases h1 : j = k
          · subst h1
            exact Bk.newAt (by rw [size_setCell]; exact hz)
          · exact ((HB.out j (by omega)).far (p := ⟨g, k, none⟩) (by show g + 1 + j ≠ g; omega) _).alloc _
        · rw [size_alloc, size_setCell, hz]; omega
        · exact (hB.setCell (by exact gw) _).alloc (by rw [size_setCell]; exact hB.size) _
      case measure => simp [intOf]; omega
    · obtain rfl : k = n := by omega
      have ng : ¬ ((k : Int) < (k : Int)) := by omega
      by_cases h0 : k = 0
      · subst h0
        go_wp2
        refine wp_loop_rounds 1 ?_
        rw [rounds_succ]
        go_wp2
        refine bodyPost_ret (v := .tuple #[.pointer (some ⟨w.heap.size + 1 + 1, 0, none⟩), .pointer (some ⟨w.heap.size + 1 + 1 + 1, 0, none⟩), .pointer (some ⟨w.heap.size + 1 + 1 + 1 + 1 + 1 + 1 + 1, 0, none⟩), .slice (some ⟨g, 0, none⟩) 0 0]) (by simp [results, Try.results18]) rfl ⟨_, _, _, g, 0, rfl, fun h => absurd h (by omega), hB⟩
      · have HB2 : Hid (∀ j, 0 ≤ j → j < k → Bk wr (g + 1 + j) 170 (ptC .nilIface)) := Lib.hid (fun j _ hj => HB.out j hj)
        have hR2 : RowF wr w.heap.size g 54 k (fun j => .pointer (some ⟨g + 1 + j, 0, none⟩)) := hR.congr (fun j hj => by rw [if_pos hj])
        have h1n : 1 ≤ k := by omega
        clear hR HB HZ h0
        go_wp2
        go_loopw [15] (fun i wr => Rel149b w g (g + 1) k i wr) (fun i _ => k - (intOf i).toNat)
        case atStart => exact ⟨0, by omega, by go_num, hR2, Lib.hid (fun j hj => by omega), HB2, hB⟩
        case round =>
          clear hR2 HB2 hB
          obtain ⟨m, hm, rfl, hR, HA, HB, hB⟩ := hrel
          by_cases hlt : m + 1 < k
          · have hlt' : (m : Int) < (k : Int) - 1 := by omega
            have c1 := hR.cell (j := m) (by omega)
            have c2 := hR.cell (j := m + 1) (by omega)
            have kb := HB.out m (Nat.le_refl _) (by omega)
            have c3 := kb.cells
            have f3 := kb.frz
            have l3 := kb.lt
            have i0 : (0 : Int) ≤ (m : Int) := by omega
            have i1 : (m : Int) < (k : Int) := by omega
            have i2 : (0 : Int) ≤ (m : Int) + 1 := by omega
            have i3 : (m : Int) + 1 < (k : Int) := by omega
            have i4 : ((m : Int) + 1).toNat = m + 1 := by omega
            have HR := Lib.hid hR
            have HK := Lib.hid kb
            clear hR kb
            go_wp2
            go_region
            go_wp2
            go_roundw
            case rel =>
              refine ⟨m + 1, by omega, by go_num, HR.out.far (p := ⟨g + 1 + m, 4, none⟩) (by show g ≠ g + 1 + m; omega) _, Lib.hid (fun j hj => ?_), Lib.hid (fun j hj1 hj2 => ?_), ?_⟩
              · by_cases h1 : j = m
                · subst h1
                  exact HK.out.put 4 _
                · exact (HA.out j (by omega)).far (p := ⟨g + 1 + m, 4, none⟩) (by show g + 1 + j ≠ g + 1 + m; omega) _
              · exact (HB.out j (by omega) hj2).far (p := ⟨g + 1 + m, 4, none⟩) (by show g + 1 + j ≠ g + 1 + m; omega) _
              · exact (hB.setCell (p := ⟨g + 1 + m, 4, none⟩) (by show w.heap.size ≤ g + 1 + m; omega) _).drew
            case measure => simp [intOf]; omega
          · obtain rfl : k = m + 1 := by omega
            have hge : ¬ ((m : Int) < (m : Int) + 1 - 1) := by omega
            have c1 := hR.cell (j := m) (by omega)
            have c0 := hR.cell (j := 0) (by omega)
            have kb := HB.out m (Nat.le_refl _) (by omega)
            have i0 : (0 : Int) ≤ (m : Int) := by omega
            have i1 : (m : Int) < (m : Int) + 1 := by omega
            have HK := Lib.hid kb
            have C0 := Lib.hid c0
            clear kb hR c0
            go_wp2_with fail
            refine (setInner149 kd (g + 1 + m) _ _ _ .nilIface _ HK.out hk).mono ?_
            rintro e w1 ⟨rfl, rfl⟩
            go_wp2
            refine bodyPost_ret (v := .tuple #[.pointer (some ⟨w.heap.size + 1 + 1, 0, none⟩), .pointer (some ⟨w.heap.size + 1 + 1 + 1, 0, none⟩), .pointer (some ⟨w.heap.size + 1 + 1 + 1 + 1 + 1 + 1 + 1, 0, none⟩), .slice (some ⟨g, 0, none⟩) (m + 1) (m + 1)]) (by simp [results, Try.results18]) rfl ⟨_, _, _, g, g + 1, rfl, fun _ => ⟨cell_far C0.out (by show g ≠ g + 1 + m; omega), ?_⟩, ?_⟩
            · refine chainT (p0 := g + 1) (n := m + 1) (fun j hj => ?_) (fun j hj => ?_) m 0 (by omega)
              · exact (HA.out j (by omega)).far (p := ⟨g + 1 + m, 4, none⟩) (by show g + 1 + j ≠ g + 1 + m; omega) _
              · obtain rfl : j = m := by omega
                exact HK.out.put 4 _
            · exact hB.setCell (p := ⟨g + 1 + m, 4, none⟩) (by show w.heap.size ≤ g + 1 + m; omega) _
end Go.Proofs.Ytnjdffnbkjjmeaa
