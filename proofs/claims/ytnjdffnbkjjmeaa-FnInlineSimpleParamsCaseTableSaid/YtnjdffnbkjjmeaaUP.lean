/- zzUnquoteWord_b2: what it lays, by the kinds of the first parts. -/
import Derived.Test.YtnjdffnbkjjmeaaSP
namespace Go.Proofs.Ytnjdffnbkjjmeaa
open Go.RowKit
/-- A row of n word parts, of which the first k are laid; the first one is v0. -/
def PF (W : World) (base g n k : Nat) (v0 : Value) : Prop := ∃ f : Nat → Value, RowF W base g 135 n f ∧ (0 < k → f 0 = v0) ∧ ∀ j, j < k → PartV (f j)
theorem PF.keep {W W1 : World} {base g n k : Nat} {v0 : Value} (h : PF W base g n k v0) (hb : Below W.heap.size W W1) : PF W1 base g n k v0 := by
  obtain ⟨f, h1, h2⟩ := h
  exact ⟨f, h1.keep hb, h2⟩
theorem PF.push {W : World} {base g n k : Nat} {v0 v : Value} (h : PF W base g n k v0) (hv : PartV v) (h0 : k = 0 → v = v0) : PF (W.setCell ⟨g, k, none⟩ v) base g n (k + 1) v0 := by
  obtain ⟨f, h1, h2, h3⟩ := h
  refine ⟨_, h1.put v, fun _ => ?_, fun j hj => ?_⟩
  · by_cases hk : k = 0
    · subst hk; simp [h0 rfl]
    · have : ¬ 0 = k := fun h => hk h.symm
      simp [this]; exact h2 (by omega)
  · by_cases hjk : j = k
    · simp [hjk]; exact hv
    · simp [hjk]; exact h3 j (by omega)
theorem PF.at_ {W : World} {base g n k : Nat} {v0 : Value} (h : PF W base g n k v0) {j : Nat} (hj : j < n) : ∃ v, W.cell? ⟨g, j, none⟩ = some v := by
  obtain ⟨f, h1, _⟩ := h
  exact ⟨_, h1.cell hj⟩
theorem PF.frz {W : World} {base g n k : Nat} {v0 : Value} (h : PF W base g n k v0) (j : Nat) : W.frozen? ⟨g, j, none⟩ = false := by
  obtain ⟨f, h1, _⟩ := h
  exact h1.frz j
theorem PF.lt {W : World} {base g n k : Nat} {v0 : Value} (h : PF W base g n k v0) : base ≤ g ∧ g < W.heap.size := by
  obtain ⟨f, h1, _⟩ := h
  exact h1.lt
theorem PF.fresh {base n : Nat} (W : World) (v0 : Value) (hb : base ≤ W.heap.size) (hn : n ≤ maxLen) : PF (W.alloc (.cells (madeCells #[.nilIface] n) 135)) base W.heap.size n 0 v0 :=
  ⟨_, RowF.fresh W _ _ hb hn, fun h => absurd h (by omega), fun j h => absurd h (by omega)⟩
theorem PF.newAt {base g n : Nat} {W : World} (h : W.heap.size = g) (v0 : Value) (hb : base ≤ g) (hn : n ≤ maxLen) : PF (W.alloc (.cells (madeCells #[.nilIface] n) 135)) base g n 0 v0 := by
  subst h
  exact PF.fresh W v0 hb hn
theorem PF.far {W : World} {base g n k : Nat} {v0 : Value} (h : PF W base g n k v0) {p : Addr} (hp : g ≠ p.block) (u : Value) : PF (W.setCell p u) base g n k v0 := by
  obtain ⟨f, h1, h2⟩ := h
  exact ⟨f, h1.far hp u, h2⟩
theorem PF.alloc {W : World} {base g n k : Nat} {v0 : Value} (h : PF W base g n k v0) (o : Obj) : PF (W.alloc o) base g n k v0 := h.keep ((Below.refl _ _).alloc (Nat.le_refl _) _)
/-- The expansion at pe leads to the literal at lt, which holds s. -/
def PEp (W : World) (pe lt : Nat) (s : ByteArray) : Prop := W.cell? ⟨pe, 13, none⟩ = some (.pointer (some ⟨lt, 0, none⟩)) ∧ W.cell? ⟨lt, 4, none⟩ = some (.string s)
theorem PEp.keep {W W1 : World} {pe lt : Nat} {s : ByteArray} (h : PEp W pe lt s) (hb : Below W.heap.size W W1) : PEp W1 pe lt s := ⟨keepc hb h.1, keepc hb h.2⟩
theorem PEp.alloc {W : World} {pe lt : Nat} {s : ByteArray} (h : PEp W pe lt s) (o : Obj) : PEp (W.alloc o) pe lt s := h.keep ((Below.refl _ _).alloc (Nat.le_refl _) _)
theorem PEp.far {W : World} {pe lt : Nat} {s : ByteArray} (h : PEp W pe lt s) {p : Addr} (h1 : pe ≠ p.block) (h2 : lt ≠ p.block) (u : Value) : PEp (W.setCell p u) pe lt s := ⟨cell_far h.1 h1, cell_far h.2 h2⟩
abbrev dqC (g m : Nat) : Array Value := #[.int .u32 0, .int .u32 0, .int .u32 0, .int .u32 0, .bool false, .slice (some ⟨g, 0, none⟩) m m]
def OutK (ok : Nat) (v : Value) (dq : Nat) : Prop := if ok = 0 then v = .iface 123 (.pointer (some ⟨dq, 0, none⟩)) else if ok = 1 then ∃ a : Addr, v = .iface 64 (.pointer (some a)) else ∃ a : Addr, v = .iface 122 (.pointer (some a))
def InnK (ik : Nat) (v : Value) (pe : Nat) : Prop := if ik = 0 then v = .iface 122 (.pointer (some ⟨pe, 0, none⟩)) else if ik = 1 then ∃ a : Addr, v = .iface 64 (.pointer (some a)) else ∃ a : Addr, v = .iface 203 (.pointer (some a))
def UPB (w : World) (n m ok ik : Nat) (s : ByteArray) (e : Ending) (w' : World) : Prop :=
  ∃ (wd pe dq lt gI gO : Nat) (v0 v1 : Value), e = .returned (.tuple #[.pointer (some ⟨wd, 0, none⟩), .pointer (some ⟨pe, 0, none⟩), .pointer (some ⟨dq, 0, none⟩)]) ∧
    Bk w' wd 129 #[.slice (some ⟨gO, 0, none⟩) n n] ∧ Bk w' dq 131 (dqC gI m) ∧ PF w' w.heap.size gI m m v0 ∧ PF w' w.heap.size gO n n v1 ∧ PEp w' pe lt s ∧ OutK ok v1 dq ∧ InnK ik v0 pe ∧ (wd ≠ gO ∧ wd ≠ gI ∧ wd ≠ dq ∧ wd ≠ pe ∧ wd ≠ lt ∧ w.heap.size ≤ wd) ∧ Below w.heap.size w w'
def RelUP1 (w : World) (g pe lt n : Nat) (v0 : Value) (s : ByteArray) (i : Value) (wr : World) : Prop :=
  ∃ k : Nat, k ≤ n ∧ i = .int .i64 k ∧ PF wr w.heap.size g n k v0 ∧ PEp wr pe lt s ∧ Below w.heap.size w wr
def RelUP2 (w : World) (g g2 dq pe lt n m : Nat) (v0 v1 : Value) (s : ByteArray) (i : Value) (wr : World) : Prop :=
  ∃ k : Nat, k ≤ n ∧ i = .int .i64 k ∧ PF wr w.heap.size g2 n k v1 ∧ PF wr w.heap.size g m m v0 ∧ Bk wr dq 131 (dqC g m) ∧ PEp wr pe lt s ∧ Below w.heap.size w wr
set_option maxHeartbeats 4000000 in
set_option maxRecDepth 100000 in
theorem up_00 (n m : Nat) (hn : n ≤ 65536) (hm : m ≤ 65536) (s : ByteArray) (w : World) :
    Calls Try.prog 56 #[.int .i64 (n : Int), .int .i64 0, .int .i64 (m : Int), .int .i64 0, .string s] w (UPB w n m 0 0 s) := by
  have hmk1 := makeWP m (by omega)
  have hmk2 := makeWP n (by omega)
  go_enter Try.func56, Try.ntmps56
  go_wp2
  refine wp_gen (S := fun W => PF W w.heap.size (w.heap.size + 1 + 1) m 0 (.iface 122 (.pointer (some ⟨w.heap.size + 1, 0, none⟩))) ∧ PEp W (w.heap.size + 1) w.heap.size s ∧ Below w.heap.size w W) ⟨PF.newAt (by simp) _ (by omega) (by unfold maxLen; omega), ⟨by simp [go_sem], by simp [go_sem]⟩, by go_grown⟩ ?_
  rintro W ⟨hR, hP, hB⟩
  clear hmk1
  go_loopw [16] (fun i wr => RelUP1 w (w.heap.size + 1 + 1) (w.heap.size + 1) w.heap.size m (.iface 122 (.pointer (some ⟨w.heap.size + 1, 0, none⟩))) s i wr) (fun i _ => m - (intOf i).toNat)
  case atStart => exact ⟨0, by omega, by go_num, hR, hP, hB⟩
  case round =>
    clear hR hP hB
    obtain ⟨k, hk, rfl, hR, hP, hB⟩ := hrel
    by_cases hlt : k < m
    · have hlt' : (k : Int) < (m : Int) := by omega
      obtain ⟨ov, hov⟩ := hR.at_ hlt
      have hf := hR.frz k
      have hg := hR.lt.2
      have HR := Lib.hid hR
      have HP := Lib.hid hP
      clear hR hP
      by_cases h0 : k = 0
      · subst h0
        go_wp2
        go_roundw
        case rel => exact ⟨1, by omega, by go_num, HR.out.push (by first | exact PartV.lit _ | exact PartV.pe _ | exact PartV.dq _ | exact PartV.cs _) (fun _ => rfl), HP.out.far (by first | (simp; done) | (simp; omega)) (by first | (simp; done) | (simp; omega)) _, hB.setCell (by first | (simp; done) | (simp; omega)) _⟩
        case measure => simp [intOf]; omega
      · have h0' : ((k : Int) == 0) = false := by simp; omega
        go_wp2
        go_roundw
        case rel => exact ⟨k + 1, by omega, by go_num, (HR.out.push (PartV.lit _) (fun h => absurd h h0)).alloc _, (HP.out.far (by first | (simp; done) | (simp; omega)) (by first | (simp; done) | (simp; omega)) _).alloc _, (hB.setCell (by first | (simp; done) | (simp; omega)) _).alloc (by rw [size_setCell]; exact hB.size) _⟩
        case measure => simp [intOf]; omega
    · obtain rfl : k = m := by omega
      have hge : ¬ ((k : Int) < (k : Int)) := by omega
      have sB := hB.size
      have lR := hR.lt
      obtain ⟨wo, hwo⟩ : ∃ wo, wo = wr := ⟨_, rfl⟩
      subst hwo
      have HR := Lib.hid hR
      have HP := Lib.hid hP
      clear hR hP
      go_wp2
      refine wp_gen (S := fun W => PF W w.heap.size (wo.heap.size + 1) n 0 (.iface 123 (.pointer (some ⟨wo.heap.size, 0, none⟩))) ∧ PF W w.heap.size (w.heap.size + 1 + 1) k k (.iface 122 (.pointer (some ⟨w.heap.size + 1, 0, none⟩))) ∧ Bk W wo.heap.size 131 (dqC (w.heap.size + 1 + 1) k) ∧ PEp W (w.heap.size + 1) w.heap.size s ∧ Below w.heap.size w W) ⟨PF.newAt (by simp) _ (by omega) (by unfold maxLen; omega), HR.out.keep (by go_grown), (by repeat (first | (refine Bk.newAt ?_; simp; done) | refine Bk.alloc ?_ _)), HP.out.keep (by go_grown), by go_grown⟩ ?_
      rintro W ⟨hR2, hR, hD, hP, hB2⟩
      clear hmk2 HR HP
      go_loopw [20] (fun i wr => RelUP2 w (w.heap.size + 1 + 1) (wo.heap.size + 1) wo.heap.size (w.heap.size + 1) w.heap.size n k (.iface 122 (.pointer (some ⟨w.heap.size + 1, 0, none⟩))) (.iface 123 (.pointer (some ⟨wo.heap.size, 0, none⟩))) s i wr) (fun i _ => n - (intOf i).toNat)
      case atStart => exact ⟨0, by omega, by go_num, hR2, hR, hD, hP, hB2⟩
      case round =>
        clear hR2 hR hD hP hB2
        obtain ⟨j, hj, rfl, hR2, hR, hD, hP, hB2⟩ := hrel
        have lR2 := hR.lt
        by_cases hlt : j < n
        · have hlt' : (j : Int) < (n : Int) := by omega
          obtain ⟨ov, hov⟩ := hR2.at_ hlt
          have hf := hR2.frz j
          have hg := hR2.lt.2
          have HR2 := Lib.hid hR2
          have HR := Lib.hid hR
          have HD := Lib.hid hD
          have HP := Lib.hid hP
          clear hR2 hR hP hD
          by_cases h0 : j = 0
          · subst h0
            go_wp2
            go_roundw
            case rel => exact ⟨1, by omega, by go_num, HR2.out.push (by first | exact PartV.lit _ | exact PartV.pe _ | exact PartV.dq _ | exact PartV.cs _) (fun _ => rfl), HR.out.far (by first | (simp; done) | (simp; omega)) _, HD.out.far (by first | (simp; done) | (simp; omega)) _, HP.out.far (by first | (simp; done) | (simp; omega)) (by first | (simp; done) | (simp; omega)) _, hB2.setCell (by first | (simp; done) | (simp; omega)) _⟩
            case measure => simp [intOf]; omega
          · have h0' : ((j : Int) == 0) = false := by simp; omega
            go_wp2
            go_roundw
            case rel => exact ⟨j + 1, by omega, by go_num, (HR2.out.push (PartV.lit _) (fun h => absurd h h0)).alloc _, (HR.out.far (by first | (simp; done) | (simp; omega)) _).alloc _, (HD.out.far (by first | (simp; done) | (simp; omega)) _).alloc _, (HP.out.far (by first | (simp; done) | (simp; omega)) (by first | (simp; done) | (simp; omega)) _).alloc _, (hB2.setCell (by first | (simp; done) | (simp; omega)) _).alloc (by rw [size_setCell]; exact hB2.size) _⟩
            case measure => simp [intOf]; omega
        · obtain rfl : j = n := by omega
          have hge : ¬ ((j : Int) < (j : Int)) := by omega
          have lR3 := hR2.lt
          have lD := hD.lt
          have sB2 := hB2.size
          have HR2 := Lib.hid hR2
          have HR := Lib.hid hR
          have HD := Lib.hid hD
          have HP := Lib.hid hP
          clear hR2 hR hP hD
          go_wp2
          refine bodyPost_ret (v := .tuple #[.pointer (some ⟨wr.heap.size, 0, none⟩), .pointer (some ⟨w.heap.size + 1, 0, none⟩), .pointer (some ⟨wo.heap.size, 0, none⟩)]) (by simp [results, Try.results56]) rfl ⟨_, _, _, _, _, _, _, _, rfl, Bk.fresh _ _ _, HD.out.alloc _, HR.out.keep (by go_grown), HR2.out.keep (by go_grown), HP.out.keep (by go_grown), by unfold OutK; simp, by unfold InnK; simp, by omega, by go_grown⟩
set_option maxHeartbeats 4000000 in
set_option maxRecDepth 100000 in
theorem up_01 (n m : Nat) (hn : n ≤ 65536) (hm : m ≤ 65536) (s : ByteArray) (w : World) :
    Calls Try.prog 56 #[.int .i64 (n : Int), .int .i64 0, .int .i64 (m : Int), .int .i64 1, .string s] w (UPB w n m 0 1 s) := by
  have hmk1 := makeWP m (by omega)
  have hmk2 := makeWP n (by omega)
  go_enter Try.func56, Try.ntmps56
  go_wp2
  refine wp_gen (S := fun W => PF W w.heap.size (w.heap.size + 1 + 1 + 1) m 0 (.iface 64 (.pointer (some ⟨w.heap.size + 1 + 1, 0, none⟩))) ∧ PEp W (w.heap.size + 1) w.heap.size s ∧ Below w.heap.size w W) ⟨PF.newAt (by simp) _ (by omega) (by unfold maxLen; omega), ⟨by simp [go_sem], by simp [go_sem]⟩, by go_grown⟩ ?_
  rintro W ⟨hR, hP, hB⟩
  clear hmk1
  go_loopw [16] (fun i wr => RelUP1 w (w.heap.size + 1 + 1 + 1) (w.heap.size + 1) w.heap.size m (.iface 64 (.pointer (some ⟨w.heap.size + 1 + 1, 0, none⟩))) s i wr) (fun i _ => m - (intOf i).toNat)
  case atStart => exact ⟨0, by omega, by go_num, hR, hP, hB⟩
  case round =>
    clear hR hP hB
    obtain ⟨k, hk, rfl, hR, hP, hB⟩ := hrel
    by_cases hlt : k < m
    · have hlt' : (k : Int) < (m : Int) := by omega
      obtain ⟨ov, hov⟩ := hR.at_ hlt
      have hf := hR.frz k
      have hg := hR.lt.2
      have HR := Lib.hid hR
      have HP := Lib.hid hP
      clear hR hP
      by_cases h0 : k = 0
      · subst h0
        go_wp2
        go_roundw
        case rel => exact ⟨1, by omega, by go_num, HR.out.push (by first | exact PartV.lit _ | exact PartV.pe _ | exact PartV.dq _ | exact PartV.cs _) (fun _ => rfl), HP.out.far (by first | (simp; done) | (simp; omega)) (by first | (simp; done) | (simp; omega)) _, hB.setCell (by first | (simp; done) | (simp; omega)) _⟩
        case measure => simp [intOf]; omega
      · have h0' : ((k : Int) == 0) = false := by simp; omega
        go_wp2
        go_roundw
        case rel => exact ⟨k + 1, by omega, by go_num, (HR.out.push (PartV.lit _) (fun h => absurd h h0)).alloc _, (HP.out.far (by first | (simp; done) | (simp; omega)) (by first | (simp; done) | (simp; omega)) _).alloc _, (hB.setCell (by first | (simp; done) | (simp; omega)) _).alloc (by rw [size_setCell]; exact hB.size) _⟩
        case measure => simp [intOf]; omega
    · obtain rfl : k = m := by omega
      have hge : ¬ ((k : Int) < (k : Int)) := by omega
      have sB := hB.size
      have lR := hR.lt
      obtain ⟨wo, hwo⟩ : ∃ wo, wo = wr := ⟨_, rfl⟩
      subst hwo
      have HR := Lib.hid hR
      have HP := Lib.hid hP
      clear hR hP
      go_wp2
      refine wp_gen (S := fun W => PF W w.heap.size (wo.heap.size + 1) n 0 (.iface 123 (.pointer (some ⟨wo.heap.size, 0, none⟩))) ∧ PF W w.heap.size (w.heap.size + 1 + 1 + 1) k k (.iface 64 (.pointer (some ⟨w.heap.size + 1 + 1, 0, none⟩))) ∧ Bk W wo.heap.size 131 (dqC (w.heap.size + 1 + 1 + 1) k) ∧ PEp W (w.heap.size + 1) w.heap.size s ∧ Below w.heap.size w W) ⟨PF.newAt (by simp) _ (by omega) (by unfold maxLen; omega), HR.out.keep (by go_grown), (by repeat (first | (refine Bk.newAt ?_; simp; done) | refine Bk.alloc ?_ _)), HP.out.keep (by go_grown), by go_grown⟩ ?_
      rintro W ⟨hR2, hR, hD, hP, hB2⟩
      clear hmk2 HR HP
      go_loopw [20] (fun i wr => RelUP2 w (w.heap.size + 1 + 1 + 1) (wo.heap.size + 1) wo.heap.size (w.heap.size + 1) w.heap.size n k (.iface 64 (.pointer (some ⟨w.heap.size + 1 + 1, 0, none⟩))) (.iface 123 (.pointer (some ⟨wo.heap.size, 0, none⟩))) s i wr) (fun i _ => n - (intOf i).toNat)
      case atStart => exact ⟨0, by omega, by go_num, hR2, hR, hD, hP, hB2⟩
      case round =>
        clear hR2 hR hD hP hB2
        obtain ⟨j, hj, rfl, hR2, hR, hD, hP, hB2⟩ := hrel
        have lR2 := hR.lt
        by_cases hlt : j < n
        · have hlt' : (j : Int) < (n : Int) := by omega
          obtain ⟨ov, hov⟩ := hR2.at_ hlt
          have hf := hR2.frz j
          have hg := hR2.lt.2
          have HR2 := Lib.hid hR2
          have HR := Lib.hid hR
          have HD := Lib.hid hD
          have HP := Lib.hid hP
          clear hR2 hR hP hD
          by_cases h0 : j = 0
          · subst h0
            go_wp2
            go_roundw
            case rel => exact ⟨1, by omega, by go_num, HR2.out.push (by first | exact PartV.lit _ | exact PartV.pe _ | exact PartV.dq _ | exact PartV.cs _) (fun _ => rfl), HR.out.far (by first | (simp; done) | (simp; omega)) _, HD.out.far (by first | (simp; done) | (simp; omega)) _, HP.out.far (by first | (simp; done) | (simp; omega)) (by first | (simp; done) | (simp; omega)) _, hB2.setCell (by first | (simp; done) | (simp; omega)) _⟩
            case measure => simp [intOf]; omega
          · have h0' : ((j : Int) == 0) = false := by simp; omega
            go_wp2
            go_roundw
            case rel => exact ⟨j + 1, by omega, by go_num, (HR2.out.push (PartV.lit _) (fun h => absurd h h0)).alloc _, (HR.out.far (by first | (simp; done) | (simp; omega)) _).alloc _, (HD.out.far (by first | (simp; done) | (simp; omega)) _).alloc _, (HP.out.far (by first | (simp; done) | (simp; omega)) (by first | (simp; done) | (simp; omega)) _).alloc _, (hB2.setCell (by first | (simp; done) | (simp; omega)) _).alloc (by rw [size_setCell]; exact hB2.size) _⟩
            case measure => simp [intOf]; omega
        · obtain rfl : j = n := by omega
          have hge : ¬ ((j : Int) < (j : Int)) := by omega
          have lR3 := hR2.lt
          have lD := hD.lt
          have sB2 := hB2.size
          have HR2 := Lib.hid hR2
          have HR := Lib.hid hR
          have HD := Lib.hid hD
          have HP := Lib.hid hP
          clear hR2 hR hP hD
          go_wp2
          refine bodyPost_ret (v := .tuple #[.pointer (some ⟨wr.heap.size, 0, none⟩), .pointer (some ⟨w.heap.size + 1, 0, none⟩), .pointer (some ⟨wo.heap.size, 0, none⟩)]) (by simp [results, Try.results56]) rfl ⟨_, _, _, _, _, _, _, _, rfl, Bk.fresh _ _ _, HD.out.alloc _, HR.out.keep (by go_grown), HR2.out.keep (by go_grown), HP.out.keep (by go_grown), by unfold OutK; simp, by unfold InnK; simp, by omega, by go_grown⟩
set_option maxHeartbeats 4000000 in
set_option maxRecDepth 100000 in
theorem up_02 (n m : Nat) (hn : n ≤ 65536) (hm : m ≤ 65536) (s : ByteArray) (w : World) :
    Calls Try.prog 56 #[.int .i64 (n : Int), .int .i64 0, .int .i64 (m : Int), .int .i64 2, .string s] w (UPB w n m 0 2 s) := by
  have hmk1 := makeWP m (by omega)
  have hmk2 := makeWP n (by omega)
  go_enter Try.func56, Try.ntmps56
  go_wp2
  refine wp_gen (S := fun W => PF W w.heap.size (w.heap.size + 1 + 1 + 1) m 0 (.iface 203 (.pointer (some ⟨w.heap.size + 1 + 1, 0, none⟩))) ∧ PEp W (w.heap.size + 1) w.heap.size s ∧ Below w.heap.size w W) ⟨PF.newAt (by simp) _ (by omega) (by unfold maxLen; omega), ⟨by simp [go_sem], by simp [go_sem]⟩, by go_grown⟩ ?_
  rintro W ⟨hR, hP, hB⟩
  clear hmk1
  go_loopw [16] (fun i wr => RelUP1 w (w.heap.size + 1 + 1 + 1) (w.heap.size + 1) w.heap.size m (.iface 203 (.pointer (some ⟨w.heap.size + 1 + 1, 0, none⟩))) s i wr) (fun i _ => m - (intOf i).toNat)
  case atStart => exact ⟨0, by omega, by go_num, hR, hP, hB⟩
  case round =>
    clear hR hP hB
    obtain ⟨k, hk, rfl, hR, hP, hB⟩ := hrel
    by_cases hlt : k < m
    · have hlt' : (k : Int) < (m : Int) := by omega
      obtain ⟨ov, hov⟩ := hR.at_ hlt
      have hf := hR.frz k
      have hg := hR.lt.2
      have HR := Lib.hid hR
      have HP := Lib.hid hP
      clear hR hP
      by_cases h0 : k = 0
      · subst h0
        go_wp2
        go_roundw
        case rel => exact ⟨1, by omega, by go_num, HR.out.push (by first | exact PartV.lit _ | exact PartV.pe _ | exact PartV.dq _ | exact PartV.cs _) (fun _ => rfl), HP.out.far (by first | (simp; done) | (simp; omega)) (by first | (simp; done) | (simp; omega)) _, hB.setCell (by first | (simp; done) | (simp; omega)) _⟩
        case measure => simp [intOf]; omega
      · have h0' : ((k : Int) == 0) = false := by simp; omega
        go_wp2
        go_roundw
        case rel => exact ⟨k + 1, by omega, by go_num, (HR.out.push (PartV.lit _) (fun h => absurd h h0)).alloc _, (HP.out.far (by first | (simp; done) | (simp; omega)) (by first | (simp; done) | (simp; omega)) _).alloc _, (hB.setCell (by first | (simp; done) | (simp; omega)) _).alloc (by rw [size_setCell]; exact hB.size) _⟩
        case measure => simp [intOf]; omega
    · obtain rfl : k = m := by omega
      have hge : ¬ ((k : Int) < (k : Int)) := by omega
      have sB := hB.size
      have lR := hR.lt
      obtain ⟨wo, hwo⟩ : ∃ wo, wo = wr := ⟨_, rfl⟩
      subst hwo
      have HR := Lib.hid hR
      have HP := Lib.hid hP
      clear hR hP
      go_wp2
      refine wp_gen (S := fun W => PF W w.heap.size (wo.heap.size + 1) n 0 (.iface 123 (.pointer (some ⟨wo.heap.size, 0, none⟩))) ∧ PF W w.heap.size (w.heap.size + 1 + 1 + 1) k k (.iface 203 (.pointer (some ⟨w.heap.size + 1 + 1, 0, none⟩))) ∧ Bk W wo.heap.size 131 (dqC (w.heap.size + 1 + 1 + 1) k) ∧ PEp W (w.heap.size + 1) w.heap.size s ∧ Below w.heap.size w W) ⟨PF.newAt (by simp) _ (by omega) (by unfold maxLen; omega), HR.out.keep (by go_grown), (by repeat (first | (refine Bk.newAt ?_; simp; done) | refine Bk.alloc ?_ _)), HP.out.keep (by go_grown), by go_grown⟩ ?_
      rintro W ⟨hR2, hR, hD, hP, hB2⟩
      clear hmk2 HR HP
      go_loopw [20] (fun i wr => RelUP2 w (w.heap.size + 1 + 1 + 1) (wo.heap.size + 1) wo.heap.size (w.heap.size + 1) w.heap.size n k (.iface 203 (.pointer (some ⟨w.heap.size + 1 + 1, 0, none⟩))) (.iface 123 (.pointer (some ⟨wo.heap.size, 0, none⟩))) s i wr) (fun i _ => n - (intOf i).toNat)
      case atStart => exact ⟨0, by omega, by go_num, hR2, hR, hD, hP, hB2⟩
      case round =>
        clear hR2 hR hD hP hB2
        obtain ⟨j, hj, rfl, hR2, hR, hD, hP, hB2⟩ := hrel
        have lR2 := hR.lt
        by_cases hlt : j < n
        · have hlt' : (j : Int) < (n : Int) := by omega
          obtain ⟨ov, hov⟩ := hR2.at_ hlt
          have hf := hR2.frz j
          have hg := hR2.lt.2
          have HR2 := Lib.hid hR2
          have HR := Lib.hid hR
          have HD := Lib.hid hD
          have HP := Lib.hid hP
          clear hR2 hR hP hD
          by_cases h0 : j = 0
          · subst h0
            go_wp2
            go_roundw
            case rel => exact ⟨1, by omega, by go_num, HR2.out.push (by first | exact PartV.lit _ | exact PartV.pe _ | exact PartV.dq _ | exact PartV.cs _) (fun _ => rfl), HR.out.far (by first | (simp; done) | (simp; omega)) _, HD.out.far (by first | (simp; done) | (simp; omega)) _, HP.out.far (by first | (simp; done) | (simp; omega)) (by first | (simp; done) | (simp; omega)) _, hB2.setCell (by first | (simp; done) | (simp; omega)) _⟩
            case measure => simp [intOf]; omega
          · have h0' : ((j : Int) == 0) = false := by simp; omega
            go_wp2
            go_roundw
            case rel => exact ⟨j + 1, by omega, by go_num, (HR2.out.push (PartV.lit _) (fun h => absurd h h0)).alloc _, (HR.out.far (by first | (simp; done) | (simp; omega)) _).alloc _, (HD.out.far (by first | (simp; done) | (simp; omega)) _).alloc _, (HP.out.far (by first | (simp; done) | (simp; omega)) (by first | (simp; done) | (simp; omega)) _).alloc _, (hB2.setCell (by first | (simp; done) | (simp; omega)) _).alloc (by rw [size_setCell]; exact hB2.size) _⟩
            case measure => simp [intOf]; omega
        · obtain rfl : j = n := by omega
          have hge : ¬ ((j : Int) < (j : Int)) := by omega
          have lR3 := hR2.lt
          have lD := hD.lt
          have sB2 := hB2.size
          have HR2 := Lib.hid hR2
          have HR := Lib.hid hR
          have HD := Lib.hid hD
          have HP := Lib.hid hP
          clear hR2 hR hP hD
          go_wp2
          refine bodyPost_ret (v := .tuple #[.pointer (some ⟨wr.heap.size, 0, none⟩), .pointer (some ⟨w.heap.size + 1, 0, none⟩), .pointer (some ⟨wo.heap.size, 0, none⟩)]) (by simp [results, Try.results56]) rfl ⟨_, _, _, _, _, _, _, _, rfl, Bk.fresh _ _ _, HD.out.alloc _, HR.out.keep (by go_grown), HR2.out.keep (by go_grown), HP.out.keep (by go_grown), by unfold OutK; simp, by unfold InnK; simp, by omega, by go_grown⟩
set_option maxHeartbeats 4000000 in
set_option maxRecDepth 100000 in
theorem up_10 (n m : Nat) (hn : n ≤ 65536) (hm : m ≤ 65536) (s : ByteArray) (w : World) :
    Calls Try.prog 56 #[.int .i64 (n : Int), .int .i64 1, .int .i64 (m : Int), .int .i64 0, .string s] w (UPB w n m 1 0 s) := by
  have hmk1 := makeWP m (by omega)
  have hmk2 := makeWP n (by omega)
  go_enter Try.func56, Try.ntmps56
  go_wp2
  refine wp_gen (S := fun W => PF W w.heap.size (w.heap.size + 1 + 1) m 0 (.iface 122 (.pointer (some ⟨w.heap.size + 1, 0, none⟩))) ∧ PEp W (w.heap.size + 1) w.heap.size s ∧ Below w.heap.size w W) ⟨PF.newAt (by simp) _ (by omega) (by unfold maxLen; omega), ⟨by simp [go_sem], by simp [go_sem]⟩, by go_grown⟩ ?_
  rintro W ⟨hR, hP, hB⟩
  clear hmk1
  go_loopw [16] (fun i wr => RelUP1 w (w.heap.size + 1 + 1) (w.heap.size + 1) w.heap.size m (.iface 122 (.pointer (some ⟨w.heap.size + 1, 0, none⟩))) s i wr) (fun i _ => m - (intOf i).toNat)
  case atStart => exact ⟨0, by omega, by go_num, hR, hP, hB⟩
  case round =>
    clear hR hP hB
    obtain ⟨k, hk, rfl, hR, hP, hB⟩ := hrel
    by_cases hlt : k < m
    · have hlt' : (k : Int) < (m : Int) := by omega
      obtain ⟨ov, hov⟩ := hR.at_ hlt
      have hf := hR.frz k
      have hg := hR.lt.2
      have HR := Lib.hid hR
      have HP := Lib.hid hP
      clear hR hP
      by_cases h0 : k = 0
      · subst h0
        go_wp2
        go_roundw
        case rel => exact ⟨1, by omega, by go_num, HR.out.push (by first | exact PartV.lit _ | exact PartV.pe _ | exact PartV.dq _ | exact PartV.cs _) (fun _ => rfl), HP.out.far (by first | (simp; done) | (simp; omega)) (by first | (simp; done) | (simp; omega)) _, hB.setCell (by first | (simp; done) | (simp; omega)) _⟩
        case measure => simp [intOf]; omega
      · have h0' : ((k : Int) == 0) = false := by simp; omega
        go_wp2
        go_roundw
        case rel => exact ⟨k + 1, by omega, by go_num, (HR.out.push (PartV.lit _) (fun h => absurd h h0)).alloc _, (HP.out.far (by first | (simp; done) | (simp; omega)) (by first | (simp; done) | (simp; omega)) _).alloc _, (hB.setCell (by first | (simp; done) | (simp; omega)) _).alloc (by rw [size_setCell]; exact hB.size) _⟩
        case measure => simp [intOf]; omega
    · obtain rfl : k = m := by omega
      have hge : ¬ ((k : Int) < (k : Int)) := by omega
      have sB := hB.size
      have lR := hR.lt
      obtain ⟨wo, hwo⟩ : ∃ wo, wo = wr := ⟨_, rfl⟩
      subst hwo
      have HR := Lib.hid hR
      have HP := Lib.hid hP
      clear hR hP
      go_wp2
      refine wp_gen (S := fun W => PF W w.heap.size (wo.heap.size + 1 + 1) n 0 (.iface 64 (.pointer (some ⟨wo.heap.size + 1, 0, none⟩))) ∧ PF W w.heap.size (w.heap.size + 1 + 1) k k (.iface 122 (.pointer (some ⟨w.heap.size + 1, 0, none⟩))) ∧ Bk W wo.heap.size 131 (dqC (w.heap.size + 1 + 1) k) ∧ PEp W (w.heap.size + 1) w.heap.size s ∧ Below w.heap.size w W) ⟨PF.newAt (by simp) _ (by omega) (by unfold maxLen; omega), HR.out.keep (by go_grown), (by repeat (first | (refine Bk.newAt ?_; simp; done) | refine Bk.alloc ?_ _)), HP.out.keep (by go_grown), by go_grown⟩ ?_
      rintro W ⟨hR2, hR, hD, hP, hB2⟩
      clear hmk2 HR HP
      go_loopw [20] (fun i wr => RelUP2 w (w.heap.size + 1 + 1) (wo.heap.size + 1 + 1) wo.heap.size (w.heap.size + 1) w.heap.size n k (.iface 122 (.pointer (some ⟨w.heap.size + 1, 0, none⟩))) (.iface 64 (.pointer (some ⟨wo.heap.size + 1, 0, none⟩))) s i wr) (fun i _ => n - (intOf i).toNat)
      case atStart => exact ⟨0, by omega, by go_num, hR2, hR, hD, hP, hB2⟩
      case round =>
        clear hR2 hR hD hP hB2
        obtain ⟨j, hj, rfl, hR2, hR, hD, hP, hB2⟩ := hrel
        have lR2 := hR.lt
        by_cases hlt : j < n
        · have hlt' : (j : Int) < (n : Int) := by omega
          obtain ⟨ov, hov⟩ := hR2.at_ hlt
          have hf := hR2.frz j
          have hg := hR2.lt.2
          have HR2 := Lib.hid hR2
          have HR := Lib.hid hR
          have HD := Lib.hid hD
          have HP := Lib.hid hP
          clear hR2 hR hP hD
          by_cases h0 : j = 0
          · subst h0
            go_wp2
            go_roundw
            case rel => exact ⟨1, by omega, by go_num, HR2.out.push (by first | exact PartV.lit _ | exact PartV.pe _ | exact PartV.dq _ | exact PartV.cs _) (fun _ => rfl), HR.out.far (by first | (simp; done) | (simp; omega)) _, HD.out.far (by first | (simp; done) | (simp; omega)) _, HP.out.far (by first | (simp; done) | (simp; omega)) (by first | (simp; done) | (simp; omega)) _, hB2.setCell (by first | (simp; done) | (simp; omega)) _⟩
            case measure => simp [intOf]; omega
          · have h0' : ((j : Int) == 0) = false := by simp; omega
            go_wp2
            go_roundw
            case rel => exact ⟨j + 1, by omega, by go_num, (HR2.out.push (PartV.lit _) (fun h => absurd h h0)).alloc _, (HR.out.far (by first | (simp; done) | (simp; omega)) _).alloc _, (HD.out.far (by first | (simp; done) | (simp; omega)) _).alloc _, (HP.out.far (by first | (simp; done) | (simp; omega)) (by first | (simp; done) | (simp; omega)) _).alloc _, (hB2.setCell (by first | (simp; done) | (simp; omega)) _).alloc (by rw [size_setCell]; exact hB2.size) _⟩
            case measure => simp [intOf]; omega
        · obtain rfl : j = n := by omega
          have hge : ¬ ((j : Int) < (j : Int)) := by omega
          have lR3 := hR2.lt
          have lD := hD.lt
          have sB2 := hB2.size
          have HR2 := Lib.hid hR2
          have HR := Lib.hid hR
          have HD := Lib.hid hD
          have HP := Lib.hid hP
          clear hR2 hR hP hD
          go_wp2
          refine bodyPost_ret (v := .tuple #[.pointer (some ⟨wr.heap.size, 0, none⟩), .pointer (some ⟨w.heap.size + 1, 0, none⟩), .pointer (some ⟨wo.heap.size, 0, none⟩)]) (by simp [results, Try.results56]) rfl ⟨_, _, _, _, _, _, _, _, rfl, Bk.fresh _ _ _, HD.out.alloc _, HR.out.keep (by go_grown), HR2.out.keep (by go_grown), HP.out.keep (by go_grown), by unfold OutK; simp, by unfold InnK; simp, by omega, by go_grown⟩
set_option maxHeartbeats 4000000 in
set_option maxRecDepth 100000 in
theorem up_11 (n m : Nat) (hn : n ≤ 65536) (hm : m ≤ 65536) (s : ByteArray) (w : World) :
    Calls Try.prog 56 #[.int .i64 (n : Int), .int .i64 1, .int .i64 (m : Int), .int .i64 1, .string s] w (UPB w n m 1 1 s) := by
  have hmk1 := makeWP m (by omega)
  have hmk2 := makeWP n (by omega)
  go_enter Try.func56, Try.ntmps56
  go_wp2
  refine wp_gen (S := fun W => PF W w.heap.size (w.heap.size + 1 + 1 + 1) m 0 (.iface 64 (.pointer (some ⟨w.heap.size + 1 + 1, 0, none⟩))) ∧ PEp W (w.heap.size + 1) w.heap.size s ∧ Below w.heap.size w W) ⟨PF.newAt (by simp) _ (by omega) (by unfold maxLen; omega), ⟨by simp [go_sem], by simp [go_sem]⟩, by go_grown⟩ ?_
  rintro W ⟨hR, hP, hB⟩
  clear hmk1
  go_loopw [16] (fun i wr => RelUP1 w (w.heap.size + 1 + 1 + 1) (w.heap.size + 1) w.heap.size m (.iface 64 (.pointer (some ⟨w.heap.size + 1 + 1, 0, none⟩))) s i wr) (fun i _ => m - (intOf i).toNat)
  case atStart => exact ⟨0, by omega, by go_num, hR, hP, hB⟩
  case round =>
    clear hR hP hB
    obtain ⟨k, hk, rfl, hR, hP, hB⟩ := hrel
    by_cases hlt : k < m
    · have hlt' : (k : Int) < (m : Int) := by omega
      obtain ⟨ov, hov⟩ := hR.at_ hlt
      have hf := hR.frz k
      have hg := hR.lt.2
      have HR := Lib.hid hR
      have HP := Lib.hid hP
      clear hR hP
      by_cases h0 : k = 0
      · subst h0
        go_wp2
        go_roundw
        case rel => exact ⟨1, by omega, by go_num, HR.out.push (by first | exact PartV.lit _ | exact PartV.pe _ | exact PartV.dq _ | exact PartV.cs _) (fun _ => rfl), HP.out.far (by first | (simp; done) | (simp; omega)) (by first | (simp; done) | (simp; omega)) _, hB.setCell (by first | (simp; done) | (simp; omega)) _⟩
        case measure => simp [intOf]; omega
      · have h0' : ((k : Int) == 0) = false := by simp; omega
        go_wp2
        go_roundw
        case rel => exact ⟨k + 1, by omega, by go_num, (HR.out.push (PartV.lit _) (fun h => absurd h h0)).alloc _, (HP.out.far (by first | (simp; done) | (simp; omega)) (by first | (simp; done) | (simp; omega)) _).alloc _, (hB.setCell (by first | (simp; done) | (simp; omega)) _).alloc (by rw [size_setCell]; exact hB.size) _⟩
        case measure => simp [intOf]; omega
    · obtain rfl : k = m := by omega
      have hge : ¬ ((k : Int) < (k : Int)) := by omega
      have sB := hB.size
      have lR := hR.lt
      obtain ⟨wo, hwo⟩ : ∃ wo, wo = wr := ⟨_, rfl⟩
      subst hwo
      have HR := Lib.hid hR
      have HP := Lib.hid hP
      clear hR hP
      go_wp2
      refine wp_gen (S := fun W => PF W w.heap.size (wo.heap.size + 1 + 1) n 0 (.iface 64 (.pointer (some ⟨wo.heap.size + 1, 0, none⟩))) ∧ PF W w.heap.size (w.heap.size + 1 + 1 + 1) k k (.iface 64 (.pointer (some ⟨w.heap.size + 1 + 1, 0, none⟩))) ∧ Bk W wo.heap.size 131 (dqC (w.heap.size + 1 + 1 + 1) k) ∧ PEp W (w.heap.size + 1) w.heap.size s ∧ Below w.heap.size w W) ⟨PF.newAt (by simp) _ (by omega) (by unfold maxLen; omega), HR.out.keep (by go_grown), (by repeat (first | (refine Bk.newAt ?_; simp; done) | refine Bk.alloc ?_ _)), HP.out.keep (by go_grown), by go_grown⟩ ?_
      rintro W ⟨hR2, hR, hD, hP, hB2⟩
      clear hmk2 HR HP
      go_loopw [20] (fun i wr => RelUP2 w (w.heap.size + 1 + 1 + 1) (wo.heap.size + 1 + 1) wo.heap.size (w.heap.size + 1) w.heap.size n k (.iface 64 (.pointer (some ⟨w.heap.size + 1 + 1, 0, none⟩))) (.iface 64 (.pointer (some ⟨wo.heap.size + 1, 0, none⟩))) s i wr) (fun i _ => n - (intOf i).toNat)
      case atStart => exact ⟨0, by omega, by go_num, hR2, hR, hD, hP, hB2⟩
      case round =>
        clear hR2 hR hD hP hB2
        obtain ⟨j, hj, rfl, hR2, hR, hD, hP, hB2⟩ := hrel
        have lR2 := hR.lt
        by_cases hlt : j < n
        · have hlt' : (j : Int) < (n : Int) := by omega
          obtain ⟨ov, hov⟩ := hR2.at_ hlt
          have hf := hR2.frz j
          have hg := hR2.lt.2
          have HR2 := Lib.hid hR2
          have HR := Lib.hid hR
          have HD := Lib.hid hD
          have HP := Lib.hid hP
          clear hR2 hR hP hD
          by_cases h0 : j = 0
          · subst h0
            go_wp2
            go_roundw
            case rel => exact ⟨1, by omega, by go_num, HR2.out.push (by first | exact PartV.lit _ | exact PartV.pe _ | exact PartV.dq _ | exact PartV.cs _) (fun _ => rfl), HR.out.far (by first | (simp; done) | (simp; omega)) _, HD.out.far (by first | (simp; done) | (simp; omega)) _, HP.out.far (by first | (simp; done) | (simp; omega)) (by first | (simp; done) | (simp; omega)) _, hB2.setCell (by first | (simp; done) | (simp; omega)) _⟩
            case measure => simp [intOf]; omega
          · have h0' : ((j : Int) == 0) = false := by simp; omega
            go_wp2
            go_roundw
            case rel => exact ⟨j + 1, by omega, by go_num, (HR2.out.push (PartV.lit _) (fun h => absurd h h0)).alloc _, (HR.out.far (by first | (simp; done) | (simp; omega)) _).alloc _, (HD.out.far (by first | (simp; done) | (simp; omega)) _).alloc _, (HP.out.far (by first | (simp; done) | (simp; omega)) (by first | (simp; done) | (simp; omega)) _).alloc _, (hB2.setCell (by first | (simp; done) | (simp; omega)) _).alloc (by rw [size_setCell]; exact hB2.size) _⟩
            case measure => simp [intOf]; omega
        · obtain rfl : j = n := by omega
          have hge : ¬ ((j : Int) < (j : Int)) := by omega
          have lR3 := hR2.lt
          have lD := hD.lt
          have sB2 := hB2.size
          have HR2 := Lib.hid hR2
          have HR := Lib.hid hR
          have HD := Lib.hid hD
          have HP := Lib.hid hP
          clear hR2 hR hP hD
          go_wp2
          refine bodyPost_ret (v := .tuple #[.pointer (some ⟨wr.heap.size, 0, none⟩), .pointer (some ⟨w.heap.size + 1, 0, none⟩), .pointer (some ⟨wo.heap.size, 0, none⟩)]) (by simp [results, Try.results56]) rfl ⟨_, _, _, _, _, _, _, _, rfl, Bk.fresh _ _ _, HD.out.alloc _, HR.out.keep (by go_grown), HR2.out.keep (by go_grown), HP.out.keep (by go_grown), by unfold OutK; simp, by unfold InnK; simp, by omega, by go_grown⟩
set_option maxHeartbeats 4000000 in
set_option maxRecDepth 100000 in
theorem up_12 (n m : Nat) (hn : n ≤ 65536) (hm : m ≤ 65536) (s : ByteArray) (w : World) :
    Calls Try.prog 56 #[.int .i64 (n : Int), .int .i64 1, .int .i64 (m : Int), .int .i64 2, .string s] w (UPB w n m 1 2 s) := by
  have hmk1 := makeWP m (by omega)
  have hmk2 := makeWP n (by omega)
  go_enter Try.func56, Try.ntmps56
  go_wp2
  refine wp_gen (S := fun W => PF W w.heap.size (w.heap.size + 1 + 1 + 1) m 0 (.iface 203 (.pointer (some ⟨w.heap.size + 1 + 1, 0, none⟩))) ∧ PEp W (w.heap.size + 1) w.heap.size s ∧ Below w.heap.size w W) ⟨PF.newAt (by simp) _ (by omega) (by unfold maxLen; omega), ⟨by simp [go_sem], by simp [go_sem]⟩, by go_grown⟩ ?_
  rintro W ⟨hR, hP, hB⟩
  clear hmk1
  go_loopw [16] (fun i wr => RelUP1 w (w.heap.size + 1 + 1 + 1) (w.heap.size + 1) w.heap.size m (.iface 203 (.pointer (some ⟨w.heap.size + 1 + 1, 0, none⟩))) s i wr) (fun i _ => m - (intOf i).toNat)
  case atStart => exact ⟨0, by omega, by go_num, hR, hP, hB⟩
  case round =>
    clear hR hP hB
    obtain ⟨k, hk, rfl, hR, hP, hB⟩ := hrel
    by_cases hlt : k < m
    · have hlt' : (k : Int) < (m : Int) := by omega
      obtain ⟨ov, hov⟩ := hR.at_ hlt
      have hf := hR.frz k
      have hg := hR.lt.2
      have HR := Lib.hid hR
      have HP := Lib.hid hP
      clear hR hP
      by_cases h0 : k = 0
      · subst h0
        go_wp2
        go_roundw
        case rel => exact ⟨1, by omega, by go_num, HR.out.push (by first | exact PartV.lit _ | exact PartV.pe _ | exact PartV.dq _ | exact PartV.cs _) (fun _ => rfl), HP.out.far (by first | (simp; done) | (simp; omega)) (by first | (simp; done) | (simp; omega)) _, hB.setCell (by first | (simp; done) | (simp; omega)) _⟩
        case measure => simp [intOf]; omega
      · have h0' : ((k : Int) == 0) = false := by simp; omega
        go_wp2
        go_roundw
        case rel => exact ⟨k + 1, by omega, by go_num, (HR.out.push (PartV.lit _) (fun h => absurd h h0)).alloc _, (HP.out.far (by first | (simp; done) | (simp; omega)) (by first | (simp; done) | (simp; omega)) _).alloc _, (hB.setCell (by first | (simp; done) | (simp; omega)) _).alloc (by rw [size_setCell]; exact hB.size) _⟩
        case measure => simp [intOf]; omega
    · obtain rfl : k = m := by omega
      have hge : ¬ ((k : Int) < (k : Int)) := by omega
      have sB := hB.size
      have lR := hR.lt
      obtain ⟨wo, hwo⟩ : ∃ wo, wo = wr := ⟨_, rfl⟩
      subst hwo
      have HR := Lib.hid hR
      have HP := Lib.hid hP
      clear hR hP
      go_wp2
      refine wp_gen (S := fun W => PF W w.heap.size (wo.heap.size + 1 + 1) n 0 (.iface 64 (.pointer (some ⟨wo.heap.size + 1, 0, none⟩))) ∧ PF W w.heap.size (w.heap.size + 1 + 1 + 1) k k (.iface 203 (.pointer (some ⟨w.heap.size + 1 + 1, 0, none⟩))) ∧ Bk W wo.heap.size 131 (dqC (w.heap.size + 1 + 1 + 1) k) ∧ PEp W (w.heap.size + 1) w.heap.size s ∧ Below w.heap.size w W) ⟨PF.newAt (by simp) _ (by omega) (by unfold maxLen; omega), HR.out.keep (by go_grown), (by repeat (first | (refine Bk.newAt ?_; simp; done) | refine Bk.alloc ?_ _)), HP.out.keep (by go_grown), by go_grown⟩ ?_
      rintro W ⟨hR2, hR, hD, hP, hB2⟩
      clear hmk2 HR HP
      go_loopw [20] (fun i wr => RelUP2 w (w.heap.size + 1 + 1 + 1) (wo.heap.size + 1 + 1) wo.heap.size (w.heap.size + 1) w.heap.size n k (.iface 203 (.pointer (some ⟨w.heap.size + 1 + 1, 0, none⟩))) (.iface 64 (.pointer (some ⟨wo.heap.size + 1, 0, none⟩))) s i wr) (fun i _ => n - (intOf i).toNat)
      case atStart => exact ⟨0, by omega, by go_num, hR2, hR, hD, hP, hB2⟩
      case round =>
        clear hR2 hR hD hP hB2
        obtain ⟨j, hj, rfl, hR2, hR, hD, hP, hB2⟩ := hrel
        have lR2 := hR.lt
        by_cases hlt : j < n
        · have hlt' : (j : Int) < (n : Int) := by omega
          obtain ⟨ov, hov⟩ := hR2.at_ hlt
          have hf := hR2.frz j
          have hg := hR2.lt.2
          have HR2 := Lib.hid hR2
          have HR := Lib.hid hR
          have HD := Lib.hid hD
          have HP := Lib.hid hP
          clear hR2 hR hP hD
          by_cases h0 : j = 0
          · subst h0
            go_wp2
            go_roundw
            case rel => exact ⟨1, by omega, by go_num, HR2.out.push (by first | exact PartV.lit _ | exact PartV.pe _ | exact PartV.dq _ | exact PartV.cs _) (fun _ => rfl), HR.out.far (by first | (simp; done) | (simp; omega)) _, HD.out.far (by first | (simp; done) | (simp; omega)) _, HP.out.far (by first | (simp; done) | (simp; omega)) (by first | (simp; done) | (simp; omega)) _, hB2.setCell (by first | (simp; done) | (simp; omega)) _⟩
            case measure => simp [intOf]; omega
          · have h0' : ((j : Int) == 0) = false := by simp; omega
            go_wp2
            go_roundw
            case rel => exact ⟨j + 1, by omega, by go_num, (HR2.out.push (PartV.lit _) (fun h => absurd h h0)).alloc _, (HR.out.far (by first | (simp; done) | (simp; omega)) _).alloc _, (HD.out.far (by first | (simp; done) | (simp; omega)) _).alloc _, (HP.out.far (by first | (simp; done) | (simp; omega)) (by first | (simp; done) | (simp; omega)) _).alloc _, (hB2.setCell (by first | (simp; done) | (simp; omega)) _).alloc (by rw [size_setCell]; exact hB2.size) _⟩
            case measure => simp [intOf]; omega
        · obtain rfl : j = n := by omega
          have hge : ¬ ((j : Int) < (j : Int)) := by omega
          have lR3 := hR2.lt
          have lD := hD.lt
          have sB2 := hB2.size
          have HR2 := Lib.hid hR2
          have HR := Lib.hid hR
          have HD := Lib.hid hD
          have HP := Lib.hid hP
          clear hR2 hR hP hD
          go_wp2
          refine bodyPost_ret (v := .tuple #[.pointer (some ⟨wr.heap.size, 0, none⟩), .pointer (some ⟨w.heap.size + 1, 0, none⟩), .pointer (some ⟨wo.heap.size, 0, none⟩)]) (by simp [results, Try.results56]) rfl ⟨_, _, _, _, _, _, _, _, rfl, Bk.fresh _ _ _, HD.out.alloc _, HR.out.keep (by go_grown), HR2.out.keep (by go_grown), HP.out.keep (by go_grown), by unfold OutK; simp, by unfold InnK; simp, by omega, by go_grown⟩
set_option maxHeartbeats 4000000 in
set_option maxRecDepth 100000 in
theorem up_20 (n m : Nat) (hn : n ≤ 65536) (hm : m ≤ 65536) (s : ByteArray) (w : World) :
    Calls Try.prog 56 #[.int .i64 (n : Int), .int .i64 2, .int .i64 (m : Int), .int .i64 0, .string s] w (UPB w n m 2 0 s) := by
  have hmk1 := makeWP m (by omega)
  have hmk2 := makeWP n (by omega)
  go_enter Try.func56, Try.ntmps56
  go_wp2
  refine wp_gen (S := fun W => PF W w.heap.size (w.heap.size + 1 + 1) m 0 (.iface 122 (.pointer (some ⟨w.heap.size + 1, 0, none⟩))) ∧ PEp W (w.heap.size + 1) w.heap.size s ∧ Below w.heap.size w W) ⟨PF.newAt (by simp) _ (by omega) (by unfold maxLen; omega), ⟨by simp [go_sem], by simp [go_sem]⟩, by go_grown⟩ ?_
  rintro W ⟨hR, hP, hB⟩
  clear hmk1
  go_loopw [16] (fun i wr => RelUP1 w (w.heap.size + 1 + 1) (w.heap.size + 1) w.heap.size m (.iface 122 (.pointer (some ⟨w.heap.size + 1, 0, none⟩))) s i wr) (fun i _ => m - (intOf i).toNat)
  case atStart => exact ⟨0, by omega, by go_num, hR, hP, hB⟩
  case round =>
    clear hR hP hB
    obtain ⟨k, hk, rfl, hR, hP, hB⟩ := hrel
    by_cases hlt : k < m
    · have hlt' : (k : Int) < (m : Int) := by omega
      obtain ⟨ov, hov⟩ := hR.at_ hlt
      have hf := hR.frz k
      have hg := hR.lt.2
      have HR := Lib.hid hR
      have HP := Lib.hid hP
      clear hR hP
      by_cases h0 : k = 0
      · subst h0
        go_wp2
        go_roundw
        case rel => exact ⟨1, by omega, by go_num, HR.out.push (by first | exact PartV.lit _ | exact PartV.pe _ | exact PartV.dq _ | exact PartV.cs _) (fun _ => rfl), HP.out.far (by first | (simp; done) | (simp; omega)) (by first | (simp; done) | (simp; omega)) _, hB.setCell (by first | (simp; done) | (simp; omega)) _⟩
        case measure => simp [intOf]; omega
      · have h0' : ((k : Int) == 0) = false := by simp; omega
        go_wp2
        go_roundw
        case rel => exact ⟨k + 1, by omega, by go_num, (HR.out.push (PartV.lit _) (fun h => absurd h h0)).alloc _, (HP.out.far (by first | (simp; done) | (simp; omega)) (by first | (simp; done) | (simp; omega)) _).alloc _, (hB.setCell (by first | (simp; done) | (simp; omega)) _).alloc (by rw [size_setCell]; exact hB.size) _⟩
        case measure => simp [intOf]; omega
    · obtain rfl : k = m := by omega
      have hge : ¬ ((k : Int) < (k : Int)) := by omega
      have sB := hB.size
      have lR := hR.lt
      obtain ⟨wo, hwo⟩ : ∃ wo, wo = wr := ⟨_, rfl⟩
      subst hwo
      have HR := Lib.hid hR
      have HP := Lib.hid hP
      clear hR hP
      go_wp2
      refine wp_gen (S := fun W => PF W w.heap.size (wo.heap.size + 1 + 1 + 1) n 0 (.iface 122 (.pointer (some ⟨wo.heap.size + 1 + 1, 0, none⟩))) ∧ PF W w.heap.size (w.heap.size + 1 + 1) k k (.iface 122 (.pointer (some ⟨w.heap.size + 1, 0, none⟩))) ∧ Bk W wo.heap.size 131 (dqC (w.heap.size + 1 + 1) k) ∧ PEp W (w.heap.size + 1) w.heap.size s ∧ Below w.heap.size w W) ⟨PF.newAt (by simp) _ (by omega) (by unfold maxLen; omega), HR.out.keep (by go_grown), (by repeat (first | (refine Bk.newAt ?_; simp; done) | refine Bk.alloc ?_ _)), HP.out.keep (by go_grown), by go_grown⟩ ?_
      rintro W ⟨hR2, hR, hD, hP, hB2⟩
      clear hmk2 HR HP
      go_loopw [20] (fun i wr => RelUP2 w (w.heap.size + 1 + 1) (wo.heap.size + 1 + 1 + 1) wo.heap.size (w.heap.size + 1) w.heap.size n k (.iface 122 (.pointer (some ⟨w.heap.size + 1, 0, none⟩))) (.iface 122 (.pointer (some ⟨wo.heap.size + 1 + 1, 0, none⟩))) s i wr) (fun i _ => n - (intOf i).toNat)
      case atStart => exact ⟨0, by omega, by go_num, hR2, hR, hD, hP, hB2⟩
      case round =>
        clear hR2 hR hD hP hB2
        obtain ⟨j, hj, rfl, hR2, hR, hD, hP, hB2⟩ := hrel
        have lR2 := hR.lt
        by_cases hlt : j < n
        · have hlt' : (j : Int) < (n : Int) := by omega
          obtain ⟨ov, hov⟩ := hR2.at_ hlt
          have hf := hR2.frz j
          have hg := hR2.lt.2
          have HR2 := Lib.hid hR2
          have HR := Lib.hid hR
          have HD := Lib.hid hD
          have HP := Lib.hid hP
          clear hR2 hR hP hD
          by_cases h0 : j = 0
          · subst h0
            go_wp2
            go_roundw
            case rel => exact ⟨1, by omega, by go_num, HR2.out.push (by first | exact PartV.lit _ | exact PartV.pe _ | exact PartV.dq _ | exact PartV.cs _) (fun _ => rfl), HR.out.far (by first | (simp; done) | (simp; omega)) _, HD.out.far (by first | (simp; done) | (simp; omega)) _, HP.out.far (by first | (simp; done) | (simp; omega)) (by first | (simp; done) | (simp; omega)) _, hB2.setCell (by first | (simp; done) | (simp; omega)) _⟩
            case measure => simp [intOf]; omega
          · have h0' : ((j : Int) == 0) = false := by simp; omega
            go_wp2
            go_roundw
            case rel => exact ⟨j + 1, by omega, by go_num, (HR2.out.push (PartV.lit _) (fun h => absurd h h0)).alloc _, (HR.out.far (by first | (simp; done) | (simp; omega)) _).alloc _, (HD.out.far (by first | (simp; done) | (simp; omega)) _).alloc _, (HP.out.far (by first | (simp; done) | (simp; omega)) (by first | (simp; done) | (simp; omega)) _).alloc _, (hB2.setCell (by first | (simp; done) | (simp; omega)) _).alloc (by rw [size_setCell]; exact hB2.size) _⟩
            case measure => simp [intOf]; omega
        · obtain rfl : j = n := by omega
          have hge : ¬ ((j : Int) < (j : Int)) := by omega
          have lR3 := hR2.lt
          have lD := hD.lt
          have sB2 := hB2.size
          have HR2 := Lib.hid hR2
          have HR := Lib.hid hR
          have HD := Lib.hid hD
          have HP := Lib.hid hP
          clear hR2 hR hP hD
          go_wp2
          refine bodyPost_ret (v := .tuple #[.pointer (some ⟨wr.heap.size, 0, none⟩), .pointer (some ⟨w.heap.size + 1, 0, none⟩), .pointer (some ⟨wo.heap.size, 0, none⟩)]) (by simp [results, Try.results56]) rfl ⟨_, _, _, _, _, _, _, _, rfl, Bk.fresh _ _ _, HD.out.alloc _, HR.out.keep (by go_grown), HR2.out.keep (by go_grown), HP.out.keep (by go_grown), by unfold OutK; simp, by unfold InnK; simp, by omega, by go_grown⟩
set_option maxHeartbeats 4000000 in
set_option maxRecDepth 100000 in
theorem up_21 (n m : Nat) (hn : n ≤ 65536) (hm : m ≤ 65536) (s : ByteArray) (w : World) :
    Calls Try.prog 56 #[.int .i64 (n : Int), .int .i64 2, .int .i64 (m : Int), .int .i64 1, .string s] w (UPB w n m 2 1 s) := by
  have hmk1 := makeWP m (by omega)
  have hmk2 := makeWP n (by omega)
  go_enter Try.func56, Try.ntmps56
  go_wp2
  refine wp_gen (S := fun W => PF W w.heap.size (w.heap.size + 1 + 1 + 1) m 0 (.iface 64 (.pointer (some ⟨w.heap.size + 1 + 1, 0, none⟩))) ∧ PEp W (w.heap.size + 1) w.heap.size s ∧ Below w.heap.size w W) ⟨PF.newAt (by simp) _ (by omega) (by unfold maxLen; omega), ⟨by simp [go_sem], by simp [go_sem]⟩, by go_grown⟩ ?_
  rintro W ⟨hR, hP, hB⟩
  clear hmk1
  go_loopw [16] (fun i wr => RelUP1 w (w.heap.size + 1 + 1 + 1) (w.heap.size + 1) w.heap.size m (.iface 64 (.pointer (some ⟨w.heap.size + 1 + 1, 0, none⟩))) s i wr) (fun i _ => m - (intOf i).toNat)
  case atStart => exact ⟨0, by omega, by go_num, hR, hP, hB⟩
  case round =>
    clear hR hP hB
    obtain ⟨k, hk, rfl, hR, hP, hB⟩ := hrel
    by_cases hlt : k < m
    · have hlt' : (k : Int) < (m : Int) := by omega
      obtain ⟨ov, hov⟩ := hR.at_ hlt
      have hf := hR.frz k
      have hg := hR.lt.2
      have HR := Lib.hid hR
      have HP := Lib.hid hP
      clear hR hP
      by_cases h0 : k = 0
      · subst h0
        go_wp2
        go_roundw
        case rel => exact ⟨1, by omega, by go_num, HR.out.push (by first | exact PartV.lit _ | exact PartV.pe _ | exact PartV.dq _ | exact PartV.cs _) (fun _ => rfl), HP.out.far (by first | (simp; done) | (simp; omega)) (by first | (simp; done) | (simp; omega)) _, hB.setCell (by first | (simp; done) | (simp; omega)) _⟩
        case measure => simp [intOf]; omega
      · have h0' : ((k : Int) == 0) = false := by simp; omega
        go_wp2
        go_roundw
        case rel => exact ⟨k + 1, by omega, by go_num, (HR.out.push (PartV.lit _) (fun h => absurd h h0)).alloc _, (HP.out.far (by first | (simp; done) | (simp; omega)) (by first | (simp; done) | (simp; omega)) _).alloc _, (hB.setCell (by first | (simp; done) | (simp; omega)) _).alloc (by rw [size_setCell]; exact hB.size) _⟩
        case measure => simp [intOf]; omega
    · obtain rfl : k = m := by omega
      have hge : ¬ ((k : Int) < (k : Int)) := by omega
      have sB := hB.size
      have lR := hR.lt
      obtain ⟨wo, hwo⟩ : ∃ wo, wo = wr := ⟨_, rfl⟩
      subst hwo
      have HR := Lib.hid hR
      have HP := Lib.hid hP
      clear hR hP
      go_wp2
      refine wp_gen (S := fun W => PF W w.heap.size (wo.heap.size + 1 + 1 + 1) n 0 (.iface 122 (.pointer (some ⟨wo.heap.size + 1 + 1, 0, none⟩))) ∧ PF W w.heap.size (w.heap.size + 1 + 1 + 1) k k (.iface 64 (.pointer (some ⟨w.heap.size + 1 + 1, 0, none⟩))) ∧ Bk W wo.heap.size 131 (dqC (w.heap.size + 1 + 1 + 1) k) ∧ PEp W (w.heap.size + 1) w.heap.size s ∧ Below w.heap.size w W) ⟨PF.newAt (by simp) _ (by omega) (by unfold maxLen; omega), HR.out.keep (by go_grown), (by repeat (first | (refine Bk.newAt ?_; simp; done) | refine Bk.alloc ?_ _)), HP.out.keep (by go_grown), by go_grown⟩ ?_
      rintro W ⟨hR2, hR, hD, hP, hB2⟩
      clear hmk2 HR HP
      go_loopw [20] (fun i wr => RelUP2 w (w.heap.size + 1 + 1 + 1) (wo.heap.size + 1 + 1 + 1) wo.heap.size (w.heap.size + 1) w.heap.size n k (.iface 64 (.pointer (some ⟨w.heap.size + 1 + 1, 0, none⟩))) (.iface 122 (.pointer (some ⟨wo.heap.size + 1 + 1, 0, none⟩))) s i wr) (fun i _ => n - (intOf i).toNat)
      case atStart => exact ⟨0, by omega, by go_num, hR2, hR, hD, hP, hB2⟩
      case round =>
        clear hR2 hR hD hP hB2
        obtain ⟨j, hj, rfl, hR2, hR, hD, hP, hB2⟩ := hrel
        have lR2 := hR.lt
        by_cases hlt : j < n
        · have hlt' : (j : Int) < (n : Int) := by omega
          obtain ⟨ov, hov⟩ := hR2.at_ hlt
          have hf := hR2.frz j
          have hg := hR2.lt.2
          have HR2 := Lib.hid hR2
          have HR := Lib.hid hR
          have HD := Lib.hid hD
          have HP := Lib.hid hP
          clear hR2 hR hP hD
          by_cases h0 : j = 0
          · subst h0
            go_wp2
            go_roundw
            case rel => exact ⟨1, by omega, by go_num, HR2.out.push (by first | exact PartV.lit _ | exact PartV.pe _ | exact PartV.dq _ | exact PartV.cs _) (fun _ => rfl), HR.out.far (by first | (simp; done) | (simp; omega)) _, HD.out.far (by first | (simp; done) | (simp; omega)) _, HP.out.far (by first | (simp; done) | (simp; omega)) (by first | (simp; done) | (simp; omega)) _, hB2.setCell (by first | (simp; done) | (simp; omega)) _⟩
            case measure => simp [intOf]; omega
          · have h0' : ((j : Int) == 0) = false := by simp; omega
            go_wp2
            go_roundw
            case rel => exact ⟨j + 1, by omega, by go_num, (HR2.out.push (PartV.lit _) (fun h => absurd h h0)).alloc _, (HR.out.far (by first | (simp; done) | (simp; omega)) _).alloc _, (HD.out.far (by first | (simp; done) | (simp; omega)) _).alloc _, (HP.out.far (by first | (simp; done) | (simp; omega)) (by first | (simp; done) | (simp; omega)) _).alloc _, (hB2.setCell (by first | (simp; done) | (simp; omega)) _).alloc (by rw [size_setCell]; exact hB2.size) _⟩
            case measure => simp [intOf]; omega
        · obtain rfl : j = n := by omega
          have hge : ¬ ((j : Int) < (j : Int)) := by omega
          have lR3 := hR2.lt
          have lD := hD.lt
          have sB2 := hB2.size
          have HR2 := Lib.hid hR2
          have HR := Lib.hid hR
          have HD := Lib.hid hD
          have HP := Lib.hid hP
          clear hR2 hR hP hD
          go_wp2
          refine bodyPost_ret (v := .tuple #[.pointer (some ⟨wr.heap.size, 0, none⟩), .pointer (some ⟨w.heap.size + 1, 0, none⟩), .pointer (some ⟨wo.heap.size, 0, none⟩)]) (by simp [results, Try.results56]) rfl ⟨_, _, _, _, _, _, _, _, rfl, Bk.fresh _ _ _, HD.out.alloc _, HR.out.keep (by go_grown), HR2.out.keep (by go_grown), HP.out.keep (by go_grown), by unfold OutK; simp, by unfold InnK; simp, by omega, by go_grown⟩
set_option maxHeartbeats 4000000 in
set_option maxRecDepth 100000 in
theorem up_22 (n m : Nat) (hn : n ≤ 65536) (hm : m ≤ 65536) (s : ByteArray) (w : World) :
    Calls Try.prog 56 #[.int .i64 (n : Int), .int .i64 2, .int .i64 (m : Int), .int .i64 2, .string s] w (UPB w n m 2 2 s) := by
  have hmk1 := makeWP m (by omega)
  have hmk2 := makeWP n (by omega)
  go_enter Try.func56, Try.ntmps56
  go_wp2
  refine wp_gen (S := fun W => PF W w.heap.size (w.heap.size + 1 + 1 + 1) m 0 (.iface 203 (.pointer (some ⟨w.heap.size + 1 + 1, 0, none⟩))) ∧ PEp W (w.heap.size + 1) w.heap.size s ∧ Below w.heap.size w W) ⟨PF.newAt (by simp) _ (by omega) (by unfold maxLen; omega), ⟨by simp [go_sem], by simp [go_sem]⟩, by go_grown⟩ ?_
  rintro W ⟨hR, hP, hB⟩
  clear hmk1
  go_loopw [16] (fun i wr => RelUP1 w (w.heap.size + 1 + 1 + 1) (w.heap.size + 1) w.heap.size m (.iface 203 (.pointer (some ⟨w.heap.size + 1 + 1, 0, none⟩))) s i wr) (fun i _ => m - (intOf i).toNat)
  case atStart => exact ⟨0, by omega, by go_num, hR, hP, hB⟩
  case round =>
    clear hR hP hB
    obtain ⟨k, hk, rfl, hR, hP, hB⟩ := hrel
    by_cases hlt : k < m
    · have hlt' : (k : Int) < (m : Int) := by omega
      obtain ⟨ov, hov⟩ := hR.at_ hlt
      have hf := hR.frz k
      have hg := hR.lt.2
      have HR := Lib.hid hR
      have HP := Lib.hid hP
      clear hR hP
      by_cases h0 : k = 0
      · subst h0
        go_wp2
        go_roundw
        case rel => exact ⟨1, by omega, by go_num, HR.out.push (by first | exact PartV.lit _ | exact PartV.pe _ | exact PartV.dq _ | exact PartV.cs _) (fun _ => rfl), HP.out.far (by first | (simp; done) | (simp; omega)) (by first | (simp; done) | (simp; omega)) _, hB.setCell (by first | (simp; done) | (simp; omega)) _⟩
        case measure => simp [intOf]; omega
      · have h0' : ((k : Int) == 0) = false := by simp; omega
        go_wp2
        go_roundw
        case rel => exact ⟨k + 1, by omega, by go_num, (HR.out.push (PartV.lit _) (fun h => absurd h h0)).alloc _, (HP.out.far (by first | (simp; done) | (simp; omega)) (by first | (simp; done) | (simp; omega)) _).alloc _, (hB.setCell (by first | (simp; done) | (simp; omega)) _).alloc (by rw [size_setCell]; exact hB.size) _⟩
        case measure => simp [intOf]; omega
    · obtain rfl : k = m := by omega
      have hge : ¬ ((k : Int) < (k : Int)) := by omega
      have sB := hB.size
      have lR := hR.lt
      obtain ⟨wo, hwo⟩ : ∃ wo, wo = wr := ⟨_, rfl⟩
      subst hwo
      have HR := Lib.hid hR
      have HP := Lib.hid hP
      clear hR hP
      go_wp2
      refine wp_gen (S := fun W => PF W w.heap.size (wo.heap.size + 1 + 1 + 1) n 0 (.iface 122 (.pointer (some ⟨wo.heap.size + 1 + 1, 0, none⟩))) ∧ PF W w.heap.size (w.heap.size + 1 + 1 + 1) k k (.iface 203 (.pointer (some ⟨w.heap.size + 1 + 1, 0, none⟩))) ∧ Bk W wo.heap.size 131 (dqC (w.heap.size + 1 + 1 + 1) k) ∧ PEp W (w.heap.size + 1) w.heap.size s ∧ Below w.heap.size w W) ⟨PF.newAt (by simp) _ (by omega) (by unfold maxLen; omega), HR.out.keep (by go_grown), (by repeat (first | (refine Bk.newAt ?_; simp; done) | refine Bk.alloc ?_ _)), HP.out.keep (by go_grown), by go_grown⟩ ?_
      rintro W ⟨hR2, hR, hD, hP, hB2⟩
      clear hmk2 HR HP
      go_loopw [20] (fun i wr => RelUP2 w (w.heap.size + 1 + 1 + 1) (wo.heap.size + 1 + 1 + 1) wo.heap.size (w.heap.size + 1) w.heap.size n k (.iface 203 (.pointer (some ⟨w.heap.size + 1 + 1, 0, none⟩))) (.iface 122 (.pointer (some ⟨wo.heap.size + 1 + 1, 0, none⟩))) s i wr) (fun i _ => n - (intOf i).toNat)
      case atStart => exact ⟨0, by omega, by go_num, hR2, hR, hD, hP, hB2⟩
      case round =>
        clear hR2 hR hD hP hB2
        obtain ⟨j, hj, rfl, hR2, hR, hD, hP, hB2⟩ := hrel
        have lR2 := hR.lt
        by_cases hlt : j < n
        · have hlt' : (j : Int) < (n : Int) := by omega
          obtain ⟨ov, hov⟩ := hR2.at_ hlt
          have hf := hR2.frz j
          have hg := hR2.lt.2
          have HR2 := Lib.hid hR2
          have HR := Lib.hid hR
          have HD := Lib.hid hD
          have HP := Lib.hid hP
          clear hR2 hR hP hD
          by_cases h0 : j = 0
          · subst h0
            go_wp2
            go_roundw
            case rel => exact ⟨1, by omega, by go_num, HR2.out.push (by first | exact PartV.lit _ | exact PartV.pe _ | exact PartV.dq _ | exact PartV.cs _) (fun _ => rfl), HR.out.far (by first | (simp; done) | (simp; omega)) _, HD.out.far (by first | (simp; done) | (simp; omega)) _, HP.out.far (by first | (simp; done) | (simp; omega)) (by first | (simp; done) | (simp; omega)) _, hB2.setCell (by first | (simp; done) | (simp; omega)) _⟩
            case measure => simp [intOf]; omega
          · have h0' : ((j : Int) == 0) = false := by simp; omega
            go_wp2
            go_roundw
            case rel => exact ⟨j + 1, by omega, by go_num, (HR2.out.push (PartV.lit _) (fun h => absurd h h0)).alloc _, (HR.out.far (by first | (simp; done) | (simp; omega)) _).alloc _, (HD.out.far (by first | (simp; done) | (simp; omega)) _).alloc _, (HP.out.far (by first | (simp; done) | (simp; omega)) (by first | (simp; done) | (simp; omega)) _).alloc _, (hB2.setCell (by first | (simp; done) | (simp; omega)) _).alloc (by rw [size_setCell]; exact hB2.size) _⟩
            case measure => simp [intOf]; omega
        · obtain rfl : j = n := by omega
          have hge : ¬ ((j : Int) < (j : Int)) := by omega
          have lR3 := hR2.lt
          have lD := hD.lt
          have sB2 := hB2.size
          have HR2 := Lib.hid hR2
          have HR := Lib.hid hR
          have HD := Lib.hid hD
          have HP := Lib.hid hP
          clear hR2 hR hP hD
          go_wp2
          refine bodyPost_ret (v := .tuple #[.pointer (some ⟨wr.heap.size, 0, none⟩), .pointer (some ⟨w.heap.size + 1, 0, none⟩), .pointer (some ⟨wo.heap.size, 0, none⟩)]) (by simp [results, Try.results56]) rfl ⟨_, _, _, _, _, _, _, _, rfl, Bk.fresh _ _ _, HD.out.alloc _, HR.out.keep (by go_grown), HR2.out.keep (by go_grown), HP.out.keep (by go_grown), by unfold OutK; simp, by unfold InnK; simp, by omega, by go_grown⟩
end Go.Proofs.Ytnjdffnbkjjmeaa
