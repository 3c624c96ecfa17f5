/- The walk of FnFileEndNoComments. -/
import Derived.Test.YtimaobpcefgdkaaFileE
import Derived.WalkSpells
import Derived.OpenShut
namespace Go.Proofs.Ytimaobpcefgdkaa
open Go.RowKit
theorem Pos3At.keep {w w1 : World} {p : Addr} (h : Pos3At w p) (hb : Below w.heap.size w w1) : Pos3At w1 p := by
  obtain ⟨o, l, c, h0, h1, h2, hr⟩ := h
  exact ⟨o, l, c, keepc hb h0, keepc hb h1, keepc hb h2, hr⟩
theorem infoSt : (Try.prog.info? 64).map (fun i => (i.zero, i.size, i.bytes)) = some (some (.pointer none), 1, 8) := by kernel_rfl
theorem makeSt (n : Nat) (hn : n ≤ 1048576) (W : World) : (Instr.makeSlice 52 (.int .i64 (n : Int)) (.int .i64 (n : Int))).run Try.prog W = .ok (.slice (some ⟨W.heap.size, 0, none⟩) n n) (W.alloc (.cells (madeCells #[.pointer none] n) 64)) :=
  makeN 52 64 (.pointer none) 8 Try.underlying52 infoSt rfl n (by omega) (by omega) W
/-- The statement at b is bare and lies at the position o, l, c. -/
def BareAt (W : World) (b : Nat) (o l c : Int) : Prop := Bk W b 68 (stCells (.slice none 0 0) .nilIface (npO o) (npL l c) 0 0 false false false false (.slice none 0 0))
theorem BareAt.keep {W W1 : World} {b : Nat} {o l c : Int} (h : BareAt W b o l c) (hb : Below W.heap.size W W1) : BareAt W1 b o l c := Bk.keep h hb
/-- The three cells at place k of the row at x. -/
def PosK (w : World) (x : Addr) (k : Nat) (o l c : Int) : Prop := w.cell? (x.add (k * 3)) = some (.int .u32 o) ∧ w.cell? ((x.add (k * 3)).add 1) = some (.int .u32 l) ∧ w.cell? ((x.add (k * 3)).add 2) = some (.int .u32 c) ∧ 0 ≤ o ∧ o < 4294967296 ∧ 0 ≤ l ∧ l < 4294967296 ∧ 0 ≤ c ∧ c < 4294967296
def FinFE (w : World) (gg gl : Nat) (O L o l c : Int) (W : World) : Prop :=
  W.cell? ⟨gg, 0, none⟩ = some (.int .u32 O) ∧ W.cell? ⟨gg, 1, none⟩ = some (.int .u32 L) ∧ W.cell? ⟨gl, 0, none⟩ = some (.int .u32 o) ∧ W.cell? ⟨gl, 1, none⟩ = some (.int .u32 l) ∧ W.cell? ⟨gl, 2, none⟩ = some (.int .u32 c) ∧ Below w.heap.size w W
theorem FinFE.keep {w W W1 : World} {gg gl : Nat} {O L o l c : Int} (h : FinFE w gg gl O L o l c W) (hb : Below W.heap.size W W1) : FinFE w gg gl O L o l c W1 :=
  ⟨keepc hb h.1, keepc hb h.2.1, keepc hb h.2.2.1, keepc hb h.2.2.2.1, keepc hb h.2.2.2.2.1, bmore h.2.2.2.2.2 hb⟩
/-- k statements are laid; of the last one is told what it is. -/
def RelFE (w : World) (x : Addr) (g n : Nat) (i : Value) (wr : World) : Prop :=
  ∃ (k : Nat) (fr : Nat → Value), k ≤ n ∧ i = .int .i64 k ∧ RowF wr w.heap.size g 64 n fr ∧ Below w.heap.size w wr ∧ g < wr.heap.size ∧
    (k = 0 ∨ ∃ (b : Nat) (o l c : Int), fr (k - 1) = .pointer (some ⟨b, 0, none⟩) ∧ BareAt wr b o l c ∧ b ≠ g ∧ PosK w x (k - 1) o l c)
set_option maxHeartbeats 4000000 in
set_option maxRecDepth 100000 in
theorem fe128 (x : Addr) (n cap : Nat) (s : ByteArray) (w : World) (hn : n ≤ 65536) (hs : s.size ≤ 1048576) (h12 : n * 12 + s.size ≤ 1048576) (hp : ∀ i, i < n → Pos3At w (x.add (i * 3))) :
    Calls Try.prog 8 #[.slice (some x) n cap, .string s] w fun e w' => e = .returned (.bool true) ∧ Below w.heap.size w w' := by
  have HP := Lib.hid hp
  clear hp
  have d1 : decide ((65536 : Int) < (n : Int)) = false := by simp; omega
  have d2 : decide ((1048576 : Int) < (s.size : Int)) = false := by simp; omega
  have d3 : ¬ (1048576 : Int) < (n : Int) * 12 + (s.size : Int) := by omega
  have hmk := makeSt n (by omega)
  have hnil := fun (w : World) (a : Option Addr) (n c n' c' : Nat) => run_neq_slice_nil_any (P := Try.prog) w 80 84 a n c n' c' Try.underlying80
  go_enter Try.func8, Try.ntmps8
  go_wp2_with fail
  refine (zzBytesFE_any _ _ _ _ _ (by omega) (by omega)).mono ?_
  rintro e w' ⟨b, rfl, rfl⟩
  cases b
  · go_wp2
    go_ret
    exact ⟨rfl, Below.refl _ _⟩
  go_wp2_with fail
  go_slots
  go_loopw [36] (fun i wr => RelFE w x w.heap.size n i wr) (fun i _ => n - (intOf i).toNat)
  case atStart => exact ⟨0, _, by omega, by go_num, RowF.fresh w _ _ (Nat.le_refl _) (by unfold maxLen; omega), by go_grown, by simp, .inl rfl⟩
  case round =>
    obtain ⟨k, fr, hk, rfl, hR, hB, hg, hlast⟩ := hrel
    by_cases hlt : k < n
    · obtain ⟨o, l, c, p0, p1, p2, bo⟩ := HP.out k hlt
      have q0 := keepc hB p0
      have q1 : wr.cell? { block := (x.add (k * 3)).block, off := (x.add (k * 3)).off + 1 } = _ := keepc hB p1
      have q2 : wr.cell? { block := (x.add (k * 3)).block, off := (x.add (k * 3)).off + 2 } = _ := keepc hB p2
      have lx := World.block_lt_of_cell? _ _ q0
      have hlt' : (k : Int) < (n : Int) := by omega
      have i0 : (0 : Int) ≤ (k : Int) := by omega
      have HR := Lib.hid hR
      have HB := Lib.hid hB
      have P0 := Lib.hid p0
      have P1 := Lib.hid p1
      have P2' := Lib.hid p2
      have sw := hB.size
      clear hR hB hlast p0 p1 p2
      go_wp2_with fail
      refine (zzPos128_any o l c wr (by omega) (by omega) (by omega) (by omega) (by omega) (by omega)).mono ?_
      rintro e w1 ⟨rfl, hb⟩
      have R1 := HR.out.keep hb
      have hd := R1.cell hlt
      have hf := R1.frz k
      have lg := R1.lt.2
      have s1 := hb.size
      have B1 := bmore HB.out hb
      have HR1 := Lib.hid R1
      have HB1 := Lib.hid B1
      clear hb R1 B1 q0 q1 q2
      go_wp2
      go_roundw
      case rel =>
        refine ⟨k + 1, _, by omega, by go_num, RowF.keep (RowF.put HR1.out _) ((Below.refl _ _).alloc (Nat.le_refl _) _), (HB1.out.setCell (p := ⟨w.heap.size, k, none⟩) (Nat.le_refl _) _).alloc (by simp [World.setCell]; omega) _, by simp [World.setCell]; omega, .inr ⟨w1.heap.size, o, l, c, by simp, Bk.newAt (by simp [World.setCell]), by omega, P0.out, P1.out, P2'.out, bo⟩⟩
      case measure => simp [intOf]; omega
    · obtain rfl : k = n := by omega
      have hlt' : ¬ (k : Int) < (k : Int) := by omega
      clear hlt
      have HR := Lib.hid hR
      have HB := Lib.hid hB
      have HL := Lib.hid hlast
      clear hR hB hlast
      go_wp2_with fail
      rcases k with _ | m
      · refine (File_End_any _ (some ⟨w.heap.size, 0, none⟩) 0 0 0 0 _ (by simp [go_sem]) (by simp [go_sem]) (fun W _ => stmtsEnd_none _ _ W)).mono ?_
        rintro e w1 ⟨rfl, hb⟩
        have B1 := bmore (w := w) (HB.out.alloc HB.out.size _) hb
        have s1 := B1.size
        clear hb
        go_wp2
        go_ret
        exact ⟨rfl, by go_grown⟩
      · obtain ⟨b, o, l, c, hfr, hbare, hne, p0, p1, p2, b0, b1, b2, b3, b4, b5⟩ : ∃ (b : Nat) (o l c : Int), fr m = .pointer (some ⟨b, 0, none⟩) ∧ BareAt wr b o l c ∧ b ≠ w.heap.size ∧ PosK w x m o l c := by
          rcases HL.out with h | h
          · omega
          · exact h
        have hO := npO_bd o b0
        have hLb := npL_bd l c b2 b4
        have hcell := HR.out.cell (j := m) (by omega)
        rw [hfr] at hcell
        have hv0 : vld 0 0 = false := by decide
        have A1 : Below wr.heap.size wr (wr.alloc (.cells #[.string s, .slice (some ⟨w.heap.size, 0, none⟩) (m + 1) (m + 1), .slice none 0 0] 87)) := (Below.refl _ _).alloc (Nat.le_refl _) _
        have HBare := Lib.hid hbare
        have HC := Lib.hid hcell
        have HA1 := Lib.hid A1
        have hend : ∀ W, Below (wr.alloc (.cells #[.string s, .slice (some ⟨w.heap.size, 0, none⟩) (m + 1) (m + 1), .slice none 0 0] 87)).heap.size (wr.alloc (.cells #[.string s, .slice (some ⟨w.heap.size, 0, none⟩) (m + 1) (m + 1), .slice none 0 0] 87)) W → Calls Try.prog 77 #[.slice (some ⟨w.heap.size, 0, none⟩) (m + 1) (m + 1), .slice none 0 0] W fun e w' => e = .returned (P2 (npO o) (npL l c)) ∧ Below W.heap.size W w' := by
          intro W hW
          have hW2 := bmore A1 hW
          refine stmtsEnd_last _ m (m + 1) b _ _ W (by omega) (keepc hW2 hcell) (keepc hW2 (by rw [Bk.cells hbare]; rfl)) (fun W3 h3 => ?_)
          have := Stmt_End_bare b _ _ _ 0 0 false false false false W3 (Bk.keep (Bk.keep hbare hW2) h3) hv0 (by omega) (by omega) (by omega) (by omega)
          rw [if_neg (by simp)] at this
          exact this
        have HE := Lib.hid hend
        clear hend hcell hbare A1 hfr HL
        refine (File_End_any _ (some ⟨w.heap.size, 0, none⟩) (m + 1) (m + 1) (npO o) (npL l c) _ (by simp [go_sem]) (by simp [go_sem]) HE.out).mono ?_
        rintro e w1 ⟨rfl, hb⟩
        have B1 := bmore (w := w) (HB.out.alloc HB.out.size _) hb
        have q0 := keepc B1 p0
        have q1 : w1.cell? { block := (x.add (m * 3)).block, off := (x.add (m * 3)).off + 1 } = _ := keepc B1 p1
        have q2 : w1.cell? { block := (x.add (m * 3)).block, off := (x.add (m * 3)).off + 2 } = _ := keepc B1 p2
        have lx := World.block_lt_of_cell? _ _ q0
        have j0 : (0 : Int) ≤ (m : Int) := by omega
        have j1 : (m : Int) < (m : Int) + 1 := by omega
        clear hb HE HA1 HC HBare p0 p1 p2 HR HB HP
        have s1 := B1.size
        have ho : offv (npO o) = npO o := by unfold offv; rw [if_neg (by omega)]
        go_wp2_with fail
        refine wp_gen (S := FinFE w w1.heap.size (w1.heap.size + 1) (npO o) (npL l c) o l c) ⟨by simp [go_sem], by simp [go_sem], by simp [go_sem], by simp [go_sem], by simp [go_sem], (B1.alloc s1 _).alloc (by simp; omega) _⟩ ?_
        generalize w1.heap.size + 1 = gl
        generalize w1.heap.size = gg
        clear B1 q0 q1 q2 lx s1
        intro W hW
        go_region_held3 (fun W => W.cell? ⟨gg, 0, none⟩ = some (.int .u32 (npO o)) ∧ W.cell? ⟨gg, 1, none⟩ = some (.int .u32 (npL l c)) ∧ W.cell? ⟨gl, 0, none⟩ = some (.int .u32 o) ∧ W.cell? ⟨gl, 1, none⟩ = some (.int .u32 l) ∧ W.cell? ⟨gl, 2, none⟩ = some (.int .u32 c) ∧ Below w.heap.size w W) (first | exact FinFE.keep hW ⟨rfl, rfl, rfl, Nat.le_refl _, fun _ _ => rfl⟩ | exact FinFE.keep (by assumption) (by assumption))
          (first | (go_at_call 38; refine (zzPos128_any o l c _ (by omega) (by omega) (by omega) (by omega) (by omega) (by omega)).mono ?_; rintro e w' ⟨rfl, hb⟩) | (go_at_call 40; refine (offset_any _ _ _ (by omega) (by omega)).mono ?_; rw [ho]; rintro e w' ⟨rfl, hb⟩) | (go_at_call 41; refine (zzRawOff128_any o l c _ (by omega) (by omega)).mono ?_; rintro e w' ⟨rfl, hb⟩) | (go_at_call 42; refine (isValid_any _ _ _).mono ?_; rintro e w' ⟨rfl, hb⟩) | (go_at_call 43; refine (zzRawValid128_any o l c _ (by omega) (by omega)).mono ?_; rintro e w' ⟨rfl, hb⟩))
        rename_i hH
        have hBB := hH.2.2.2.2.2
        clear hH
        go_wp2
        go_ret
        exact ⟨rfl, hBB⟩
theorem feNil128 (s : ByteArray) (w : World) (hs : s.size ≤ 1048576) :
    Calls Try.prog 8 #[.slice none 0 0, .string s] w fun e w' => e = .returned (.bool true) ∧ Below w.heap.size w w' := by
  have hnil := fun (w : World) (a : Option Addr) (n c n' c' : Nat) => run_neq_slice_nil_any (P := Try.prog) w 80 84 a n c n' c' Try.underlying80
  have d2 : decide ((1048576 : Int) < (s.size : Int)) = false := by simp; omega
  go_enter Try.func8, Try.ntmps8
  go_wp2_with fail
  refine (zzBytesFE_any _ _ _ _ _ (by omega) (by omega)).mono ?_
  rintro e w' ⟨b, rfl, rfl⟩
  cases b
  · go_wp2
    go_ret
    exact ⟨rfl, Below.refl _ _⟩
  go_wp2_with fail
  refine (File_End_any _ none 0 0 0 0 _ (by simp [go_sem]) (by simp [go_sem]) (fun W _ => stmtsEnd_none _ _ W)).mono ?_
  rintro e w1 ⟨rfl, hb⟩
  have B1 := bmore (w := w) (by go_grown) hb
  have s1 := B1.size
  clear hb
  go_wp2
  go_ret
  exact ⟨rfl, by go_grown⟩
theorem feBig128 (a : Option Addr) (n cap : Nat) (s : ByteArray) (w : World) (hn : n ≤ 9223372036854775807) (hs : s.size ≤ 9223372036854775807) (h : ¬ (n ≤ 65536 ∧ s.size ≤ 1048576 ∧ n * 12 + s.size ≤ 1048576)) :
    Calls Try.prog 8 #[.slice a n cap, .string s] w fun e w' => e = .returned (.bool true) ∧ Below w.heap.size w w' := by
  by_cases h1 : 65536 < n
  · clear h
    go_enter Try.func8, Try.ntmps8
    go_wp2_with (go_at_call 37; refine (zzBytesFE_any _ _ _ _ _ hn hs).mono ?_; rintro e w' ⟨b, rfl, rfl⟩; cases b)
    all_goals (go_ret; exact ⟨rfl, Below.refl _ _⟩)
  by_cases h2 : 1048576 < s.size
  · clear h
    go_enter Try.func8, Try.ntmps8
    go_wp2_with (go_at_call 37; refine (zzBytesFE_any _ _ _ _ _ hn hs).mono ?_; rintro e w' ⟨b, rfl, rfl⟩; cases b)
    all_goals (go_ret; exact ⟨rfl, Below.refl _ _⟩)
  have h3 : (1048576 : Int) < (n : Int) * 12 + (s.size : Int) := by omega
  clear h
  go_enter Try.func8, Try.ntmps8
  go_wp2_with (go_at_call 37; refine (zzBytesFE_any _ _ _ _ _ hn hs).mono ?_; rintro e w' ⟨b, rfl, rfl⟩; cases b)
  all_goals (go_ret; exact ⟨rfl, Below.refl _ _⟩)
theorem walkFnFileEndNoComments (a0 : Option Addr) (len0 cap0 : Nat) (a1 : ByteArray) (w : World) (w0 : IsPoss w a0 len0 cap0) (w1 : a1.size ≤ maxLen) :
    Calls Try.prog 8 #[.slice a0 len0 cap0, .string a1] w fun e w' => e = .returned (.bool true) ∧ Below w.heap.size w w' := by
  unfold maxLen at w1
  by_cases h : len0 ≤ 65536 ∧ a1.size ≤ 1048576 ∧ len0 * 12 + a1.size ≤ 1048576
  · rcases w0 with ⟨rfl, rfl, rfl⟩ | ⟨x, rfl, hl, hm, hp⟩
    · exact feNil128 a1 w h.2.1
    · exact fe128 x len0 cap0 a1 w h.1 h.2.1 h.2.2 (fun i hi => hp i (by omega))
  · have hb : len0 ≤ 9223372036854775807 := by
      rcases w0 with ⟨rfl, rfl, rfl⟩ | ⟨x, rfl, hl, hm, hp⟩
      · omega
      · unfold maxLen at hm; omega
    exact feBig128 a0 len0 cap0 a1 w hb (by omega) h
end Go.Proofs.Ytimaobpcefgdkaa
