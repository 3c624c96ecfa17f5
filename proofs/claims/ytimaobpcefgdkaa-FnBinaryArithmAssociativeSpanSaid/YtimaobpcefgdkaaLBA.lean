/- The walk of FnBinaryArithmAssociativeSpan. -/
import Derived.Test.YtimaobpcefgdkaaBA
namespace Go.Proofs.Ytimaobpcefgdkaa
open Go.RowKit
/-- The offsets' row and what lies below. -/
def Row19 (w : World) (g n : Nat) (f : Nat → Int) (W : World) : Prop := RowF W w.heap.size g 26 n (fun j => .int .u32 (f j)) ∧ Below w.heap.size w W
theorem Row19.keep {w W W1 : World} {g n : Nat} {f : Nat → Int} (h : Row19 w g n f W) (hb : Below W.heap.size W W1) : Row19 w g n f W1 := ⟨h.1.keep hb, bmore h.2 hb⟩
def Two19 (w : World) (g n i j : Nat) (f : Nat → Int) (W : World) : Prop := W.cell? ⟨g, i, none⟩ = some (.int .u32 (f i)) ∧ W.cell? ⟨g, j, none⟩ = some (.int .u32 (f j)) ∧ Row19 w g n f W
theorem Two19.keep {w W W1 : World} {g n i j : Nat} {f : Nat → Int} (h : Two19 w g n i j f W) (hb : Below W.heap.size W W1) : Two19 w g n i j f W1 := ⟨keepc hb h.1, keepc hb h.2.1, h.2.2.keep hb⟩
theorem Two19.drew {w W : World} {g n i j : Nat} {f : Nat → Int} (h : Two19 w g n i j f W) : Two19 w g n i j f W.drew := h.keep ⟨rfl, rfl, rfl, Nat.le_refl _, fun _ _ => rfl⟩
theorem Row19.two {w W : World} {g n i j : Nat} {f : Nat → Int} (h : Row19 w g n f W) (hi : i < n) (hj : j < n) : Two19 w g n i j f W := ⟨h.1.cell hi, h.1.cell hj, h⟩
theorem BA.drew {W : World} {b : Nat} {f l lc : Int} (h : BA W b f l lc) : BA W.drew b f l lc := h.keep ⟨rfl, rfl, rfl, Nat.le_refl _, fun _ _ => rfl⟩
/-- What the law's end leans on. -/
def Fin19 (w : World) (g m bL bR p q : Nat) (f : Nat → Int) (lc : Int) (W : World) : Prop :=
  W.cell? ⟨p, 0, none⟩ = some (.int .u32 (f 0)) ∧ W.cell? ⟨p, 1, none⟩ = some (.int .u32 lc) ∧ W.cell? ⟨q, 0, none⟩ = some (.int .u32 (f (m + 1))) ∧ W.cell? ⟨q, 1, none⟩ = some (.int .u32 lc) ∧ W.cell? ⟨g, 0, none⟩ = some (.int .u32 (f 0)) ∧ W.cell? ⟨g, m + 1, none⟩ = some (.int .u32 (f (m + 1))) ∧ BA W bL (f 0) (f (m + 1)) lc ∧ BA W bR (f 0) (f (m + 1)) lc ∧ Below w.heap.size w W
theorem Fin19.keep {w W W1 : World} {g m bL bR p q : Nat} {f : Nat → Int} {lc : Int} (h : Fin19 w g m bL bR p q f lc W) (hb : Below W.heap.size W W1) : Fin19 w g m bL bR p q f lc W1 :=
  ⟨keepc hb h.1, keepc hb h.2.1, keepc hb h.2.2.1, keepc hb h.2.2.2.1, keepc hb h.2.2.2.2.1, keepc hb h.2.2.2.2.2.1, h.2.2.2.2.2.2.1.keep hb, h.2.2.2.2.2.2.2.1.keep hb, bmore h.2.2.2.2.2.2.2.2 hb⟩
theorem Fin19.drew {w W : World} {g m bL bR p q : Nat} {f : Nat → Int} {lc : Int} (h : Fin19 w g m bL bR p q f lc W) : Fin19 w g m bL bR p q f lc W.drew := h.keep ⟨rfl, rfl, rfl, Nat.le_refl _, fun _ _ => rfl⟩
theorem Fin19.pL {w W : World} {g m bL bR p q : Nat} {f : Nat → Int} {lc : Int} (h : Fin19 w g m bL bR p q f lc W) : Calls Try.prog 69 #[.pointer (some ⟨bL, 0, none⟩)] W fun e w' => e = .returned (P2 (f 0) lc) ∧ Below W.heap.size W w' := h.2.2.2.2.2.2.1.1 _ (Below.refl _ _)
theorem Fin19.pR {w W : World} {g m bL bR p q : Nat} {f : Nat → Int} {lc : Int} (h : Fin19 w g m bL bR p q f lc W) : Calls Try.prog 69 #[.pointer (some ⟨bR, 0, none⟩)] W fun e w' => e = .returned (P2 (f 0) lc) ∧ Below W.heap.size W w' := h.2.2.2.2.2.2.2.1.1 _ (Below.refl _ _)
theorem Fin19.eL {w W : World} {g m bL bR p q : Nat} {f : Nat → Int} {lc : Int} (h : Fin19 w g m bL bR p q f lc W) : Calls Try.prog 70 #[.pointer (some ⟨bL, 0, none⟩)] W fun e w' => e = .returned (P2 (f (m + 1)) lc) ∧ Below W.heap.size W w' := h.2.2.2.2.2.2.1.2 _ (Below.refl _ _)
theorem Fin19.eR {w W : World} {g m bL bR p q : Nat} {f : Nat → Int} {lc : Int} (h : Fin19 w g m bL bR p q f lc W) : Calls Try.prog 70 #[.pointer (some ⟨bR, 0, none⟩)] W fun e w' => e = .returned (P2 (f (m + 1)) lc) ∧ Below W.heap.size W w' := h.2.2.2.2.2.2.2.1.2 _ (Below.refl _ _)
set_option maxHeartbeats 8000000 in
set_option maxRecDepth 100000 in
theorem ba19 (a : Option Addr) (x : Addr) (m c : Nat) (f : Nat → Int) (lc : Int) (w : World) (hm : m + 2 ≤ 4096) (ha : a = some x) (hs : ∀ i, i < m + 2 → w.cell? (x.add i) = some (.int .u32 (f i)))
    (hl : lc ≠ 0) (h0 : f 0 ≤ f (m + 1)) (h1 : f (m + 1) ≤ 4294967284) (hf : ∀ i, i < m + 2 → 0 ≤ f i ∧ f i < 4294967296) :
    Calls Try.prog 12 #[.slice a (m + 2) c, .int .u32 lc] w fun e w' => e = .returned (.bool true) ∧ Below w.heap.size w w' := by
  subst ha
  have x0 : w.cell? x = some (.int .u32 (f 0)) := by simpa [Addr.add] using hs 0 (by omega)
  have x1 : w.cell? (x.add (m + 1)) = some (.int .u32 (f (m + 1))) := hs (m + 1) (by omega)
  have x2 : w.cell? { block := x.block, off := x.off + (m + 1) } = some (.int .u32 (f (m + 1))) := x1
  have HS := Lib.hid hs
  have HF := Lib.hid hf
  clear hs hf
  have hl' : (lc == 0) = false := by simpa using hl
  have h0' : decide (f (m + 1) < f 0) = false := by simp; omega
  have h1' : decide (4294967284 < f (m + 1)) = false := by simp; omega
  have n1 : ¬ (4096 : Int) < (m : Int) + 2 := by omega
  have n2 : ¬ (m : Int) + 2 < 2 := by omega
  have n3 : (0 : Int) < (m : Int) + 2 := by omega
  have n4 : (m : Int) + 1 < (m : Int) + 2 := by omega
  have n5 : (0 : Int) ≤ (m : Int) + 1 := by omega
  have n6 : (1 : Int) < (m : Int) + 2 := by omega
  have hmk : ∀ W : World, (Instr.makeSlice 22 (.int .i64 ((m : Int) + 2)) (.int .i64 ((m : Int) + 2))).run Try.prog W = .ok (.slice (some ⟨W.heap.size, 0, none⟩) (m + 2) (m + 2)) (W.alloc (.cells (madeCells #[.int .u32 0] (m + 2)) 26)) := fun W => by
    have h := make19 (m + 2) (by omega) W
    rwa [show ((m + 2 : Nat) : Int) = (m : Int) + 2 by omega] at h
  go_enter Try.func12, Try.ntmps12
  go_wp2_with fail
  refine (zzBytes19_any _ _ _ _ _ (by omega)).mono ?_
  rintro e w' ⟨b, rfl, rfl⟩
  cases b
  · go_wp2
    go_ret
    exact ⟨rfl, Below.refl _ _⟩
  have iw : IntKind.i64.wrap ((m : Int) + 2 - 1) = (m : Int) + 1 := (IntWalk.i64_in _ (by omega)).trans (by omega)
  have it : ((m : Int) + 1).toNat = m + 1 := by omega
  go_wp2_with fail
  go_quiet (fail)
  clear iw it
  go_wp2_with fail
  refine wp_gen (S := fun W => RowF W w.heap.size w.heap.size 26 (m + 2) (fun _ => .int .u32 0) ∧ Below w.heap.size w W) ⟨RowF.fresh (n := m + 2) _ _ _ (Nat.le_refl _) (show m + 2 ≤ maxLen by unfold maxLen; omega), (bdrewN (Below.refl _ _) _).alloc (Nat.le_refl _) _⟩ ?_
  clear x0 x1 x2
  rintro W ⟨hR, hB⟩
  go_loopw [7] (fun i wr => ∃ k : Nat, k ≤ m + 2 ∧ i = .int .i64 k ∧ RowF wr w.heap.size w.heap.size 26 (m + 2) (fun j => if j < k then .int .u32 (f j) else .int .u32 0) ∧ Below w.heap.size w wr) (fun i _ => m + 2 - (intOf i).toNat)
  case atStart => exact ⟨0, by omega, by go_num, hR.congr (fun j _ => by simp), hB⟩
  case round =>
    clear hR hB
    obtain ⟨k, hk, rfl, hR, hB⟩ := hrel
    by_cases hlt : k < m + 2
    · have hc : wr.cell? (x.add k) = some (.int .u32 (f k)) := (hB.cell (World.block_lt_of_cell? _ _ (HS.out k hlt))).trans (HS.out k hlt)
      have hd := hR.cell hlt
      have hf := hR.frz k
      have hg := hR.lt.2
      rw [if_neg (by omega)] at hd
      have hlt' : (k : Int) < (m : Int) + 2 := by omega
      have HR := Lib.hid hR
      clear hR
      go_wp2
      go_roundw
      case rel => exact ⟨k + 1, by omega, by go_num, (HR.out.put _).congr (fun j hj => by by_cases h1 : j = k <;> by_cases h2 : j < k <;> simp [h1, h2] <;> omega), hB.setCell (by simp) _⟩
      case measure => simp [intOf]; omega
    · obtain rfl : k = m + 2 := by omega
      have hrow : Row19 w w.heap.size (m + 2) f wr := ⟨hR.congr (fun j hj => by simp [hj]), hB⟩
      clear hR hB hk hlt HS hmk
      have ng : ¬ ((m : Int) + 2 < (m : Int) + 2) := by omega
      go_wp2_with fail
      have hT := hrow.two (i := 0) (j := 1) (by omega) (by omega)
      clear hrow
      go_region_held3 (fun W => W.cell? ⟨w.heap.size, 0, none⟩ = some (.int .u32 (f 0)) ∧ W.cell? ⟨w.heap.size, 1, none⟩ = some (.int .u32 (f 1)) ∧ Row19 w w.heap.size (m + 2) f W) (first | exact Two19.drew hT | exact Two19.keep (by assumption) (by assumption) | exact Two19.keep (by assumption) (by go_grown))
        (first | (go_at_call 67; refine (zzPos19_any _ _ _).mono ?_; rintro e w' ⟨rfl, hb⟩) | (go_at_call_of 68 (P2 (f 0) lc); refine (zzLitWord19_any _ _ _ _ _).mono ?_; rintro e wl ⟨b1, rfl, k1, hb⟩) | (go_at_call 68; refine (zzLitWord19_any _ _ _ _ _).mono ?_; rintro e wm ⟨b2, rfl, k2, hb⟩))
      rename_i hH
      have hrow := hH.2.2
      have hBA : BA _ wm.heap.size (f 0) (f 1) lc := BA.ww (Bk.fresh wm 116 #[.int .u32 (f 0), .int .u32 lc, .int .u32 81, .iface 34 (.pointer (some ⟨b1, 0, none⟩)), .iface 34 (.pointer (some ⟨b2, 0, none⟩))]) ((k1.keep (by exact bmore (bmore (by assumption) (by assumption)) (by assumption))).keep (by go_grown)) (k2.keep (by go_grown))
      clear hH hT k1 k2
      go_wp2_with fail
      go_loopw [8, 9] (fun v i wr => ∃ (k b : Nat), 2 ≤ k ∧ k ≤ m + 2 ∧ v = .pointer (some ⟨b, 0, none⟩) ∧ i = .int .i64 k ∧ BA wr b (f 0) (f (k - 1)) lc ∧ Row19 w w.heap.size (m + 2) f wr) (fun _ i _ => m + 2 - (intOf i).toNat)
      case atStart => exact ⟨2, _, by omega, by omega, rfl, by go_num, hBA, hrow⟩
      case round =>
        clear hBA hrow
        obtain ⟨k, b, hk2, hk, rfl, rfl, hBA, hrow⟩ := hrel
        by_cases hlt : k < m + 2
        · have hT := hrow.two (i := k) (j := k) hlt hlt
          have hlt' : (k : Int) < (m : Int) + 2 := by omega
          have hk0 : (0 : Int) ≤ (k : Int) := by omega
          have HB := Lib.hid hBA
          clear hrow hBA
          go_wp2_with fail
          go_region_held3 (fun W => W.cell? ⟨w.heap.size, k, none⟩ = some (.int .u32 (f k)) ∧ W.cell? ⟨w.heap.size, k, none⟩ = some (.int .u32 (f k)) ∧ Row19 w w.heap.size (m + 2) f W) (first | exact Two19.drew hT | exact Two19.keep (by assumption) (by assumption) | exact Two19.keep (by assumption) (by go_grown))
            (first | (go_at_call 67; refine (zzPos19_any _ _ _).mono ?_; rintro e w' ⟨rfl, hb⟩) | (go_at_call 68; refine (zzLitWord19_any _ _ _ _ _).mono ?_; rintro e wm ⟨b2, rfl, k2, hb⟩))
          rename_i hH
          have hrow := hH.2.2
          have hBA : BA _ wm.heap.size (f 0) (f k) lc := BA.bw (Bk.fresh wm 116 #[.int .u32 (f k), .int .u32 lc, .int .u32 81, .iface 111 (.pointer (some ⟨b, 0, none⟩)), .iface 34 (.pointer (some ⟨b2, 0, none⟩))]) ((HB.out.drew.keep (by exact bmore (bmore (bmore (by assumption) (by assumption)) (by assumption)) (by assumption))).keep (by go_grown)) (k2.keep (by go_grown))
          clear hH hT k2 HB
          go_wp2_with fail
          go_roundw
          case rel => exact ⟨k + 1, _, by omega, by omega, rfl, by go_num, hBA, hrow⟩
          case measure => simp [intOf]; omega
        · obtain rfl : k = m + 2 := by omega
          have hT := hrow.two (i := m) (j := m + 1) (by omega) (by omega)
          have ng : ¬ ((m : Int) + 2 < (m : Int) + 2) := by omega
          replace hBA : BA wr b (f 0) (f (m + 1)) lc := hBA
          have HB := Lib.hid hBA
          clear hrow hBA hk hk2 hlt
          go_wp2_with fail
          have iw1 : IntKind.i64.wrap ((m : Int) + 2 - 1) = (m : Int) + 1 := (IntWalk.i64_in _ (by omega)).trans (by omega)
          have iw2 : IntKind.i64.wrap ((m : Int) + 2 - 2) = (m : Int) := (IntWalk.i64_in _ (by omega)).trans (by omega)
          have iw3 : IntKind.i64.wrap (m : Int) = (m : Int) := IntWalk.i64_in _ (by omega)
          have it : ((m : Int) + 1).toNat = m + 1 := by omega
          have n7 : (m : Int) < (m : Int) + 2 := by omega
          have n8 : (0 : Int) ≤ (m : Int) := by omega
          go_region_held3 (fun W => W.cell? ⟨w.heap.size, m, none⟩ = some (.int .u32 (f m)) ∧ W.cell? ⟨w.heap.size, m + 1, none⟩ = some (.int .u32 (f (m + 1))) ∧ Row19 w w.heap.size (m + 2) f W) (first | exact Two19.drew hT | exact Two19.keep (by assumption) (by assumption) | exact Two19.keep (by assumption) (by go_grown))
            (first | (go_at_call 67; refine (zzPos19_any _ _ _).mono ?_; rintro e w' ⟨rfl, hb⟩) | (go_at_call_of 68 (P2 (f m) lc); refine (zzLitWord19_any _ _ _ _ _).mono ?_; rintro e wl ⟨b1, rfl, k1, hb⟩) | (go_at_call 68; refine (zzLitWord19_any _ _ _ _ _).mono ?_; rintro e wm ⟨b2, rfl, k2, hb⟩))
          rename_i hH
          have hrow := hH.2.2
          have hR : BA _ wm.heap.size (f m) (f (m + 1)) lc := BA.ww (Bk.fresh wm 116 #[.int .u32 (f (m + 1)), .int .u32 lc, .int .u32 81, .iface 34 (.pointer (some ⟨b1, 0, none⟩)), .iface 34 (.pointer (some ⟨b2, 0, none⟩))]) ((k1.keep (by exact bmore (bmore (by assumption) (by assumption)) (by assumption))).keep (by go_grown)) (k2.keep (by go_grown))
          have hL := (HB.out.drew.keep (by exact bmore (bmore (bmore (bmore (bmore (bmore (by assumption) (by assumption)) (by assumption)) (by assumption)) (by assumption)) (by assumption)) (by assumption))).keep (W1 := wm.alloc (.cells #[.int .u32 (f (m + 1)), .int .u32 lc, .int .u32 81, .iface 34 (.pointer (some ⟨b1, 0, none⟩)), .iface 34 (.pointer (some ⟨b2, 0, none⟩))] 116)) (by go_grown)
          clear hH hT k1 k2 HB iw1 iw2 iw3 it
          go_wp2_with fail
          go_loopw [10, 11] (fun v i wr => ∃ (j b2 : Nat), j ≤ m ∧ v = .pointer (some ⟨b2, 0, none⟩) ∧ i = .int .i64 ((j : Int) - 1) ∧ BA wr b2 (f j) (f (m + 1)) lc ∧ BA wr b (f 0) (f (m + 1)) lc ∧ Row19 w w.heap.size (m + 2) f wr) (fun _ i _ => (intOf i + 1).toNat)
          case atStart => exact ⟨m, _, by omega, rfl, by congr 1; omega, hR, hL, hrow⟩
          case round =>
            clear hR hL hrow
            obtain ⟨j, b2, hj, rfl, hi, hR, hL, hrow⟩ := hrel
            rcases j with _ | j
            · obtain rfl := (hi : _ = Value.int .i64 (-1))
              have hT := hrow.two (i := 0) (j := m + 1) (by omega) (by omega)
              have HL := Lib.hid hL
              have HR := Lib.hid hR
              clear hrow hL hR hj
              have c0 := hT.1
              have c1 := hT.2.1
              have hBw := hT.2.2.2
              have lg := World.block_lt_of_cell? _ _ c0
              clear hT
              go_wp2_with fail
              refine (zzPos19_any _ _ _).mono ?_
              rintro e v1 ⟨rfl, hb⟩
              have HL1 := Lib.hid (HL.out.keep hb)
              have HR1 := Lib.hid (HR.out.keep hb)
              have d0 := keepc hb c0
              have d1 := keepc hb c1
              have hB1 := bmore hBw hb
              have lg1 := World.block_lt_of_cell? _ _ d0
              clear HL HR c0 c1 hBw lg hb
              go_wp2_with fail
              refine (zzPos19_any _ _ _).mono ?_
              rintro e v2 ⟨rfl, hb⟩
              have hF : Fin19 w w.heap.size m b b2 v1.heap.size v2.heap.size f lc (v2.alloc (.cells #[.int .u32 (f (m + 1)), .int .u32 lc] 30)) := by
                have hb2 := bmore ((Below.refl _ v1).alloc (Nat.le_refl _) (.cells #[.int .u32 (f 0), .int .u32 lc] 30)) hb
                have kP := ((Bk.fresh v1 30 #[.int .u32 (f 0), .int .u32 lc]).keep hb).alloc (.cells #[.int .u32 (f (m + 1)), .int .u32 lc] 30)
                have kQ := Bk.fresh v2 30 #[.int .u32 (f (m + 1)), .int .u32 lc]
                have ha := (Below.refl _ v2).alloc (Nat.le_refl _) (.cells #[.int .u32 (f (m + 1)), .int .u32 lc] 30)
                exact ⟨by rw [kP.cells]; rfl, by rw [kP.cells]; rfl, by rw [kQ.cells]; rfl, by rw [kQ.cells]; rfl, keepc ha (keepc hb2 d0), keepc ha (keepc hb2 d1), (HL1.out.keep hb2).keep ha, (HR1.out.keep hb2).keep ha, bmore (bmore hB1 hb2) ha⟩
              clear HL1 HR1 d0 d1 hB1 lg1 hb
              go_wp2_with fail
              refine wp_gen (S := fun W => Fin19 w w.heap.size m b b2 v1.heap.size v2.heap.size f lc W) hF ?_
              clear hF
              intro W hF
              go_region_held3 (fun W => W.cell? ⟨v1.heap.size, 0, none⟩ = some (.int .u32 (f 0)) ∧ W.cell? ⟨v1.heap.size, 1, none⟩ = some (.int .u32 lc) ∧ W.cell? ⟨v2.heap.size, 0, none⟩ = some (.int .u32 (f (m + 1))) ∧ W.cell? ⟨v2.heap.size, 1, none⟩ = some (.int .u32 lc) ∧ W.cell? ⟨w.heap.size, 0, none⟩ = some (.int .u32 (f 0)) ∧ W.cell? ⟨w.heap.size, m + 1, none⟩ = some (.int .u32 (f (m + 1))) ∧ BA W b (f 0) (f (m + 1)) lc ∧ BA W b2 (f 0) (f (m + 1)) lc ∧ Below w.heap.size w W) (first | exact Fin19.drew hF | exact Fin19.keep (by assumption) (by assumption))
                (first | (go_at_call_of 69 (Value.pointer (some ⟨b, 0, none⟩)); refine (Fin19.pL (w := w) (p := v1.heap.size) (q := v2.heap.size) (g := w.heap.size) (bR := b2) (by assumption)).mono ?_; rintro e w' ⟨rfl, hb⟩) | (go_at_call_of 69 (Value.pointer (some ⟨b2, 0, none⟩)); refine (Fin19.pR (w := w) (p := v1.heap.size) (q := v2.heap.size) (g := w.heap.size) (bL := b) (by assumption)).mono ?_; rintro e w' ⟨rfl, hb⟩) | (go_at_call_of 70 (Value.pointer (some ⟨b, 0, none⟩)); refine (Fin19.eL (w := w) (p := v1.heap.size) (q := v2.heap.size) (g := w.heap.size) (bR := b2) (by assumption)).mono ?_; rintro e w' ⟨rfl, hb⟩) | (go_at_call_of 70 (Value.pointer (some ⟨b2, 0, none⟩)); refine (Fin19.eR (w := w) (p := v1.heap.size) (q := v2.heap.size) (g := w.heap.size) (bL := b) (by assumption)).mono ?_; rintro e w' ⟨rfl, hb⟩) | (go_at_call 29; refine (after_any _ _ _ _ _).mono ?_; rintro e w' ⟨rfl, hb⟩))
              rename_i hH
              clear hF
              have hF : Fin19 w w.heap.size m b b2 v1.heap.size v2.heap.size f lc _ := hH
              clear hH
              go_wp2_with fail
              go_region_held3 (fun W => W.cell? ⟨v1.heap.size, 0, none⟩ = some (.int .u32 (f 0)) ∧ W.cell? ⟨v1.heap.size, 1, none⟩ = some (.int .u32 lc) ∧ W.cell? ⟨v2.heap.size, 0, none⟩ = some (.int .u32 (f (m + 1))) ∧ W.cell? ⟨v2.heap.size, 1, none⟩ = some (.int .u32 lc) ∧ W.cell? ⟨w.heap.size, 0, none⟩ = some (.int .u32 (f 0)) ∧ W.cell? ⟨w.heap.size, m + 1, none⟩ = some (.int .u32 (f (m + 1))) ∧ BA W b (f 0) (f (m + 1)) lc ∧ BA W b2 (f 0) (f (m + 1)) lc ∧ Below w.heap.size w W) (first | exact Fin19.drew hF | exact Fin19.keep (by assumption) (by assumption))
                (first | (go_at_call_of 69 (Value.pointer (some ⟨b, 0, none⟩)); refine (Fin19.pL (w := w) (p := v1.heap.size) (q := v2.heap.size) (g := w.heap.size) (bR := b2) (by assumption)).mono ?_; rintro e w' ⟨rfl, hb⟩) | (go_at_call_of 69 (Value.pointer (some ⟨b2, 0, none⟩)); refine (Fin19.pR (w := w) (p := v1.heap.size) (q := v2.heap.size) (g := w.heap.size) (bL := b) (by assumption)).mono ?_; rintro e w' ⟨rfl, hb⟩) | (go_at_call_of 70 (Value.pointer (some ⟨b, 0, none⟩)); refine (Fin19.eL (w := w) (p := v1.heap.size) (q := v2.heap.size) (g := w.heap.size) (bR := b2) (by assumption)).mono ?_; rintro e w' ⟨rfl, hb⟩) | (go_at_call_of 70 (Value.pointer (some ⟨b2, 0, none⟩)); refine (Fin19.eR (w := w) (p := v1.heap.size) (q := v2.heap.size) (g := w.heap.size) (bL := b) (by assumption)).mono ?_; rintro e w' ⟨rfl, hb⟩) | (go_at_call 29; refine (after_any _ _ _ _ _).mono ?_; rintro e w' ⟨rfl, hb⟩))
              rename_i hH
              clear hF
              have hF : Fin19 w w.heap.size m b b2 v1.heap.size v2.heap.size f lc _ := hH
              have HH := Lib.hid hF
              clear hH hF
              have q0 : aft (f 0) lc (f (m + 1)) = false := by
                have : ¬ f (m + 1) < f 0 := by omega
                simp [aft, this]
              go_wp2_with fail
              refine HH.out.pL.mono ?_
              rintro e v3 ⟨rfl, hb⟩
              have HH1 := Lib.hid (HH.out.keep hb)
              clear HH hb
              go_wp2_with fail
              refine HH1.out.eL.mono ?_
              rintro e v4 ⟨rfl, hb⟩
              have HH := Lib.hid (HH1.out.keep hb)
              clear HH1 hb
              go_wp2_with fail
              refine (after_any _ _ _ _ _).mono ?_
              rintro e v5 ⟨rfl, hb⟩
              have hF := HH.out.keep hb
              rw [q0]
              clear HH hb q0
              have iw1 : IntKind.i64.wrap ((m : Int) + 2 - 1) = (m : Int) + 1 := (IntWalk.i64_in _ (by omega)).trans (by omega)
              have it : ((m : Int) + 1).toNat = m + 1 := by omega
              by_cases hlt : f 0 < f (m + 1)
              · have hd : decide (f 0 < f (m + 1)) = true := by simpa using hlt
                have q1 : aft (f (m + 1)) lc (f 0) = true := by
                  simp [aft, vld_mk h1 hl, hlt]
                go_wp2_with fail
                go_region_held3 (fun W => W.cell? ⟨v1.heap.size, 0, none⟩ = some (.int .u32 (f 0)) ∧ W.cell? ⟨v1.heap.size, 1, none⟩ = some (.int .u32 lc) ∧ W.cell? ⟨v2.heap.size, 0, none⟩ = some (.int .u32 (f (m + 1))) ∧ W.cell? ⟨v2.heap.size, 1, none⟩ = some (.int .u32 lc) ∧ W.cell? ⟨w.heap.size, 0, none⟩ = some (.int .u32 (f 0)) ∧ W.cell? ⟨w.heap.size, m + 1, none⟩ = some (.int .u32 (f (m + 1))) ∧ BA W b (f 0) (f (m + 1)) lc ∧ BA W b2 (f 0) (f (m + 1)) lc ∧ Below w.heap.size w W) (first | exact Fin19.drew hF | exact Fin19.keep (by assumption) (by assumption))
                  (first | (go_at_call_of 69 (Value.pointer (some ⟨b, 0, none⟩)); refine (Fin19.pL (w := w) (p := v1.heap.size) (q := v2.heap.size) (g := w.heap.size) (bR := b2) (by assumption)).mono ?_; rintro e w' ⟨rfl, hb⟩) | (go_at_call_of 69 (Value.pointer (some ⟨b2, 0, none⟩)); refine (Fin19.pR (w := w) (p := v1.heap.size) (q := v2.heap.size) (g := w.heap.size) (bL := b) (by assumption)).mono ?_; rintro e w' ⟨rfl, hb⟩) | (go_at_call_of 70 (Value.pointer (some ⟨b, 0, none⟩)); refine (Fin19.eL (w := w) (p := v1.heap.size) (q := v2.heap.size) (g := w.heap.size) (bR := b2) (by assumption)).mono ?_; rintro e w' ⟨rfl, hb⟩) | (go_at_call_of 70 (Value.pointer (some ⟨b2, 0, none⟩)); refine (Fin19.eR (w := w) (p := v1.heap.size) (q := v2.heap.size) (g := w.heap.size) (bL := b) (by assumption)).mono ?_; rintro e w' ⟨rfl, hb⟩) | (go_at_call 29; refine (after_any _ _ _ _ _).mono ?_; rintro e w' ⟨rfl, hb⟩))
                rename_i hH
                have hBB := hH.2.2.2.2.2.2.2.2
                clear hH hF iw1 it
                go_wp2
                go_ret
                exact ⟨rfl, hBB⟩
              · have hd : decide (f 0 < f (m + 1)) = false := by simpa using hlt
                obtain ⟨y0, y1, y2, y3, y4, y5, _, _, hBB⟩ := hF
                go_wp2_with fail
                go_quiet (fail)
                clear iw1 it
                go_wp2
                go_ret
                exact ⟨rfl, bdrewN hBB _⟩
            · have hi2 : Value.int .i64 (((j + 1 : Nat) : Int) - 1) = Value.int .i64 (j : Int) := by congr 1; omega
              rw [hi2] at hi
              subst hi
              have hT := hrow.two (i := j) (j := j) (by omega) (by omega)
              have hlt' : (j : Int) < (m : Int) + 2 := by omega
              have hk0 : (0 : Int) ≤ (j : Int) := by omega
              have HL := Lib.hid hL
              have HR := Lib.hid hR
              clear hrow hL hR hi2
              go_wp2_with fail
              go_region_held3 (fun W => W.cell? ⟨w.heap.size, j, none⟩ = some (.int .u32 (f j)) ∧ W.cell? ⟨w.heap.size, j, none⟩ = some (.int .u32 (f j)) ∧ Row19 w w.heap.size (m + 2) f W) (first | exact Two19.drew hT | exact Two19.keep (by assumption) (by assumption) | exact Two19.keep (by assumption) (by go_grown))
                (first | (go_at_call 67; refine (zzPos19_any _ _ _).mono ?_; rintro e w' ⟨rfl, hb⟩) | (go_at_call 68; refine (zzLitWord19_any _ _ _ _ _).mono ?_; rintro e wm ⟨b3, rfl, k2, hb⟩))
              rename_i hH
              have hrow := hH.2.2
              have hR : BA _ wm.heap.size (f j) (f (m + 1)) lc := BA.wb (Bk.fresh wm 116 #[.int .u32 (f j), .int .u32 lc, .int .u32 81, .iface 34 (.pointer (some ⟨b3, 0, none⟩)), .iface 111 (.pointer (some ⟨b2, 0, none⟩))]) (k2.keep (by go_grown)) ((HR.out.drew.keep (by exact bmore (bmore (bmore (by assumption) (by assumption)) (by assumption)) (by assumption))).keep (by go_grown))
              have hL := (HL.out.drew.keep (by exact bmore (bmore (bmore (by assumption) (by assumption)) (by assumption)) (by assumption))).keep (W1 := wm.alloc (.cells #[.int .u32 (f j), .int .u32 lc, .int .u32 81, .iface 34 (.pointer (some ⟨b3, 0, none⟩)), .iface 111 (.pointer (some ⟨b2, 0, none⟩))] 116)) (by go_grown)
              clear hH hT k2 HR HL
              go_wp2_with fail
              go_roundw
              case rel => exact ⟨j, _, by omega, rfl, rfl, hR, hL, hrow⟩
              case measure => simp [intOf]
end Go.Proofs.Ytimaobpcefgdkaa
