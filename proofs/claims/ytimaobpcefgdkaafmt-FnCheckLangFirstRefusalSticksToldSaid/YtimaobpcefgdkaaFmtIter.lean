/- slices.Collect(l.bits()): the bits of a language set, in order; by the kit's law for a range over a function. -/
import Derived.Test.YtimaobpcefgdkaaFmtErrP
import Derived.RangeFuncBox
import Derived.RangeFuncLeaves
import Derived.Shelf.Abstract
import Derived.OwnWalkIn
import Derived.TacticsInMore
import Derived.LoopNIn
import Derived.LoopIn
import Derived.Maps.AppendAt
namespace Go.Proofs.YtimaobpcefgdkaaFmt
open Go.RowKit Go.Shelf
/-- The bits among the first k of 1, 2, 4, 8, 16 that the set L holds. -/
def pn : Nat → Int
  | 0 => 1 | 1 => 2 | 2 => 4 | 3 => 8 | 4 => 16 | _ => 32
def bl (L : Int) : Nat → List Int
  | 0 => []
  | k + 1 => if bits .and .i64 L (pn k) = 0 then bl L k else bl L k ++ [pn k]
theorem bl_len (L : Int) : ∀ k, (bl L k).length ≤ k
  | 0 => by simp [bl]
  | k + 1 => by
    have := bl_len L k
    unfold bl
    split
    · omega
    · simp; omega
theorem bl_no {L : Int} {k : Nat} (h : bits .and .i64 L (pn k) = 0) : bl L (k + 1) = bl L k := by simp [bl, h]
theorem bl_yes {L : Int} {k : Nat} (h : ¬ bits .and .i64 L (pn k) = 0) : bl L (k + 1) = bl L k ++ [pn k] := by simp [bl, h]
/-- What the loop over the bits keeps. -/
def RB (L : Int) (J : List Int → World → Prop) (n₀ : Nat) (W : World) (nv : Value) (wr : World) : Prop :=
  Below n₀ W wr ∧ ((nv = .int .i64 1 ∧ J (bl L 0) wr) ∨ (nv = .int .i64 2 ∧ J (bl L 1) wr) ∨ (nv = .int .i64 4 ∧ J (bl L 2) wr) ∨ (nv = .int .i64 8 ∧ J (bl L 3) wr) ∨ (nv = .int .i64 16 ∧ J (bl L 4) wr) ∨ (nv = .int .i64 32 ∧ J (bl L 5) wr))
set_option maxRecDepth 100000 in
set_option maxHeartbeats 4000000 in
theorem bits1_in (F : Fence) (n : Nat) (h27 : F.fn 27) (hro : F.round = none) (hn : 1 ≤ n) (l Bl n₀ : Nat) (L : Int) (hb : Bl < n₀) (J Jx : List Int → World → Prop)
    (hY : ∀ pre x W, J pre W → pre.length < 5 → YieldAt F (n - 1) Tryf.prog l #[.int .i64 x] W fun e W' =>
      (e = .returned (.bool true) ∧ J (pre ++ [x]) W' ∧ Below n₀ W W') ∨ (e = .returned (.bool false) ∧ Jx (pre ++ [x]) W'))
    (W : World) (hBl : W.cell? ⟨Bl, 0, none⟩ = some (.int .i64 L)) (h0 : J [] W) :
    CallsIn F n Tryf.prog 27 #[.func (.yield l) #[] #[], .pointer (some ⟨Bl, 0, none⟩)] W fun e W' => (∃ v, e = .returned v) ∧
      ((∃ ys, ys = bl L 5 ∧ J ys W') ∨ (∃ pre, True ∧ Jx pre W')) := by
  refine callsIn_of_wp Tryf.func27 rfl h27 ?_ hro
  simp only [Tryf.ntmps27, List.size_toArray, List.length_cons, List.length_nil, Nat.reduceAdd, Nat.reduceSub, Array.replicate_succ, Array.replicate_zero, List.push_toArray, List.append_toArray, List.nil_append, List.cons_append]
  gi_wp2
  gi_loopw [3] (fun nv wr => RB L J n₀ W nv wr) (fun nv _ => 64 - (intOf nv).toNat)
  case atStart => exact ⟨Below.refl _ _, .inl ⟨rfl, h0⟩⟩
  case round =>
    obtain ⟨hnx, hcase⟩ := hrel
    have hc : wr.cell? ⟨Bl, 0, none⟩ = some (.int .i64 L) := (hnx.cell (p := ⟨Bl, 0, none⟩) hb).trans hBl
    have HN := Lib.hid hnx
    have HY := Lib.hid hY
    clear hnx hY hBl h0
    rcases hcase with ⟨rfl, hJ⟩ | ⟨rfl, hJ⟩ | ⟨rfl, hJ⟩ | ⟨rfl, hJ⟩ | ⟨rfl, hJ⟩ | ⟨rfl, hJ⟩
    · have HJ := Lib.hid hJ
      clear hJ
      by_cases hz : bits .and .i64 L 1 = 0
      · have HE := Lib.hid (bl_no (k := 0) hz)
        have hz' : (bits .and .i64 L 1 == 0) = true := by simp [hz]
        clear hz
        gi_wp2
        go_roundw
        case rel => exact ⟨HN.out, .inr (.inl ⟨rfl, by rw [HE.out]; exact HJ.out⟩)⟩
        case measure => simp [intOf]
      · have HE := Lib.hid (bl_yes (k := 0) hz)
        have hz' : (bits .and .i64 L 1 == 0) = false := by simp [hz]
        obtain ⟨fn, tmps, assign, body, hy, hR⟩ := HY.out _ 1 wr HJ.out (Nat.lt_of_le_of_lt (bl_len L 0) (by omega))
        clear hz HJ
        gi_wp2
        refine hR.mono ?_
        rintro e W3 (⟨rfl, hJ3, hk3⟩ | ⟨rfl, hJx3⟩)
        · have HJ3 := Lib.hid hJ3
          have HK3 := Lib.hid hk3
          clear hJ3 hk3
          gi_wp2
          go_roundw
          case rel => exact ⟨HN.out.trans HK3.out, .inr (.inl ⟨rfl, by rw [HE.out]; exact HJ3.out⟩)⟩
          case measure => simp [intOf]
        · gi_wp2
          refine bodyPost_ret (results_none rfl _ _ _) rfl ?_
          exact ⟨⟨_, rfl⟩, .inr ⟨_, trivial, hJx3⟩⟩
    · have HJ := Lib.hid hJ
      clear hJ
      by_cases hz : bits .and .i64 L 2 = 0
      · have HE := Lib.hid (bl_no (k := 1) hz)
        have hz' : (bits .and .i64 L 2 == 0) = true := by simp [hz]
        clear hz
        gi_wp2
        go_roundw
        case rel => exact ⟨HN.out, .inr (.inr (.inl ⟨rfl, by rw [HE.out]; exact HJ.out⟩))⟩
        case measure => simp [intOf]
      · have HE := Lib.hid (bl_yes (k := 1) hz)
        have hz' : (bits .and .i64 L 2 == 0) = false := by simp [hz]
        obtain ⟨fn, tmps, assign, body, hy, hR⟩ := HY.out _ 2 wr HJ.out (Nat.lt_of_le_of_lt (bl_len L 1) (by omega))
        clear hz HJ
        gi_wp2
        refine hR.mono ?_
        rintro e W3 (⟨rfl, hJ3, hk3⟩ | ⟨rfl, hJx3⟩)
        · have HJ3 := Lib.hid hJ3
          have HK3 := Lib.hid hk3
          clear hJ3 hk3
          gi_wp2
          go_roundw
          case rel => exact ⟨HN.out.trans HK3.out, .inr (.inr (.inl ⟨rfl, by rw [HE.out]; exact HJ3.out⟩))⟩
          case measure => simp [intOf]
        · gi_wp2
          refine bodyPost_ret (results_none rfl _ _ _) rfl ?_
          exact ⟨⟨_, rfl⟩, .inr ⟨_, trivial, hJx3⟩⟩
    · have HJ := Lib.hid hJ
      clear hJ
      by_cases hz : bits .and .i64 L 4 = 0
      · have HE := Lib.hid (bl_no (k := 2) hz)
        have hz' : (bits .and .i64 L 4 == 0) = true := by simp [hz]
        clear hz
        gi_wp2
        go_roundw
        case rel => exact ⟨HN.out, .inr (.inr (.inr (.inl ⟨rfl, by rw [HE.out]; exact HJ.out⟩)))⟩
        case measure => simp [intOf]
      · have HE := Lib.hid (bl_yes (k := 2) hz)
        have hz' : (bits .and .i64 L 4 == 0) = false := by simp [hz]
        obtain ⟨fn, tmps, assign, body, hy, hR⟩ := HY.out _ 4 wr HJ.out (Nat.lt_of_le_of_lt (bl_len L 2) (by omega))
        clear hz HJ
        gi_wp2
        refine hR.mono ?_
        rintro e W3 (⟨rfl, hJ3, hk3⟩ | ⟨rfl, hJx3⟩)
        · have HJ3 := Lib.hid hJ3
          have HK3 := Lib.hid hk3
          clear hJ3 hk3
          gi_wp2
          go_roundw
          case rel => exact ⟨HN.out.trans HK3.out, .inr (.inr (.inr (.inl ⟨rfl, by rw [HE.out]; exact HJ3.out⟩)))⟩
          case measure => simp [intOf]
        · gi_wp2
          refine bodyPost_ret (results_none rfl _ _ _) rfl ?_
          exact ⟨⟨_, rfl⟩, .inr ⟨_, trivial, hJx3⟩⟩
    · have HJ := Lib.hid hJ
      clear hJ
      by_cases hz : bits .and .i64 L 8 = 0
      · have HE := Lib.hid (bl_no (k := 3) hz)
        have hz' : (bits .and .i64 L 8 == 0) = true := by simp [hz]
        clear hz
        gi_wp2
        go_roundw
        case rel => exact ⟨HN.out, .inr (.inr (.inr (.inr (.inl ⟨rfl, by rw [HE.out]; exact HJ.out⟩))))⟩
        case measure => simp [intOf]
      · have HE := Lib.hid (bl_yes (k := 3) hz)
        have hz' : (bits .and .i64 L 8 == 0) = false := by simp [hz]
        obtain ⟨fn, tmps, assign, body, hy, hR⟩ := HY.out _ 8 wr HJ.out (Nat.lt_of_le_of_lt (bl_len L 3) (by omega))
        clear hz HJ
        gi_wp2
        refine hR.mono ?_
        rintro e W3 (⟨rfl, hJ3, hk3⟩ | ⟨rfl, hJx3⟩)
        · have HJ3 := Lib.hid hJ3
          have HK3 := Lib.hid hk3
          clear hJ3 hk3
          gi_wp2
          go_roundw
          case rel => exact ⟨HN.out.trans HK3.out, .inr (.inr (.inr (.inr (.inl ⟨rfl, by rw [HE.out]; exact HJ3.out⟩))))⟩
          case measure => simp [intOf]
        · gi_wp2
          refine bodyPost_ret (results_none rfl _ _ _) rfl ?_
          exact ⟨⟨_, rfl⟩, .inr ⟨_, trivial, hJx3⟩⟩
    · have HJ := Lib.hid hJ
      clear hJ
      by_cases hz : bits .and .i64 L 16 = 0
      · have HE := Lib.hid (bl_no (k := 4) hz)
        have hz' : (bits .and .i64 L 16 == 0) = true := by simp [hz]
        clear hz
        gi_wp2
        go_roundw
        case rel => exact ⟨HN.out, .inr (.inr (.inr (.inr (.inr (⟨rfl, by rw [HE.out]; exact HJ.out⟩)))))⟩
        case measure => simp [intOf]
      · have HE := Lib.hid (bl_yes (k := 4) hz)
        have hz' : (bits .and .i64 L 16 == 0) = false := by simp [hz]
        obtain ⟨fn, tmps, assign, body, hy, hR⟩ := HY.out _ 16 wr HJ.out (Nat.lt_of_le_of_lt (bl_len L 4) (by omega))
        clear hz HJ
        gi_wp2
        refine hR.mono ?_
        rintro e W3 (⟨rfl, hJ3, hk3⟩ | ⟨rfl, hJx3⟩)
        · have HJ3 := Lib.hid hJ3
          have HK3 := Lib.hid hk3
          clear hJ3 hk3
          gi_wp2
          go_roundw
          case rel => exact ⟨HN.out.trans HK3.out, .inr (.inr (.inr (.inr (.inr (⟨rfl, by rw [HE.out]; exact HJ3.out⟩)))))⟩
          case measure => simp [intOf]
        · gi_wp2
          refine bodyPost_ret (results_none rfl _ _ _) rfl ?_
          exact ⟨⟨_, rfl⟩, .inr ⟨_, trivial, hJx3⟩⟩
    · have HJ := Lib.hid hJ
      clear hJ
      gi_wp2
      go_end0
      exact ⟨⟨_, rfl⟩, .inl ⟨_, rfl, HJ.out⟩⟩
theorem bits_stops (F : Fence) (n : Nat) (h27 : F.fn 27) (hro : F.round = none) (hn : 1 ≤ n) (Bl n₀ : Nat) (L : Int) (w : World) (hBl : Bl < n₀) (hn₀ : n₀ ≤ w.heap.size) (hc : w.cell? ⟨Bl, 0, none⟩ = some (.int .i64 L)) :
    SeqStopsK F n Tryf.prog 27 #[.pointer (some ⟨Bl, 0, none⟩)] (fun x : Int => #[Value.int .i64 x]) (Below n₀) (fun ys => ys = bl L 5) (fun _ => True) 5 w := fun l J Jx W hW _ _ hY h0 =>
  bits1_in F n h27 hro hn l Bl n₀ L hBl J Jx hY W ((hW.cell (p := ⟨Bl, 0, none⟩) (by show Bl < _; omega)).trans hc) h0
theorem infoLang : (Tryf.prog.info? 34).map (fun i => (i.zero, i.size, i.bytes)) = some (some (.int .i64 0), 1, 8) := by kernel_rfl
set_option maxRecDepth 100000 in
set_option maxHeartbeats 4000000 in
theorem appendSeq_in (F : Fence) (n : Nat) (h26 : F.fn 26) (h27 : F.fn 27) (hro : F.round = none) (hn : 3 ≤ n) (Bl : Nat) (L : Int) (w : World) (hBl : Bl < w.heap.size) (hc : w.cell? ⟨Bl, 0, none⟩ = some (.int .i64 L)) :
    CallsIn F n Tryf.prog 26 #[.slice none 0 0, .func (.func 27) #[] #[.pointer (some ⟨Bl, 0, none⟩)]] w fun e W' => ∃ v, e = .returned v ∧ W'.ownsRow w.heap.size 34 1 v (bl L 5).length ((bl L 5).map (Value.int .i64)) ∧ Below w.heap.size w W' := by
  have h1 : 1 ≤ n := by omega
  obtain ⟨i0, hi, hz0, hz1, hz2⟩ := info_parts infoLang
  refine callsIn_of_wp_marks Tryf.func26 rfl h26 ?_ hro
  simp only [Tryf.ntmps26, List.size_toArray, List.length_cons, List.length_nil, Nat.reduceAdd, Nat.reduceSub, Array.replicate_succ, Array.replicate_zero, List.push_toArray, List.append_toArray, List.nil_append, List.cons_append]
  gi_wp2
  have bO := Boxed.new w 37 (.slice none 0 0)
  have hB0 : Below w.heap.size w (w.alloc (.cells #[.slice none 0 0] 37)) := (Below.refl _ w).alloc (Nat.le_refl _) _
  refine wpIn_rangeFunc_ownG hro h1 (gf := 27) (lb := #[.pointer (some ⟨Bl, 0, none⟩)]) rfl h27 (enters_of Tryf.func27 (by kernel_rfl) rfl)
    (bits_stops F (n - 1) h27 hro (by omega) Bl w.heap.size L _ hBl (by simp) ((hB0.cell (p := ⟨Bl, 0, none⟩) hBl).trans hc)) belowK_t (belowK_b (by simp)) (Below.refl _ _) (fun _ => rfl)
    (fun (pre : List Int) W => (∃ v, Boxed W w.heap.size 37 v ∧ W.ownsRow w.heap.size 34 1 v pre.length (pre.map (Value.int .i64)) ∧ True) ∧ Below w.heap.size w W)
    (fun _ _ _ => False)
    (OwnFrom.and (Own.from (holdsRow_own w.heap.size w.heap.size 37 34 1 (fun (pre : List Int) => pre.length) (fun pre => pre.map (Value.int .i64)) (fun _ _ => True)) _) (ownFrom_below (Nat.le_refl _) (by simp)))
    (fun _ _ _ _ _ hs _ _ => hs)
    ⟨⟨_, bO, World.ownsRow_nil _ _ _ _, trivial⟩, hB0⟩
    (fun x => { tmps := #[.slice none 0 0, .func (.func 27) #[] #[.pointer (some ⟨Bl, 0, none⟩)], .pointer (some ⟨w.heap.size, 0, none⟩), undef, .slice none 0 0, .int .i64 x, .func (.func 27) #[] #[.pointer (some ⟨Bl, 0, none⟩)], .int .i64 x, undef, undef, undef, undef, undef], defers := [] }) ?assign ?body ?done ?stop
  case assign =>
    intro l x W K hK
    gi_wp2_with (rw [Oper.semAt_eq _ _ _ (fun c h => by cases h)]; go_simp; try go_bits)
    exact hK
  case body =>
    rintro l pre x W ⟨⟨v, hv, hrow, _⟩, hB⟩ hlt
    have hc := hv.cell
    gi_wp2_with (first
      | (gi_at_builtin; refine wpListIn_append_own _ rfl _ _ 37 rfl w.heap.size 34 i0 (.int .i64 0) 1 8 Tryf.underlying37 hi hz0 hz1 hz2 rfl (by decide) _ _ _ rfl (hrow.alloc _) ⟨W.heap.size, 0, none⟩ 1 1 [.int .i64 x] rfl rfl (cell_one_new _ _ _) (by simp [Value.oneCell']) (by unfold maxLen; omega) (by omega) (by have := hB.size; simp; omega) ?_; intro v' w1 hown' hgrow _; obtain ⟨g', cap', rfl⟩ := ownsRow_succ hown'; obtain ⟨hv1, hv2, hr2, hk2, hb2⟩ := hv.appended (by decide) hrow hB.size (Nat.le_refl _) hown' hgrow; have hc1 := hv1.cell; have hf1 := hv1.frozen)
      | (rw [Oper.semAt_eq _ _ _ (fun c h => by cases h)]; go_simp; try go_bits))
    exact ⟨hk2.from _, hb2, ⟨_, hv2, by simpa using hr2, trivial⟩, hB.trans hb2⟩
  case done =>
    rintro D ys W hD rfl ⟨⟨v, hv, hrow, _⟩, hB⟩ hK
    have hc := hv.cell
    gi_wp2
    refine ⟨by simp, .inl ⟨_, _, rfl, run_takeDeferred hK, ?_⟩⟩
    exact ⟨_, results_tmp rfl _ _ _, v, rfl, ownsRow_putObj hrow _ hK rfl, hB.trans (belowK_b (w := w) (Nat.le_refl _) W D _ _ (by simp at hD; omega) hK rfl rfl)⟩
  case stop =>
    rintro D c pre W _ _ h _
    exact h.elim
set_option maxRecDepth 100000 in
theorem collect_in (F : Fence) (n : Nat) (h23 : F.fn 23) (h26 : F.fn 26) (h27 : F.fn 27) (hro : F.round = none) (hn : 4 ≤ n) (Bl : Nat) (L : Int) (w : World) (hBl : Bl < w.heap.size) (hc : w.cell? ⟨Bl, 0, none⟩ = some (.int .i64 L)) :
    CallsIn F n Tryf.prog 23 #[.func (.func 27) #[] #[.pointer (some ⟨Bl, 0, none⟩)]] w fun e W' => ∃ v, e = .returned v ∧ W'.ownsRow w.heap.size 34 1 v (bl L 5).length ((bl L 5).map (Value.int .i64)) ∧ Below w.heap.size w W' := by
  have h1 : 1 ≤ n := by omega
  refine callsIn_of_wp Tryf.func23 rfl h23 ?_ hro
  simp only [Tryf.ntmps23, List.size_toArray, List.length_cons, List.length_nil, Nat.reduceAdd, Nat.reduceSub, Array.replicate_succ, Array.replicate_zero, List.push_toArray, List.append_toArray, List.nil_append, List.cons_append]
  gi_wp2_with (gi_at_call 26; refine (appendSeq_in F (n - 1) h26 h27 hro (by omega) Bl L _ hBl hc).mono ?_; rintro e w' ⟨v, rfl, hrow, hb⟩)
  go_ret
  exact ⟨v, rfl, hrow, hb⟩
/-- slices.Collect over the bits of L, outside any fence. -/
theorem collect_any (Bl : Nat) (L : Int) (w : World) (hBl : Bl < w.heap.size) (hc : w.cell? ⟨Bl, 0, none⟩ = some (.int .i64 L)) :
    Calls Tryf.prog 23 #[.func (.func 27) #[] #[.pointer (some ⟨Bl, 0, none⟩)]] w fun e W' => ∃ v, e = .returned v ∧ W'.ownsRow w.heap.size 34 1 v (bl L 5).length ((bl L 5).map (Value.int .i64)) ∧ Below w.heap.size w W' :=
  callsIn_wide.1 (collect_in Fence.wide 4 trivial trivial trivial rfl (Nat.le_refl _) Bl L w hBl hc)
theorem bits_any (L : Int) (w : World) : Calls Tryf.prog 24 #[.int .i64 L] w fun e w' => e = .returned (.func (.func 27) #[] #[.pointer (some ⟨w.heap.size, 0, none⟩)]) ∧ w' = w.alloc (.cells #[.int .i64 L] 34) := by
  go_enter Tryf.func24, Tryf.ntmps24
  go_wp2
  go_ret
  exact ⟨rfl, rfl⟩
end Go.Proofs.YtimaobpcefgdkaaFmt
