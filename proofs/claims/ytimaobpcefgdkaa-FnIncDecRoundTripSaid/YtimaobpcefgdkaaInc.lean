/- Contracts for FnIncDecRoundTrip: the printer of the law, incLevel and decLevel, the small loops over bools. -/
import Derived.Test.YtimaobpcefgdkaaArgs
import Derived.Test.YtimaobpcefgdkaaStep
import Derived.Deep.Cut
namespace Go.Proofs.Ytimaobpcefgdkaa
open Go.RowKit
theorem zzBytes138_any (a b : Int) (a2 : Option Addr) (l c : Nat) (w : World) (h1 : l ≤ 9223372036854775807) :
    Calls Try.prog 44 #[.int .u64 a, .int .u64 b, .slice a2 l c] w fun e w' => ∃ b : Bool, e = .returned (.bool b) ∧ w = w' := by
  go_enter Try.func44, Try.ntmps44
  go_wp2
  all_goals (go_ret; exact ⟨_, rfl, rfl⟩)
def SomeU (w : World) (e : Ending) (w' : World) : Prop := ∃ n : Int, 0 ≤ n ∧ n ≤ 1048576 ∧ e = .returned (.int .u64 n) ∧ w = w'
set_option maxHeartbeats 1000000 in
theorem zzTrues_any (a : Option Addr) (l c : Nat) (B : Nat → Bool) (w : World) (hs : Src w a l (fun i => .bool (B i))) (hl : l ≤ 1048576) :
    Calls Try.prog 45 #[.slice a l c] w (SomeU w) := by
  have HS := Lib.hid hs
  clear hs
  go_enter Try.func45, Try.ntmps45
  go_wp2
  go_loop [3, 4] (fun n i => ∃ k : Nat, ∃ m : Nat, k ≤ l ∧ m ≤ k ∧ i = .int .i64 k ∧ n = .int .u64 m) (fun _ i => l - (intOf i).toNat)
  case atStart => exact ⟨0, 0, by omega, by omega, by go_num, by go_num⟩
  case round =>
    obtain ⟨k, m, hk, hm, rfl, rfl⟩ := hrel
    by_cases hlt : k < l
    · obtain ⟨x, rfl, hc⟩ := HS.out.at_ hlt
      have hlt' : (k : Int) < (l : Int) := by omega
      cases hb : B k
      · rw [hb] at hc
        clear hb
        go_wp2
        go_round
        case rel => exact ⟨k + 1, m, by omega, by omega, by go_num, rfl⟩
        case measure => simp [intOf]; omega
      · rw [hb] at hc
        clear hb
        go_wp2
        go_round
        case rel => exact ⟨k + 1, m + 1, by omega, by omega, by go_num, by go_num⟩
        case measure => simp [intOf]; omega
    · go_wp2
      go_ret
      exact ⟨m, by omega, by omega, rfl, rfl⟩
def prCells (c0 : Value) (lv ll : Int) (s : Value) : Array Value :=
  #[c0, .pointer none, .pointer none, .int .i64 0, .bool false, .int .u64 0, .bool false, .bool false, .bool false, .bool false, .bool false, .bool false, .bool false, .int .u8 0, .bool false, .bool false, .bool false, .slice none 0 0, .bool false, .int .u64 0, .int .u64 ll, .int .u64 lv, s, .bool false, .slice none 0 0, .pointer none]
theorem assert138 (w : World) : (Instr.typeAssert (.iface 141 (.agg #[])) 164 138 true).run Try.prog w = .ok (.tuple #[.pointer none, .bool false]) w := by kernel_rfl
theorem make138 (w : World) : (Instr.makeSlice 72 (.int .i64 4096) (.int .i64 4096)).run Try.prog w = .ok (.slice (some ⟨w.heap.size, 0, none⟩) 4096 4096) (w.alloc (.cells (madeCells #[.int .u8 0] 4096) 5)) :=
  makeN 72 5 (.int .u8 0) 1 Try.underlying72 (by kernel_rfl) rfl 4096 (by omega) (by omega) w
def NewPr (w : World) (lv ll : Int) (s : Value) (e : Ending) (w' : World) : Prop :=
  ∃ (b : Nat) (c0 : Value), e = .returned (.pointer (some ⟨b, 0, none⟩)) ∧ w.heap.size ≤ b ∧ Bk w' b 149 (prCells c0 lv ll s) ∧ Below w.heap.size w w'
set_option maxHeartbeats 1000000 in
set_option maxRecDepth 100000 in
theorem newPrinter138 (lv ll : Int) (A : Option Addr) (n c : Nat) (w : World) :
    Calls Try.prog 47 #[.int .u64 lv, .int .u64 ll, .slice A n c] w (NewPr w lv ll (.slice A n c)) := by
  have hta := fun (w : World) => assert138 w
  have hmk := fun (w : World) => make138 w
  go_enter Try.func47, Try.ntmps47
  go_wp2
  go_ret
  exact ⟨_, _, rfl, by omega, by repeat (first | (refine Bk.newAt ?_; simp; done) | refine Bk.alloc ?_ _ | refine Bk.drew ?_), by go_grown⟩
theorem own_far {W : World} {base n : Nat} {e : TypeId} {v : Value} {xs : List Value} (ho : W.ownsRow base e 1 v n xs) {p : Addr} (hp : v.ownBlock ≠ some p.block) (u : Value) : (W.setCell p u).ownsRow base e 1 v n xs := by
  refine ⟨ho.1, ?_⟩
  rcases ho.2 with h | ⟨g', cap, cur, h', hb, hg, hr⟩
  · exact .inl h
  · subst h'
    refine .inr ⟨g', cap, cur, rfl, hb, (Below.heap_setCell W p u g' ?_).trans hg, hr⟩
    intro h
    exact hp (by simp [Value.ownBlock, h])
theorem own_drewN {W : World} {base n : Nat} {e : TypeId} {v : Value} {xs : List Value} (ho : W.ownsRow base e 1 v n xs) (k : Nat) : (W.drewN k).ownsRow base e 1 v n xs := ho
theorem Bk.drewN {w : World} {g : Nat} {t : TypeId} {cs : Array Value} (h : Bk w g t cs) (k : Nat) : Bk (w.drewN k) g t cs := h
theorem Bk.ne_own {w : World} {b base n : Nat} {t e : TypeId} {cs : Array Value} {v : Value} {xs : List Value} (h : Bk w b t cs) (ho : w.ownsRow base e 1 v n xs) (hne : t ≠ e) : v.ownBlock ≠ some b := by
  rcases ho.2 with ⟨h', _⟩ | ⟨g2, cap2, cur, h', _, hg, _⟩
  · subst h'; simp [Value.ownBlock]
  · subst h'
    intro hh
    simp [Value.ownBlock] at hh
    subst hh
    unfold Bk at h
    rw [h] at hg
    injection hg with hg
    injection hg with _ ht
    exact hne ht
theorem info138 : (Try.prog.info? 4).map (fun i => (i.zero, i.size, i.bytes)) = some (some (.bool false), 1, 1) := by kernel_rfl
theorem own_shape {w : World} {base n : Nat} {e : TypeId} {v : Value} {xs : List Value} (ho : w.ownsRow base e 1 v (n + 1) xs) : ∃ g c : Nat, v = .slice (some ⟨g, 0, none⟩) (n + 1) c := by
  rcases ho.2 with ⟨_, h⟩ | ⟨g, c, _, h, _⟩
  · omega
  · exact ⟨g, c, h⟩
theorem Bk.grownO {w w' : World} {g : Nat} {t : TypeId} {cs : Array Value} {row : Option Nat} (h : Bk w g t cs) (hb : w.grownBy w' row) (hg : row ≠ some g) : Bk w' g t cs := (hb.block g h.lt (fun e => hg e.symm)).trans h
theorem below_app {B : Nat} {w W w1 : World} {v : Value} {n : Nat} {e : TypeId} {xs : List Value} (h : Below B w W) (hB : B ≤ W.heap.size) (hown : W.ownsRow B e 1 v n xs) (hg : W.grownBy w1 v.ownBlock) : Below B w w1 := by
  refine h.trans ⟨hg.os, hg.tape, hg.output, hg.size, fun i hi => hg.block i (by omega) ?_⟩
  intro h1
  have := hown.lt i h1.symm
  omega
/-- Behind incLevel: the level, the records and what lies below. -/
def IncPost (base b n : Nat) (c0 : Value) (lv ll : Int) (xs : List Value) (inc : Bool) (w : World) (e : Ending) (w' : World) : Prop :=
  ∃ g c : Nat, e = .returned (.tuple #[]) ∧ Bk w' b 149 (prCells c0 lv ll (.slice (some ⟨g, 0, none⟩) (n + 1) c)) ∧ w'.ownsRow base 4 1 (.slice (some ⟨g, 0, none⟩) (n + 1) c) (n + 1) (xs ++ [.bool inc]) ∧ Below base w w'
set_option maxHeartbeats 1000000 in
set_option maxRecDepth 100000 in
theorem inc138_A1 (b base n c : Nat) (A : Option Addr) (c0 : Value) (lv ll : Int) (xs : List Value) (w : World) (hk : Bk w b 149 (prCells c0 lv ll (.slice A n c))) (ho : w.ownsRow base 4 1 (.slice A n c) n xs) (hb : base ≤ b) (hn : n ≤ 65536) (hl : lv ≤ ll) :
    Calls Try.prog 86 #[.pointer (some ⟨b, 0, none⟩)] w (IncPost base b n c0 ((lv + 1) % 18446744073709551616) ll xs true w) := by
  obtain ⟨i0, hi, hz0, hz1, hz2⟩ := info_parts info138
  have hi2 := Lib.hid hi
  have hz0' := Lib.hid hz0
  have hz1' := Lib.hid hz1
  have hz2' := Lib.hid hz2
  clear hi hz0 hz1 hz2
  have c20 : w.cell? ⟨b, 20, none⟩ = some (.int .u64 ll) := by rw [hk.cells]; rfl
  have c21 : w.cell? ⟨b, 21, none⟩ = some (.int .u64 lv) := by rw [hk.cells]; rfl
  have c22 : w.cell? ⟨b, 22, none⟩ = some (.slice A n c) := by rw [hk.cells]; rfl
  have hf := hk.frz
  have hlt := hk.lt
  have HK := Lib.hid hk
  have HN := Lib.hid (hk.ne_own ho (by decide))
  have HO := Lib.hid ho
  clear hk ho
  have hd : decide (lv ≤ ll) = true := by simpa using hl
  go_enter Try.func86, Try.ntmps86
  go_wp2_with fail
  go_quiet (fail)
  go_upto_region 8 with (fail)
  refine wp_gen (S := fun W => Bk W b 149 (prCells c0 ((lv + 1) % 18446744073709551616) ll (.slice A n c)) ∧ W.ownsRow base 4 1 (.slice A n c) n xs ∧ Below base w W) ⟨(HK.out.drewN _).put 21 _, own_far (own_drewN HO.out _) HN.out _, ((bdrewN (Below.refl _ _) _).setCell (by simpa using hb) _)⟩ ?_
  clear c20 c21 c22 hf hlt HK HO
  rintro W ⟨hk, ho, hB⟩
  have c22 : W.cell? ⟨b, 22, none⟩ = some (.slice A n c) := by rw [hk.cells]; rfl
  have hf := hk.frz
  have hlt := hk.lt
  have HK := Lib.hid hk
  have HO := Lib.hid ho
  clear hk ho
  go_wp2_with (at_builtin; refine wpList_append_own _ rfl _ _ 93 rfl base 4 i0 (.bool false) 1 1 Try.underlying93 hi2.out hz0'.out hz1'.out hz2'.out rfl (by decide) (.slice A n c) n xs rfl (HO.out.alloc _) ⟨W.heap.size, 0, none⟩ 1 1 [.bool true] rfl rfl (news_one (Bk.fresh _ _ _)) (by simp [Value.oneCell']) (by unfold maxLen; omega) (by omega) (by simp; omega) ?_; intro v2 w2 ho2 hg2 _; obtain ⟨g2, cap2, rfl⟩ := own_shape ho2; have hB2 := below_app (hB.alloc (by omega) _) (by simp; omega) (HO.out.alloc _) hg2; have k2 := (HK.out.alloc _).grownO hg2 HN.out; have hf2 := k2.frz; have hlt2 := k2.lt; have c22b : w2.cell? ⟨b, 22, none⟩ = some (.slice A n c) := (by rw [k2.cells]; rfl); have HK2 := Lib.hid k2; have HO2 := Lib.hid ho2; clear k2 ho2 hg2)
  go_end0
  exact ⟨g2, cap2, rfl, HK2.out.put 22 _, own_far HO2.out (HK2.out.ne_own HO2.out (by decide)) _, hB2.setCell (by simpa using hb) _⟩
set_option maxHeartbeats 1000000 in
set_option maxRecDepth 100000 in
theorem inc138_A2 (b base n c : Nat) (A : Option Addr) (c0 : Value) (lv ll : Int) (xs : List Value) (w : World) (hk : Bk w b 149 (prCells c0 lv ll (.slice A n c))) (ho : w.ownsRow base 4 1 (.slice A n c) n xs) (hb : base ≤ b) (hn : n ≤ 65536) (hz : n = 0) (hl : ¬ lv ≤ ll) :
    Calls Try.prog 86 #[.pointer (some ⟨b, 0, none⟩)] w (IncPost base b n c0 ((lv + 1) % 18446744073709551616) ll xs true w) := by
  obtain ⟨i0, hi, hz0, hz1, hz2⟩ := info_parts info138
  have hi2 := Lib.hid hi
  have hz0' := Lib.hid hz0
  have hz1' := Lib.hid hz1
  have hz2' := Lib.hid hz2
  clear hi hz0 hz1 hz2
  have c20 : w.cell? ⟨b, 20, none⟩ = some (.int .u64 ll) := by rw [hk.cells]; rfl
  have c21 : w.cell? ⟨b, 21, none⟩ = some (.int .u64 lv) := by rw [hk.cells]; rfl
  have c22 : w.cell? ⟨b, 22, none⟩ = some (.slice A n c) := by rw [hk.cells]; rfl
  have hf := hk.frz
  have hlt := hk.lt
  have HK := Lib.hid hk
  have HN := Lib.hid (hk.ne_own ho (by decide))
  have HO := Lib.hid ho
  clear hk ho
  have hd : decide (lv ≤ ll) = false := by simpa using hl
  have hz' : ((n : Int) == 0) = true := by simp [hz]
  have HZ := Lib.hid hz
  clear hz
  go_enter Try.func86, Try.ntmps86
  go_wp2_with fail
  go_quiet (fail)
  go_upto_region 8 with (fail)
  refine wp_gen (S := fun W => Bk W b 149 (prCells c0 ((lv + 1) % 18446744073709551616) ll (.slice A n c)) ∧ W.ownsRow base 4 1 (.slice A n c) n xs ∧ Below base w W) ⟨(HK.out.drewN _).put 21 _, own_far (own_drewN HO.out _) HN.out _, ((bdrewN (Below.refl _ _) _).setCell (by simpa using hb) _)⟩ ?_
  clear c20 c21 c22 hf hlt HK HO
  rintro W ⟨hk, ho, hB⟩
  have c22 : W.cell? ⟨b, 22, none⟩ = some (.slice A n c) := by rw [hk.cells]; rfl
  have hf := hk.frz
  have hlt := hk.lt
  have HK := Lib.hid hk
  have HO := Lib.hid ho
  clear hk ho
  go_wp2_with (at_builtin; refine wpList_append_own _ rfl _ _ 93 rfl base 4 i0 (.bool false) 1 1 Try.underlying93 hi2.out hz0'.out hz1'.out hz2'.out rfl (by decide) (.slice A n c) n xs rfl (HO.out.alloc _) ⟨W.heap.size, 0, none⟩ 1 1 [.bool true] rfl rfl (news_one (Bk.fresh _ _ _)) (by simp [Value.oneCell']) (by unfold maxLen; omega) (by omega) (by simp; omega) ?_; intro v2 w2 ho2 hg2 _; obtain ⟨g2, cap2, rfl⟩ := own_shape ho2; have hB2 := below_app (hB.alloc (by omega) _) (by simp; omega) (HO.out.alloc _) hg2; have k2 := (HK.out.alloc _).grownO hg2 HN.out; have hf2 := k2.frz; have hlt2 := k2.lt; have c22b : w2.cell? ⟨b, 22, none⟩ = some (.slice A n c) := (by rw [k2.cells]; rfl); have HK2 := Lib.hid k2; have HO2 := Lib.hid ho2; clear k2 ho2 hg2)
  go_end0
  exact ⟨g2, cap2, rfl, HK2.out.put 22 _, own_far HO2.out (HK2.out.ne_own HO2.out (by decide)) _, hB2.setCell (by simpa using hb) _⟩
set_option maxHeartbeats 1000000 in
set_option maxRecDepth 100000 in
theorem inc138_B (b base m c g : Nat) (c0 : Value) (lv ll : Int) (xs : List Value) (w : World) (hk : Bk w b 149 (prCells c0 lv ll (.slice (some ⟨g, 0, none⟩) (m + 1) c))) (ho : w.ownsRow base 4 1 (.slice (some ⟨g, 0, none⟩) (m + 1) c) (m + 1) xs) (hb : base ≤ b) (hn : m + 1 ≤ 65536) (hl : ¬ lv ≤ ll) (hx : xs[m]? = some (.bool true)) :
    Calls Try.prog 86 #[.pointer (some ⟨b, 0, none⟩)] w (IncPost base b (m + 1) c0 lv ll (xs.set m (.bool false)) true w) := by
  obtain ⟨i0, hi, hz0, hz1, hz2⟩ := info_parts info138
  have hi2 := Lib.hid hi
  have hz0' := Lib.hid hz0
  have hz1' := Lib.hid hz1
  have hz2' := Lib.hid hz2
  clear hi hz0 hz1 hz2
  have c20 : w.cell? ⟨b, 20, none⟩ = some (.int .u64 ll) := by rw [hk.cells]; rfl
  have c21 : w.cell? ⟨b, 21, none⟩ = some (.int .u64 lv) := by rw [hk.cells]; rfl
  have c22 : w.cell? ⟨b, 22, none⟩ = some (.slice (some ⟨g, 0, none⟩) (m + 1) c) := by rw [hk.cells]; rfl
  have cg : w.cell? ⟨g, m, none⟩ = some (.bool true) := by rw [ho.cellAt m (by omega), hx]
  have fg : w.frozen? ⟨g, m, none⟩ = false := ho.frozenAt m
  have lg : g < w.heap.size := (ho.lt g rfl).2
  have bg : base ≤ g := (ho.lt g rfl).1
  have hf := hk.frz
  have hlt := hk.lt
  have HK := Lib.hid hk
  have HN := Lib.hid (hk.ne_own ho (by decide))
  have hbg : b ≠ g := fun h => HN.out (by simp [Value.ownBlock, h])
  have HG := Lib.hid hbg
  have HO := Lib.hid ho
  clear hk ho hx hbg
  have hd : decide (lv ≤ ll) = false := by simpa using hl
  have hz' : (((m : Int) + 1) == 0) = false := by simp; omega
  have i0' : (0 : Int) ≤ (m : Int) := Int.natCast_nonneg _
  have i1' : (m : Int) < (m : Int) + 1 := by omega
  have iw : IntKind.i64.wrap (m : Int) = (m : Int) := IntWalk.i64_in _ (by omega)
  go_enter Try.func86, Try.ntmps86
  go_wp2_with fail
  go_quiet (fail)
  go_wp2_with fail
  go_quiet (fail)
  clear iw
  go_upto_region 8 with (fail)
  refine wp_gen (S := fun W => Bk W b 149 (prCells c0 lv ll (.slice (some ⟨g, 0, none⟩) (m + 1) c)) ∧ W.ownsRow base 4 1 (.slice (some ⟨g, 0, none⟩) (m + 1) c) (m + 1) (xs.set m (.bool false)) ∧ Below base w W) ⟨(HK.out.drewN _).far HG.out _, (World.ownsRow.stored (own_drewN HO.out _) m (.bool false)).1, (bdrewN (Below.refl _ _) _).setCell (by simpa using bg) _⟩ ?_
  clear c20 c21 c22 hf hlt HK HO cg fg lg bg
  rintro W ⟨hk, ho, hB⟩
  have c22 : W.cell? ⟨b, 22, none⟩ = some (.slice (some ⟨g, 0, none⟩) (m + 1) c) := by rw [hk.cells]; rfl
  have hf := hk.frz
  have hlt := hk.lt
  have HK := Lib.hid hk
  have HO := Lib.hid ho
  clear hk ho
  go_wp2_with (at_builtin; refine wpList_append_own _ rfl _ _ 93 rfl base 4 i0 (.bool false) 1 1 Try.underlying93 hi2.out hz0'.out hz1'.out hz2'.out rfl (by decide) (.slice (some ⟨g, 0, none⟩) (m + 1) c) (m + 1) (xs.set m (.bool false)) rfl (HO.out.alloc _) ⟨W.heap.size, 0, none⟩ 1 1 [.bool true] rfl rfl (news_one (Bk.fresh _ _ _)) (by simp [Value.oneCell']) (by unfold maxLen; omega) (by omega) (by simp; omega) ?_; intro v2 w2 ho2 hg2 _; obtain ⟨g2, cap2, rfl⟩ := own_shape ho2; have hB2 := below_app (hB.alloc (by omega) _) (by simp; omega) (HO.out.alloc _) hg2; have k2 := (HK.out.alloc _).grownO hg2 HN.out; have hf2 := k2.frz; have hlt2 := k2.lt; have c22b : w2.cell? ⟨b, 22, none⟩ = some (.slice (some ⟨g, 0, none⟩) (m + 1) c) := (by rw [k2.cells]; rfl); have HK2 := Lib.hid k2; have HO2 := Lib.hid ho2; clear k2 ho2 hg2)
  go_end0
  exact ⟨g2, cap2, rfl, HK2.out.put 22 _, own_far HO2.out (HK2.out.ne_own HO2.out (by decide)) _, hB2.setCell (by simpa using hb) _⟩
set_option maxHeartbeats 1000000 in
set_option maxRecDepth 100000 in
theorem inc138_C (b base m c g : Nat) (c0 : Value) (lv ll : Int) (xs : List Value) (w : World) (hk : Bk w b 149 (prCells c0 lv ll (.slice (some ⟨g, 0, none⟩) (m + 1) c))) (ho : w.ownsRow base 4 1 (.slice (some ⟨g, 0, none⟩) (m + 1) c) (m + 1) xs) (hb : base ≤ b) (hn : m + 1 ≤ 65536) (hl : ¬ lv ≤ ll) (hx : xs[m]? = some (.bool false)) :
    Calls Try.prog 86 #[.pointer (some ⟨b, 0, none⟩)] w (IncPost base b (m + 1) c0 lv ll xs false w) := by
  obtain ⟨i0, hi, hz0, hz1, hz2⟩ := info_parts info138
  have hi2 := Lib.hid hi
  have hz0' := Lib.hid hz0
  have hz1' := Lib.hid hz1
  have hz2' := Lib.hid hz2
  clear hi hz0 hz1 hz2
  have c20 : w.cell? ⟨b, 20, none⟩ = some (.int .u64 ll) := by rw [hk.cells]; rfl
  have c21 : w.cell? ⟨b, 21, none⟩ = some (.int .u64 lv) := by rw [hk.cells]; rfl
  have c22 : w.cell? ⟨b, 22, none⟩ = some (.slice (some ⟨g, 0, none⟩) (m + 1) c) := by rw [hk.cells]; rfl
  have cg : w.cell? ⟨g, m, none⟩ = some (.bool false) := by rw [ho.cellAt m (by omega), hx]
  have fg : w.frozen? ⟨g, m, none⟩ = false := ho.frozenAt m
  have lg : g < w.heap.size := (ho.lt g rfl).2
  have bg : base ≤ g := (ho.lt g rfl).1
  have hf := hk.frz
  have hlt := hk.lt
  have HK := Lib.hid hk
  have HN := Lib.hid (hk.ne_own ho (by decide))
  have hbg : b ≠ g := fun h => HN.out (by simp [Value.ownBlock, h])
  have HG := Lib.hid hbg
  have HO := Lib.hid ho
  clear hk ho hx hbg
  have hd : decide (lv ≤ ll) = false := by simpa using hl
  have hz' : (((m : Int) + 1) == 0) = false := by simp; omega
  have i0' : (0 : Int) ≤ (m : Int) := Int.natCast_nonneg _
  have i1' : (m : Int) < (m : Int) + 1 := by omega
  have iw : IntKind.i64.wrap (m : Int) = (m : Int) := IntWalk.i64_in _ (by omega)
  go_enter Try.func86, Try.ntmps86
  go_wp2_with fail
  go_quiet (fail)
  go_wp2_with fail
  go_quiet (fail)
  clear iw
  go_upto_region 8 with (fail)
  refine wp_gen (S := fun W => Bk W b 149 (prCells c0 lv ll (.slice (some ⟨g, 0, none⟩) (m + 1) c)) ∧ W.ownsRow base 4 1 (.slice (some ⟨g, 0, none⟩) (m + 1) c) (m + 1) xs ∧ Below base w W) ⟨HK.out.drewN _, own_drewN HO.out _, bdrewN (Below.refl _ _) _⟩ ?_
  clear c20 c21 c22 hf hlt HK HO cg fg lg bg
  rintro W ⟨hk, ho, hB⟩
  have c22 : W.cell? ⟨b, 22, none⟩ = some (.slice (some ⟨g, 0, none⟩) (m + 1) c) := by rw [hk.cells]; rfl
  have hf := hk.frz
  have hlt := hk.lt
  have HK := Lib.hid hk
  have HO := Lib.hid ho
  clear hk ho
  go_wp2_with (at_builtin; refine wpList_append_own _ rfl _ _ 93 rfl base 4 i0 (.bool false) 1 1 Try.underlying93 hi2.out hz0'.out hz1'.out hz2'.out rfl (by decide) (.slice (some ⟨g, 0, none⟩) (m + 1) c) (m + 1) xs rfl (HO.out.alloc _) ⟨W.heap.size, 0, none⟩ 1 1 [.bool false] rfl rfl (news_one (Bk.fresh _ _ _)) (by simp [Value.oneCell']) (by unfold maxLen; omega) (by omega) (by simp; omega) ?_; intro v2 w2 ho2 hg2 _; obtain ⟨g2, cap2, rfl⟩ := own_shape ho2; have hB2 := below_app (hB.alloc (by omega) _) (by simp; omega) (HO.out.alloc _) hg2; have k2 := (HK.out.alloc _).grownO hg2 HN.out; have hf2 := k2.frz; have hlt2 := k2.lt; have c22b : w2.cell? ⟨b, 22, none⟩ = some (.slice (some ⟨g, 0, none⟩) (m + 1) c) := (by rw [k2.cells]; rfl); have HK2 := Lib.hid k2; have HO2 := Lib.hid ho2; clear k2 ho2 hg2)
  go_end0
  exact ⟨g2, cap2, rfl, HK2.out.put 22 _, own_far HO2.out (HK2.out.ne_own HO2.out (by decide)) _, hB2.setCell (by simpa using hb) _⟩
/-- Behind decLevel. -/
def DecPost (base b n c g : Nat) (c0 : Value) (lv ll : Int) (xs : List Value) (w : World) (e : Ending) (w' : World) : Prop :=
  e = .returned (.tuple #[]) ∧ Bk w' b 149 (prCells c0 lv ll (.slice (some ⟨g, 0, none⟩) n c)) ∧ w'.ownsRow base 4 1 (.slice (some ⟨g, 0, none⟩) (n + 1) c) (n + 1) xs ∧ Below base w w'
theorem own_cap {w : World} {base n c g : Nat} {e : TypeId} {xs : List Value} (ho : w.ownsRow base e 1 (.slice (some ⟨g, 0, none⟩) n c) n xs) : n ≤ c := by
  rcases ho.2 with ⟨h, _⟩ | ⟨g', c', _, h, _, _, hc, _⟩
  · cases h
  · injection h with _ _ h
    omega
set_option maxHeartbeats 1000000 in
set_option maxRecDepth 100000 in
theorem dec138_F (b base n c g : Nat) (c0 : Value) (lv ll : Int) (xs : List Value) (w : World) (hk : Bk w b 149 (prCells c0 lv ll (.slice (some ⟨g, 0, none⟩) (n + 1) c))) (ho : w.ownsRow base 4 1 (.slice (some ⟨g, 0, none⟩) (n + 1) c) (n + 1) xs) (hb : base ≤ b) (hn : n ≤ 65536) (hx : xs[n]? = some (.bool false)) :
    Calls Try.prog 87 #[.pointer (some ⟨b, 0, none⟩)] w (DecPost base b n c g c0 lv ll xs w) := by
  have c20 : w.cell? ⟨b, 20, none⟩ = some (.int .u64 ll) := by rw [hk.cells]; rfl
  have c21 : w.cell? ⟨b, 21, none⟩ = some (.int .u64 lv) := by rw [hk.cells]; rfl
  have c22 : w.cell? ⟨b, 22, none⟩ = some (.slice (some ⟨g, 0, none⟩) (n + 1) c) := by rw [hk.cells]; rfl
  have cg : w.cell? ⟨g, n, none⟩ = some (.bool false) := by rw [ho.cellAt n (by omega), hx]
  have hcap : n + 1 ≤ c := own_cap ho
  have hf := hk.frz
  have hlt := hk.lt
  have HK := Lib.hid hk
  have HN := Lib.hid (hk.ne_own ho (by decide))
  have HO := Lib.hid ho
  clear hk ho hx
  have i0' : (0 : Int) ≤ (n : Int) := Int.natCast_nonneg _
  have i1' : (n : Int) < (n : Int) + 1 := by omega
  have i2' : (n : Int) ≤ (c : Int) := by omega
  have iw : IntKind.i64.wrap (n : Int) = (n : Int) := IntWalk.i64_in _ (by omega)
  go_enter Try.func87, Try.ntmps87
  go_wp2_with fail
  go_quiet (fail)
  go_wp2_with fail
  go_region
  go_end0
  exact ⟨rfl, (HK.out.drewN _).put 22 _, own_far (own_drewN HO.out _) HN.out _, (bdrewN (Below.refl _ _) _).setCell (by simpa using hb) _⟩
set_option maxHeartbeats 1000000 in
set_option maxRecDepth 100000 in
theorem dec138_T (b base n c g : Nat) (c0 : Value) (lv ll : Int) (xs : List Value) (w : World) (hk : Bk w b 149 (prCells c0 lv ll (.slice (some ⟨g, 0, none⟩) (n + 1) c))) (ho : w.ownsRow base 4 1 (.slice (some ⟨g, 0, none⟩) (n + 1) c) (n + 1) xs) (hb : base ≤ b) (hn : n ≤ 65536) (hx : xs[n]? = some (.bool true)) :
    Calls Try.prog 87 #[.pointer (some ⟨b, 0, none⟩)] w (DecPost base b n c g c0 ((lv - 1) % 18446744073709551616) ll xs w) := by
  have c20 : w.cell? ⟨b, 20, none⟩ = some (.int .u64 ll) := by rw [hk.cells]; rfl
  have c21 : w.cell? ⟨b, 21, none⟩ = some (.int .u64 lv) := by rw [hk.cells]; rfl
  have c22 : w.cell? ⟨b, 22, none⟩ = some (.slice (some ⟨g, 0, none⟩) (n + 1) c) := by rw [hk.cells]; rfl
  have cg : w.cell? ⟨g, n, none⟩ = some (.bool true) := by rw [ho.cellAt n (by omega), hx]
  have hcap : n + 1 ≤ c := own_cap ho
  have hf := hk.frz
  have hlt := hk.lt
  have HK := Lib.hid hk
  have HN := Lib.hid (hk.ne_own ho (by decide))
  have HO := Lib.hid ho
  clear hk ho hx
  have i0' : (0 : Int) ≤ (n : Int) := Int.natCast_nonneg _
  have i1' : (n : Int) < (n : Int) + 1 := by omega
  have i2' : (n : Int) ≤ (c : Int) := by omega
  have iw : IntKind.i64.wrap (n : Int) = (n : Int) := IntWalk.i64_in _ (by omega)
  go_enter Try.func87, Try.ntmps87
  go_wp2_with fail
  go_quiet (fail)
  go_wp2_with fail
  go_region
  go_end0
  exact ⟨rfl, ((HK.out.drewN _).put 21 _).put 22 _, own_far (own_far (own_drewN HO.out _) HN.out _) HN.out _, by refine Below.drew (Below.setCell (Below.setCell (bdrewN (Below.refl _ _) _) ?_ _) ?_ _) <;> simpa using hb⟩
set_option maxHeartbeats 1000000 in
theorem zzEqBools_yes (a1 a2 : Option Addr) (n c1 c2 : Nat) (B : Nat → Bool) (w : World) (h1 : Src w a1 n (fun i => .bool (B i))) (h2 : Src w a2 n (fun i => .bool (B i))) (hn : n ≤ 1048576) :
    Calls Try.prog 53 #[.slice a1 n c1, .slice a2 n c2] w fun e w' => e = .returned (.bool true) ∧ ∃ k, w' = w.drewN k := by
  have H1 := Lib.hid h1
  have H2 := Lib.hid h2
  clear h1 h2
  go_enter Try.func53, Try.ntmps53
  go_wp2
  go_loopw [5] (fun i wr => ∃ k m : Nat, k ≤ n ∧ i = .int .i64 k ∧ wr = w.drewN m) (fun i _ => n - (intOf i).toNat)
  case atStart => exact ⟨0, 0, by omega, by go_num, rfl⟩
  case round =>
    obtain ⟨k, m, hk, rfl, rfl⟩ := hrel
    by_cases hlt : k < n
    · obtain ⟨x1, rfl, q1⟩ := H1.out.at_ hlt
      obtain ⟨x2, rfl, q2⟩ := H2.out.at_ hlt
      have hlt' : (k : Int) < (n : Int) := by omega
      go_wp2_with fail
      go_quiet (fail)
      go_wp2
      go_roundw
      case rel => exact ⟨k + 1, _, by omega, by go_num, rfl⟩
      case measure => simp [intOf]; omega
    · go_wp2
      go_ret
      exact ⟨rfl, _, rfl⟩
end Go.Proofs.Ytimaobpcefgdkaa
