/- The walk of FnCallExprStartFromAssignsEndFromArgs. -/
import Derived.Test.YtimaobpcefgdkaaCallX
import Derived.Deep.RegionHeld3
import Derived.Deep.Cut
namespace Go.Proofs.Ytimaobpcefgdkaa
open Go.RowKit
theorem info147a : (Try.prog.info? 27).map (fun i => (i.zero, i.size, i.bytes)) = some (some (.pointer none), 1, 8) := by kernel_rfl
theorem info147w : (Try.prog.info? 34).map (fun i => (i.zero, i.size, i.bytes)) = some (some (.pointer none), 1, 8) := by kernel_rfl
def ElA (fo : Nat → Int) (j : Nat) (v : Value) (W : World) : Prop := ∃ b : Nat, v = .pointer (some ⟨b, 0, none⟩) ∧ AsnV W b (fo j) 16385 ((fo j + 5) % 4294967296) 16390
def ElW (fo : Nat → Int) (j : Nat) (v : Value) (W : World) : Prop := ∃ b : Nat, v = .pointer (some ⟨b, 0, none⟩) ∧ LitW W b (fo j) 16385 ((fo j + 5) % 4294967296) 16390
theorem ElA.keep {fo : Nat → Int} {j : Nat} {v : Value} {W W1 : World} (h : ElA fo j v W) (hb : Below W.heap.size W W1) : ElA fo j v W1 := by
  obtain ⟨b, hv, h⟩ := h
  exact ⟨b, hv, h.keep hb⟩
theorem ElW.keep {fo : Nat → Int} {j : Nat} {v : Value} {W W1 : World} (h : ElW fo j v W) (hb : Below W.heap.size W W1) : ElW fo j v W1 := by
  obtain ⟨b, hv, h⟩ := h
  exact ⟨b, hv, h.keep hb⟩
theorem ElA.grown {fo : Nat → Int} {j : Nat} {v : Value} {W W1 : World} {base g k n : Nat} {ys : List Value} (h : ElA fo j v W) (ho : W.ownsRow base 27 1 (.slice (some ⟨g, 0, none⟩) k n) k ys) (hb : W.grownBy W1 (some g)) : ElA fo j v W1 := by
  obtain ⟨b, hv, h⟩ := h
  exact ⟨b, hv, h.grown ho hb⟩
theorem ElW.grown {fo : Nat → Int} {j : Nat} {v : Value} {W W1 : World} {base g k n : Nat} {ys : List Value} (h : ElW fo j v W) (ho : W.ownsRow base 34 1 (.slice (some ⟨g, 0, none⟩) k n) k ys) (hb : W.grownBy W1 (some g)) : ElW fo j v W1 := by
  obtain ⟨b, hv, h⟩ := h
  exact ⟨b, hv, h.grown (by decide) (by decide) (by decide) ho hb⟩
def RelA (W2 : World) (n : Nat) (fo : Nat → Int) (v i : Value) (wr : World) : Prop :=
  ∃ k : Nat, k ≤ n ∧ i = .int .i64 k ∧ v = .slice (some ⟨W2.heap.size, 0, none⟩) k n ∧ RowOf wr W2.heap.size W2.heap.size 27 k n (ElA fo) ∧ Below W2.heap.size W2 wr
def RelW (W2 : World) (n : Nat) (fo : Nat → Int) (v i : Value) (wr : World) : Prop :=
  ∃ k : Nat, k ≤ n ∧ i = .int .i64 k ∧ v = .slice (some ⟨W2.heap.size, 0, none⟩) k n ∧ RowOf wr W2.heap.size W2.heap.size 34 k n (ElW fo) ∧ Below W2.heap.size W2 wr
/-- The first and the last element of a row that is full. -/
def Ends (W : World) (g n : Nat) (El : Nat → Value → World → Prop) : Prop := n = 0 ∨ ∃ v0 vl : Value, W.cell? ⟨g, 0, none⟩ = some v0 ∧ W.cell? ⟨g, n - 1, none⟩ = some vl ∧ El 0 v0 W ∧ El (n - 1) vl W
theorem RowOf.ends {W : World} {base g n : Nat} {e : TypeId} {El : Nat → Value → World → Prop} (h : RowOf W base g e n n El) : Ends W g n El := by
  rcases Nat.eq_zero_or_pos n with h0 | h0
  · exact .inl h0
  · obtain ⟨v0, c0, e0⟩ := h.at_ (j := 0) h0
    obtain ⟨vl, cl, el⟩ := h.at_ (j := n - 1) (by omega)
    exact .inr ⟨v0, vl, c0, cl, e0, el⟩
theorem Ends.keep {W W1 : World} {g n : Nat} {El : Nat → Value → World → Prop} (h : Ends W g n El) (hb : Below W.heap.size W W1) (hE : ∀ j v, El j v W → El j v W1) : Ends W1 g n El := by
  rcases h with h | ⟨v0, vl, c0, cl, e0, el⟩
  · exact .inl h
  · exact .inr ⟨v0, vl, keepc hb c0, keepc hb cl, hE _ _ e0, hE _ _ el⟩
theorem mk147_any (o l c : Int) (w : World) (l0 : 0 ≤ l) (l1 : l ≤ 262143) (c0 : 0 ≤ c) (c1 : c ≤ 16383) :
    Calls Try.prog 15 #[.int .u32 o, .int .u32 l, .int .u32 c] w fun e w' => e = .returned (P2 o (l * 16384 + c)) ∧ Below w.heap.size w w' :=
  (mk147_eq o l c w l0 l1 c0 c1).mono fun e w' ⟨he, hw⟩ => ⟨he, by rw [← hw]; go_grown⟩
/-- What is asked of a call later on: its start, its end. -/
def CXp (W : World) (b : Nat) (o lc : Int) : Prop := ∀ W1, Below W.heap.size W W1 → Calls Try.prog 16 #[.pointer (some ⟨b, 0, none⟩)] W1 fun e w' => e = .returned (P2 o lc) ∧ Below W1.heap.size W1 w'
def CXe (W : World) (b : Nat) (o lc : Int) : Prop := ∀ W1, Below W.heap.size W W1 → Calls Try.prog 17 #[.pointer (some ⟨b, 0, none⟩)] W1 fun e w' => e = .returned (P2 o lc) ∧ Below W1.heap.size W1 w'
theorem CXp.keep {W W1 : World} {b : Nat} {o lc : Int} (h : CXp W b o lc) (hb : Below W.heap.size W W1) : CXp W1 b o lc := fun _ k => h _ (bmore hb k)
theorem CXe.keep {W W1 : World} {b : Nat} {o lc : Int} (h : CXe W b o lc) (hb : Below W.heap.size W W1) : CXe W1 b o lc := fun _ k => h _ (bmore hb k)
def Tl (w : World) (bF bP bE : Nat) (f0 l0 : Int) (W : World) : Prop :=
  CXp W bF f0 16385 ∧ CXe W bF ((l0 + 5) % 4294967296) 16390 ∧ CXp W bP f0 16385 ∧ CXe W bE ((l0 + 5) % 4294967296) 16390 ∧ Below w.heap.size w W
theorem Tl.keep {w W W1 : World} {bF bP bE : Nat} {f0 l0 : Int} (h : Tl w bF bP bE f0 l0 W) (hb : Below W.heap.size W W1) : Tl w bF bP bE f0 l0 W1 :=
  ⟨h.1.keep hb, h.2.1.keep hb, h.2.2.1.keep hb, h.2.2.2.1.keep hb, bmore h.2.2.2.2 hb⟩
def Tc (w : World) (bF bP bE p q : Nat) (f0 l0 : Int) (W : World) : Prop :=
  W.cell? ⟨p, 0, none⟩ = some (.int .u32 f0) ∧ W.cell? ⟨p, 1, none⟩ = some (.int .u32 16385) ∧ W.cell? ⟨q, 0, none⟩ = some (.int .u32 ((l0 + 5) % 4294967296)) ∧ W.cell? ⟨q, 1, none⟩ = some (.int .u32 16390) ∧ Tl w bF bP bE f0 l0 W
theorem Tc.keep {w W W1 : World} {bF bP bE p q : Nat} {f0 l0 : Int} (h : Tc w bF bP bE p q f0 l0 W) (hb : Below W.heap.size W W1) : Tc w bF bP bE p q f0 l0 W1 :=
  ⟨keepc hb h.1, keepc hb h.2.1, keepc hb h.2.2.1, keepc hb h.2.2.2.1, h.2.2.2.2.keep hb⟩
theorem Tc.drew {w W : World} {bF bP bE p q : Nat} {f0 l0 : Int} (h : Tc w bF bP bE p q f0 l0 W) : Tc w bF bP bE p q f0 l0 W.drew := h.keep ⟨rfl, rfl, rfl, Nat.le_refl _, fun _ _ => rfl⟩
theorem cxp_assigns {W : World} {b g m cap : Nat} {s : Value} {fo : Nat → Int} {v0 : Value} (h : Bk W b 46 #[.slice (some ⟨g, 0, none⟩) (m + 1) cap, s]) (d0 : W.cell? ⟨g, 0, none⟩ = some v0) (e0 : ElA fo 0 v0 W) : CXp W b (fo 0) 16385 := by
  obtain ⟨b0, rfl, e0⟩ := e0
  exact fun W1 hb => CallExpr_Pos_assigns b g m cap b0 _ _ W1 (by rw [(h.keep hb).cells]; rfl) (keepc hb d0) (fun _ k => ((e0.keep hb).keep k).pos_)
theorem cxp_args {W : World} {b g m cap c2 : Nat} {a2 : Option Addr} {fo : Nat → Int} {v0 : Value} (h : Bk W b 46 #[.slice a2 0 c2, .slice (some ⟨g, 0, none⟩) (m + 1) cap]) (d0 : W.cell? ⟨g, 0, none⟩ = some v0) (e0 : ElW fo 0 v0 W) : CXp W b (fo 0) 16385 := by
  obtain ⟨b0, rfl, e0⟩ := e0
  exact fun W1 hb => CallExpr_Pos_args b g m cap b0 c2 a2 _ _ W1 (by rw [(h.keep hb).cells]; rfl) (by rw [(h.keep hb).cells]; rfl) (keepc hb d0) (fun _ k => ((e0.keep hb).keep k).pos_)
theorem cxe_args {W : World} {b g m cap : Nat} {s : Value} {fo : Nat → Int} {vl : Value} (h : Bk W b 46 #[s, .slice (some ⟨g, 0, none⟩) (m + 1) cap]) (hm : m ≤ 4096) (dl : W.cell? ⟨g, m, none⟩ = some vl) (el : ElW fo m vl W) : CXe W b ((fo m + 5) % 4294967296) 16390 := by
  obtain ⟨bl, rfl, el⟩ := el
  exact fun W1 hb => CallExpr_End_args b g m cap bl _ _ W1 (by rw [(h.keep hb).cells]; rfl) (by omega) (keepc hb dl) (fun _ k => ((el.keep hb).keep k).end_)
theorem cxe_assigns {W : World} {b g m cap c2 : Nat} {a2 : Option Addr} {fo : Nat → Int} {vl : Value} (h : Bk W b 46 #[.slice (some ⟨g, 0, none⟩) (m + 1) cap, .slice a2 0 c2]) (hm : m ≤ 4096) (dl : W.cell? ⟨g, m, none⟩ = some vl) (el : ElA fo m vl W) : CXe W b ((fo m + 5) % 4294967296) 16390 := by
  obtain ⟨bl, rfl, el⟩ := el
  exact fun W1 hb => CallExpr_End_assigns b g m cap bl c2 a2 _ _ W1 (by rw [(h.keep hb).cells]; rfl) (by rw [(h.keep hb).cells]; rfl) (by omega) (keepc hb dl) (fun _ k => ((el.keep hb).keep k).end_)
theorem Src.ends {w : World} {a : Option Addr} {n : Nat} {f : Nat → Value} (h : Src w a (n + 1) f) : ∃ x : Addr, a = some x ∧ w.cell? x = some (f 0) ∧ w.cell? (x.add n) = some (f n) ∧ x.block < w.heap.size := by
  rcases h with ⟨_, h⟩ | ⟨x, hx, hc⟩
  · omega
  · have h0 : w.cell? x = some (f 0) := by simpa [Addr.add] using hc 0 (by omega)
    exact ⟨x, hx, h0, hc n (by omega), World.block_lt_of_cell? _ _ h0⟩
theorem Tc_pos {w W : World} {bF bP bE p q : Nat} {f0 l0 : Int} (h : W.cell? ⟨p, 0, none⟩ = some (.int .u32 f0) ∧ W.cell? ⟨p, 1, none⟩ = some (.int .u32 16385) ∧ W.cell? ⟨q, 0, none⟩ = some (.int .u32 ((l0 + 5) % 4294967296)) ∧ W.cell? ⟨q, 1, none⟩ = some (.int .u32 16390) ∧ Tl w bF bP bE f0 l0 W) :
    Calls Try.prog 16 #[.pointer (some ⟨bP, 0, none⟩)] W fun e w' => e = .returned (P2 f0 16385) ∧ Below W.heap.size W w' := h.2.2.2.2.2.2.1 _ (Below.refl _ _)
theorem Tc_end {w W : World} {bF bP bE p q : Nat} {f0 l0 : Int} (h : W.cell? ⟨p, 0, none⟩ = some (.int .u32 f0) ∧ W.cell? ⟨p, 1, none⟩ = some (.int .u32 16385) ∧ W.cell? ⟨q, 0, none⟩ = some (.int .u32 ((l0 + 5) % 4294967296)) ∧ W.cell? ⟨q, 1, none⟩ = some (.int .u32 16390) ∧ Tl w bF bP bE f0 l0 W) :
    Calls Try.prog 17 #[.pointer (some ⟨bE, 0, none⟩)] W fun e w' => e = .returned (P2 ((l0 + 5) % 4294967296) 16390) ∧ Below W.heap.size W w' := h.2.2.2.2.2.2.2.1 _ (Below.refl _ _)
set_option maxHeartbeats 8000000 in
set_option maxRecDepth 100000 in
theorem callX147 (a0 a1 : Option Addr) (la ca lb cb : Nat) (fo fl : Nat → Int) (w : World) (h1 : la ≤ 4096) (h2 : lb ≤ 4096) (h3 : 1 ≤ la + lb)
    (hs0 : Src w a0 la (fun i => .int .u32 (fo i))) (hs1 : Src w a1 lb (fun i => .int .u32 (fl i))) (c0 : a0 = none → ca = 0) (c1 : a1 = none → cb = 0)
    (f0 : ∀ i, i < la → 0 ≤ fo i ∧ fo i < 4294967296) (f1 : ∀ i, i < lb → 0 ≤ fl i ∧ fl i < 4294967296) :
    Calls Try.prog 3 #[.slice a0 la ca, .slice a1 lb cb] w fun e w' => e = .returned (.bool true) ∧ Below w.heap.size w w' := by
  obtain ⟨i0, hi, hz0, hz1, hz2⟩ := info_parts info147a
  have hi2 := Lib.hid hi
  have hz0' := Lib.hid hz0
  have hz1' := Lib.hid hz1
  have hz2' := Lib.hid hz2
  clear hi hz0 hz1 hz2
  obtain ⟨j0, hi, hz0, hz1, hz2⟩ := info_parts info147w
  have hj2 := Lib.hid hi
  have jz0' := Lib.hid hz0
  have jz1' := Lib.hid hz1
  have jz2' := Lib.hid hz2
  have H0 := Lib.hid hs0
  have H1 := Lib.hid hs1
  have F0 := Lib.hid f0
  have F1 := Lib.hid f1
  clear hi hz0 hz1 hz2 hs0 hs1 f0 f1
  have h1' : ¬ (4096 : Int) < (la : Int) := by omega
  have h2' : ¬ (4096 : Int) < (lb : Int) := by omega
  have h3' : ¬ ((la : Int) + (lb : Int) < 1) := by omega
  go_enter Try.func3, Try.ntmps3
  go_wp2_with fail
  refine (zzBytes147_any _ _ _ _ _ _ _ (by omega) (by omega)).mono ?_
  rintro e w' ⟨b, rfl, rfl⟩
  cases b
  · go_wp2
    go_ret
    exact ⟨rfl, Below.refl _ _⟩
  go_wp2_with fail
  refine (n010_147_zzClone_any a0 la ca fo _ H0.out c0 (by omega)).mono ?_
  rintro e v1 ⟨A0, rfl, s0, hb⟩
  have s1 := H1.out.keep hb
  have B1 := hb
  clear H0 H1 hb
  have S0 := Lib.hid s0
  have S1 := Lib.hid s1
  clear s0 s1
  go_wp2_with fail
  refine (n010_147_zzClone_any a1 lb cb fl _ S1.out c1 (by omega)).mono ?_
  rintro e W2 ⟨A1, rfl, s1, hb⟩
  have s0 := S0.out.keep hb
  have B2 := bmore B1 hb
  clear hb S0 S1 B1
  have S0 := Lib.hid s0
  have S1 := Lib.hid s1
  clear s0 s1
  go_wp2_with (at_make; refine wpList_make_own _ rfl _ _ 25 rfl W2.heap.size 27 i0 (.pointer none) 1 Try.underlying25 hi2.out hz0'.out hz1'.out .i64 .i64 _ la rfl rfl rfl ?c1 ?c2 ?c3 ?_; rotate_left 3; intro wm hown hgr)
  case c1 => rw [hz2'.out]; omega
  case c2 => unfold maxLen; omega
  case c3 => exact Nat.le_refl _
  have hBm : Below W2.heap.size W2 wm := ⟨hgr.os, hgr.tape, hgr.output, hgr.size, fun i hi => hgr.block i hi (by simp)⟩
  have hr0 : RowOf wm W2.heap.size W2.heap.size 27 0 la (ElA fo) := ⟨[], hown, fun j v hj => by simp at hj⟩
  clear hown hgr
  go_loopw [5, 6] (fun v i wr => RelA W2 la fo v i wr) (fun _ i _ => la - (intOf i).toNat)
  case atStart => exact ⟨0, by omega, by go_num, rfl, hr0, hBm⟩
  case round =>
    clear hr0 hBm
    obtain ⟨k, hk, rfl, rfl, hrow, hB⟩ := hrel
    by_cases hlt : k < la
    · obtain ⟨x0, rfl, q0⟩ := (S0.out.keep hB).at_ hlt
      have fb := F0.out k hlt
      have hlt' : (k : Int) < (la : Int) := by omega
      have sw := hB.size
      obtain ⟨o, ho0⟩ : ∃ o, o = fo k := ⟨_, rfl⟩
      rw [← ho0] at q0 fb
      have HO := Lib.hid ho0
      clear ho0
      go_wp2_with (first | (go_at_call 15; refine (mk147_eq _ _ _ _ (by omega) (by omega) (by omega) (by omega)).mono ?_; rintro e w' ⟨rfl, rfl⟩) | (at_builtin; refine wpList_gen (S := fun W => RowOf W W2.heap.size W2.heap.size 27 k la (ElA fo) ∧ AsnV W (wr.heap.size + 1 + 1 + 1 + 1 + 1 + 1 + 1 + 1 + 1 + 1 + 1 + 1) o 16385 ((o + 5) % 4294967296) 16390 ∧ Bk W (wr.heap.size + 1 + 1 + 1 + 1 + 1 + 1 + 1 + 1 + 1 + 1 + 1 + 1 + 1) 27 #[.pointer (some ⟨wr.heap.size + 1 + 1 + 1 + 1 + 1 + 1 + 1 + 1 + 1 + 1 + 1 + 1, 0, none⟩)] ∧ Below W2.heap.size W2 W) ⟨hrow.keep (by go_grown) (fun j v h => h.keep (by go_grown)), ⟨wr.heap.size + 1 + 1 + 1 + 1, wr.heap.size + 1 + 1 + 1 + 1 + 1 + 1 + 1 + 1 + 1 + 1 + 1, _, _, _, _, _, _, (o + 3) % 4294967296, 16388, (by repeat (first | (refine Bk.newAt ?_; simp; done) | refine Bk.alloc ?_ _ | refine Bk.drew ?_)), ⟨wr.heap.size + 1 + 1 + 1 + 1 + 1 + 1 + 1 + 1 + 1 + 1, wr.heap.size + 1 + 1 + 1 + 1 + 1 + 1 + 1 + 1 + 1, ⟨#[99, 100]⟩, (by repeat (first | (refine Bk.newAt ?_; simp; done) | refine Bk.alloc ?_ _ | refine Bk.drew ?_)), (by repeat (first | (refine Bk.newAt ?_; simp; done) | refine Bk.alloc ?_ _ | refine Bk.drew ?_)), (by repeat (first | (refine Bk.newAt ?_; simp; done) | refine Bk.alloc ?_ _ | refine Bk.drew ?_))⟩, (by repeat (first | (refine Bk.newAt ?_; simp; done) | refine Bk.alloc ?_ _ | refine Bk.drew ?_))⟩, (by repeat (first | (refine Bk.newAt ?_; simp; done) | refine Bk.alloc ?_ _ | refine Bk.drew ?_)), by go_grown⟩ ?_; rintro W ⟨hR, hE, hO, hBW⟩; obtain ⟨xs, ho, he⟩ := hR; refine wpList_append_fits _ rfl _ _ 25 rfl W2.heap.size 27 i0 1 Try.underlying25 hi2.out hz1'.out W2.heap.size k la xs rfl ho ⟨wr.heap.size + 1 + 1 + 1 + 1 + 1 + 1 + 1 + 1 + 1 + 1 + 1 + 1 + 1, 0, none⟩ 1 1 [.pointer (some ⟨wr.heap.size + 1 + 1 + 1 + 1 + 1 + 1 + 1 + 1 + 1 + 1 + 1 + 1, 0, none⟩)] rfl rfl (news_one hO) (by simp [Value.oneCell']) (by omega) ?_; intro w2 ho2 hg2))
      have hEk : ElA fo k (.pointer (some ⟨wr.heap.size + 1 + 1 + 1 + 1 + 1 + 1 + 1 + 1 + 1 + 1 + 1 + 1, 0, none⟩)) W := ⟨_, rfl, by rw [← HO.out]; exact hE⟩
      have hrow2 : RowOf w2 W2.heap.size W2.heap.size 27 (k + 1) la (ElA fo) := RowOf.push he (own_ll ho) hEk ho2 (fun j u h => h.grown ho hg2)
      have hB2 := below_grown hBW hg2 (Nat.le_refl _)
      go_roundw
      case rel => exact ⟨k + 1, by omega, by go_num, rfl, hrow2, hB2⟩
      case measure => simp [intOf]; omega
    · obtain rfl : k = la := by omega
      have ng : ¬ ((k : Int) < (k : Int)) := by omega
      obtain ⟨W3, rfl⟩ : ∃ W3 : World, W3 = wr := ⟨_, rfl⟩
      have EA := Lib.hid hrow.ends
      have B3 := bmore B2 hB
      have s0 := S0.out.keep hB
      have s1 := S1.out.keep hB
      clear hrow hB S0 S1
      have S0 := Lib.hid s0
      have S1 := Lib.hid s1
      clear s0 s1 hk hlt
      go_wp2_with (at_make; refine wpList_make_own _ rfl _ _ 43 rfl W3.heap.size 34 j0 (.pointer none) 1 Try.underlying43 hj2.out jz0'.out jz1'.out .i64 .i64 _ lb rfl rfl rfl ?c1 ?c2 ?c3 ?_; rotate_left 3; intro wm hown hgr)
      case c1 => rw [jz2'.out]; omega
      case c2 => unfold maxLen; omega
      try (case c3 => exact Nat.le_refl _)
      have hBm : Below W3.heap.size W3 wm := ⟨hgr.os, hgr.tape, hgr.output, hgr.size, fun i hi => hgr.block i hi (by simp)⟩
      have hr0 : RowOf wm W3.heap.size W3.heap.size 34 0 lb (ElW fl) := ⟨[], hown, fun j v hj => by simp at hj⟩
      clear hown hgr ng
      obtain ⟨la, rfl⟩ : ∃ la, la = k := ⟨_, rfl⟩
      go_loopw [8, 9] (fun v i wr => RelW W3 lb fl v i wr) (fun _ i _ => lb - (intOf i).toNat)
      case atStart => exact ⟨0, by omega, by go_num, rfl, hr0, hBm⟩
      case round =>
        clear hr0 hBm
        obtain ⟨k, hk, rfl, rfl, hrow, hB⟩ := hrel
        by_cases hlt : k < lb
        · obtain ⟨x1, rfl, q1⟩ := (S1.out.keep hB).at_ hlt
          have fb := F1.out k hlt
          have hlt' : (k : Int) < (lb : Int) := by omega
          have sw := hB.size
          obtain ⟨o, ho0⟩ : ∃ o, o = fl k := ⟨_, rfl⟩
          rw [← ho0] at q1 fb
          have HO := Lib.hid ho0
          clear ho0
          go_wp2_with (first | (go_at_call 15; refine (mk147_eq _ _ _ _ (by omega) (by omega) (by omega) (by omega)).mono ?_; rintro e w' ⟨rfl, rfl⟩) | (at_builtin; refine wpList_gen (S := fun W => RowOf W W3.heap.size W3.heap.size 34 k lb (ElW fl) ∧ LitW W (wr.heap.size + 1 + 1 + 1 + 1 + 1 + 1) o 16385 ((o + 5) % 4294967296) 16390 ∧ Bk W (wr.heap.size + 1 + 1 + 1 + 1 + 1 + 1 + 1) 34 #[.pointer (some ⟨wr.heap.size + 1 + 1 + 1 + 1 + 1 + 1, 0, none⟩)] ∧ Below W3.heap.size W3 W) ⟨hrow.keep (by go_grown) (fun j v h => h.keep (by go_grown)), ⟨wr.heap.size + 1 + 1 + 1 + 1 + 1, wr.heap.size + 1 + 1 + 1 + 1, _, (by repeat (first | (refine Bk.newAt ?_; simp; done) | refine Bk.alloc ?_ _ | refine Bk.drew ?_)), (by repeat (first | (refine Bk.newAt ?_; simp; done) | refine Bk.alloc ?_ _ | refine Bk.drew ?_)), (by repeat (first | (refine Bk.newAt ?_; simp; done) | refine Bk.alloc ?_ _ | refine Bk.drew ?_))⟩, (by repeat (first | (refine Bk.newAt ?_; simp; done) | refine Bk.alloc ?_ _ | refine Bk.drew ?_)), by go_grown⟩ ?_; rintro W ⟨hR, hE, hO, hBW⟩; obtain ⟨xs, ho, he⟩ := hR; refine wpList_append_fits _ rfl _ _ 43 rfl W3.heap.size 34 j0 1 Try.underlying43 hj2.out jz1'.out W3.heap.size k lb xs rfl ho ⟨wr.heap.size + 1 + 1 + 1 + 1 + 1 + 1 + 1, 0, none⟩ 1 1 [.pointer (some ⟨wr.heap.size + 1 + 1 + 1 + 1 + 1 + 1, 0, none⟩)] rfl rfl (news_one hO) (by simp [Value.oneCell']) (by omega) ?_; intro w2 ho2 hg2))
          have hEk : ElW fl k (.pointer (some ⟨wr.heap.size + 1 + 1 + 1 + 1 + 1 + 1, 0, none⟩)) W := ⟨_, rfl, by rw [← HO.out]; exact hE⟩
          have hrow2 : RowOf w2 W3.heap.size W3.heap.size 34 (k + 1) lb (ElW fl) := RowOf.push he (own_ll ho) hEk ho2 (fun j u h => h.grown ho hg2)
          have hB2 := below_grown hBW hg2 (Nat.le_refl _)
          go_roundw
          case rel => exact ⟨k + 1, by omega, by go_num, rfl, hrow2, hB2⟩
          case measure => simp [intOf]; omega
        · obtain rfl : k = lb := by omega
          have ng : ¬ ((k : Int) < (k : Int)) := by omega
          have EW := Lib.hid hrow.ends
          have EA := Lib.hid (EA.out.keep hB (fun j v h => h.keep hB))
          have s0 := S0.out.keep hB
          have s1 := S1.out.keep hB
          have B4 := bmore B3 hB
          clear S0 S1 hrow hB B3 B2 F0 F1 hi2 hz0' hz1' hz2' hj2 jz0' jz1' jz2' hk hlt
          obtain ⟨lb, rfl⟩ : ∃ lb, lb = k := ⟨_, rfl⟩
          rcases la with _ | m
          · rcases lb with _ | n
            · omega
            · skip
              obtain ⟨x1, rfl, q0, q1, lx1⟩ := s1.ends
              rcases EW.out with h | ⟨wv0, wvl, wd0, wdl, we0, wel⟩
              · omega
              replace wdl : wr.cell? ⟨W3.heap.size, n, none⟩ = some wvl := wdl
              replace wel : ElW fl n wvl wr := wel
              have in0 : (0 : Int) < (n : Int) + 1 := by omega
              have in1 : (n : Int) < (n : Int) + 1 := by omega
              have in2 : (0 : Int) ≤ (n : Int) := by omega
              clear EA EW s0 s1
              have sB := B4.size
              go_upto_region 25 with (fail)
              refine wp_gen (S := fun W => Bk W wr.heap.size 46 #[.slice (some ⟨W2.heap.size, 0, none⟩) 0 0, .slice (some ⟨W3.heap.size, 0, none⟩) (n + 1) (n + 1)] ∧ Bk W (wr.heap.size + 1) 46 #[.slice (some ⟨W2.heap.size, 0, none⟩) 0 0, .slice none 0 0] ∧ Bk W (wr.heap.size + 1 + 1) 46 #[.slice none 0 0, .slice (some ⟨W3.heap.size, 0, none⟩) (n + 1) (n + 1)] ∧ W.cell? x1 = some (.int .u32 (fl 0)) ∧ W.cell? (x1.add n) = some (.int .u32 (fl n)) ∧ W.cell? ⟨W3.heap.size, 0, none⟩ = some wv0 ∧ W.cell? ⟨W3.heap.size, n, none⟩ = some wvl ∧ ElW fl 0 wv0 W ∧ ElW fl n wvl W ∧ Below w.heap.size w W) ⟨(by repeat (first | (refine Bk.newAt ?_; simp; done) | refine Bk.alloc ?_ _ | refine Bk.drew ?_)), (by repeat (first | (refine Bk.newAt ?_; simp; done) | refine Bk.alloc ?_ _ | refine Bk.drew ?_)), (by repeat (first | (refine Bk.newAt ?_; simp; done) | refine Bk.alloc ?_ _ | refine Bk.drew ?_)), by exact keepc (W := wr) (by go_grown) q0, by exact keepc (W := wr) (by go_grown) q1, by exact keepc (W := wr) (by go_grown) wd0, by exact keepc (W := wr) (by go_grown) wdl, by exact we0.keep (by go_grown), by exact wel.keep (by go_grown), by go_grown⟩ ?_
              clear q0 q1 wd0 wdl we0 wel B4 lx1
              rintro W ⟨kF, kA, kW, q0, q1, wd0, wdl, we0, wel, hB⟩
              have hT : Tl w wr.heap.size (wr.heap.size + 1 + 1) (wr.heap.size + 1 + 1) (fl 0) (fl n) W := ⟨cxp_args kF wd0 we0, cxe_args kF (by omega) wdl wel, cxp_args kW wd0 we0, cxe_args kW (by omega) wdl wel, hB⟩
              have HT := Lib.hid hT
              clear kF kA kW hB hT wd0 wdl we0 wel
              have lx1 := World.block_lt_of_cell? _ _ q0
              go_wp2_with fail
              refine (HT.out.1 _ (Below.refl _ _)).mono ?_
              rintro e v5 ⟨rfl, hb⟩
              have hT := HT.out.keep hb
              clear HT hb q0 q1 lx1
              have HT := Lib.hid (hT.keep ((Below.refl _ v5).alloc (Nat.le_refl _) (.cells #[.int .u32 (fl 0), .int .u32 16385] 30)))
              clear hT
              go_wp2_with fail
              refine (HT.out.2.1 _ (Below.refl _ _)).mono ?_
              rintro e v6 ⟨rfl, hb⟩
              have hT := HT.out.keep hb
              have kP := (Bk.fresh v5 30 #[.int .u32 (fl 0), .int .u32 16385]).keep hb
              clear hb HT
              have HT := Lib.hid hT
              have HP := Lib.hid kP
              clear hT kP
              go_wp2_with fail
              refine wp_gen (S := fun W => Tc w wr.heap.size (wr.heap.size + 1 + 1) (wr.heap.size + 1 + 1) v5.heap.size v6.heap.size (fl 0) (fl n) W) ⟨by rw [(HP.out.alloc _).cells]; rfl, by rw [(HP.out.alloc _).cells]; rfl, by rw [(Bk.fresh _ _ _).cells]; rfl, by rw [(Bk.fresh _ _ _).cells]; rfl, HT.out.keep ((Below.refl _ _).alloc (Nat.le_refl _) _)⟩ ?_
              intro W hW
              clear HT HP
              have iw : IntKind.u32.wrap (fl n + 5) = (fl n + 5) % 4294967296 := by rw [IntKind.wrap_u32]
              go_region_held3 (fun W => W.cell? ⟨v5.heap.size, 0, none⟩ = some (.int .u32 (fl 0)) ∧ W.cell? ⟨v5.heap.size, 1, none⟩ = some (.int .u32 16385) ∧ W.cell? ⟨v6.heap.size, 0, none⟩ = some (.int .u32 (((fl n) + 5) % 4294967296)) ∧ W.cell? ⟨v6.heap.size, 1, none⟩ = some (.int .u32 16390) ∧ Tl w wr.heap.size (wr.heap.size + 1 + 1) (wr.heap.size + 1 + 1) (fl 0) (fl n) W) (first | exact Tc.drew hW | exact Tc.keep (by assumption) (by assumption))
                ((go_at_call 15; refine (mk147_any _ _ _ _ (by omega) (by omega) (by omega) (by omega)).mono ?_; rintro e w' ⟨rfl, hb⟩))
              rename_i hH
              clear hW iw
              have hW : Tc w wr.heap.size (wr.heap.size + 1 + 1) (wr.heap.size + 1 + 1) v5.heap.size v6.heap.size (fl 0) (fl n) _ := hH
              clear hH
              go_wp2_with fail
              go_region_held3 (fun W => W.cell? ⟨v5.heap.size, 0, none⟩ = some (.int .u32 (fl 0)) ∧ W.cell? ⟨v5.heap.size, 1, none⟩ = some (.int .u32 16385) ∧ W.cell? ⟨v6.heap.size, 0, none⟩ = some (.int .u32 (((fl n) + 5) % 4294967296)) ∧ W.cell? ⟨v6.heap.size, 1, none⟩ = some (.int .u32 16390) ∧ Tl w wr.heap.size (wr.heap.size + 1 + 1) (wr.heap.size + 1 + 1) (fl 0) (fl n) W) (first | exact Tc.drew hW | exact Tc.keep (by assumption) (by assumption))
                ((go_at_call 16; refine (Tc_pos (by assumption)).mono ?_; rintro e w' ⟨rfl, hb⟩))
              rename_i hH
              clear hW
              have hW : Tc w wr.heap.size (wr.heap.size + 1 + 1) (wr.heap.size + 1 + 1) v5.heap.size v6.heap.size (fl 0) (fl n) _ := hH
              clear hH
              go_wp2_with fail
              go_region_held3 (fun W => W.cell? ⟨v5.heap.size, 0, none⟩ = some (.int .u32 (fl 0)) ∧ W.cell? ⟨v5.heap.size, 1, none⟩ = some (.int .u32 16385) ∧ W.cell? ⟨v6.heap.size, 0, none⟩ = some (.int .u32 (((fl n) + 5) % 4294967296)) ∧ W.cell? ⟨v6.heap.size, 1, none⟩ = some (.int .u32 16390) ∧ Tl w wr.heap.size (wr.heap.size + 1 + 1) (wr.heap.size + 1 + 1) (fl 0) (fl n) W) (first | exact Tc.drew hW | exact Tc.keep (by assumption) (by assumption))
                ((go_at_call 17; refine (Tc_end (by assumption)).mono ?_; rintro e w' ⟨rfl, hb⟩))
              rename_i hH
              have hBB := hH.2.2.2.2.2.2.2.2
              clear hH hW
              go_wp2
              go_ret
              exact ⟨rfl, hBB⟩
          · rcases lb with _ | n
            · skip
              obtain ⟨x0, rfl, p0, p1, lx0⟩ := s0.ends
              rcases EA.out with h | ⟨av0, avl, ad0, adl, ae0, ael⟩
              · omega
              replace adl : wr.cell? ⟨W2.heap.size, m, none⟩ = some avl := adl
              replace ael : ElA fo m avl wr := ael
              have im0 : (0 : Int) < (m : Int) + 1 := by omega
              have im1 : (m : Int) < (m : Int) + 1 := by omega
              have im2 : (0 : Int) ≤ (m : Int) := by omega
              clear EA EW s0 s1
              have sB := B4.size
              go_upto_region 25 with (fail)
              refine wp_gen (S := fun W => Bk W wr.heap.size 46 #[.slice (some ⟨W2.heap.size, 0, none⟩) (m + 1) (m + 1), .slice (some ⟨W3.heap.size, 0, none⟩) 0 0] ∧ Bk W (wr.heap.size + 1) 46 #[.slice (some ⟨W2.heap.size, 0, none⟩) (m + 1) (m + 1), .slice none 0 0] ∧ Bk W (wr.heap.size + 1 + 1) 46 #[.slice none 0 0, .slice (some ⟨W3.heap.size, 0, none⟩) 0 0] ∧ W.cell? x0 = some (.int .u32 (fo 0)) ∧ W.cell? (x0.add m) = some (.int .u32 (fo m)) ∧ W.cell? ⟨W2.heap.size, 0, none⟩ = some av0 ∧ W.cell? ⟨W2.heap.size, m, none⟩ = some avl ∧ ElA fo 0 av0 W ∧ ElA fo m avl W ∧ Below w.heap.size w W) ⟨(by repeat (first | (refine Bk.newAt ?_; simp; done) | refine Bk.alloc ?_ _ | refine Bk.drew ?_)), (by repeat (first | (refine Bk.newAt ?_; simp; done) | refine Bk.alloc ?_ _ | refine Bk.drew ?_)), (by repeat (first | (refine Bk.newAt ?_; simp; done) | refine Bk.alloc ?_ _ | refine Bk.drew ?_)), by exact keepc (W := wr) (by go_grown) p0, by exact keepc (W := wr) (by go_grown) p1, by exact keepc (W := wr) (by go_grown) ad0, by exact keepc (W := wr) (by go_grown) adl, by exact ae0.keep (by go_grown), by exact ael.keep (by go_grown), by go_grown⟩ ?_
              clear p0 p1 ad0 adl ae0 ael B4 lx0
              rintro W ⟨kF, kA, kW, p0, p1, ad0, adl, ae0, ael, hB⟩
              have hT : Tl w wr.heap.size (wr.heap.size + 1) (wr.heap.size + 1) (fo 0) (fo m) W := ⟨cxp_assigns kF ad0 ae0, cxe_assigns kF (by omega) adl ael, cxp_assigns kA ad0 ae0, cxe_assigns kA (by omega) adl ael, hB⟩
              have HT := Lib.hid hT
              clear kF kA kW hB hT ad0 adl ae0 ael
              have lx0 := World.block_lt_of_cell? _ _ p0
              go_wp2_with fail
              refine (HT.out.1 _ (Below.refl _ _)).mono ?_
              rintro e v5 ⟨rfl, hb⟩
              have hT := HT.out.keep hb
              clear HT hb p0 p1 lx0
              have HT := Lib.hid (hT.keep ((Below.refl _ v5).alloc (Nat.le_refl _) (.cells #[.int .u32 (fo 0), .int .u32 16385] 30)))
              clear hT
              go_wp2_with fail
              refine (HT.out.2.1 _ (Below.refl _ _)).mono ?_
              rintro e v6 ⟨rfl, hb⟩
              have hT := HT.out.keep hb
              have kP := (Bk.fresh v5 30 #[.int .u32 (fo 0), .int .u32 16385]).keep hb
              clear hb HT
              have HT := Lib.hid hT
              have HP := Lib.hid kP
              clear hT kP
              go_wp2_with fail
              refine wp_gen (S := fun W => Tc w wr.heap.size (wr.heap.size + 1) (wr.heap.size + 1) v5.heap.size v6.heap.size (fo 0) (fo m) W) ⟨by rw [(HP.out.alloc _).cells]; rfl, by rw [(HP.out.alloc _).cells]; rfl, by rw [(Bk.fresh _ _ _).cells]; rfl, by rw [(Bk.fresh _ _ _).cells]; rfl, HT.out.keep ((Below.refl _ _).alloc (Nat.le_refl _) _)⟩ ?_
              intro W hW
              clear HT HP
              have iw : IntKind.u32.wrap (fo m + 5) = (fo m + 5) % 4294967296 := by rw [IntKind.wrap_u32]
              go_region_held3 (fun W => W.cell? ⟨v5.heap.size, 0, none⟩ = some (.int .u32 (fo 0)) ∧ W.cell? ⟨v5.heap.size, 1, none⟩ = some (.int .u32 16385) ∧ W.cell? ⟨v6.heap.size, 0, none⟩ = some (.int .u32 (((fo m) + 5) % 4294967296)) ∧ W.cell? ⟨v6.heap.size, 1, none⟩ = some (.int .u32 16390) ∧ Tl w wr.heap.size (wr.heap.size + 1) (wr.heap.size + 1) (fo 0) (fo m) W) (first | exact Tc.drew hW | exact Tc.keep (by assumption) (by assumption))
                ((go_at_call 15; refine (mk147_any _ _ _ _ (by omega) (by omega) (by omega) (by omega)).mono ?_; rintro e w' ⟨rfl, hb⟩))
              rename_i hH
              clear hW iw
              have hW : Tc w wr.heap.size (wr.heap.size + 1) (wr.heap.size + 1) v5.heap.size v6.heap.size (fo 0) (fo m) _ := hH
              clear hH
              go_wp2_with fail
              go_region_held3 (fun W => W.cell? ⟨v5.heap.size, 0, none⟩ = some (.int .u32 (fo 0)) ∧ W.cell? ⟨v5.heap.size, 1, none⟩ = some (.int .u32 16385) ∧ W.cell? ⟨v6.heap.size, 0, none⟩ = some (.int .u32 (((fo m) + 5) % 4294967296)) ∧ W.cell? ⟨v6.heap.size, 1, none⟩ = some (.int .u32 16390) ∧ Tl w wr.heap.size (wr.heap.size + 1) (wr.heap.size + 1) (fo 0) (fo m) W) (first | exact Tc.drew hW | exact Tc.keep (by assumption) (by assumption))
                ((go_at_call 16; refine (Tc_pos (by assumption)).mono ?_; rintro e w' ⟨rfl, hb⟩))
              rename_i hH
              clear hW
              have hW : Tc w wr.heap.size (wr.heap.size + 1) (wr.heap.size + 1) v5.heap.size v6.heap.size (fo 0) (fo m) _ := hH
              clear hH
              go_wp2_with fail
              go_region_held3 (fun W => W.cell? ⟨v5.heap.size, 0, none⟩ = some (.int .u32 (fo 0)) ∧ W.cell? ⟨v5.heap.size, 1, none⟩ = some (.int .u32 16385) ∧ W.cell? ⟨v6.heap.size, 0, none⟩ = some (.int .u32 (((fo m) + 5) % 4294967296)) ∧ W.cell? ⟨v6.heap.size, 1, none⟩ = some (.int .u32 16390) ∧ Tl w wr.heap.size (wr.heap.size + 1) (wr.heap.size + 1) (fo 0) (fo m) W) (first | exact Tc.drew hW | exact Tc.keep (by assumption) (by assumption))
                ((go_at_call 17; refine (Tc_end (by assumption)).mono ?_; rintro e w' ⟨rfl, hb⟩))
              rename_i hH
              have hBB := hH.2.2.2.2.2.2.2.2
              clear hH hW
              go_wp2
              go_ret
              exact ⟨rfl, hBB⟩
            · skip
              obtain ⟨x0, rfl, p0, p1, lx0⟩ := s0.ends
              rcases EA.out with h | ⟨av0, avl, ad0, adl, ae0, ael⟩
              · omega
              replace adl : wr.cell? ⟨W2.heap.size, m, none⟩ = some avl := adl
              replace ael : ElA fo m avl wr := ael
              have im0 : (0 : Int) < (m : Int) + 1 := by omega
              have im1 : (m : Int) < (m : Int) + 1 := by omega
              have im2 : (0 : Int) ≤ (m : Int) := by omega
              obtain ⟨x1, rfl, q0, q1, lx1⟩ := s1.ends
              rcases EW.out with h | ⟨wv0, wvl, wd0, wdl, we0, wel⟩
              · omega
              replace wdl : wr.cell? ⟨W3.heap.size, n, none⟩ = some wvl := wdl
              replace wel : ElW fl n wvl wr := wel
              have in0 : (0 : Int) < (n : Int) + 1 := by omega
              have in1 : (n : Int) < (n : Int) + 1 := by omega
              have in2 : (0 : Int) ≤ (n : Int) := by omega
              clear EA EW s0 s1
              have sB := B4.size
              go_upto_region 25 with (fail)
              refine wp_gen (S := fun W => Bk W wr.heap.size 46 #[.slice (some ⟨W2.heap.size, 0, none⟩) (m + 1) (m + 1), .slice (some ⟨W3.heap.size, 0, none⟩) (n + 1) (n + 1)] ∧ Bk W (wr.heap.size + 1) 46 #[.slice (some ⟨W2.heap.size, 0, none⟩) (m + 1) (m + 1), .slice none 0 0] ∧ Bk W (wr.heap.size + 1 + 1) 46 #[.slice none 0 0, .slice (some ⟨W3.heap.size, 0, none⟩) (n + 1) (n + 1)] ∧ W.cell? x0 = some (.int .u32 (fo 0)) ∧ W.cell? (x0.add m) = some (.int .u32 (fo m)) ∧ W.cell? ⟨W2.heap.size, 0, none⟩ = some av0 ∧ W.cell? ⟨W2.heap.size, m, none⟩ = some avl ∧ ElA fo 0 av0 W ∧ ElA fo m avl W ∧ W.cell? x1 = some (.int .u32 (fl 0)) ∧ W.cell? (x1.add n) = some (.int .u32 (fl n)) ∧ W.cell? ⟨W3.heap.size, 0, none⟩ = some wv0 ∧ W.cell? ⟨W3.heap.size, n, none⟩ = some wvl ∧ ElW fl 0 wv0 W ∧ ElW fl n wvl W ∧ Below w.heap.size w W) ⟨(by repeat (first | (refine Bk.newAt ?_; simp; done) | refine Bk.alloc ?_ _ | refine Bk.drew ?_)), (by repeat (first | (refine Bk.newAt ?_; simp; done) | refine Bk.alloc ?_ _ | refine Bk.drew ?_)), (by repeat (first | (refine Bk.newAt ?_; simp; done) | refine Bk.alloc ?_ _ | refine Bk.drew ?_)), by exact keepc (W := wr) (by go_grown) p0, by exact keepc (W := wr) (by go_grown) p1, by exact keepc (W := wr) (by go_grown) ad0, by exact keepc (W := wr) (by go_grown) adl, by exact ae0.keep (by go_grown), by exact ael.keep (by go_grown), by exact keepc (W := wr) (by go_grown) q0, by exact keepc (W := wr) (by go_grown) q1, by exact keepc (W := wr) (by go_grown) wd0, by exact keepc (W := wr) (by go_grown) wdl, by exact we0.keep (by go_grown), by exact wel.keep (by go_grown), by go_grown⟩ ?_
              clear p0 p1 ad0 adl ae0 ael q0 q1 wd0 wdl we0 wel B4 lx0 lx1
              rintro W ⟨kF, kA, kW, p0, p1, ad0, adl, ae0, ael, q0, q1, wd0, wdl, we0, wel, hB⟩
              have hT : Tl w wr.heap.size (wr.heap.size + 1) (wr.heap.size + 1 + 1) (fo 0) (fl n) W := ⟨cxp_assigns kF ad0 ae0, cxe_args kF (by omega) wdl wel, cxp_assigns kA ad0 ae0, cxe_args kW (by omega) wdl wel, hB⟩
              have HT := Lib.hid hT
              clear kF kA kW hB hT ad0 adl ae0 ael wd0 wdl we0 wel
              have lx0 := World.block_lt_of_cell? _ _ p0
              have lx1 := World.block_lt_of_cell? _ _ q0
              go_wp2_with fail
              refine (HT.out.1 _ (Below.refl _ _)).mono ?_
              rintro e v5 ⟨rfl, hb⟩
              have hT := HT.out.keep hb
              clear HT hb p0 p1 q0 q1 lx0 lx1
              have HT := Lib.hid (hT.keep ((Below.refl _ v5).alloc (Nat.le_refl _) (.cells #[.int .u32 (fo 0), .int .u32 16385] 30)))
              clear hT
              go_wp2_with fail
              refine (HT.out.2.1 _ (Below.refl _ _)).mono ?_
              rintro e v6 ⟨rfl, hb⟩
              have hT := HT.out.keep hb
              have kP := (Bk.fresh v5 30 #[.int .u32 (fo 0), .int .u32 16385]).keep hb
              clear hb HT
              have HT := Lib.hid hT
              have HP := Lib.hid kP
              clear hT kP
              go_wp2_with fail
              refine wp_gen (S := fun W => Tc w wr.heap.size (wr.heap.size + 1) (wr.heap.size + 1 + 1) v5.heap.size v6.heap.size (fo 0) (fl n) W) ⟨by rw [(HP.out.alloc _).cells]; rfl, by rw [(HP.out.alloc _).cells]; rfl, by rw [(Bk.fresh _ _ _).cells]; rfl, by rw [(Bk.fresh _ _ _).cells]; rfl, HT.out.keep ((Below.refl _ _).alloc (Nat.le_refl _) _)⟩ ?_
              intro W hW
              clear HT HP
              have iw : IntKind.u32.wrap (fl n + 5) = (fl n + 5) % 4294967296 := by rw [IntKind.wrap_u32]
              go_region_held3 (fun W => W.cell? ⟨v5.heap.size, 0, none⟩ = some (.int .u32 (fo 0)) ∧ W.cell? ⟨v5.heap.size, 1, none⟩ = some (.int .u32 16385) ∧ W.cell? ⟨v6.heap.size, 0, none⟩ = some (.int .u32 (((fl n) + 5) % 4294967296)) ∧ W.cell? ⟨v6.heap.size, 1, none⟩ = some (.int .u32 16390) ∧ Tl w wr.heap.size (wr.heap.size + 1) (wr.heap.size + 1 + 1) (fo 0) (fl n) W) (first | exact Tc.drew hW | exact Tc.keep (by assumption) (by assumption))
                ((go_at_call 15; refine (mk147_any _ _ _ _ (by omega) (by omega) (by omega) (by omega)).mono ?_; rintro e w' ⟨rfl, hb⟩))
              rename_i hH
              clear hW iw
              have hW : Tc w wr.heap.size (wr.heap.size + 1) (wr.heap.size + 1 + 1) v5.heap.size v6.heap.size (fo 0) (fl n) _ := hH
              clear hH
              go_wp2_with fail
              go_region_held3 (fun W => W.cell? ⟨v5.heap.size, 0, none⟩ = some (.int .u32 (fo 0)) ∧ W.cell? ⟨v5.heap.size, 1, none⟩ = some (.int .u32 16385) ∧ W.cell? ⟨v6.heap.size, 0, none⟩ = some (.int .u32 (((fl n) + 5) % 4294967296)) ∧ W.cell? ⟨v6.heap.size, 1, none⟩ = some (.int .u32 16390) ∧ Tl w wr.heap.size (wr.heap.size + 1) (wr.heap.size + 1 + 1) (fo 0) (fl n) W) (first | exact Tc.drew hW | exact Tc.keep (by assumption) (by assumption))
                ((go_at_call 16; refine (Tc_pos (by assumption)).mono ?_; rintro e w' ⟨rfl, hb⟩))
              rename_i hH
              clear hW
              have hW : Tc w wr.heap.size (wr.heap.size + 1) (wr.heap.size + 1 + 1) v5.heap.size v6.heap.size (fo 0) (fl n) _ := hH
              clear hH
              go_wp2_with fail
              go_region_held3 (fun W => W.cell? ⟨v5.heap.size, 0, none⟩ = some (.int .u32 (fo 0)) ∧ W.cell? ⟨v5.heap.size, 1, none⟩ = some (.int .u32 16385) ∧ W.cell? ⟨v6.heap.size, 0, none⟩ = some (.int .u32 (((fl n) + 5) % 4294967296)) ∧ W.cell? ⟨v6.heap.size, 1, none⟩ = some (.int .u32 16390) ∧ Tl w wr.heap.size (wr.heap.size + 1) (wr.heap.size + 1 + 1) (fo 0) (fl n) W) (first | exact Tc.drew hW | exact Tc.keep (by assumption) (by assumption))
                ((go_at_call 17; refine (Tc_end (by assumption)).mono ?_; rintro e w' ⟨rfl, hb⟩))
              rename_i hH
              have hBB := hH.2.2.2.2.2.2.2.2
              clear hH hW
              go_wp2
              go_ret
              exact ⟨rfl, hBB⟩
end Go.Proofs.Ytimaobpcefgdkaa
