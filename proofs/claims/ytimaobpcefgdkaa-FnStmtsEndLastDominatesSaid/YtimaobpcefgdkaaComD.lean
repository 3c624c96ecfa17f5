/- zzStmts: the copy of the statements. -/
import Derived.Test.YtimaobpcefgdkaaComC
import Derived.Test.YtimaobpcefgdkaaLFileE
namespace Go.Proofs.Ytimaobpcefgdkaa
open Go.RowKit
theorem Pos3At.later {w W : World} {p : Addr} (h : Pos3At w p) (hb : Below w.heap.size w W) : Pos3At W p := h.keep hb
theorem OkComs.keep {w W : World} {a : Option Addr} {n : Nat} (h : OkComs w a n) (hb : Below w.heap.size w W) : OkComs W a n := by
  refine ⟨h.1, ?_⟩
  rcases h.2 with h | ⟨x, hx, h⟩
  · exact .inl h
  · refine .inr ⟨x, hx, fun i hi => ?_⟩
    obtain ⟨h3, s, hs, hz⟩ := h i hi
    exact ⟨h3.keep hb, s, keepc hb hs, hz⟩
/-- The comments' slice: nil and empty, or a row of its own from B on. -/
def ComsIn (B : Nat) (W : World) (A : Option Addr) (n : Nat) : Prop := (A = none ∧ n = 0) ∨ ∃ g : Nat, A = some ⟨g, 0, none⟩ ∧ B ≤ g ∧ RowC W g n
theorem ComsIn.keep {B n : Nat} {W W1 : World} {A : Option Addr} (h : ComsIn B W A n) (hb : Below W.heap.size W W1) : ComsIn B W1 A n := by
  rcases h with h | ⟨g, h1, h2, h3⟩
  · exact .inl h
  · exact .inr ⟨g, h1, h2, h3.keep hb⟩
theorem RowC.far {W : World} {g n : Nat} (h : RowC W g n) {p : Addr} (hp : g ≠ p.block) (u : Value) : RowC (W.setCell p u) g n := by
  obtain ⟨cs, h1, h2⟩ := h
  exact ⟨cs, h1.far hp u, h2⟩
theorem ComsIn.far {B n : Nat} {W : World} {A : Option Addr} (h : ComsIn B W A n) {p : Addr} (hp : p.block < B) (u : Value) : ComsIn B (W.setCell p u) A n := by
  rcases h with h | ⟨g, h1, h2, h3⟩
  · exact .inl h
  · exact .inr ⟨g, h1, h2, h3.far (by omega) u⟩
theorem ComsIn.less {B B' n : Nat} {W : World} {A : Option Addr} (h : ComsIn B W A n) (hb : B' ≤ B) : ComsIn B' W A n := by
  rcases h with h | ⟨g, h1, h2, h3⟩
  · exact .inl h
  · exact .inr ⟨g, h1, by omega, h3⟩
def RetCs (w : World) (n : Nat) (e : Ending) (w' : World) : Prop := ∃ A : Option Addr, e = .returned (.slice A n n) ∧ ComsIn w.heap.size w' A n ∧ Below w.heap.size w w'
theorem zzComments_ok (a : Option Addr) (n cap : Nat) (w : World) (h : OkComs w a n) (hcap : a = none → cap = 0) : Calls Try.prog 21 #[.slice a n cap] w (RetCs w n) := by
  rcases h.2 with ⟨rfl, rfl⟩ | ⟨x, rfl, hx⟩
  · obtain rfl := hcap rfl
    have hnil := fun (w : World) (a : Option Addr) (n c n' c' : Nat) => Lib.run_eql_slice_nil (P := Try.prog) w 49 120 a n c n' c' Try.underlying49
    clear h hcap
    go_enter Try.func21, Try.ntmps21
    go_wp2
    go_ret
    exact ⟨_, rfl, .inl ⟨rfl, rfl⟩, Below.refl _ _⟩
  · refine (zzComments_some x n cap w h.1 hx).mono ?_
    rintro e w' ⟨g, rfl, hg, hR, hb⟩
    exact ⟨_, rfl, .inr ⟨g, rfl, hg, hR⟩, hb⟩
/-- The first statement of the row at g: bare but for its comments. -/
def First (g : Nat) (W : World) : Prop :=
  ∃ (b m : Nat) (A : Option Addr) (po pl : Int), W.cell? ⟨g, 0, none⟩ = some (.pointer (some ⟨b, 0, none⟩)) ∧ b ≠ g ∧ Bk W b 68 (stCells (.slice A m m) .nilIface po pl 0 0 false false false false (.slice none 0 0)) ∧ ComsIn (g + 1) W A m ∧ m ≤ 1048576 ∧ 0 ≤ po ∧ po < 4294967296 ∧ 0 ≤ pl ∧ pl < 4294967296
theorem First.keep {g : Nat} {W W1 : World} (h : First g W) (hb : Below W.heap.size W W1) : First g W1 := by
  obtain ⟨b, m, A, po, pl, h1, h2, h3, h4, r⟩ := h
  exact ⟨b, m, A, po, pl, keepc hb h1, h2, h3.keep hb, h4.keep hb, r⟩
theorem First.far {g k : Nat} {W : World} (h : First g W) (hk : 0 < k) (u : Value) : First g (W.setCell ⟨g, k, none⟩ u) := by
  obtain ⟨b, m, A, po, pl, h1, h2, h3, h4, r⟩ := h
  refine ⟨b, m, A, po, pl, ?_, h2, h3.far (p := ⟨g, k, none⟩) h2 u, h4.far (p := ⟨g, k, none⟩) (by show g < g + 1; omega) u, r⟩
  exact (World.cell?_setCell_other (w := W) (a := ⟨g, k, none⟩) (b := ⟨g, 0, none⟩) (v := u) (by intro h; injection h with _ h _; omega)).trans h1
def RestS (w : World) (g n k : Nat) (W : World) : Prop := (∃ fr, RowF W w.heap.size g 64 n fr) ∧ (0 < k → First g W) ∧ Below w.heap.size w W
theorem RestS.keep {w : World} {g n k : Nat} {W W1 : World} (h : RestS w g n k W) (hb : Below W.heap.size W W1) : RestS w g n k W1 := by
  obtain ⟨⟨fr, h1⟩, h2, h3⟩ := h
  exact ⟨⟨fr, h1.keep hb⟩, fun q => (h2 q).keep hb, bmore h3 hb⟩
theorem RestS.put {w : World} {g n k : Nat} {W : World} (h : RestS w g n k W) (hg : w.heap.size ≤ g) (u : Value) : RestS w g n k (W.setCell ⟨g, k, none⟩ u) := by
  obtain ⟨⟨fr, h1⟩, h2, h3⟩ := h
  exact ⟨⟨_, h1.put u⟩, fun q => (h2 q).far q u, h3.setCell (p := ⟨g, k, none⟩) hg u⟩
/-- What one round leans on. -/
def InS (w : World) (x : Addr) (g n k : Nat) (o l c : Int) (b : Option Addr) (m d : Nat) (W : World) : Prop :=
  W.cell? (x.add (k * 4)) = some (.int .u32 o) ∧ W.cell? { block := (x.add (k * 4)).block, off := (x.add (k * 4)).off + 1 } = some (.int .u32 l) ∧ W.cell? { block := (x.add (k * 4)).block, off := (x.add (k * 4)).off + 2 } = some (.int .u32 c) ∧ W.cell? { block := (x.add (k * 4)).block, off := (x.add (k * 4)).off + 3 } = some (.slice b m d) ∧
  W.cell? ⟨g, k, none⟩ = some (valAt W ⟨g, k, none⟩) ∧ W.frozen? ⟨g, k, none⟩ = false ∧ RestS w g n k W
theorem InS.mk {w : World} {x : Addr} {g n k : Nat} {o l c : Int} {b : Option Addr} {m d : Nat} {W : World} (h0 : W.cell? (x.add (k * 4)) = some (.int .u32 o)) (h1 : W.cell? { block := (x.add (k * 4)).block, off := (x.add (k * 4)).off + 1 } = some (.int .u32 l)) (h2 : W.cell? { block := (x.add (k * 4)).block, off := (x.add (k * 4)).off + 2 } = some (.int .u32 c)) (h3 : W.cell? { block := (x.add (k * 4)).block, off := (x.add (k * 4)).off + 3 } = some (.slice b m d)) (hR : RestS w g n k W) (hk : k < n) : InS w x g n k o l c b m d W := by
  obtain ⟨fr, h⟩ := hR.1
  exact ⟨h0, h1, h2, h3, valAt_of (h.cell hk), h.frz k, hR⟩
theorem InS.keep {w : World} {x : Addr} {g n k : Nat} {o l c : Int} {b : Option Addr} {m d : Nat} {W W1 : World} (hk : k < n) (h : InS w x g n k o l c b m d W) (hb : Below W.heap.size W W1) : InS w x g n k o l c b m d W1 :=
  InS.mk (keepc hb h.1) (keepc hb h.2.1) (keepc hb h.2.2.1) (keepc hb h.2.2.2.1) (h.2.2.2.2.2.2.keep hb) hk
theorem InS.put {w : World} {x : Addr} {g n k : Nat} {o l c : Int} {b : Option Addr} {m d : Nat} {W : World} (hk : k < n) (hg : w.heap.size ≤ g) (hx : (x.add (k * 4)).block < w.heap.size) (h : InS w x g n k o l c b m d W) (u : Value) : InS w x g n k o l c b m d (W.setCell ⟨g, k, none⟩ u) := by
  have hne : (x.add (k * 4)).block ≠ g := by omega
  exact InS.mk (cell_far h.1 hne) (cell_far h.2.1 hne) (cell_far h.2.2.1 hne) (cell_far h.2.2.2.1 hne) (h.2.2.2.2.2.2.put hg u) hk
theorem InS.below {w : World} {x : Addr} {g n k : Nat} {o l c : Int} {b : Option Addr} {m d : Nat} {W : World} (h : InS w x g n k o l c b m d W) : Below w.heap.size w W := h.2.2.2.2.2.2.2.2
theorem InS.lt {w : World} {x : Addr} {g n k : Nat} {o l c : Int} {b : Option Addr} {m d : Nat} {W : World} (h : InS w x g n k o l c b m d W) : g < W.heap.size := by
  obtain ⟨fr, hf⟩ := h.2.2.2.2.2.2.1
  exact hf.lt.2
/-- The round's end: the first statement is told. -/
theorem InS.next {w : World} {x : Addr} {g n k : Nat} {o l c po pl : Int} {b A : Option Addr} {m d : Nat} {W : World} (h : InS w x g n k o l c b m d W) (hg : w.heap.size ≤ g) (hA : ComsIn (g + 1) W A m) (hm : m ≤ 1048576) (q : 0 ≤ po ∧ po < 4294967296 ∧ 0 ≤ pl ∧ pl < 4294967296) :
    RestS w g n (k + 1) ((W.alloc (.cells (stCells (.slice A m m) .nilIface po pl 0 0 false false false false (.slice none 0 0)) 68)).setCell ⟨g, k, none⟩ (.pointer (some ⟨W.heap.size, 0, none⟩))) := by
  have hl := h.lt
  have ha : Below W.heap.size W (W.alloc (.cells (stCells (.slice A m m) .nilIface po pl 0 0 false false false false (.slice none 0 0)) 68)) := (Below.refl _ _).alloc (Nat.le_refl _) _
  obtain ⟨h1, h2, h3⟩ := (h.2.2.2.2.2.2.keep ha).put hg (.pointer (some ⟨W.heap.size, 0, none⟩))
  refine ⟨h1, fun _ => ?_, h3⟩
  rcases Nat.eq_zero_or_pos k with rfl | hk
  · refine ⟨W.heap.size, m, A, po, pl, World.cell?_setCell_same (h := keepc ha h.2.2.2.2.1) .., by omega, (Bk.fresh _ _ _).far (p := ⟨g, 0, none⟩) (by show W.heap.size ≠ g; omega) _, (hA.keep ha).far (p := ⟨g, 0, none⟩) (by show g < g + 1; omega) _, hm, q⟩
  · exact h2 hk
def RetS (w : World) (n : Nat) (e : Ending) (w' : World) : Prop := ∃ g : Nat, e = .returned (.slice (some ⟨g, 0, none⟩) n n) ∧ w.heap.size ≤ g ∧ (0 < n → First g w') ∧ Below w.heap.size w w'
def OkCaps (w : World) (x : Addr) (n : Nat) : Prop := ∀ i, i < n → ∀ (b : Option Addr) (m d : Nat), w.cell? ((x.add (i * 4)).add 3) = some (.slice b m d) → b = none → d = 0
set_option maxHeartbeats 8000000 in
set_option maxRecDepth 100000 in
theorem zzStmts_some (x : Addr) (n cap : Nat) (w : World) (hn : n ≤ 1048576) (h : ∀ i, i < n → OkSt w (x.add (i * 4))) (hcap : OkCaps w x n) : Calls Try.prog 20 #[.slice (some x) n cap] w (RetS w n) := by
  have hmk := makeSt n hn
  have HC := Lib.hid h
  have HQ := Lib.hid hcap
  clear h hcap
  have hnil := fun (w : World) (a : Option Addr) (n c n' c' : Nat) => Lib.run_eql_slice_nil (P := Try.prog) w 48 118 a n c n' c' Try.underlying48
  go_enter Try.func20, Try.ntmps20
  go_wp2_with fail
  refine wp_gen (S := fun W => RestS w w.heap.size n 0 W) ⟨⟨_, RowF.fresh _ _ _ (Nat.le_refl _) (by unfold maxLen; omega)⟩, fun h => by omega, by go_grown⟩ ?_
  intro W hR
  go_loopw [12] (fun i wr => ∃ k : Nat, k ≤ n ∧ i = .int .i64 k ∧ RestS w w.heap.size n k wr) (fun i _ => n - (intOf i).toNat)
  case atStart => exact ⟨0, by omega, by go_num, hR⟩
  case round =>
    clear hR
    obtain ⟨k, hk, rfl, hR⟩ := hrel
    by_cases hlt : k < n
    · obtain ⟨⟨o, l, c, p0, p1, p2, b0, b1, b2, b3, b4, b5⟩, b, m, d, p3, hok⟩ := HC.out k hlt
      have hB := hR.2.2
      have hI : InS w x w.heap.size n k o l c b m d wr := InS.mk (keepc hB p0) (keepc hB p1) (keepc hB p2) (keepc hB p3) hR hlt
      have hd := HQ.out k hlt b m d p3
      have hx := World.block_lt_of_cell? _ _ p0
      have hlt' : (k : Int) < (n : Int) := by omega
      have i0 : (0 : Int) ≤ (k : Int) := by omega
      have hO := npO_bd o b0
      have hL := npL_bd l c b2 b4
      have hm := hok.1
      have HO := Lib.hid hok
      have HD := Lib.hid hd
      clear hR hB p0 p1 p2 p3 hok hd
      go_wp2_with fail
      go_region_held3 (fun W => W.cell? (x.add (k * 4)) = some (.int .u32 o) ∧ W.cell? { block := (x.add (k * 4)).block, off := (x.add (k * 4)).off + 1 } = some (.int .u32 l) ∧ W.cell? { block := (x.add (k * 4)).block, off := (x.add (k * 4)).off + 2 } = some (.int .u32 c) ∧ W.cell? { block := (x.add (k * 4)).block, off := (x.add (k * 4)).off + 3 } = some (.slice b m d) ∧
  W.cell? ⟨w.heap.size, k, none⟩ = some (valAt W ⟨w.heap.size, k, none⟩) ∧ W.frozen? ⟨w.heap.size, k, none⟩ = false ∧ RestS w w.heap.size n k W)
        (first | exact InS.keep hlt hI ⟨rfl, rfl, rfl, Nat.le_refl _, fun _ _ => rfl⟩ | exact InS.keep hlt (by assumption) (by assumption) | exact InS.put hlt (Nat.le_refl _) hx (by assumption) _ | exact InS.keep hlt (by assumption) ((Below.refl _ _).alloc (Nat.le_refl _) _) | exact InS.keep hlt (InS.put hlt (Nat.le_refl _) hx (by assumption) _) ((Below.refl _ _).alloc (Nat.le_refl _) _))
        (first | (go_at_call 38; refine (zzPos128_any o l c _ (by omega) (by omega) (by omega) (by omega) (by omega) (by omega)).mono ?_; rintro e w' ⟨rfl, hb⟩) | (go_at_call 21; refine (zzComments_ok b m d _ (HO.out.keep (by exact InS.below (n := n) (by assumption))) HD.out).mono ?_; rintro e wc ⟨A, rfl, hA, hb⟩; replace hA := hA.less (B' := w.heap.size + 1) (by exact InS.lt (n := n) (by assumption))))
      have hWc : InS w x w.heap.size n k o l c b m d wc := InS.keep hlt (InS.keep hlt (InS.keep (W1 := wr.drew) hlt hI ⟨rfl, rfl, rfl, Nat.le_refl _, fun _ _ => rfl⟩) (by assumption)) hb
      have hN := hWc.next (po := npO o) (pl := npL l c) (Nat.le_refl _) hA hm ⟨by omega, by omega, by omega, by omega⟩
      have HN := Lib.hid hN
      clear hN hWc hA hI
      rename_i hH
      clear hH
      go_wp2
      go_roundw
      case rel => exact ⟨k + 1, by omega, by go_num, HN.out⟩
      case measure => simp [intOf]; omega
    · obtain rfl : k = n := by omega
      have hlt' : ¬ (k : Int) < (k : Int) := by omega
      go_wp2
      go_ret
      exact ⟨_, rfl, Nat.le_refl _, hR.2.1, hR.2.2⟩
end Go.Proofs.Ytimaobpcefgdkaa
