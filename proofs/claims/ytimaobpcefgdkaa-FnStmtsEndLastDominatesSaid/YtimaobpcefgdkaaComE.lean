/- stmtsPos, stmtsEnd with comments; Comment.Pos, Comment.End. -/
import Derived.Test.YtimaobpcefgdkaaComD
import Derived.IntWalk
namespace Go.Proofs.Ytimaobpcefgdkaa
open Go.RowKit
theorem OkCaps.of {w : World} {a : Option Addr} {n c : Nat} (h : IsSts w a n c) {x : Addr} (hx : a = some x) : OkCaps w x n := by
  subst hx
  rcases h with ⟨h, _⟩ | ⟨y, hy, h1, h2, h3⟩
  · cases h
  · injection hy with hy
    subst hy
    intro i hi b m d hc hb
    obtain ⟨_, a', l', c', h4, h5⟩ := h3 i (by omega)
    rw [h4] at hc
    injection hc with hc
    injection hc with e1 e2 e3
    subst e1 e3
    rcases h5 with ⟨_, _, h⟩ | ⟨z, hz, _⟩
    · exact h
    · rw [hb] at hz; cases hz
theorem Stmt_Pos_bk (b : Nat) (cm cmd rd : Value) (o lc so sl : Int) (w : World) (h : Bk w b 68 (stCells cm cmd o lc so sl false false false false rd)) :
    Calls Try.prog 92 #[.pointer (some ⟨b, 0, none⟩)] w fun e w' => e = .returned (P2 o lc) ∧ Below w.heap.size w w' := by
  have hc := h.cells
  have hl := h.lt
  clear h
  go_enter Try.func92, Try.ntmps92
  go_wp2
  go_returns
  exact ⟨rfl, by go_grown⟩
set_option maxRecDepth 100000 in
theorem Comment_End_any (b off : Nat) (o lc : Int) (s : ByteArray) (w : World) (h0 : w.cell? ⟨b, off, none⟩ = some (.int .u32 o)) (h1 : w.cell? ⟨b, off + 1, none⟩ = some (.int .u32 lc)) (h2 : w.cell? ⟨b, off + 2, none⟩ = some (.string s)) (o0 : 0 ≤ o) (o1 : o < 4294967296) (l0 : 0 ≤ lc) (l1 : lc < 4294967296) (hs : s.size ≤ 1048576) :
    Calls Try.prog 25 #[.pointer (some ⟨b, off, none⟩)] w fun e w' => e = .returned (P2 (addO o lc (1 + s.size)) (addL o lc (1 + s.size))) ∧ Below w.heap.size w w' := by
  have hlt : b < w.heap.size := World.block_lt_of_cell? _ _ h0
  go_enter Try.func25, Try.ntmps25
  go_wp2
  refine wp_gen (S := fun W => W.cell? ⟨b, off, none⟩ = some (.int .u32 o) ∧ W.cell? ⟨b, off + 1, none⟩ = some (.int .u32 lc) ∧ W.cell? ⟨b, off + 2, none⟩ = some (.string s) ∧ Bk W w.heap.size 30 #[.int .u32 0, .int .u32 0] ∧ Below w.heap.size w W) ⟨by simp [go_sem, h0, hlt], by simp [go_sem, h1, hlt], by simp [go_sem, h2, hlt], Bk.fresh _ _ _, by go_grown⟩ ?_
  clear h0 h1 h2
  rintro W ⟨h0, h1, h2, kR, hB⟩
  have iw : IntKind.i64.wrap (1 + (s.size : Int)) = 1 + (s.size : Int) := IntWalk.i64_in _ (by omega)
  go_still_tail 10, (by kernel_rfl)
  change wpList _ _ _ _ _ W.drew
  clear iw
  go_wp2_with fail
  refine (addCol_any o lc (1 + (s.size : Int)) W.drew o0 o1 l0 l1 (by omega) (by omega)).mono ?_
  rintro e w1 ⟨rfl, hb⟩
  have kR1 := kR.drew.keep hb
  have B1 := bmore (w := w) hB.drew hb
  clear hb kR hB h0 h1 h2
  have cR := kR1.cells
  have fR := kR1.frz
  go_wp2
  refine bodyPost_ret (v := P2 (addO o lc (1 + (s.size : Int))) (addL o lc (1 + (s.size : Int)))) (by simp [results, Try.results25, go_sem, cR]) rfl ⟨rfl, ?_⟩
  go_grown
/-- The first statement, told by numbers: where it lies, and where its first comment lies. -/
def FirstAt (g b m gc : Nat) (A : Option Addr) (po pl O L : Int) (W : World) : Prop :=
  W.cell? ⟨g, 0, none⟩ = some (.pointer (some ⟨b, 0, none⟩)) ∧ Bk W b 68 (stCells (.slice A m m) .nilIface po pl 0 0 false false false false (.slice none 0 0)) ∧ (m = 0 ∨ A = some ⟨gc, 0, none⟩ ∧ W.cell? ⟨gc, 0, none⟩ = some (.int .u32 O) ∧ W.cell? ⟨gc, 1, none⟩ = some (.int .u32 L))
theorem FirstAt.keep {g b m gc : Nat} {A : Option Addr} {po pl O L : Int} {W W1 : World} (h : FirstAt g b m gc A po pl O L W) (hb : Below W.heap.size W W1) : FirstAt g b m gc A po pl O L W1 := by
  obtain ⟨h1, h2, h3⟩ := h
  refine ⟨keepc hb h1, h2.keep hb, ?_⟩
  rcases h3 with h | ⟨h4, h5, h6⟩
  · exact .inl h
  · exact .inr ⟨h4, keepc hb h5, keepc hb h6⟩
theorem First.at_ {g : Nat} {W : World} (h : First g W) : ∃ (b m gc : Nat) (A : Option Addr) (po pl O L : Int), FirstAt g b m gc A po pl O L W ∧ m ≤ 1048576 := by
  obtain ⟨b, m, A, po, pl, h1, h2, h3, h4, hm, r⟩ := h
  rcases h4 with ⟨h5, h6⟩ | ⟨gc, h5, h6, cs, h7, h8⟩
  · exact ⟨b, m, 0, A, po, pl, 0, 0, ⟨h1, h3, .inl h6⟩, hm⟩
  · rcases Nat.eq_zero_or_pos m with h0 | h0
    · exact ⟨b, m, 0, A, po, pl, 0, 0, ⟨h1, h3, .inl h0⟩, hm⟩
    · obtain ⟨O, L, s, q0, q1, q2, _⟩ := h8 0 h0
      exact ⟨b, m, gc, A, po, pl, O, L, ⟨h1, h3, .inr ⟨h5, by rw [h7.cells]; exact q0, by rw [h7.cells]; exact q1⟩⟩, hm⟩
def posV (m : Nat) (po pl O L : Int) : Value := if m = 0 then P2 po pl else if aft po pl O then P2 O L else P2 po pl
set_option maxRecDepth 100000 in
theorem stmtsPos_first (g b m gc n cap : Nat) (A B : Option Addr) (nb cb : Nat) (po pl O L : Int) (w : World) (h : FirstAt g b m gc A po pl O L w) (hm : m ≤ 1048576) :
    Calls Try.prog 76 #[.slice (some ⟨g, 0, none⟩) (n + 1) cap, .slice B nb cb] w fun e w' => e = .returned (posV m po pl O L) ∧ Below w.heap.size w w' := by
  obtain ⟨h1, h2, h3⟩ := h
  have lg := World.block_lt_of_cell? _ _ h1
  have i0 : (0 : Int) < (n : Int) + 1 := by omega
  go_enter Try.func76, Try.ntmps76
  go_wp2_with fail
  refine (Stmt_Pos_bk b _ _ _ po pl _ _ _ (h2.keep (by go_grown))).mono ?_
  rintro e w1 ⟨rfl, hb⟩
  have kR := (Bk.fresh w 30 #[.int .u32 0, .int .u32 0]).keep hb
  have hB := bmore (w := w) (by go_grown) hb
  have h2' := h2.keep hB
  have h3' : m = 0 ∨ A = some ⟨gc, 0, none⟩ ∧ w1.cell? ⟨gc, 0, none⟩ = some (.int .u32 O) ∧ w1.cell? ⟨gc, 1, none⟩ = some (.int .u32 L) := by
    rcases h3 with h | ⟨h4, h5, h6⟩
    · exact .inl h
    · exact .inr ⟨h4, keepc hB h5, keepc hB h6⟩
  clear h1 h2 h3 hb lg
  have lk := kR.lt
  rcases Nat.eq_zero_or_pos m with h0 | h0
  · subst h0
    clear h3'
    have cB := h2'.cells
    have lB := h2'.lt
    have cR := kR.cells
    have fR := kR.frz
    have e1 : posV 0 po pl O L = P2 po pl := rfl
    have HE := Lib.hid e1
    clear h2' kR e1
    go_wp2
    refine bodyPost_ret (v := P2 po pl) (by simp [results, Try.results76, go_sem, cR, lk]) rfl ⟨by rw [HE.out], ?_⟩
    go_grown
  · obtain ⟨rfl, c0, c1⟩ : A = some ⟨gc, 0, none⟩ ∧ w1.cell? ⟨gc, 0, none⟩ = some (.int .u32 O) ∧ w1.cell? ⟨gc, 1, none⟩ = some (.int .u32 L) := by
      rcases h3' with h | h
      · omega
      · exact h
    clear h3'
    have cB := h2'.cells
    have lB := h2'.lt
    have lc := World.block_lt_of_cell? _ _ c0
    have j0 : (0 : Int) < (m : Int) := by omega
    go_wp2_with fail
    refine (Comment_Pos_any gc O L _ (by simp [go_sem, c0, lc]) (by simp [go_sem, c1, lc])).mono ?_
    rintro e w2 ⟨rfl, hb⟩
    have kS := (Bk.fresh w1 30 #[.int .u32 po, .int .u32 pl]).keep hb
    have kR2 := (kR.alloc (.cells #[.int .u32 po, .int .u32 pl] 30)).keep hb
    have hB2 := bmore (w := w) (hB.alloc hB.size _) hb
    clear hb kR h2' c0 c1 cB lB lc hB
    have lS := kS.lt
    have lR := kR2.lt
    have cS := kS.cells
    go_wp2_with fail
    refine (after_any po pl O L _).mono ?_
    rintro e w3 ⟨rfl, hb⟩
    have kC := (Bk.fresh w2 30 #[.int .u32 O, .int .u32 L]).keep hb
    have kS3 := (kS.alloc (.cells #[.int .u32 O, .int .u32 L] 30)).keep hb
    have kR3 := (kR2.alloc (.cells #[.int .u32 O, .int .u32 L] 30)).keep hb
    have hB3 := bmore (w := w) (hB2.alloc hB2.size _) hb
    clear hb kS kR2 cS hB2 lS lR
    have cC := kC.cells
    have cS := kS3.cells
    have cR := kR3.cells
    have fR := kR3.frz
    have lC := kC.lt
    have lS := kS3.lt
    have lR := kR3.lt
    clear kC kS3 kR3
    have hne : m ≠ 0 := by omega
    cases ha : aft po pl O
    · have e1 : posV m po pl O L = P2 po pl := by unfold posV; rw [if_neg hne, ha]; rfl
      have HE := Lib.hid e1
      clear e1
      go_wp2
      refine bodyPost_ret (v := P2 po pl) (by simp [results, Try.results76, go_sem, cR]) rfl ⟨by rw [HE.out], ?_⟩
      go_grown
    · have e1 : posV m po pl O L = P2 O L := by unfold posV; rw [if_neg hne, ha]; rfl
      have HE := Lib.hid e1
      clear e1
      go_wp2
      refine bodyPost_ret (v := P2 O L) (by simp [results, Try.results76, go_sem, cR]) rfl ⟨by rw [HE.out], ?_⟩
      go_grown
end Go.Proofs.Ytimaobpcefgdkaa
