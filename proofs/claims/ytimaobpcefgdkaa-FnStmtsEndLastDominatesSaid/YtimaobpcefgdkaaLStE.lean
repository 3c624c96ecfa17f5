/- The walk of FnStmtsEndLastDominates. -/
import Derived.Test.YtimaobpcefgdkaaComE
import Derived.Deep.RegionHeld3
namespace Go.Proofs.Ytimaobpcefgdkaa
open Go.RowKit
/-- The last comment of the row at g. -/
def LastC (g q : Nat) (o lc : Int) (s : ByteArray) (W : World) : Prop := W.cell? ⟨g, q * 3, none⟩ = some (.int .u32 o) ∧ W.cell? ⟨g, q * 3 + 1, none⟩ = some (.int .u32 lc) ∧ W.cell? ⟨g, q * 3 + 2, none⟩ = some (.string s)
theorem LastC.keep {g q : Nat} {o lc : Int} {s : ByteArray} {W W1 : World} (h : LastC g q o lc s W) (hb : Below W.heap.size W W1) : LastC g q o lc s W1 := ⟨keepc hb h.1, keepc hb h.2.1, keepc hb h.2.2⟩
theorem RowC.last {W : World} {g q : Nat} (h : RowC W g (q + 1)) : ∃ (o lc : Int) (s : ByteArray), LastC g q o lc s W ∧ 0 ≤ o ∧ o < 4294967296 ∧ 0 ≤ lc ∧ lc < 4294967296 ∧ s.size ≤ 1048576 := by
  obtain ⟨cs, h1, h2⟩ := h
  obtain ⟨O, L, s, q0, q1, q2, b⟩ := h2 q (by omega)
  exact ⟨O, L, s, ⟨by rw [h1.cells]; exact q0, by rw [h1.cells]; exact q1, by rw [h1.cells]; exact q2⟩, b⟩
theorem Comment_End_last (g q : Nat) (o lc : Int) (s : ByteArray) (w : World) (b : 0 ≤ o ∧ o < 4294967296 ∧ 0 ≤ lc ∧ lc < 4294967296 ∧ s.size ≤ 1048576) (h : LastC g q o lc s w) :
    Calls Try.prog 25 #[.pointer (some ⟨g, q * 3, none⟩)] w fun e w' => e = .returned (P2 (addO o lc (1 + s.size)) (addL o lc (1 + s.size))) ∧ Below w.heap.size w w' :=
  Comment_End_any g (q * 3) o lc s w h.1 h.2.1 h.2.2 b.1 b.2.1 b.2.2.1 b.2.2.2.1 b.2.2.2.2
theorem stmtsEnd_coms (A : Option Addr) (n c g q cap : Nat) (o lc : Int) (s : ByteArray) (w : World) (hq : q ≤ 1048576) (h : LastC g q o lc s w) (b : 0 ≤ o ∧ o < 4294967296 ∧ 0 ≤ lc ∧ lc < 4294967296 ∧ s.size ≤ 1048576) :
    Calls Try.prog 77 #[.slice A n c, .slice (some ⟨g, 0, none⟩) (q + 1) cap] w fun e w' => e = .returned (P2 (addO o lc (1 + s.size)) (addL o lc (1 + s.size))) ∧ Below w.heap.size w w' := by
  obtain ⟨b0, b1, b2, b3, b4⟩ := b
  have HL := Lib.hid h
  clear h
  have i0 : (0 : Int) < (q : Int) + 1 := by omega
  have i1 : (q : Int) < (q : Int) + 1 := by omega
  have i2 : (0 : Int) ≤ (q : Int) := by omega
  go_enter Try.func77, Try.ntmps77
  go_wp2_with fail
  refine (Comment_End_any g (q * 3) o lc s _ (HL.out.keep (by go_grown)).1 (HL.out.keep (by go_grown)).2.1 (HL.out.keep (by go_grown)).2.2 b0 b1 b2 b3 b4).mono ?_
  rintro e w1 ⟨rfl, hb⟩
  obtain ⟨hc, hf, hz, hB, hs⟩ := bcell (w := w) (by go_grown) hb
  clear hb
  go_wp2
  refine bodyPost_ret (v := P2 (addO o lc (1 + (s.size : Int))) (addL o lc (1 + (s.size : Int)))) (by simp [results, Try.results77, go_sem, hc]) rfl ⟨rfl, ?_⟩
  go_grown
theorem zzStmtsEnd_coms (A : Option Addr) (n c g q cap : Nat) (o lc : Int) (s : ByteArray) (w : World) (hq : q ≤ 1048576) (b : 0 ≤ o ∧ o < 4294967296 ∧ 0 ≤ lc ∧ lc < 4294967296 ∧ s.size ≤ 1048576) (h : LastC g q o lc s w) :
    Calls Try.prog 24 #[.slice A n c, .slice (some ⟨g, 0, none⟩) (q + 1) cap] w fun e w' => e = .returned (P2 (addO o lc (1 + s.size)) (addL o lc (1 + s.size))) ∧ Below w.heap.size w w' := by
  have HL := Lib.hid h
  clear h
  go_enter Try.func24, Try.ntmps24
  go_wp2_with fail
  refine (stmtsEnd_coms A n c g q cap o lc s _ hq (HL.out.keep (by go_grown)) b).mono ?_
  rintro e w1 ⟨rfl, hb⟩
  obtain ⟨hc, hf, hz, hB, hs⟩ := bcell (w := w) (by go_grown) hb
  clear hb
  go_wp2
  refine bodyPost_ret (v := P2 (addO o lc (1 + (s.size : Int))) (addL o lc (1 + (s.size : Int)))) (by simp [results, Try.results24, go_sem, hc]) rfl ⟨rfl, ?_⟩
  go_grown
def RetSs (w : World) (n : Nat) (e : Ending) (w' : World) : Prop := ∃ A : Option Addr, e = .returned (.slice A n n) ∧ Below w.heap.size w w'
theorem zzStmts_ok (a : Option Addr) (n cap : Nat) (w : World) (h : OkSts w a n) (hcap : ∀ x, a = some x → OkCaps w x n) : Calls Try.prog 20 #[.slice a n cap] w (RetSs w n) := by
  rcases h.2 with ⟨rfl, rfl⟩ | ⟨x, rfl, hx⟩
  · have hnil := fun (w : World) (a : Option Addr) (n c n' c' : Nat) => Lib.run_eql_slice_nil (P := Try.prog) w 48 118 a n c n' c' Try.underlying48
    clear h hcap
    go_enter Try.func20, Try.ntmps20
    go_wp2
    go_ret
    exact ⟨_, rfl, Below.refl _ _⟩
  · refine (zzStmts_some x n cap w h.1 hx (hcap x rfl)).mono ?_
    rintro e w' ⟨g, rfl, _, _, hb⟩
    exact ⟨_, rfl, hb⟩
theorem OkCom.keep {w W : World} {p : Addr} (h : OkCom w p) (hb : Below w.heap.size w W) : OkCom W p := by
  obtain ⟨h3, s, hs, hz⟩ := h
  exact ⟨h3.keep hb, s, keepc hb hs, hz⟩
theorem OkSts.keep {w W : World} {a : Option Addr} {n : Nat} (h : OkSts w a n) (hb : Below w.heap.size w W) : OkSts W a n := by
  refine ⟨h.1, ?_⟩
  rcases h.2 with h | ⟨x, hx, h⟩
  · exact .inl h
  · refine .inr ⟨x, hx, fun i hi => ?_⟩
    obtain ⟨h3, a', n', c', hs, hz⟩ := h i hi
    exact ⟨h3.keep hb, a', n', c', keepc hb hs, hz.keep hb⟩
theorem OkCaps.keep {w W : World} {x : Addr} {n : Nat} (h : OkCaps w x n) (h2 : ∀ i, i < n → OkSt w (x.add (i * 4))) (hb : Below w.heap.size w W) : OkCaps W x n := by
  intro i hi b m d hc hn
  obtain ⟨_, a', n', c', hs, _⟩ := h2 i hi
  have := keepc hb hs
  rw [hc] at this
  injection this with this
  injection this with e1 e2 e3
  subst e1 e2 e3
  exact h i hi _ _ _ hs hn
def FinSE (w : World) (gg g q : Nat) (E1 E2 o lc : Int) (s : ByteArray) (W : World) : Prop := W.cell? ⟨gg, 0, none⟩ = some (.int .u32 E1) ∧ W.cell? ⟨gg, 1, none⟩ = some (.int .u32 E2) ∧ LastC g q o lc s W ∧ Below w.heap.size w W
theorem FinSE.keep {w : World} {gg g q : Nat} {E1 E2 o lc : Int} {s : ByteArray} {W W1 : World} (h : FinSE w gg g q E1 E2 o lc s W) (hb : Below W.heap.size W W1) : FinSE w gg g q E1 E2 o lc s W1 := ⟨keepc hb h.1, keepc hb h.2.1, h.2.2.1.keep hb, bmore h.2.2.2 hb⟩
theorem FinSE.last {w : World} {gg g q : Nat} {E1 E2 o lc : Int} {s : ByteArray} {W : World} (h : FinSE w gg g q E1 E2 o lc s W) : LastC g q o lc s W := h.2.2.1
set_option maxHeartbeats 4000000 in
set_option maxRecDepth 100000 in
theorem walkFnStmtsEndLastDominates (a0 : Option Addr) (len0 cap0 : Nat) (a1 : Option Addr) (len1 cap1 : Nat) (w : World) (w0 : IsSts w a0 len0 cap0) (w1 : IsComs w a1 len1 cap1) :
    Calls Try.prog 5 #[.slice a0 len0 cap0, .slice a1 len1 cap1] w fun e w' => e = .returned (.bool true) ∧ Below w.heap.size w w' := by
  have n0 := w0.plain.1
  have n1 := w1.plain.1
  have W0 := Lib.hid w0
  have W1 := Lib.hid w1
  clear w0 w1
  go_enter Try.func5, Try.ntmps5
  go_wp2_with fail
  refine (zzBytes_FnStmtsEndLastDominates_ok a0 a1 len0 cap0 len1 cap1 w W0.out W1.out).mono ?_
  rintro e w' ⟨r, rfl, rfl, hr⟩
  cases r
  · go_wp2
    go_ret
    exact ⟨rfl, Below.refl _ _⟩
  obtain ⟨hS, hC⟩ := hr rfl
  have HS := Lib.hid hS
  have HC := Lib.hid hC
  clear hS hC hr
  go_wp2_with fail
  refine (zzTooBig_ok a0 a1 len0 cap0 len1 cap1 w HS.out HC.out).mono ?_
  rintro e w' ⟨r, rfl, rfl⟩
  cases r
  rotate_left
  · go_wp2
    go_ret
    exact ⟨rfl, Below.refl _ _⟩
  rcases len1 with _ | q
  · go_wp2
    go_ret
    exact ⟨rfl, Below.refl _ _⟩
  obtain ⟨y, rfl, hy⟩ : ∃ x, a1 = some x ∧ ∀ i, i < q + 1 → OkCom w (x.add (i * 4)) := by
    rcases HC.out.2 with ⟨_, h⟩ | h
    · omega
    · exact h
  have HY := Lib.hid hy
  have hq := HC.out.1
  have i1 : ¬ ((q : Int) + 1 = 0) := by omega
  have i2 : ((q : Int) + 1 == 0) = false := by simp; omega
  clear hy
  go_wp2_with fail
  refine (zzComments_some y (q + 1) cap1 w hq HY.out).mono ?_
  rintro e v1 ⟨g, rfl, hg, hR, hb1⟩
  obtain ⟨o, lc, s, hL, hbd⟩ := hR.last
  have HL := Lib.hid hL
  have HB1 := Lib.hid hb1
  have HD := Lib.hid hbd
  clear hR hL hb1 hbd
  go_wp2_with fail
  refine (zzStmts_ok a0 len0 cap0 v1 (HS.out.keep HB1.out) (fun x hx => (OkCaps.of W0.out hx).keep (by
    rcases HS.out.2 with ⟨h, _⟩ | ⟨x', hx', h⟩
    · rw [hx] at h; cases h
    · rw [hx] at hx'; injection hx' with hx'; subst hx'; exact h) HB1.out)).mono ?_
  rintro e v2 ⟨A, rfl, hb2⟩
  have HL2 := Lib.hid (HL.out.keep hb2)
  have HB2 := Lib.hid (bmore HB1.out hb2)
  clear hb2 HL HB1 HS HC HY W0 W1
  go_wp2_with fail
  refine (zzStmtsEnd_coms A len0 len0 g q (q + 1) o lc s v2 (by omega) HD.out HL2.out).mono ?_
  rintro e v3 ⟨rfl, hb3⟩
  have L3 := HL2.out.keep hb3
  have B3 := bmore HB2.out hb3
  have ha : Below v3.heap.size v3 (v3.alloc (.cells #[.int .u32 (addO o lc (1 + (s.size : Int))), .int .u32 (addL o lc (1 + (s.size : Int)))] 30)) := (Below.refl _ _).alloc (Nat.le_refl _) _
  have hI : FinSE w v3.heap.size g q (addO o lc (1 + (s.size : Int))) (addL o lc (1 + (s.size : Int))) o lc s (v3.alloc (.cells #[.int .u32 (addO o lc (1 + (s.size : Int))), .int .u32 (addL o lc (1 + (s.size : Int)))] 30)) := ⟨by simp, by simp, L3.keep ha, bmore B3 ha⟩
  have HI := Lib.hid hI
  clear hb3 L3 B3 ha hI HL2 HB2
  go_wp2_with fail
  refine wp_gen (S := FinSE w v3.heap.size g q (addO o lc (1 + (s.size : Int))) (addL o lc (1 + (s.size : Int))) o lc s) HI.out ?_
  clear HI
  generalize v3.heap.size = gg
  generalize hE1 : addO o lc (1 + (s.size : Int)) = E1
  generalize hE2 : addL o lc (1 + (s.size : Int)) = E2
  intro W hI
  have HE1 := Lib.hid hE1
  have HE2 := Lib.hid hE2
  clear hE1 hE2
  go_region_held3 (fun W => W.cell? ⟨gg, 0, none⟩ = some (.int .u32 E1) ∧ W.cell? ⟨gg, 1, none⟩ = some (.int .u32 E2) ∧ LastC g q o lc s W ∧ Below w.heap.size w W) (first | exact FinSE.keep hI ⟨rfl, rfl, rfl, Nat.le_refl _, fun _ _ => rfl⟩ | exact FinSE.keep (by assumption) (by assumption))
    (first | (go_at_call 24; refine (zzStmtsEnd_coms none 0 0 g q (q + 1) o lc s _ (by omega) HD.out (by exact And.left (And.right (And.right (by assumption))))).mono ?_; rw [HE1.out, HE2.out]; rintro e w' ⟨rfl, hb⟩))
  rename_i hH
  have hI2 : FinSE w gg g q E1 E2 o lc s _ := hH
  clear hH hI
  go_wp2_with fail
  have j0 : (0 : Int) ≤ (q : Int) := by omega
  have j1 : (q : Int) < (q : Int) + 1 := by omega
  have iw : IntKind.i64.wrap (q : Int) = (q : Int) := IntWalk.i64_in _ (by omega)
  go_region_held3 (fun W => W.cell? ⟨gg, 0, none⟩ = some (.int .u32 E1) ∧ W.cell? ⟨gg, 1, none⟩ = some (.int .u32 E2) ∧ LastC g q o lc s W ∧ Below w.heap.size w W) (first | exact FinSE.keep hI2 ⟨rfl, rfl, rfl, Nat.le_refl _, fun _ _ => rfl⟩ | exact FinSE.keep (by assumption) (by assumption))
    (first | (go_at_call 25; refine (Comment_End_last g q o lc s _ HD.out (by exact And.left (And.right (And.right (by assumption))))).mono ?_; rw [HE1.out, HE2.out]; rintro e w' ⟨rfl, hb⟩))
  rename_i hH
  have hBB := hH.2.2.2
  clear hH hI2
  go_wp2
  go_ret
  exact ⟨rfl, hBB⟩
end Go.Proofs.Ytimaobpcefgdkaa
