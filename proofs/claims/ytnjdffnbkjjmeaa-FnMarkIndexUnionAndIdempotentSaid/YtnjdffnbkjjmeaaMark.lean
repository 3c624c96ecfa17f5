/- markIndex: the walk, by recursion over the tree. -/
import Derived.Test.YtnjdffnbkjjmeaaTree
import Derived.Maps.Own
namespace Go.Proofs.Ytnjdffnbkjjmeaa
open Go.RowKit
/-- A store into a map at the operation, by its equation. -/
theorem wpList_put {P : Program} (w : World) {ops : Array Oper} {rest : List Oper} {o : Oper} {a : Act} {Q : Exit → Act → World → Prop}
    (hg : o.guard = none) (m x v : Operand) (t : TypeId) (hop : o.op = Op.mapUpdate t m x v) {mv xv vv : Value} (hm : a.eval m = mv) (hx : a.eval x = xv) (hv : a.eval v = vv) {w' : World}
    (hrun : (Instr.mapUpdate t mv xv vv).run P w = .ok () w') (hK : wpList P ops Q rest (a.put o.dst undef) w') :
    wpList P ops Q (o :: rest) a w := by
  refine wpList_plain hg fun K' hK' => ?_
  unfold Oper.wp
  simp [execOp, hop, hm, hx, hv, hrun, Result.andThen]
  exact hK' _ _ hK
theorem taWB (a : Option Addr) (w : World) : (Instr.typeAssert (.iface 44 (.pointer a)) 78 80 true).run Try.prog w = .ok (.tuple #[.pointer none, .bool false]) w := by kernel_rfl
theorem taWP (a : Option Addr) (w : World) : (Instr.typeAssert (.iface 44 (.pointer a)) 78 79 true).run Try.prog w = .ok (.tuple #[.pointer none, .bool false]) w := by kernel_rfl
theorem taWU (a : Option Addr) (w : World) : (Instr.typeAssert (.iface 44 (.pointer a)) 78 81 true).run Try.prog w = .ok (.tuple #[.pointer none, .bool false]) w := by kernel_rfl
theorem taBB (a : Option Addr) (w : World) : (Instr.typeAssert (.iface 80 (.pointer a)) 78 80 true).run Try.prog w = .ok (.tuple #[.pointer a, .bool true]) w := by kernel_rfl
theorem taBP (a : Option Addr) (w : World) : (Instr.typeAssert (.iface 80 (.pointer a)) 78 79 true).run Try.prog w = .ok (.tuple #[.pointer none, .bool false]) w := by kernel_rfl
theorem taBU (a : Option Addr) (w : World) : (Instr.typeAssert (.iface 80 (.pointer a)) 78 81 true).run Try.prog w = .ok (.tuple #[.pointer none, .bool false]) w := by kernel_rfl
theorem taPB (a : Option Addr) (w : World) : (Instr.typeAssert (.iface 79 (.pointer a)) 78 80 true).run Try.prog w = .ok (.tuple #[.pointer none, .bool false]) w := by kernel_rfl
theorem taPP (a : Option Addr) (w : World) : (Instr.typeAssert (.iface 79 (.pointer a)) 78 79 true).run Try.prog w = .ok (.tuple #[.pointer a, .bool true]) w := by kernel_rfl
theorem taPU (a : Option Addr) (w : World) : (Instr.typeAssert (.iface 79 (.pointer a)) 78 81 true).run Try.prog w = .ok (.tuple #[.pointer none, .bool false]) w := by kernel_rfl
theorem taUB (a : Option Addr) (w : World) : (Instr.typeAssert (.iface 81 (.pointer a)) 78 80 true).run Try.prog w = .ok (.tuple #[.pointer none, .bool false]) w := by kernel_rfl
theorem taUP (a : Option Addr) (w : World) : (Instr.typeAssert (.iface 81 (.pointer a)) 78 79 true).run Try.prog w = .ok (.tuple #[.pointer none, .bool false]) w := by kernel_rfl
theorem taUU (a : Option Addr) (w : World) : (Instr.typeAssert (.iface 81 (.pointer a)) 78 81 true).run Try.prog w = .ok (.tuple #[.pointer a, .bool true]) w := by kernel_rfl
theorem taFB (a : Option Addr) (w : World) : (Instr.typeAssert (.iface 199 (.pointer a)) 78 80 true).run Try.prog w = .ok (.tuple #[.pointer none, .bool false]) w := by kernel_rfl
theorem taFP (a : Option Addr) (w : World) : (Instr.typeAssert (.iface 199 (.pointer a)) 78 79 true).run Try.prog w = .ok (.tuple #[.pointer none, .bool false]) w := by kernel_rfl
theorem taFU (a : Option Addr) (w : World) : (Instr.typeAssert (.iface 199 (.pointer a)) 78 81 true).run Try.prog w = .ok (.tuple #[.pointer none, .bool false]) w := by kernel_rfl
theorem SimpIs.put {W W1 : World} {s mb : Nat} {ks ks1 : List Value} (h : SimpIs W s mb ks) (hM : MapIs W1 mb ks1) (hG : W.grownBy W1 (some mb)) : SimpIs W1 s mb ks1 := by
  refine ⟨h.1.grown hG ?_, hM⟩
  obtain ⟨es, clock, hm, _⟩ := h.2
  intro e
  injection e with e
  subst e
  have := h.1
  unfold Bk at this
  rw [hm] at this
  cases this
theorem nds_add {W : World} {ks : List Value} {v : Value} (hk : ∀ k ∈ ks, Nd W k) (hv : Nd W v) : ∀ k ∈ addK ks v, Nd W k := by
  intro k h
  unfold addK at h
  split at h
  · exact hk k h
  · rcases List.mem_append.1 h with h | h
    · exact hk k h
    · rw [List.mem_singleton.1 h]; exact hv
theorem grown_trans {W W1 W2 : World} {row : Option Nat} (h1 : W.grownBy W1 row) (h2 : W1.grownBy W2 row) : W.grownBy W2 row :=
  ⟨h2.os.trans h1.os, h2.tape.trans h1.tape, h2.output.trans h1.output, Nat.le_trans h1.size h2.size, fun i hi hr => (h2.block i (Nat.lt_of_lt_of_le hi h1.size) hr).trans (h1.block i hi hr)⟩
theorem nds_fold {W : World} : ∀ (ls : List Value) (ks : List Value), (∀ k ∈ ks, Nd W k) → (∀ k ∈ ls, Nd W k) → ∀ k ∈ ls.foldl addK ks, Nd W k
  | [], _, hk, _ => hk
  | v :: ls, _, hk, hl => nds_fold ls _ (nds_add hk (hl v (by simp))) (fun k h => hl k (by simp [h]))
def MarkP (s mb : Nat) (t : Tr) : Prop := ∀ (W : World) (ks : List Value), SimpIs W s mb ks → (∀ k ∈ ks, Nd W k) → TrIs W t →
  Calls Try.prog 81 #[ptrV s, t.val] W fun e w' => e = .returned (.tuple #[]) ∧ SimpIs w' s mb (t.keys.foldl addK ks) ∧ W.grownBy w' (some mb)
theorem Tr.val_ptr (t : Tr) : ∃ (ty : TypeId) (b : Nat), t.val = .iface ty (ptrV b) := by
  cases t <;> exact ⟨_, _, rfl⟩
set_option maxHeartbeats 2000000
set_option maxRecDepth 100000
theorem mark_leaf (s mb b : Nat) : MarkP s mb (.leaf b) := by
  intro W ks h _ _
  have H := Lib.hid h
  clear h
  have t0 := taWB
  have t1 := taWP
  have t2 := taWU
  unfold Tr.val Tr.keys
  dsimp only [leafV, binV, parV, unV, flgV, ptrV]
  go_enter Try.func81, Try.ntmps81
  go_wp2
  go_end0
  exact ⟨rfl, H.out, grown_of_below (Below.refl _ _) _⟩
theorem mark_flg (s mb b : Nat) (x : Tr) : MarkP s mb (.flg b x) := by
  intro W ks h _ _
  have H := Lib.hid h
  clear h
  have t0 := taFB
  have t1 := taFP
  have t2 := taFU
  unfold Tr.val Tr.keys
  dsimp only [leafV, binV, parV, unV, flgV, ptrV]
  go_enter Try.func81, Try.ntmps81
  go_wp2
  go_end0
  exact ⟨rfl, H.out, grown_of_below (Below.refl _ _) _⟩
theorem mark_un (s mb b : Nat) (x : Tr) (ih : MarkP s mb x) : MarkP s mb (.un b x) := by
  rintro W ks h hk ⟨hb, hx⟩
  obtain ⟨ty, xb, hxv⟩ := x.val_ptr
  have c3 : W.cell? ⟨b, 4, none⟩ = some (.iface ty (ptrV xb)) := by rw [hb.cells, ← hxv]; rfl
  have lb := hb.lt
  have ih' := ih W ks h hk hx
  rw [hxv] at ih'
  have IH := Lib.hid ih'
  clear h hk hx hb ih' ih hxv
  have t0 := taUB
  have t1 := taUP
  have t2 := taUU
  unfold Tr.val Tr.keys
  dsimp only [leafV, binV, parV, unV, flgV, ptrV]
  go_enter Try.func81, Try.ntmps81
  go_wp2_with fail
  refine IH.out.mono ?_
  rintro e w' ⟨rfl, h1, h2⟩
  go_wp2_with fail
  go_end0
  exact ⟨rfl, h1, h2⟩
theorem mark_par (s mb b : Nat) (x : Tr) (ih : MarkP s mb x) : MarkP s mb (.par b x) := by
  intro W ks h hk ht
  obtain ⟨ty, xb, hxv⟩ := x.val_ptr
  obtain ⟨w1, hrun, hM, hG⟩ := map_put h.2 hk ht.nd
  have hkp := Keeps.map h.2 hG
  have h1 := h.put hM hG
  have ht1 := ht.keep hkp
  have hk1 := nds_add (fun k hk' => (hk k hk').keep hkp) (show Nd w1 (parV b) from ht1.nd)
  have ih' := ih w1 _ h1 hk1 ht1.2
  rw [hxv] at ih'
  have cm : W.cell? ⟨s, 1, none⟩ = some (.map (some mb)) := by rw [h.1.cells]; rfl
  have ls := h.1.lt
  have c3 : w1.cell? ⟨b, 4, none⟩ = some (.iface ty (ptrV xb)) := by rw [ht1.1.cells, ← hxv]; rfl
  have lb := ht1.1.lt
  have IH := Lib.hid ih'
  have HG := Lib.hid hG
  have HR := Lib.hid hrun
  clear h hk ht hrun hM hG hkp h1 ht1 hk1 ih' ih hxv
  have t0 := taPB
  have t1 := taPP
  have t2 := taPU
  unfold Tr.val Tr.keys
  dsimp only [leafV, binV, parV, unV, flgV, ptrV]
  go_enter Try.func81, Try.ntmps81
  go_wp2_with (at_mapUpdate; refine wpList_put _ rfl _ _ _ _ rfl rfl rfl rfl HR.out ?_)
  refine IH.out.mono ?_
  rintro e w' ⟨rfl, h1, h2⟩
  go_wp2_with fail
  go_end0
  exact ⟨rfl, h1, grown_trans HG.out h2⟩
theorem mark_bin (s mb b : Nat) (x y : Tr) (ih : MarkP s mb x) (ihy : MarkP s mb y) : MarkP s mb (.bin b x y) := by
  intro W ks h hk ht
  obtain ⟨ty, xb, hxv⟩ := x.val_ptr
  obtain ⟨ty2, yb, hyv⟩ := y.val_ptr
  obtain ⟨w1, hrun, hM, hG⟩ := map_put h.2 hk ht.nd
  have hkp := Keeps.map h.2 hG
  have h1 := h.put hM hG
  have ht1 := ht.keep hkp
  have hk1 := nds_add (fun k hk' => (hk k hk').keep hkp) (show Nd w1 (binV b) from ht1.nd)
  have ih' := ih w1 _ h1 hk1 ht1.2.1
  have hn1 : ∀ k ∈ x.keys.foldl addK (addK ks (binV b)), Nd w1 k := nds_fold _ _ hk1 ht1.2.1.keysNd
  rw [hxv] at ih'
  have cm : W.cell? ⟨s, 1, none⟩ = some (.map (some mb)) := by rw [h.1.cells]; rfl
  have ls := h.1.lt
  have c3 : w1.cell? ⟨b, 3, none⟩ = some (.iface ty (ptrV xb)) := by rw [ht1.1.cells, ← hxv]; rfl
  have lb := ht1.1.lt
  have IH := Lib.hid ih'
  have HG := Lib.hid hG
  have HR := Lib.hid hrun
  have HN := Lib.hid hn1
  have HT := Lib.hid ht1
  have HM := Lib.hid hM
  have HY := Lib.hid hyv
  clear h hk ht hrun hM hG hkp h1 ht1 hk1 ih' ih hxv hn1 hyv
  have t0 := taBB
  have t1 := taBP
  have t2 := taBU
  unfold Tr.val Tr.keys
  dsimp only [leafV, binV, parV, unV, flgV, ptrV]
  go_enter Try.func81, Try.ntmps81
  go_wp2_with (at_mapUpdate; refine wpList_put _ rfl _ _ _ _ rfl rfl rfl rfl HR.out ?_)
  refine IH.out.mono ?_
  rintro e w2 ⟨rfl, h1, h2⟩
  have hk2 := Keeps.map HM.out h2
  have ht2 := HT.out.keep hk2
  have ihy' := ihy w2 _ h1 (fun k hk => (HN.out k hk).keep hk2) ht2.2.2
  rw [HY.out] at ihy'
  have c4 : w2.cell? ⟨b, 4, none⟩ = some (.iface ty2 (ptrV yb)) := by rw [ht2.1.cells, ← HY.out]; rfl
  have lb2 := ht2.1.lt
  have IHY := Lib.hid ihy'
  have H2 := Lib.hid h2
  clear ihy' h1 h2 hk2 ht2 ihy
  go_wp2_with fail
  refine IHY.out.mono ?_
  rintro e w3 ⟨rfl, h1, h3⟩
  go_wp2_with fail
  go_end0
  exact ⟨rfl, (by simpa [List.foldl_append, Tr.val] using h1), grown_trans (grown_trans HG.out H2.out) h3⟩
theorem mark_any (s mb : Nat) : ∀ t : Tr, MarkP s mb t
  | .leaf b => mark_leaf s mb b
  | .bin b l r => mark_bin s mb b l r (mark_any s mb l) (mark_any s mb r)
  | .par b x => mark_par s mb b x (mark_any s mb x)
  | .un b x => mark_un s mb b x (mark_any s mb x)
  | .flg b x => mark_flg s mb b x
theorem zzMark {W : World} {s mb : Nat} {t : Tr} {ks : List Value} (h : SimpIs W s mb ks) (hk : ∀ k ∈ ks, Nd W k) (ht : TrIs W t) :
    Calls Try.prog 50 #[ptrV s, t.val] W fun e w' => e = .returned (.tuple #[]) ∧ SimpIs w' s mb (t.keys.foldl addK ks) ∧ W.grownBy w' (some mb) := by
  have hm := mark_any s mb t W ks h hk ht
  obtain ⟨ty, xb, hxv⟩ := t.val_ptr
  rw [hxv] at hm ⊢
  have HM := Lib.hid hm
  clear hm h hk ht hxv
  go_enter Try.func50, Try.ntmps50
  go_wp2_with fail
  refine HM.out.mono ?_
  rintro e w' ⟨rfl, h1, h2⟩
  go_wp2_with fail
  go_end0
  exact ⟨rfl, h1, h2⟩
end Go.Proofs.Ytnjdffnbkjjmeaa
