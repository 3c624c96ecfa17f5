/- The builder of arithmetic trees: its state, and what its steps keep. -/
import Derived.Test.YtnjdffnbkjjmeaaMark
import Derived.Test.YtnjdffnbkjjmeaaSrc
import Derived.BigQuiet
import Derived.Deep.Cut
import Derived.Deep.RegionHeld3
namespace Go.Proofs.Ytnjdffnbkjjmeaa
open Go.RowKit
theorem Bk.grownO {w w' : World} {g : Nat} {t : TypeId} {cs : Array Value} {row : Option Nat} (h : Bk w g t cs) (hb : w.grownBy w' row) (hg : row ≠ some g) : Bk w' g t cs := (hb.block g h.lt (fun e => hg e.symm)).trans h
theorem own_far {W : World} {base n : Nat} {e : TypeId} {v : Value} {xs : List Value} (ho : W.ownsRow base e 1 v n xs) {p : Addr} (hp : v.ownBlock ≠ some p.block) (u : Value) : (W.setCell p u).ownsRow base e 1 v n xs := by
  refine ⟨ho.1, ?_⟩
  rcases ho.2 with h | ⟨g', cap, cur, h', hb, hg, hr⟩
  · exact .inl h
  · subst h'
    refine .inr ⟨g', cap, cur, rfl, hb, (Below.heap_setCell W p u g' ?_).trans hg, hr⟩
    intro h
    exact hp (by simp [Value.ownBlock, h])
theorem Bk.drewN {w : World} {g : Nat} {t : TypeId} {cs : Array Value} (h : Bk w g t cs) (k : Nat) : Bk (w.drewN k) g t cs := h
theorem Bk.ne_own {w : World} {b base n : Nat} {t e : TypeId} {cs : Array Value} {v : Value} {xs : List Value} (h : Bk w b t cs) (ho : w.ownsRow base e 1 v n xs) (hne : t ≠ e) : v.ownBlock ≠ some b := by
  rcases ho.2 with ⟨h', _⟩ | ⟨g2, cap2, cur, h', _, hg, _⟩
  · subst h'; simp [Value.ownBlock]
  · subst h'
    intro hh
    simp [Value.ownBlock] at hh
    subst hh
    unfold Bk at h
    rw [h] at hg
    injection hg with hg
    injection hg with _ ht
    exact hne ht
theorem own_ne {w : World} {base n m : Nat} {e e' : TypeId} {v u : Value} {xs ys : List Value} (ho : w.ownsRow base e 1 v n xs) (hu : w.ownsRow base e' 1 u m ys) (hne : e ≠ e') : v.ownBlock = none ∨ v.ownBlock ≠ u.ownBlock := by
  rcases ho.2 with ⟨h', _⟩ | ⟨g2, cap2, cur, h', _, hg, _⟩
  · subst h'; exact .inl rfl
  · subst h'
    exact .inr (fun hh => (Bk.ne_own (show Bk w g2 e cur from hg) hu hne) (by rw [← hh]; rfl))
theorem own_shape {w : World} {base n : Nat} {e : TypeId} {v : Value} {xs : List Value} (ho : w.ownsRow base e 1 v (n + 1) xs) : ∃ g c : Nat, v = .slice (some ⟨g, 0, none⟩) (n + 1) c := by
  rcases ho.2 with ⟨_, h⟩ | ⟨g, c, _, h, _⟩
  · omega
  · exact ⟨g, c, h⟩
/-- Nothing below bb has turned, and no node's block. -/
structure Gr (bb : Nat) (W W1 : World) : Prop where
  below : Below bb W W1
  keeps : Keeps W W1
theorem Gr.refl (bb : Nat) (W : World) : Gr bb W W := ⟨Below.refl _ _, Keeps.refl _⟩
theorem Gr.trans {bb : Nat} {a b c : World} (h : Gr bb a b) (k : Gr bb b c) : Gr bb a c := ⟨h.below.trans k.below, h.keeps.trans k.keeps⟩
theorem Gr.drewN {bb : Nat} {W W1 : World} (h : Gr bb W W1) (k : Nat) : Gr bb W (W1.drewN k) := ⟨bdrewN h.below k, h.keeps⟩
theorem Gr.alloc {bb : Nat} {W W1 : World} (h : Gr bb W W1) (hB : bb ≤ W1.heap.size) (o : Obj) : Gr bb W (W1.alloc o) :=
  ⟨h.below.alloc hB o, h.keeps.trans (Keeps.grown (World.grownBy_alloc W1 o none) (fun _ e => by cases e))⟩
theorem Gr.calls {bb : Nat} {W W1 W2 : World} (h : Gr bb W W1) (hB : bb ≤ W1.heap.size) (hb : Below W1.heap.size W1 W2) : Gr bb W W2 :=
  h.trans ⟨hb.mono hB, Keeps.below hb (Nat.le_refl _)⟩
theorem keeps_set {W : World} {p : Addr} {t : TypeId} {cs : Array Value} (hk : Bk W p.block t cs) (hne : ∀ t' te, NdT t' te → te ≠ t) (u : Value) : Keeps W (W.setCell p u) := by
  intro b t' te cs' ht hb
  refine (Below.heap_setCell W p u b ?_).trans hb
  rintro rfl
  unfold Bk at hk
  rw [hk] at hb
  injection hb with hb
  injection hb with _ e
  exact hne t' te ht e.symm
theorem nd_ne {e : TypeId} (h : e ≠ 92 ∧ e ≠ 85 ∧ e ≠ 95 ∧ e ≠ 201 ∧ e ≠ 129) : ∀ t te : TypeId, NdT t te → te ≠ e := by
  obtain ⟨h1, h2, h3, h4, h5⟩ := h
  rintro t te (⟨_, rfl⟩ | ⟨_, rfl⟩ | ⟨_, rfl⟩ | ⟨_, rfl⟩ | ⟨_, rfl⟩)
  · exact fun e => h1 e.symm
  · exact fun e => h2 e.symm
  · exact fun e => h3 e.symm
  · exact fun e => h4 e.symm
  · exact fun e => h5 e.symm
theorem Gr.setB {bb : Nat} {W W1 : World} {cs : Array Value} (h : Gr bb W W1) (hk : Bk W1 bb 111 cs) (i : Nat) (u : Value) : Gr bb W (W1.setCell ⟨bb, i, none⟩ u) :=
  ⟨h.below.setCell (Nat.le_refl _) u, h.keeps.trans (keeps_set (p := ⟨bb, i, none⟩) hk (nd_ne (by decide)) u)⟩
theorem Gr.setN {bb : Nat} {W W1 : World} (h : Gr bb W W1) {p : Addr} (hp : W.heap.size ≤ p.block) (hB : bb ≤ W.heap.size) (u : Value) : Gr bb W (W1.setCell p u) := by
  refine ⟨h.below.setCell (by omega) u, ?_⟩
  intro b t te cs ht hb
  have h1 := (Array.getElem?_eq_some_iff.1 hb).1
  exact (Below.heap_setCell W1 p u b (by omega)).trans (h.keeps b t te cs ht hb)
theorem Gr.app {bb n : Nat} {W W1 w2 : World} {e : TypeId} {v : Value} {xs : List Value} (h : Gr bb W W1) (ho : W1.ownsRow bb e 1 v n xs) (he : ∀ t te, NdT t te → te ≠ e) (hg : W1.grownBy w2 v.ownBlock) (hB : bb ≤ W1.heap.size) : Gr bb W w2 := by
  refine ⟨h.below.grown hg hB (fun k hk => (ho.lt k hk).1), h.keeps.trans (Keeps.grown hg ?_)⟩
  intro k hk t te cs ht hc
  exact (Bk.ne_own (show Bk W1 k te cs from hc) ho (he t te ht)) hk
/-- The builder's struct and its two rows. -/
structure BS (W : World) (bb : Nat) (cA : Option Addr) (cn cc pos : Nat) (A1 : Option Addr) (n1 c1 : Nat) (A2 : Option Addr) (n2 c2 : Nat) (vs : List Value) (ws : List Bool) : Prop where
  bk : Bk W bb 111 #[.slice cA cn cc, .int .i64 pos, .slice A1 n1 c1, .slice A2 n2 c2]
  o1 : W.ownsRow bb 78 1 (.slice A1 n1 c1) n1 vs
  o2 : W.ownsRow bb 4 1 (.slice A2 n2 c2) n2 (ws.map Value.bool)
section
variable {W : World} {bb : Nat} {cA : Option Addr} {cn cc pos : Nat} {A1 : Option Addr} {n1 c1 : Nat} {A2 : Option Addr} {n2 c2 : Nat} {vs : List Value} {ws : List Bool}
theorem BS.drewN (h : BS W bb cA cn cc pos A1 n1 c1 A2 n2 c2 vs ws) (k : Nat) : BS (W.drewN k) bb cA cn cc pos A1 n1 c1 A2 n2 c2 vs ws := ⟨h.bk, h.o1, h.o2⟩
theorem BS.alloc (h : BS W bb cA cn cc pos A1 n1 c1 A2 n2 c2 vs ws) (o : Obj) : BS (W.alloc o) bb cA cn cc pos A1 n1 c1 A2 n2 c2 vs ws := ⟨h.bk.alloc o, h.o1.alloc o, h.o2.alloc o⟩
theorem BS.calls {W1 : World} (h : BS W bb cA cn cc pos A1 n1 c1 A2 n2 c2 vs ws) (hb : Below W.heap.size W W1) : BS W1 bb cA cn cc pos A1 n1 c1 A2 n2 c2 vs ws := ⟨h.bk.keep hb, own_below h.o1 hb, own_below h.o2 hb⟩
theorem BS.setPos (h : BS W bb cA cn cc pos A1 n1 c1 A2 n2 c2 vs ws) (p : Nat) : BS (W.setCell ⟨bb, 1, none⟩ (.int .i64 p)) bb cA cn cc p A1 n1 c1 A2 n2 c2 vs ws :=
  ⟨h.bk.put 1 _, own_far h.o1 (h.bk.ne_own h.o1 (by decide)) _, own_far h.o2 (h.bk.ne_own h.o2 (by decide)) _⟩
theorem BS.setN {p : Addr} {t : TypeId} {cs : Array Value} (h : BS W bb cA cn cc pos A1 n1 c1 A2 n2 c2 vs ws) (hp : Bk W p.block t cs) (hne : t ≠ 111 ∧ t ≠ 78 ∧ t ≠ 4) (u : Value) : BS (W.setCell p u) bb cA cn cc pos A1 n1 c1 A2 n2 c2 vs ws := by
  refine ⟨h.bk.far ?_ u, own_far h.o1 (hp.ne_own h.o1 hne.2.1) _, own_far h.o2 (hp.ne_own h.o2 hne.2.2) _⟩
  intro e
  have h1 := h.bk
  unfold Bk at h1 hp
  rw [e, hp] at h1
  injection h1 with h1
  injection h1 with _ h2
  exact hne.1 h2
theorem BS.len1 (h : BS W bb cA cn cc pos A1 n1 c1 A2 n2 c2 vs ws) : vs.length = n1 ∧ ws.length = n2 := ⟨by simpa using h.o1.1, by simpa using h.o2.1⟩
theorem BS.app1 {w2 : World} {v2 v : Value} (h : BS W bb cA cn cc pos A1 n1 c1 A2 n2 c2 vs ws) (ho : w2.ownsRow bb 78 1 v2 (n1 + 1) (vs ++ [v])) (hg : W.grownBy w2 (Value.slice A1 n1 c1).ownBlock) :
    ∃ g c : Nat, v2 = .slice (some ⟨g, 0, none⟩) (n1 + 1) c ∧ Bk w2 bb 111 #[.slice cA cn cc, .int .i64 pos, .slice A1 n1 c1, .slice A2 n2 c2] ∧
      BS (w2.setCell ⟨bb, 2, none⟩ v2) bb cA cn cc pos (some ⟨g, 0, none⟩) (n1 + 1) c A2 n2 c2 (vs ++ [v]) ws := by
  obtain ⟨g, c, rfl⟩ := own_shape ho
  have hk : Bk w2 bb 111 _ := h.bk.grownO hg (h.bk.ne_own h.o1 (by decide))
  have hu := h.o2.kept hg (own_ne h.o2 h.o1 (by decide))
  exact ⟨g, c, rfl, hk, hk.put 2 _, own_far ho (hk.ne_own ho (by decide)) _, own_far hu (hk.ne_own hu (by decide)) _⟩
theorem BS.app2 {w2 : World} {v2 : Value} {b : Bool} (h : BS W bb cA cn cc pos A1 n1 c1 A2 n2 c2 vs ws) (ho : w2.ownsRow bb 4 1 v2 (n2 + 1) (ws.map Value.bool ++ [.bool b])) (hg : W.grownBy w2 (Value.slice A2 n2 c2).ownBlock) :
    ∃ g c : Nat, v2 = .slice (some ⟨g, 0, none⟩) (n2 + 1) c ∧ Bk w2 bb 111 #[.slice cA cn cc, .int .i64 pos, .slice A1 n1 c1, .slice A2 n2 c2] ∧
      BS (w2.setCell ⟨bb, 3, none⟩ v2) bb cA cn cc pos A1 n1 c1 (some ⟨g, 0, none⟩) (n2 + 1) c vs (ws ++ [b]) := by
  obtain ⟨g, c, rfl⟩ := own_shape ho
  have hk : Bk w2 bb 111 _ := h.bk.grownO hg (h.bk.ne_own h.o2 (by decide))
  have hu := h.o1.kept hg (own_ne h.o1 h.o2 (by decide))
  exact ⟨g, c, rfl, hk, hk.put 3 _, own_far hu (hk.ne_own hu (by decide)) _, by simpa using own_far ho (hk.ne_own ho (by decide)) _⟩
end
theorem TrIs.far {W : World} {p : Addr} (u : Value) : ∀ {t : Tr}, TrIs W t → (∀ v ∈ t.all, vblk v ≠ p.block) → TrIs (W.setCell p u) t
  | .leaf b, ⟨cs, h⟩, hn => ⟨cs, h.far (hn (leafV b) (by simp [Tr.all])) u⟩
  | .bin b l r, ⟨h, h1, h2⟩, hn => ⟨h.far (hn (binV b) (by simp [Tr.all])) u, TrIs.far u h1 (fun v hv => hn v (by simp [Tr.all, hv])), TrIs.far u h2 (fun v hv => hn v (by simp [Tr.all, hv]))⟩
  | .par b x, ⟨h, h1⟩, hn => ⟨h.far (hn (parV b) (by simp [Tr.all])) u, TrIs.far u h1 (fun v hv => hn v (by simp [Tr.all, hv]))⟩
  | .un b x, ⟨h, h1⟩, hn => ⟨h.far (hn (unV b) (by simp [Tr.all])) u, TrIs.far u h1 (fun v hv => hn v (by simp [Tr.all, hv]))⟩
  | .flg b x, ⟨c, h, h1⟩, hn => ⟨c, h.far (hn (flgV b) (by simp [Tr.all])) u, TrIs.far u h1 (fun v hv => hn v (by simp [Tr.all, hv]))⟩
theorem infoArith : (Try.prog.info? 78).map (fun i => (i.zero, i.size, i.bytes)) = some (some .nilIface, 1, 16) := by kernel_rfl
theorem infoBool : (Try.prog.info? 4).map (fun i => (i.zero, i.size, i.bytes)) = some (some (.bool false), 1, 1) := by kernel_rfl
/-- The code that the builder reads. -/
def Code8 (W : World) (bb : Nat) (cA : Option Addr) (cn : Nat) (f : Nat → Int) : Prop := Src W cA cn (fun i => .int .u8 (f i)) ∧ (∀ x, cA = some x → 0 < cn → x.block < bb) ∧ cn ≤ 4096 ∧ ∀ i, i < cn → 0 ≤ f i ∧ f i < 256
theorem Code8.keep {W W1 : World} {bb : Nat} {cA : Option Addr} {cn : Nat} {f : Nat → Int} (h : Code8 W bb cA cn f) (hb : Below bb W W1) : Code8 W1 bb cA cn f := by
  refine ⟨?_, h.2⟩
  rcases h.1 with h1 | ⟨x, rfl, hc⟩
  · exact .inl h1
  · exact .inr ⟨x, rfl, fun i hi => by
      rw [← hc i hi]
      exact hb.cell (by have := h.2.1 x rfl (by omega); unfold Addr.add; split <;> simpa using this)⟩
/-- What build hands back: a tree of new nodes, noted in the two rows. -/
def BQ (W : World) (bb : Nat) (cA : Option Addr) (cn cc pos : Nat) (vs : List Value) (ws : List Bool) (q : Bool) (e : Ending) (w' : World) : Prop :=
  ∃ (t : Tr) (pos' : Nat) (A1 : Option Addr) (n1 c1 : Nat) (A2 : Option Addr) (n2 c2 : Nat), e = .returned t.val ∧ pos ≤ pos' ∧ pos' ≤ cn ∧ BS w' bb cA cn cc pos' A1 n1 c1 A2 n2 c2 (vs ++ t.all) (ws ++ t.wants q) ∧
    TrIs w' t ∧ t.all.Nodup ∧ (∀ v ∈ t.all, W.heap.size ≤ vblk v) ∧ t.all.length ≤ 2 * (pos' - pos) + 1 ∧ Gr bb W w'
/-- build's contract where no more than m bytes of the code are left. -/
def BP (bb : Nat) (cA : Option Addr) (cn cc : Nat) (f : Nat → Int) (m : Nat) : Prop :=
  ∀ (W : World) (pos : Nat) (A1 : Option Addr) (n1 c1 : Nat) (A2 : Option Addr) (n2 c2 : Nat) (vs : List Value) (ws : List Bool) (q : Bool), cn - pos ≤ m → pos ≤ cn → n1 ≤ 2 * pos → n2 = n1 → Code8 W bb cA cn f → BS W bb cA cn cc pos A1 n1 c1 A2 n2 c2 vs ws →
    Calls Try.prog 47 #[ptrV bb, .bool q] W (BQ W bb cA cn cc pos vs ws q)
end Go.Proofs.Ytnjdffnbkjjmeaa
