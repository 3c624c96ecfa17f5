/- The law FnMarkIndexUnionAndIdempotent: what holds of the two trees between the calls; the calls at that state. -/
import Derived.Test.YtnjdffnbkjjmeaaBui
namespace Go.Proofs.Ytnjdffnbkjjmeaa
open Go.RowKit
/-- Both trees are built, their nodes are distinct, nothing of before has turned. -/
structure LS (w W : World) (ba bb : Nat) (ta tb : Tr) : Prop where
  a : Built W ba ta
  b : Built W bb tb
  xa : TrIs W ta
  xb : TrIs W tb
  nd : (ta.all ++ tb.all).Nodup
  la : ta.all.length ≤ 8193
  lb : tb.all.length ≤ 8193
  ha : w.heap.size ≤ ba
  hb : w.heap.size ≤ bb
  below : Below w.heap.size w W
section
variable {w W W1 : World} {ba bb : Nat} {ta tb : Tr}
theorem LS.keep (h : LS w W ba bb ta tb) (k : Below W.heap.size W W1) : LS w W1 ba bb ta tb :=
  ⟨h.a.keep k, h.b.keep k, h.xa.keep (Keeps.below k (Nat.le_refl _)), h.xb.keep (Keeps.below k (Nat.le_refl _)), h.nd, h.la, h.lb, h.ha, h.hb, h.below.trans (k.mono h.below.size)⟩
theorem LS.grown {mb : Nat} {ks : List Value} (h : LS w W ba bb ta tb) (hm : MapIs W mb ks) (hmb : w.heap.size ≤ mb) (hg : W.grownBy W1 (some mb)) : LS w W1 ba bb ta tb :=
  ⟨h.a.grown hm hg, h.b.grown hm hg, h.xa.keep (Keeps.map hm hg), h.xb.keep (Keeps.map hm hg), h.nd, h.la, h.lb, h.ha, h.hb, below_grown h.below hg hmb⟩
theorem Tr.keysLen (t : Tr) : t.keys.length = (t.wants true).count true := by
  rw [Tr.keys_eq]
  exact pickT_len _ _ (Tr.len t true)
theorem Tr.keysIn (t : Tr) {v : Value} (h : v ∈ t.keys) : v ∈ t.all := by
  rw [Tr.keys_eq] at h
  exact (pickT_sub _ _).subset h
theorem keys_nodup (h : (ta.all ++ tb.all).Nodup) : (ta.keys ++ tb.keys).Nodup := by
  rw [Tr.keys_eq, Tr.keys_eq]
  exact ((pickT_sub _ _).append (pickT_sub _ _)).nodup h
theorem inA (h : (ta.all ++ tb.all).Nodup) {j : Nat} {v : Value} {b : Bool} (hv : ta.all[j]? = some v) (hb : (ta.wants true)[j]? = some b) : v ∈ ta.keys ++ tb.keys ↔ b = true := by
  have h1 := List.nodup_append.1 h
  have h2 : v ∉ tb.keys := fun hm => h1.2.2 v (List.mem_of_getElem? hv) v (tb.keysIn hm) rfl
  have h3 := pickT_mem _ _ j v b h1.1 hv hb
  rw [← Tr.keys_eq] at h3
  simp [h2, h3]
theorem inB (h : (ta.all ++ tb.all).Nodup) {j : Nat} {v : Value} {b : Bool} (hv : tb.all[j]? = some v) (hb : (tb.wants true)[j]? = some b) : v ∈ ta.keys ++ tb.keys ↔ b = true := by
  have h1 := List.nodup_append.1 h
  have h2 : v ∉ ta.keys := fun hm => h1.2.2 v (ta.keysIn hm) v (List.mem_of_getElem? hv) rfl
  have h3 := pickT_mem _ _ j v b h1.2.1 hv hb
  rw [← Tr.keys_eq] at h3
  simp [h2, h3]
theorem LS.nds (h : LS w W ba bb ta tb) : ∀ k ∈ ta.keys ++ tb.keys, Nd W k := by
  intro k hk
  rcases List.mem_append.1 hk with hk | hk
  · exact h.xa.keysNd k hk
  · exact h.xb.keysNd k hk
/-- The first marking. -/
theorem mark1 {s mb : Nat} (h : LS w W ba bb ta tb) (hs : SimpIs W s mb []) (hmb : w.heap.size ≤ mb) :
    Calls Try.prog 50 #[ptrV s, ta.val] W fun e w' => e = .returned (.tuple #[]) ∧ SimpIs w' s mb ta.keys ∧ LS w w' ba bb ta tb := by
  refine (zzMark hs (fun _ h => by cases h) h.xa).mono ?_
  rintro e w' ⟨rfl, h1, h2⟩
  rw [fold_new _ _ (by simpa using (List.nodup_append.1 (keys_nodup h.nd)).1)] at h1
  exact ⟨rfl, by simpa using h1, h.grown hs.2 hmb h2⟩
theorem mark2 {s mb : Nat} (h : LS w W ba bb ta tb) (hs : SimpIs W s mb ta.keys) (hmb : w.heap.size ≤ mb) :
    Calls Try.prog 50 #[ptrV s, tb.val] W fun e w' => e = .returned (.tuple #[]) ∧ SimpIs w' s mb (ta.keys ++ tb.keys) ∧ LS w w' ba bb ta tb := by
  refine (zzMark hs h.xa.keysNd h.xb).mono ?_
  rintro e w' ⟨rfl, h1, h2⟩
  rw [fold_new _ _ (keys_nodup h.nd)] at h1
  exact ⟨rfl, h1, h.grown hs.2 hmb h2⟩
theorem mark3 {s mb : Nat} (h : LS w W ba bb ta tb) (hs : SimpIs W s mb (ta.keys ++ tb.keys)) (hmb : w.heap.size ≤ mb) :
    Calls Try.prog 50 #[ptrV s, ta.val] W fun e w' => e = .returned (.tuple #[]) ∧ SimpIs w' s mb (ta.keys ++ tb.keys) ∧ LS w w' ba bb ta tb := by
  refine (zzMark hs h.nds h.xa).mono ?_
  rintro e w' ⟨rfl, h1, h2⟩
  rw [fold_old _ _ (fun v hv => List.mem_append_left _ hv)] at h1
  exact ⟨rfl, h1, h.grown hs.2 hmb h2⟩
theorem keptA {s mb j : Nat} {v : Value} {b : Bool} (h : LS w W ba bb ta tb) (hs : SimpIs W s mb (ta.keys ++ tb.keys)) (hv : ta.all[j]? = some v) (hb : (ta.wants true)[j]? = some b) :
    Calls Try.prog 52 #[ptrV s, v] W fun e w' => e = .returned (.bool b) ∧ W = w' := by
  refine (kept_ hs h.nds (h.xa.allNd v (List.mem_of_getElem? hv))).mono ?_
  rintro e w' ⟨⟨c, rfl, hc⟩, rfl⟩
  have := hc.trans (inA h.nd hv hb)
  exact ⟨by cases b <;> cases c <;> simp_all, rfl⟩
theorem keptB {s mb j : Nat} {v : Value} {b : Bool} (h : LS w W ba bb ta tb) (hs : SimpIs W s mb (ta.keys ++ tb.keys)) (hv : tb.all[j]? = some v) (hb : (tb.wants true)[j]? = some b) :
    Calls Try.prog 52 #[ptrV s, v] W fun e w' => e = .returned (.bool b) ∧ W = w' := by
  refine (kept_ hs h.nds (h.xb.allNd v (List.mem_of_getElem? hv))).mono ?_
  rintro e w' ⟨⟨c, rfl, hc⟩, rfl⟩
  have := hc.trans (inB h.nd hv hb)
  exact ⟨by cases b <;> cases c <;> simp_all, rfl⟩
theorem nd_ptr {v : Value} (h : Nd W v) : ∃ (ty : TypeId) (x : Nat), v = .iface ty (.pointer (some ⟨x, 0, none⟩)) := by
  obtain ⟨t, te, b, cs, rfl, _⟩ := h
  exact ⟨_, _, rfl⟩
end
theorem makeBools (n : Nat) (hn : n ≤ 1048576) (W : World) : (Instr.makeSlice 26 (.int .i64 (n : Int)) (.int .i64 (n : Int))).run Try.prog W = .ok (.slice (some ⟨W.heap.size, 0, none⟩) n n) (W.alloc (.cells (madeCells #[.bool false] n) 4)) :=
  makeN 26 4 (.bool false) 1 Try.underlying26 (by kernel_rfl) rfl n (by omega) (by omega) W
/-- A builder at its start. -/
theorem BS.start (W : World) (cA : Option Addr) (cn cc : Nat) : BS (W.alloc (.cells #[.slice cA cn cc, .int .i64 0, .slice none 0 0, .slice none 0 0] 111)) W.heap.size cA cn cc 0 none 0 0 none 0 0 [] [] :=
  ⟨Bk.fresh _ _ _, World.ownsRow_nil _ _ _ _, World.ownsRow_nil _ _ _ _⟩
theorem code_of {W : World} {A : Option Addr} {n : Nat} {f : Nat → Int} (h : Src W A n (fun i => .int .u8 (f i))) (hn : n ≤ 4096) (hf : ∀ i, i < n → 0 ≤ f i ∧ f i < 256) (o : Obj) : Code8 (W.alloc o) W.heap.size A n f := by
  refine ⟨h.keep ((Below.refl _ _).alloc (Nat.le_refl _) _), ?_, hn, hf⟩
  rintro x rfl h0
  rcases h with ⟨h1, _⟩ | ⟨y, hy, hc⟩
  · cases h1
  · injection hy with hy
    subst hy
    have := World.block_lt_of_cell? _ _ (hc 0 h0)
    unfold Addr.add at this
    split at this <;> simpa using this
/-- The build of a tree from a fresh builder. -/
theorem build_top (W : World) {A : Option Addr} {n : Nat} {f : Nat → Int} (h : Src W A n (fun i => .int .u8 (f i))) (hn : n ≤ 4096) (hf : ∀ i, i < n → 0 ≤ f i ∧ f i < 256) :
    Calls Try.prog 47 #[ptrV W.heap.size, .bool true] (W.alloc (.cells #[.slice A n n, .int .i64 0, .slice none 0 0, .slice none 0 0] 111)) fun e w' =>
      ∃ t : Tr, e = .returned t.val ∧ Built w' W.heap.size t ∧ TrIs w' t ∧ t.all.Nodup ∧ (∀ v ∈ t.all, W.heap.size < vblk v) ∧ t.all.length ≤ 8193 ∧ Below W.heap.size W w' := by
  refine (build_any W.heap.size A n n f n _ 0 none 0 0 none 0 0 [] [] true (by omega) (by omega) (by omega) rfl (code_of h hn hf _) (BS.start W A n n)).mono ?_
  rintro e w' ⟨t, p, A1, n1, c1, A2, n2, c2, rfl, _, hp, hb, ht, hnd, hlo, hlen, hg⟩
  refine ⟨t, rfl, BS.built (by simpa using hb), ht, hnd, fun v hv => ?_, by omega, (((Below.refl _ W).alloc (Nat.le_refl _) _)).trans hg.below⟩
  have := hlo v hv
  simp at this
  omega
end Go.Proofs.Ytnjdffnbkjjmeaa
