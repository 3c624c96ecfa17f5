/- Trees of arithmetic nodes, and what markIndex keeps of them. -/
import Derived.Test.YtnjdffnbkjjmeaaMapC
import Derived.Test.YtnjdffnbkjjmeaaRow
import Derived.Test.YtnjdffnbkjjmeaaStep
namespace Go.Proofs.Ytnjdffnbkjjmeaa
open Go.RowKit
inductive Tr where
  | leaf (b : Nat)
  | bin (b : Nat) (l r : Tr)
  | par (b : Nat) (x : Tr)
  | un (b : Nat) (x : Tr)
  | flg (b : Nat) (x : Tr)
abbrev ptrV (b : Nat) : Value := .pointer (some ⟨b, 0, none⟩)
abbrev leafV (b : Nat) : Value := .iface 44 (ptrV b)
abbrev binV (b : Nat) : Value := .iface 80 (ptrV b)
abbrev parV (b : Nat) : Value := .iface 79 (ptrV b)
abbrev unV (b : Nat) : Value := .iface 81 (ptrV b)
abbrev flgV (b : Nat) : Value := .iface 199 (ptrV b)
def Tr.val : Tr → Value
  | .leaf b => leafV b
  | .bin b _ _ => binV b
  | .par b _ => parV b
  | .un b _ => unV b
  | .flg b _ => flgV b
/-- The tree lies in W. -/
def TrIs (W : World) : Tr → Prop
  | .leaf b => ∃ cs, Bk W b 129 cs
  | .bin b l r => Bk W b 92 #[.int .u32 0, .int .u32 0, .int .u32 81, l.val, r.val] ∧ TrIs W l ∧ TrIs W r
  | .par b x => Bk W b 85 #[.int .u32 0, .int .u32 0, .int .u32 0, .int .u32 0, x.val] ∧ TrIs W x
  | .un b x => Bk W b 95 #[.int .u32 0, .int .u32 0, .int .u32 83, .bool false, x.val] ∧ TrIs W x
  | .flg b x => ∃ c, Bk W b 201 #[c, x.val] ∧ TrIs W x
/-- What markIndex keeps, in its order. -/
def Tr.keys : Tr → List Value
  | .leaf _ => []
  | .bin b l r => binV b :: (l.keys ++ r.keys)
  | .par b x => parV b :: x.keys
  | .un _ x => x.keys
  | .flg _ _ => []
/-- All nodes, in the order in which they are built. -/
def Tr.all : Tr → List Value
  | .leaf b => [leafV b]
  | .bin b l r => binV b :: (l.all ++ r.all)
  | .par b x => parV b :: x.all
  | .un b x => unV b :: x.all
  | .flg b x => flgV b :: x.all
/-- Which of them the model wants kept. -/
def Tr.wants : Tr → Bool → List Bool
  | .leaf _, _ => [false]
  | .bin _ l r, q => q :: (l.wants q ++ r.wants q)
  | .par _ x, q => q :: x.wants q
  | .un _ x, q => false :: x.wants q
  | .flg _ x, _ => false :: x.wants false
theorem Tr.len : ∀ (t : Tr) (q : Bool), (t.wants q).length = t.all.length
  | .leaf _, _ => rfl
  | .bin _ l r, q => by simp [Tr.wants, Tr.all, Tr.len l q, Tr.len r q]
  | .par _ x, q => by simp [Tr.wants, Tr.all, Tr.len x q]
  | .un _ x, q => by simp [Tr.wants, Tr.all, Tr.len x q]
  | .flg _ x, _ => by simp [Tr.wants, Tr.all, Tr.len x false]
/-- The nodes whose flag is true. -/
def pickT : List Value → List Bool → List Value
  | v :: vs, b :: ws => if b then v :: pickT vs ws else pickT vs ws
  | _, _ => []
theorem pickT_append : ∀ (vs vs' : List Value) (ws ws' : List Bool), ws.length = vs.length → pickT (vs ++ vs') (ws ++ ws') = pickT vs ws ++ pickT vs' ws'
  | [], _, [], _, _ => by simp [pickT]
  | v :: vs, vs', b :: ws, ws', h => by
    have h1 := pickT_append vs vs' ws ws' (by simpa using h)
    cases b <;> simp [pickT, h1]
  | [], _, _ :: _, _, h => by simp at h
  | _ :: _, _, [], _, h => by simp at h
theorem pickT_sub : ∀ (vs : List Value) (ws : List Bool), (pickT vs ws).Sublist vs
  | [], ws => by cases ws <;> simp [pickT]
  | v :: vs, [] => by simp [pickT]
  | v :: vs, b :: ws => by
    have h := pickT_sub vs ws
    cases b
    · simpa [pickT] using h.cons v
    · simpa [pickT] using h
theorem pickT_len : ∀ (vs : List Value) (ws : List Bool), ws.length = vs.length → (pickT vs ws).length = ws.count true
  | [], [], _ => by simp [pickT]
  | v :: vs, b :: ws, h => by
    have h1 := pickT_len vs ws (by simpa using h)
    cases b <;> simp [pickT, h1]
  | [], _ :: _, h => by simp at h
  | _ :: _, [], h => by simp at h
theorem pickT_mem : ∀ (vs : List Value) (ws : List Bool) (j : Nat) (v : Value) (b : Bool), vs.Nodup → vs[j]? = some v → ws[j]? = some b → (v ∈ pickT vs ws ↔ b = true)
  | [], _, j, v, b, _, h, _ => by simp at h
  | _ :: _, [], j, v, b, _, _, h => by simp at h
  | u :: vs, c :: ws, 0, v, b, hn, h1, h2 => by
    simp at h1 h2
    subst h1 h2
    have h3 : u ∉ pickT vs ws := fun h => (List.nodup_cons.1 hn).1 ((pickT_sub vs ws).subset h)
    cases c <;> simp [pickT, h3]
  | u :: vs, c :: ws, j + 1, v, b, hn, h1, h2 => by
    have h3 := pickT_mem vs ws j v b (List.nodup_cons.1 hn).2 (by simpa using h1) (by simpa using h2)
    have h4 : v ≠ u := by
      rintro rfl
      exact (List.nodup_cons.1 hn).1 (List.mem_of_getElem? (by simpa using h1))
    cases c <;> simp [pickT, h3, h4]
theorem Tr.keys_pick : ∀ (t : Tr) (q : Bool), pickT t.all (t.wants q) = if q then t.keys else []
  | .leaf _, q => by cases q <;> simp [Tr.all, Tr.wants, Tr.keys, pickT]
  | .bin b l r, q => by
    have h1 := Tr.keys_pick l q
    have h2 := Tr.keys_pick r q
    have h3 := pickT_append l.all r.all (l.wants q) (r.wants q) (Tr.len l q)
    cases q
    · simp at h1 h2
      simp [Tr.all, Tr.wants, pickT, h3, h1, h2]
    · simp at h1 h2
      simp [Tr.all, Tr.wants, Tr.keys, pickT, h3, h1, h2]
  | .par b x, q => by
    have h1 := Tr.keys_pick x q
    cases q <;> simp at h1 <;> simp [Tr.all, Tr.wants, Tr.keys, pickT, h1]
  | .un b x, q => by
    have h1 := Tr.keys_pick x q
    cases q <;> simp at h1 <;> simp [Tr.all, Tr.wants, Tr.keys, pickT, h1]
  | .flg b x, q => by
    have h1 := Tr.keys_pick x false
    cases q <;> simp at h1 <;> simp [Tr.all, Tr.wants, Tr.keys, pickT, h1]
theorem Tr.keys_eq (t : Tr) : t.keys = pickT t.all (t.wants true) := by simp [Tr.keys_pick]
/-- The blocks of nodes in W are the same in W1. -/
def Keeps (W W1 : World) : Prop := ∀ (b : Nat) (t te : TypeId) (cs : Array Value), NdT t te → W.heap[b]? = some (.cells cs te (0, 0)) → W1.heap[b]? = some (.cells cs te (0, 0))
theorem ndW : NdT 44 129 := .inr (.inr (.inr (.inr ⟨rfl, rfl⟩)))
theorem ndB : NdT 80 92 := .inl ⟨rfl, rfl⟩
theorem ndP : NdT 79 85 := .inr (.inl ⟨rfl, rfl⟩)
theorem ndU : NdT 81 95 := .inr (.inr (.inl ⟨rfl, rfl⟩))
theorem ndF : NdT 199 201 := .inr (.inr (.inr (.inl ⟨rfl, rfl⟩)))
theorem TrIs.nd {W : World} : ∀ {t : Tr}, TrIs W t → Nd W t.val
  | .leaf b, ⟨cs, h⟩ => ⟨_, _, b, cs, rfl, ndW, h⟩
  | .bin b _ _, ⟨h, _⟩ => ⟨_, _, b, _, rfl, ndB, h⟩
  | .par b _, ⟨h, _⟩ => ⟨_, _, b, _, rfl, ndP, h⟩
  | .un b _, ⟨h, _⟩ => ⟨_, _, b, _, rfl, ndU, h⟩
  | .flg b _, ⟨_, h, _⟩ => ⟨_, _, b, _, rfl, ndF, h⟩
theorem TrIs.keep {W W1 : World} (k : Keeps W W1) : ∀ {t : Tr}, TrIs W t → TrIs W1 t
  | .leaf b, ⟨cs, h⟩ => ⟨cs, k b _ _ _ ndW h⟩
  | .bin b _ _, ⟨h, h1, h2⟩ => ⟨k b _ _ _ ndB h, TrIs.keep k h1, TrIs.keep k h2⟩
  | .par b _, ⟨h, h1⟩ => ⟨k b _ _ _ ndP h, TrIs.keep k h1⟩
  | .un b _, ⟨h, h1⟩ => ⟨k b _ _ _ ndU h, TrIs.keep k h1⟩
  | .flg b _, ⟨c, h, h1⟩ => ⟨c, k b _ _ _ ndF h, TrIs.keep k h1⟩
theorem TrIs.allNd {W : World} : ∀ {t : Tr}, TrIs W t → ∀ v ∈ t.all, Nd W v
  | .leaf b, h, v, hv => by
    obtain rfl := List.mem_singleton.1 hv
    exact TrIs.nd h
  | .bin b l r, h, v, hv => by
    rcases List.mem_cons.1 hv with rfl | hv
    · exact TrIs.nd h
    · rcases List.mem_append.1 hv with hv | hv
      · exact TrIs.allNd h.2.1 v hv
      · exact TrIs.allNd h.2.2 v hv
  | .par b x, h, v, hv => by
    rcases List.mem_cons.1 hv with rfl | hv
    · exact TrIs.nd h
    · exact TrIs.allNd h.2 v hv
  | .un b x, h, v, hv => by
    rcases List.mem_cons.1 hv with rfl | hv
    · exact TrIs.nd h
    · exact TrIs.allNd h.2 v hv
  | .flg b x, ⟨c, h, h1⟩, v, hv => by
    rcases List.mem_cons.1 hv with rfl | hv
    · exact TrIs.nd (t := .flg b x) ⟨c, h, h1⟩
    · exact TrIs.allNd h1 v hv
theorem TrIs.keysNd {W : World} {t : Tr} (h : TrIs W t) : ∀ k ∈ t.keys, Nd W k := fun k hk => h.allNd k (by
  rw [Tr.keys_eq] at hk
  exact (pickT_sub _ _).subset hk)
theorem Nd.keep {W W1 : World} (k : Keeps W W1) {v : Value} (h : Nd W v) : Nd W1 v := by
  obtain ⟨t, te, b, cs, rfl, ht, hb⟩ := h
  exact ⟨t, te, b, cs, rfl, ht, k b t te cs ht hb⟩
theorem Keeps.refl (W : World) : Keeps W W := fun _ _ _ _ _ h => h
theorem Keeps.trans {a b c : World} (h : Keeps a b) (k : Keeps b c) : Keeps a c := fun x t te cs ht hx => k x t te cs ht (h x t te cs ht hx)
theorem Keeps.grown {W W1 : World} {row : Option Nat} (hg : W.grownBy W1 row) (hr : ∀ k, row = some k → ∀ t te cs, NdT t te → W.heap[k]? ≠ some (.cells cs te (0, 0))) : Keeps W W1 := by
  intro b t te cs ht hb
  refine (hg.block b (Array.getElem?_eq_some_iff.1 hb).1 ?_).trans hb
  intro e
  exact hr b e.symm t te cs ht hb
theorem Keeps.map {W W1 : World} {mb : Nat} {ks : List Value} (h : MapIs W mb ks) (hg : W.grownBy W1 (some mb)) : Keeps W W1 := by
  refine Keeps.grown hg ?_
  intro k e t te cs _
  injection e with e
  subst e
  obtain ⟨es, clock, hm, _⟩ := h
  rw [hm]
  simp
theorem Keeps.below {B : Nat} {W W1 : World} (hb : Below B W W1) (hB : W.heap.size ≤ B) : Keeps W W1 := fun b _ _ _ _ h =>
  (hb.block b (by have := (Array.getElem?_eq_some_iff.1 h).1; omega)).trans h
/-- The block of a node's value. -/
def vblk : Value → Nat
  | .iface _ (.pointer (some a)) => a.block
  | _ => 0
theorem Nd.vblk_lt {W : World} {v : Value} (h : Nd W v) : vblk v < W.heap.size := by
  obtain ⟨t, te, b, cs, rfl, ht, hb⟩ := h
  exact (Array.getElem?_eq_some_iff.1 hb).1
theorem fold_new : ∀ (ls ks : List Value), (ks ++ ls).Nodup → ls.foldl addK ks = ks ++ ls
  | [], ks, _ => by simp
  | v :: ls, ks, h => by
    have h1 : v ∉ ks := fun hv => by
      have := (List.nodup_append.1 h).2.2 v hv v (by simp)
      exact this rfl
    have h2 : addK ks v = ks ++ [v] := by simp [addK, h1]
    have h3 := fold_new ls (ks ++ [v]) (by simpa using h)
    simp [h2, h3]
theorem fold_old : ∀ (ls ks : List Value), (∀ v ∈ ls, v ∈ ks) → ls.foldl addK ks = ks
  | [], _, _ => rfl
  | v :: ls, ks, h => by
    have h2 : addK ks v = ks := by simp [addK, h v (by simp)]
    simp [h2, fold_old ls ks (fun u hu => h u (by simp [hu]))]
end Go.Proofs.Ytnjdffnbkjjmeaa
