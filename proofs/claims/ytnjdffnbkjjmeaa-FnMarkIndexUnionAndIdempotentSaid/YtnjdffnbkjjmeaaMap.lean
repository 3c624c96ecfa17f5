/- A map of the call's own whose keys are nodes (interface values that hold pointers), its elements bools: what the block is, and its operations. -/
import Derived.Test.YtnjdffnbkjjmeaaBlk
import Derived.LaidEql
import Derived.Carry
import Derived.MapKept
import Derived.OwnWalk
namespace Go.Proofs.Ytnjdffnbkjjmeaa
open Go.RowKit
/-- The types of nodes: the pointer's, the struct's. -/
def NdT (t te : TypeId) : Prop := (t = 80 ∧ te = 92) ∨ (t = 79 ∧ te = 85) ∨ (t = 81 ∧ te = 95) ∨ (t = 199 ∧ te = 201) ∨ (t = 44 ∧ te = 129)
/-- A node's value: its block is a plain one. -/
def Nd (W : World) (v : Value) : Prop := ∃ (t te : TypeId) (b : Nat) (cs : Array Value), v = .iface t (.pointer (some ⟨b, 0, none⟩)) ∧ NdT t te ∧ W.heap[b]? = some (.cells cs te (0, 0))
theorem NdT.laid {t te : TypeId} (h : NdT t te) : ∃ i j : TypeInfo, Try.prog.underlying t = some (.pointer te) ∧ Try.prog.info? t = some i ∧ i.comparable = true ∧ Try.prog.info? te = some j ∧ j.size ≠ 0 := by
  have go : ∀ t te : TypeId, ((Try.prog.underlying t = some (.pointer te)) ∧ ((Try.prog.info? t).map (fun i => i.comparable) = some true) ∧ ((Try.prog.info? te).map (fun i => decide (i.size ≠ 0)) = some true)) → ∃ i j : TypeInfo, Try.prog.underlying t = some (.pointer te) ∧ Try.prog.info? t = some i ∧ i.comparable = true ∧ Try.prog.info? te = some j ∧ j.size ≠ 0 := by
    rintro t te ⟨h1, h2, h3⟩
    obtain ⟨i, hi, hc⟩ := Option.map_eq_some_iff.1 h2
    obtain ⟨j, hj, hs⟩ := Option.map_eq_some_iff.1 h3
    exact ⟨i, j, h1, hi, hc, hj, by simpa using hs⟩
  rcases h with ⟨rfl, rfl⟩ | ⟨rfl, rfl⟩ | ⟨rfl, rfl⟩ | ⟨rfl, rfl⟩ | ⟨rfl, rfl⟩
  all_goals exact go _ _ ⟨by kernel_rfl, by kernel_rfl, by kernel_rfl⟩
/-- Two nodes compare as their values. -/
theorem nd_same {W : World} {v : Value} (hv : Nd W v) : (Op.equal 78 v v).run Try.prog W = .ok true W := by
  obtain ⟨t, te, b, cs, rfl, ht, hb⟩ := hv
  obtain ⟨i, j, h1, h2, h3, h4, h5⟩ := ht.laid
  obtain ⟨ms, hi⟩ : ∃ ms, Try.prog.underlying 78 = some (.interface ms) := ⟨_, Try.underlying78⟩
  simp [Op.equal, Op.maxDepth, run_equalIn_iface_ptr_same W 9998 _ hi h1 h2 h3 h4]
theorem nd_other {W : World} {v u : Value} (hv : Nd W v) (hu : Nd W u) (hne : v ≠ u) : (Op.equal 78 v u).run Try.prog W = .ok false W := by
  obtain ⟨t, te, b, cs, rfl, ht, hb⟩ := hv
  obtain ⟨t2, te2, b2, cs2, rfl, ht2, hb2⟩ := hu
  obtain ⟨i, j, h1, h2, h3, h4, h5⟩ := ht.laid
  obtain ⟨ms, hi⟩ : ∃ ms, Try.prog.underlying 78 = some (.interface ms) := ⟨_, Try.underlying78⟩
  by_cases et : t = t2
  · subst et
    have hne : (⟨b, 0, none⟩ : Addr) ≠ ⟨b2, 0, none⟩ := by
      intro e
      injection e with e
      subst e
      exact hne rfl
    simp [Op.equal, Op.maxDepth, run_equalIn_iface_ptr_other W 9998 hi h1 h2 h3 h4 h5 hne hb hb2]
  · have h : ∀ d : Nat, (Op.equalIn (d + 1) 78 (.iface t (.pointer (some ⟨b, 0, none⟩))) (.iface t2 (.pointer (some ⟨b2, 0, none⟩)))).run Try.prog W = .ok false W := fun d => by simp [Op.equalIn, run_underlying hi, et]
    simp [Op.equal, Op.maxDepth, h 9999]
/-- Block mb of W is a map whose keys are ks, each with the element true. -/
def MapIs (W : World) (mb : Nat) (ks : List Value) : Prop := ∃ es clock, W.heap[mb]? = some (.map es clock) ∧ es.toList.map (fun e => e.key) = ks ∧ ∀ e ∈ es.toList, e.val = .bool true
theorem find_run {W : World} {v : Value} (hv : Nd W v) : ∀ (es : List MapEntry) (i : Nat), (∀ e ∈ es, Nd W e.key) → (∀ e ∈ es, e.val = .bool true) →
    ∃ r, (Instr.findAsking 78 v es i).run Try.prog W = .ok r W ∧ (r = none ∧ v ∉ es.map (fun e => e.key) ∨ ∃ j e, r = some (i + j, .bool true) ∧ es[j]? = some e ∧ e.key = v)
  | [], i, _, _ => ⟨none, by simp [Instr.findAsking], .inl ⟨rfl, by simp⟩⟩
  | e :: es, i, hk, hb => by
    by_cases he : v = e.key
    · have h1 := nd_same hv
      rw [he] at h1 ⊢
      refine ⟨some (i, .bool true), ?_, .inr ⟨0, e, by simp, by simp, rfl⟩⟩
      simp [Instr.findAsking, h1, hb e (by simp)]
    · have h1 := nd_other hv (hk e (by simp)) he
      obtain ⟨r, hr, hc⟩ := find_run hv es (i + 1) (fun x hx => hk x (by simp [hx])) (fun x hx => hb x (by simp [hx]))
      refine ⟨r, ?_, ?_⟩
      · simp [Instr.findAsking, h1, hr]
      · rcases hc with ⟨rfl, hn⟩ | ⟨j, x, rfl, hx, hxk⟩
        · exact .inl ⟨rfl, by simp [he]; simpa using hn⟩
        · exact .inr ⟨j + 1, x, by simp; omega, by simpa using hx, hxk⟩
theorem find_key {W : World} {v : Value} (hv : Nd W v) (es : List MapEntry) (hk : ∀ e ∈ es, Nd W e.key) (hb : ∀ e ∈ es, e.val = .bool true) :
    ∃ r, (Instr.findKey 78 v es).run Try.prog W = .ok r W ∧ (r = none ∧ v ∉ es.map (fun e => e.key) ∨ ∃ j e, r = some (j, .bool true) ∧ es[j]? = some e ∧ e.key = v) := by
  obtain ⟨ms, hi⟩ : ∃ ms, Try.prog.underlying 78 = some (.interface ms) := ⟨_, Try.underlying78⟩
  cases es with
  | nil => exact ⟨none, by simp [Instr.findKey, Instr.findNow, run_underlying hi], .inl ⟨rfl, by simp⟩⟩
  | cons e es =>
    obtain ⟨r, hr, hc⟩ := find_run hv (e :: es) 0 hk hb
    refine ⟨r, ?_, by simpa using hc⟩
    simp [Instr.findKey, Instr.findNow, Instr.sameNow, run_underlying hi, hr]
theorem check_key {W : World} {v : Value} (hv : Nd W v) (b : Bool) : (Instr.checkKey b 10000 78 v).run Try.prog W = .ok () W := by
  obtain ⟨t, te, a, cs, rfl, ht, _⟩ := hv
  obtain ⟨i, j, h1, h2, h3, _⟩ := ht.laid
  obtain ⟨ms, hi⟩ : ∃ ms, Try.prog.underlying 78 = some (.interface ms) := ⟨_, Try.underlying78⟩
  have h : ∀ d : Nat, (Instr.checkKey b (d + 2) 78 (.iface t (.pointer (some ⟨a, 0, none⟩)))).run Try.prog W = .ok () W := fun d => by simp [Instr.checkKey, run_underlying hi, run_underlying h1, typeInfo, h2, h3]
  exact h 9998
theorem map_look {W : World} {mb : Nat} {ks : List Value} {v : Value} (h : MapIs W mb ks) (hk : ∀ k ∈ ks, Nd W k) (hv : Nd W v) :
    ∃ b : Bool, (Instr.lookup 165 (.map (some mb)) v false).run Try.prog W = .ok (.bool b) W ∧ (b = true ↔ v ∈ ks) := by
  obtain ⟨es, clock, hm, rfl, hb⟩ := h
  obtain ⟨r, hr, hc⟩ := find_key hv es.toList (fun e he => hk _ (List.mem_map.2 ⟨e, he, rfl⟩)) hb
  have hz : (zeroValue 4).run Try.prog W = .ok (.bool false) W := by
    have h0 : (Try.prog.info? 4).map (fun i => i.zero) = some (some (.bool false)) := by kernel_rfl
    obtain ⟨i, hi, hzz⟩ := Option.map_eq_some_iff.1 h0
    simp [zeroValue, typeInfo, hi, hzz]
  rcases hc with ⟨rfl, hn⟩ | ⟨j, e, rfl, he, hek⟩
  · refine ⟨false, ?_, by simpa using hn⟩
    simp [Instr.lookup, run_underlying Try.underlying165, MapKept.run_getObj_map hm, check_key hv, hr, hz]
  · refine ⟨true, ?_, by simpa using ⟨e, by simpa using List.mem_of_getElem? he, hek⟩⟩
    simp [Instr.lookup, run_underlying Try.underlying165, MapKept.run_getObj_map hm, check_key hv, hr]
open Classical in
/-- The keys behind a store. -/
noncomputable def addK (ks : List Value) (v : Value) : List Value := if v ∈ ks then ks else ks ++ [v]
theorem map_put {W : World} {mb : Nat} {ks : List Value} {v : Value} (h : MapIs W mb ks) (hk : ∀ k ∈ ks, Nd W k) (hv : Nd W v) :
    ∃ w', (Instr.mapUpdate 165 (.map (some mb)) v (.bool true)).run Try.prog W = .ok () w' ∧ MapIs w' mb (addK ks v) ∧ W.grownBy w' (some mb) := by
  obtain ⟨es, clock, hm, rfl, hb⟩ := h
  obtain ⟨r, hr, hc⟩ := find_key hv es.toList (fun e he => hk _ (List.mem_map.2 ⟨e, he, rfl⟩)) hb
  have hg : ∀ o : Obj, W.grownBy { W with heap := W.heap.setIfInBounds mb o } (some mb) := fun o =>
    ⟨rfl, rfl, rfl, by simp, fun i _ hi => by
      have : mb ≠ i := fun e => hi (by rw [e])
      simp [Array.getElem?_setIfInBounds_ne this]⟩
  have hlt : mb < W.heap.size := (Array.getElem?_eq_some_iff.1 hm).1
  rcases hc with ⟨rfl, hn⟩ | ⟨j, e, rfl, he, hek⟩
  · refine ⟨_, by simp [Instr.mapUpdate, run_underlying Try.underlying165, MapKept.run_getObj_map hm, check_key hv, hr, MapKept.run_setObj_map _ hm]; rfl, ⟨_, _, by simp [hlt]; exact ⟨rfl, rfl⟩, ?_, ?_⟩, hg _⟩
    · rw [addK, if_neg hn]; simp
    · intro e he
      simp at he
      rcases he with he | rfl
      · exact hb e (by simpa using he)
      · rfl
  · have hsame : Instr.sameBits 10000 v v = true := by
      obtain ⟨t, te, b, cs, rfl, _⟩ := hv
      have h : ∀ d : Nat, Instr.sameBits (d + 1) (.iface t (.pointer (some ⟨b, 0, none⟩))) (.iface t (.pointer (some ⟨b, 0, none⟩))) = true := fun d => by simp [Instr.sameBits]
      exact h 9999
    have he' : es[j]? = some e := by simpa using he
    have hmem : e ∈ es.toList := List.mem_of_getElem? he
    have hin : v ∈ es.toList.map (fun e => e.key) := List.mem_map.2 ⟨e, hmem, hek⟩
    refine ⟨_, by simp [Instr.mapUpdate, Instr.keyThatStays, run_underlying Try.underlying165, MapKept.run_getObj_map hm, check_key hv, hr, he', hek, hsame, MapKept.run_setObj_map _ hm]; rfl, ⟨_, _, by simp [hlt]; exact ⟨rfl, rfl⟩, ?_, ?_⟩, hg _⟩
    · rw [addK, if_pos hin]
      refine List.ext_getElem? fun i => ?_
      rw [Array.toList_modify, List.getElem?_map, List.getElem?_map, List.getElem?_modify]
      by_cases hi : j = i
      · subst hi
        simp [he, hek]
      · simp [hi]
    · intro x hx
      obtain ⟨i, hi⟩ := List.getElem?_of_mem hx
      rw [Array.toList_modify, List.getElem?_modify] at hi
      by_cases hji : j = i
      · subst hji
        simp [he] at hi
        rw [← hi]
      · simp [hji] at hi
        exact hb x (by simpa using Array.mem_of_getElem? hi)
theorem MapIs.grown {W W1 : World} {mb : Nat} {ks : List Value} {row : Option Nat} (h : MapIs W mb ks) (hg : W.grownBy W1 row) (hne : some mb ≠ row) : MapIs W1 mb ks := by
  obtain ⟨es, clock, hm, h1, h2⟩ := h
  exact ⟨es, clock, (hg.block mb (Array.getElem?_eq_some_iff.1 hm).1 hne).trans hm, h1, h2⟩
theorem MapIs.keep {W W1 : World} {mb : Nat} {ks : List Value} (h : MapIs W mb ks) (hb : Below W.heap.size W W1) : MapIs W1 mb ks := by
  obtain ⟨es, clock, hm, h1, h2⟩ := h
  exact ⟨es, clock, (hb.block mb (Array.getElem?_eq_some_iff.1 hm).1).trans hm, h1, h2⟩
theorem MapIs.made (W : World) : MapIs (W.alloc (.map #[] 0)) W.heap.size [] := ⟨#[], 0, heap_alloc_new W _, rfl, by simp⟩
theorem MapIs.lt {W : World} {mb : Nat} {ks : List Value} (h : MapIs W mb ks) : mb < W.heap.size := by
  obtain ⟨es, clock, hm, _⟩ := h
  exact (Array.getElem?_eq_some_iff.1 hm).1
theorem Nd.grown {W W1 : World} {v : Value} {row : Option Nat} (h : Nd W v) (hg : W.grownBy W1 row) (hne : ∀ t b o l, v = .iface t (.pointer (some ⟨b, o, l⟩)) → some b ≠ row) : Nd W1 v := by
  obtain ⟨t, te, b, cs, rfl, ht, hb⟩ := h
  exact ⟨t, te, b, cs, rfl, ht, (hg.block b (Array.getElem?_eq_some_iff.1 hb).1 (hne _ _ _ _ rfl)).trans hb⟩
end Go.Proofs.Ytnjdffnbkjjmeaa
