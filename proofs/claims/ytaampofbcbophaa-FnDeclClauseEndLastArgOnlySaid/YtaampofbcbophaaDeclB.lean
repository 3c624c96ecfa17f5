/- zzBuildDecl: the walk. -/
import Derived.Test.YtaampofbcbophaaDecl
namespace Go.Proofs.Ytaampofbcbophaa
open Go.RowKit
theorem info161 : (Try.prog.info? 36).map (fun i => (i.zero, i.size, i.bytes)) = some (some (.pointer none), 1, 8) := by kernel_rfl
/-- Seven rows of numbers that came in. -/
structure Src7 (W : World) (a4 a5 a6 a7 a8 a9 a10 : Option Addr) (n : Nat) (K s0 s1 e0 e1 r0 r1 : Nat → Int) : Prop where
  k : Src W a4 n (fun i => .int .u8 (K i))
  s0 : Src W a5 n (fun i => .int .u32 (s0 i))
  s1 : Src W a6 n (fun i => .int .u32 (s1 i))
  e0 : Src W a7 n (fun i => .int .u32 (e0 i))
  e1 : Src W a8 n (fun i => .int .u32 (e1 i))
  r0 : Src W a9 n (fun i => .int .u32 (r0 i))
  r1 : Src W a10 n (fun i => .int .u32 (r1 i))
theorem Src7.keep {W W1 : World} {a4 a5 a6 a7 a8 a9 a10 : Option Addr} {n : Nat} {K s0 s1 e0 e1 r0 r1 : Nat → Int} (h : Src7 W a4 a5 a6 a7 a8 a9 a10 n K s0 s1 e0 e1 r0 r1) (hb : Below W.heap.size W W1) : Src7 W1 a4 a5 a6 a7 a8 a9 a10 n K s0 s1 e0 e1 r0 r1 :=
  ⟨h.k.keep hb, h.s0.keep hb, h.s1.keep hb, h.e0.keep hb, h.e1.keep hb, h.r0.keep hb, h.r1.keep hb⟩
/-- The element at place i of the clause's row: the argument n0 + i. -/
def ElD (g n0 : Nat) (K e0 e1 r0 r1 : Nat → Int) (i : Nat) (v : Value) (W : World) : Prop := AsP g (K (n0 + i) % 3) (e0 (n0 + i)) (e1 (n0 + i)) (r0 (n0 + i)) (r1 (n0 + i)) v W
def RelBD (w : World) (g vb n0 M : Nat) (K e0 e1 r0 r1 : Nat → Int) (vc : Array Value) (v i : Value) (wr : World) : Prop :=
  ∃ k : Nat, k ≤ M ∧ i = .int .i64 ((n0 + k : Nat) : Int) ∧ v = .slice (some ⟨g, 0, none⟩) k M ∧ RowOf wr g g 36 k M (ElD g n0 K e0 e1 r0 r1) ∧ Bk wr vb 97 vc ∧ Below w.heap.size w wr
/-- What one round leans on. -/
def InD (w : World) (g vb n0 k M : Nat) (K e0 e1 r0 r1 : Nat → Int) (vc : Array Value) (W : World) : Prop :=
  RowOf W g g 36 k M (ElD g n0 K e0 e1 r0 r1) ∧ Bk W vb 97 vc ∧ Below w.heap.size w W
theorem InD.keep {w W W1 : World} {g vb n0 k M : Nat} {K e0 e1 r0 r1 : Nat → Int} {vc : Array Value} (h : InD w g vb n0 k M K e0 e1 r0 r1 vc W) (hb : Below W.heap.size W W1) : InD w g vb n0 k M K e0 e1 r0 r1 vc W1 :=
  ⟨h.1.keep hb (fun _ _ q => AsP.keep q hb), h.2.1.keep hb, bmore h.2.2 hb⟩
theorem keepD2 {W W1 : World} {p q : Addr} {v u : Value} {R : World → Prop} (hR : ∀ W1, Below W.heap.size W W1 → R W → R W1) (h : W.cell? p = some v ∧ W.cell? q = some u ∧ R W) (hb : Below W.heap.size W W1) : W1.cell? p = some v ∧ W1.cell? q = some u ∧ R W1 :=
  ⟨keepc hb h.1, keepc hb h.2.1, hR _ hb h.2.2⟩
theorem keepD4 {W W1 : World} {p q r t : Addr} {v u x y : Value} {R : World → Prop} (hR : ∀ W1, Below W.heap.size W W1 → R W → R W1) (h : W.cell? p = some v ∧ W.cell? q = some u ∧ W.cell? r = some x ∧ W.cell? t = some y ∧ R W) (hb : Below W.heap.size W W1) : W1.cell? p = some v ∧ W1.cell? q = some u ∧ W1.cell? r = some x ∧ W1.cell? t = some y ∧ R W1 :=
  ⟨keepc hb h.1, keepc hb h.2.1, keepc hb h.2.2.1, keepc hb h.2.2.2.1, hR _ hb h.2.2.2.2⟩
theorem blkD (a : Addr) (n : Nat) : (a.add n).block = a.block := by unfold Addr.add; split <;> rfl
/-- What the last region of a round leans on. -/
def In9 (w : World) (g vb n0 k M nb bl j : Nat) (x9 x10 : Addr) (K e0 e1 r0 r1 : Nat → Int) (vc lc : Array Value) (W : World) : Prop :=
  W.cell? (x9.add j) = some (.int .u32 (r0 j)) ∧ W.cell? (x10.add j) = some (.int .u32 (r1 j)) ∧ W.cell? ⟨nb, 0, none⟩ = some (.int .u32 (e0 j)) ∧ W.cell? ⟨nb, 1, none⟩ = some (.int .u32 (e1 j)) ∧ Bk W bl 97 lc ∧ InD w g vb n0 k M K e0 e1 r0 r1 vc W
theorem In9.keep {w W W1 : World} {g vb n0 k M nb bl j : Nat} {x9 x10 : Addr} {K e0 e1 r0 r1 : Nat → Int} {vc lc : Array Value} (h : In9 w g vb n0 k M nb bl j x9 x10 K e0 e1 r0 r1 vc lc W) (hb : Below W.heap.size W W1) : In9 w g vb n0 k M nb bl j x9 x10 K e0 e1 r0 r1 vc lc W1 :=
  ⟨keepc hb h.1, keepc hb h.2.1, keepc hb h.2.2.1, keepc hb h.2.2.2.1, h.2.2.2.2.1.keep hb, h.2.2.2.2.2.keep hb⟩
theorem InD.app {w W W1 : World} {g vb n0 k M : Nat} {K e0 e1 r0 r1 : Nat → Int} {vc : Array Value} {xs : List Value} {v : Value} (h : InD w g vb n0 k M K e0 e1 r0 r1 vc W) (hv : vb < g) (hw : w.heap.size ≤ g)
    (ho : W.ownsRow g 36 1 (.slice (some ⟨g, 0, none⟩) k M) k xs) (he : ∀ j u, xs[j]? = some u → ElD g n0 K e0 e1 r0 r1 j u W)
    (ho2 : W1.ownsRow g 36 1 (.slice (some ⟨g, 0, none⟩) (k + 1) M) (k + 1) (xs ++ [v])) (hg : W.grownBy W1 (some g)) : InD w g vb n0 k M K e0 e1 r0 r1 vc W1 :=
  ⟨RowOf.less he (own_ll ho) ho2 (fun _ _ q => AsP.grown q hg), h.2.1.grown hg (by intro e; injection e with e; omega), below_grown h.2.2 hg hw⟩
theorem In9.app {w W W1 : World} {g vb n0 k M nb bl j : Nat} {x9 x10 : Addr} {K e0 e1 r0 r1 : Nat → Int} {vc lc : Array Value} {xs : List Value} {v : Value} (h : In9 w g vb n0 k M nb bl j x9 x10 K e0 e1 r0 r1 vc lc W) (hv : vb < g) (hw : w.heap.size ≤ g) (h9 : x9.block < g) (h10 : x10.block < g) (hnb : g < nb) (hbl : g < bl)
    (ho : W.ownsRow g 36 1 (.slice (some ⟨g, 0, none⟩) k M) k xs) (he : ∀ j u, xs[j]? = some u → ElD g n0 K e0 e1 r0 r1 j u W)
    (ho2 : W1.ownsRow g 36 1 (.slice (some ⟨g, 0, none⟩) (k + 1) M) (k + 1) (xs ++ [v])) (hg : W.grownBy W1 (some g)) : In9 w g vb n0 k M nb bl j x9 x10 K e0 e1 r0 r1 vc lc W1 :=
  ⟨cell_grown hg h.1 (by rw [blkD]; omega), cell_grown hg h.2.1 (by rw [blkD]; omega), cell_grown hg h.2.2.1 (by show nb ≠ g; omega), cell_grown hg h.2.2.2.1 (by show nb ≠ g; omega), h.2.2.2.2.1.grown hg (by intro e; injection e with e; omega), h.2.2.2.2.2.app hv hw ho he ho2 hg⟩
theorem reld_step {w Wt w2 : World} {g vb n0 k M j : Nat} {K e0 e1 r0 r1 : Nat → Int} {vc : Array Value} {xs : List Value} {v : Value} (h : InD w g vb n0 k M K e0 e1 r0 r1 vc Wt) (hj : j = n0 + k) (hk : k < M) (hv : vb < g) (hw : w.heap.size ≤ g)
    (ho : Wt.ownsRow g 36 1 (.slice (some ⟨g, 0, none⟩) k M) k xs) (he : ∀ i u, xs[i]? = some u → ElD g n0 K e0 e1 r0 r1 i u Wt) (hn : AsP g (K j % 3) (e0 j) (e1 j) (r0 j) (r1 j) v Wt)
    (ho2 : w2.ownsRow g 36 1 (.slice (some ⟨g, 0, none⟩) (k + 1) M) (k + 1) (xs ++ [v])) (hg : Wt.grownBy w2 (some g)) : RelBD w g vb n0 M K e0 e1 r0 r1 vc (.slice (some ⟨g, 0, none⟩) (k + 1) M) (.int .i64 ((j : Int) + 1)) w2 := by
  subst hj
  exact ⟨k + 1, by omega, by go_num, rfl, RowOf.push he (own_ll ho) hn ho2 (fun _ _ q => AsP.grown q hg), h.2.1.grown hg (by intro e; injection e with e; omega), below_grown h.2.2 hg hw⟩
theorem In9.keep5 {w W W1 : World} {g vb n0 k M nb bl j : Nat} {x9 x10 p q : Addr} {K e0 e1 r0 r1 : Nat → Int} {vc lc : Array Value} {v u x y : Value} (h : W.cell? p = some v ∧ W.cell? q = some u ∧ W.cell? ⟨nb, 0, none⟩ = some x ∧ W.cell? ⟨nb, 1, none⟩ = some y ∧ In9 w g vb n0 k M nb bl j x9 x10 K e0 e1 r0 r1 vc lc W) (hb : Below W.heap.size W W1) : W1.cell? p = some v ∧ W1.cell? q = some u ∧ W1.cell? ⟨nb, 0, none⟩ = some x ∧ W1.cell? ⟨nb, 1, none⟩ = some y ∧ In9 w g vb n0 k M nb bl j x9 x10 K e0 e1 r0 r1 vc lc W1 := ⟨keepc hb h.1, keepc hb h.2.1, keepc hb h.2.2.1, keepc hb h.2.2.2.1, h.2.2.2.2.keep hb⟩
theorem In9.fst {w W : World} {g vb n0 k M nb bl j : Nat} {x9 x10 p q : Addr} {K e0 e1 r0 r1 : Nat → Int} {vc lc : Array Value} {v u x y : Value} (h : W.cell? p = some v ∧ W.cell? q = some u ∧ W.cell? ⟨nb, 0, none⟩ = some x ∧ W.cell? ⟨nb, 1, none⟩ = some y ∧ In9 w g vb n0 k M nb bl j x9 x10 K e0 e1 r0 r1 vc lc W) : In9 w g vb n0 k M nb bl j x9 x10 K e0 e1 r0 r1 vc lc W := h.2.2.2.2
theorem In9.app5 {w W W1 : World} {g vb n0 k M nb bl j : Nat} {x9 x10 p q : Addr} {K e0 e1 r0 r1 : Nat → Int} {vc lc : Array Value} {v u x y : Value} {xs : List Value} {z : Value} (h : W.cell? p = some v ∧ W.cell? q = some u ∧ W.cell? ⟨nb, 0, none⟩ = some x ∧ W.cell? ⟨nb, 1, none⟩ = some y ∧ In9 w g vb n0 k M nb bl j x9 x10 K e0 e1 r0 r1 vc lc W) (hp : p.block < g) (hq : q.block < g) (hv : vb < g) (hw : w.heap.size ≤ g) (h9 : x9.block < g) (h10 : x10.block < g) (hnb : g < nb) (hbl : g < bl)
    (ho : W.ownsRow g 36 1 (.slice (some ⟨g, 0, none⟩) k M) k xs) (he : ∀ j u, xs[j]? = some u → ElD g n0 K e0 e1 r0 r1 j u W)
    (ho2 : W1.ownsRow g 36 1 (.slice (some ⟨g, 0, none⟩) (k + 1) M) (k + 1) (xs ++ [z])) (hg : W.grownBy W1 (some g)) : W1.cell? p = some v ∧ W1.cell? q = some u ∧ W1.cell? ⟨nb, 0, none⟩ = some x ∧ W1.cell? ⟨nb, 1, none⟩ = some y ∧ In9 w g vb n0 k M nb bl j x9 x10 K e0 e1 r0 r1 vc lc W1 :=
  ⟨cell_grown hg h.1 (by omega), cell_grown hg h.2.1 (by omega), cell_grown hg h.2.2.1 (by show nb ≠ g; omega), cell_grown hg h.2.2.2.1 (by show nb ≠ g; omega), h.2.2.2.2.app hv hw h9 h10 hnb hbl ho he ho2 hg⟩
theorem mkAsgs (n n0 M : Nat) (hM : n = n0 + M) (hn : n ≤ 65536) (W : World) : (Instr.makeSlice 63 (.int .i64 0) (.int .i64 ((n : Int) - (n0 : Int)))).run Try.prog W = .ok (.slice (some ⟨W.heap.size, 0, none⟩) 0 M) (W.alloc (.cells (madeCells #[.pointer none] M) 36)) := by
  obtain ⟨i0, hi, hz0, hz1, hz2⟩ := info_parts info161
  have h := run_make (P := Try.prog) W 63 36 i0 (.pointer none) Try.underlying63 hi hz0 .i64 .i64 (0 : Int) ((n : Int) - (n0 : Int)) (by omega) (by omega) (by rw [hz2]; omega) (by omega)
  rw [hz1] at h
  have e : ((n : Int) - (n0 : Int)).toNat = M := by omega
  rw [e] at h
  simpa [Value.cells] using h
theorem rowOf_fresh {N : Nat} (W : World) (g : Nat) (e : TypeId) (z : Value) (El : Nat → Value → World → Prop) (hg : W.heap.size = g) (hn : N ≤ maxLen) : RowOf (W.alloc (.cells (madeCells #[z] N) e)) g g e 0 N El := by
  subst hg
  have hl : (madeCells #[z] N).toList = List.replicate N z := toList_madeCells_one z N
  have hs : (madeCells #[z] N).size = N := by rw [← Array.length_toList, hl]; simp
  exact ⟨[], ⟨rfl, .inr ⟨W.heap.size, N, madeCells #[z] N, rfl, Nat.le_refl _, heap_alloc_new W _, by omega, hn, by simp [hs], by simp⟩⟩, fun j v hj => by simp at hj⟩
theorem src_blkD {w : World} {a : Option Addr} {n : Nat} {f : Nat → Value} (h : Src w a n f) (hn : 0 < n) : ∃ x, a = some x ∧ x.block < w.heap.size ∧ ∀ i, i < n → w.cell? (x.add i) = some (f i) := by
  rcases h with ⟨_, h0⟩ | ⟨x, hx, hc⟩
  · omega
  · refine ⟨x, hx, ?_, hc⟩
    have := World.block_lt_of_cell? _ _ (hc 0 hn)
    unfold Addr.add at this
    split at this <;> simpa using this
abbrev decV (vo vl eo el : Int) : Array Value := #[.int .u32 vo, .int .u32 vl, .int .u32 eo, .int .u32 el, .string ⟨#[100, 101, 99, 108, 97, 114, 101]⟩]
def BuiltD (w : World) (n0 M : Nat) (K e0 e1 r0 r1 : Nat → Int) (vc : Array Value) (e : Ending) (w' : World) : Prop :=
  ∃ d vb g : Nat, e = .returned (.pointer (some ⟨d, 0, none⟩)) ∧ Bk w' d 65 #[.pointer (some ⟨vb, 0, none⟩), .slice (some ⟨g, 0, none⟩) M M] ∧ Bk w' vb 97 vc ∧ RowOf w' g g 36 M M (ElD g n0 K e0 e1 r0 r1) ∧ Below w.heap.size w w'
set_option maxHeartbeats 8000000 in
set_option maxRecDepth 100000 in
theorem buildDecl (vo vl eo el : Int) (a4 a5 a6 a7 a8 a9 a10 : Option Addr) (n n0 M c4 c5 c6 c7 c8 c9 c10 : Nat) (K s0 s1 e0 e1 r0 r1 : Nat → Int) (w : World) (hS : Src7 w a4 a5 a6 a7 a8 a9 a10 n K s0 s1 e0 e1 r0 r1) (hn : n ≤ 65536) (hM : n = n0 + M) (hK : ∀ i, i < n → 0 ≤ K i ∧ K i ≤ 255) :
    Calls Try.prog 32 #[.int .u32 vo, .int .u32 vl, .int .u32 eo, .int .u32 el, .slice a4 n c4, .slice a5 n c5, .slice a6 n c6, .slice a7 n c7, .slice a8 n c8, .slice a9 n c9, .slice a10 n c10, .int .i64 (n0 : Int)] w (BuiltD w n0 M K e0 e1 r0 r1 (decV vo vl eo el)) := by
  obtain ⟨i0, hi, hz0, hz1, hz2⟩ := info_parts info161
  have hi2 := Lib.hid hi
  have hz0' := Lib.hid hz0
  have hz1' := Lib.hid hz1
  have hz2' := Lib.hid hz2
  have HS := Lib.hid hS
  have HK := Lib.hid hK
  have hmk := mkAsgs n n0 M hM hn
  have HM := Lib.hid hM
  have hs1 : (n0 : Int) ≤ (n : Int) := by omega
  have hs2 : n0 ≤ n := by omega
  clear hi hz0 hz1 hz2 hS hK hM
  go_enter Try.func32, Try.ntmps32
  go_wp2_with fail
  refine (mkPos161_any _ _ _).mono ?_
  rintro e u1 ⟨rfl, hb⟩
  have B1 := hb
  clear hb
  go_wp2_with fail
  refine (mkPos161_any _ _ _).mono ?_
  rintro e u2 ⟨rfl, hb⟩
  have B2 := bmore B1 hb
  have s2 := B2.size
  clear hb B1
  go_wp2
  have hbA : Below u2.heap.size u2 ((u2.alloc (.cells (decV vo vl eo el) 97)).alloc (.cells (madeCells #[.pointer none] M) 36)) := by go_grown
  refine wp_gen (S := fun W => RowOf W (u2.heap.size + 1) (u2.heap.size + 1) 36 0 M (ElD (u2.heap.size + 1) n0 K e0 e1 r0 r1) ∧ Bk W u2.heap.size 97 (decV vo vl eo el) ∧ Below w.heap.size w W) ⟨rowOf_fresh _ _ _ _ _ (by simp) (by have := HM.out; unfold maxLen; omega), (Bk.fresh _ _ _).alloc _, bmore B2 hbA⟩ ?_
  rintro W ⟨hR, hV, hB⟩
  clear hmk hbA B2
  go_loopw [26, 27] (fun v i wr => RelBD w (u2.heap.size + 1) u2.heap.size n0 M K e0 e1 r0 r1 (decV vo vl eo el) v i wr) (fun _ i _ => n0 + M - (intOf i).toNat)
  case atStart => exact ⟨0, by omega, by go_num, rfl, hR, hV, hB⟩
  case round =>
    clear hR hV hB
    obtain ⟨k, hk, rfl, rfl, hrow, hV, hB⟩ := hrel
    by_cases hlt : k < M
    · have hMM := HM.out
      obtain ⟨x4, ex4, l4, q4⟩ := src_blkD HS.out.k (by omega)
      obtain ⟨x5, ex5, l5, q5⟩ := src_blkD HS.out.s0 (by omega)
      obtain ⟨x6, ex6, l6, q6⟩ := src_blkD HS.out.s1 (by omega)
      obtain ⟨x7, ex7, l7, q7⟩ := src_blkD HS.out.e0 (by omega)
      obtain ⟨x8, ex8, l8, q8⟩ := src_blkD HS.out.e1 (by omega)
      obtain ⟨x9, ex9, l9, q9⟩ := src_blkD HS.out.r0 (by omega)
      obtain ⟨x10, ex10, l10, q10⟩ := src_blkD HS.out.r1 (by omega)
      obtain ⟨j, hj⟩ : ∃ j, j = n0 + k := ⟨_, rfl⟩
      have hjn : j < n := by omega
      have hKj := HK.out j hjn
      have q4 := Lib.hid (q4 j hjn)
      have q5 := Lib.hid (q5 j hjn)
      have q6 := Lib.hid (q6 j hjn)
      have q7 := Lib.hid (q7 j hjn)
      have q8 := Lib.hid (q8 j hjn)
      have q9 := Lib.hid (q9 j hjn)
      have q10 := Lib.hid (q10 j hjn)
      subst ex4 ex5 ex6 ex7 ex8 ex9 ex10
      have j0 : (0 : Int) ≤ (j : Int) := by omega
      have j1 : (j : Int) < (n : Int) := by omega
      have HJ := Lib.hid hj
      have hIn : InD w (u2.heap.size + 1) u2.heap.size n0 k M K e0 e1 r0 r1 (decV vo vl eo el) wr := ⟨hrow, hV, hB⟩
      have HIn := Lib.hid hIn
      rw [← hj]
      clear hMM hj hrow hV hB hIn
      go_upto_region 6 with (fail)
      have p7 := keepc HIn.out.2.2 q7.out
      have p8 := keepc HIn.out.2.2 q8.out
      have lp7 := World.block_lt_of_cell? _ _ p7
      have lp8 := World.block_lt_of_cell? _ _ p8
      have lrow := HIn.out.1.lt.2
      go_cut [28] (fun s28 wx => ∃ nb : Nat, s28 = .pointer (some ⟨nb, 0, none⟩) ∧ Bk wx nb 24 #[.int .u32 (e0 j), .int .u32 (e1 j)] ∧ u2.heap.size + 1 < nb ∧ InD w (u2.heap.size + 1) u2.heap.size n0 k M K e0 e1 r0 r1 (decV vo vl eo el) wx)
      case first =>
        go_region_with ((go_at_call 14; refine (mkPos161_any _ _ _).mono ?_; rintro e v1 ⟨rfl, hb⟩; obtain ⟨hc, hf, hz, hB, hs⟩ := bcell (w := wr) (by go_grown) hb))
        all_goals
          (try go_wp2_with fail)
          go_meet
          first
            | exact ⟨v1.heap.size, rfl, Bk.fresh _ _ _, by omega, HIn.out.keep (hB.alloc hB.size _)⟩
            | exact ⟨wr.heap.size, rfl, (((Bk.keep (by exact Bk.fresh wr 24 #[.int .u32 0, .int .u32 0]) hb).put 0 (.int .u32 (e0 j))).put 1 (.int .u32 (e1 j))), by omega, HIn.out.keep ((hB.setCell (p := ⟨wr.heap.size, 0, none⟩) (Nat.le_refl _) _).setCell (p := ⟨wr.heap.size, 1, none⟩) (Nat.le_refl _) _)⟩
      case rest =>
        obtain ⟨nb, rfl, kN, lN, hIn⟩ := hcut
        have p5 := keepc hIn.2.2 q5.out
        have p6 := keepc hIn.2.2 q6.out
        have c0N : wc.cell? ⟨nb, 0, none⟩ = some (.int .u32 (e0 j)) := by rw [kN.cells]; rfl
        have c1N : wc.cell? ⟨nb, 1, none⟩ = some (.int .u32 (e1 j)) := by rw [kN.cells]; rfl
        have HIn := Lib.hid hIn
        clear p7 p8 lp7 lp8 lrow kN hIn
        go_wp2_with fail
        go_region_held3 (fun W => W.cell? (x5.add j) = some (.int .u32 (s0 j)) ∧ W.cell? (x6.add j) = some (.int .u32 (s1 j)) ∧ W.cell? ⟨nb, 0, none⟩ = some (.int .u32 (e0 j)) ∧ W.cell? ⟨nb, 1, none⟩ = some (.int .u32 (e1 j)) ∧ InD w (u2.heap.size + 1) u2.heap.size n0 k M K e0 e1 r0 r1 (decV vo vl eo el) W) (first | exact ⟨p5, p6, c0N, c1N, HIn.out.keep ⟨rfl, rfl, rfl, Nat.le_refl _, fun _ _ => rfl⟩⟩ | exact keepD4 (fun _ hb h => InD.keep h hb) (by assumption) (by assumption) | exact keepD4 (fun _ hb h => InD.keep h hb) (by assumption) (by go_grown)) ((go_at_call 14; refine (mkPos161_any _ _ _).mono ?_; rintro e v1 ⟨rfl, hb⟩))
        rename_i hH
        obtain ⟨_, _, d0, d1, hIn⟩ := hH
        have kL := Bk.fresh v1 97 #[.int .u32 (s0 j), .int .u32 (s1 j), .int .u32 (e0 j), .int .u32 (e1 j), .string ⟨#[97]⟩]
        have lL : u2.heap.size + 1 < v1.heap.size := by
          have h1 := HIn.out.1.lt.2
          have h2 : wc.heap.size ≤ v1.heap.size := hb.size
          omega
        revert kL hIn d0 d1 lL
        generalize v1.alloc (.cells #[.int .u32 (s0 j), .int .u32 (s1 j), .int .u32 (e0 j), .int .u32 (e1 j), .string ⟨#[97]⟩] 97) = W
        generalize v1.heap.size = bl
        intro d0 d1 hIn kL lL
        have p4 := keepc hIn.2.2 q4.out
        have lp4 := World.block_lt_of_cell? _ _ p4
        have KL := Lib.hid kL
        have lkL := kL.lt
        have HIn := Lib.hid hIn
        obtain ⟨xs, ho, he⟩ := hIn.1
        have HE := Lib.hid he
        have k0 : 0 ≤ K j := hKj.1
        have k1 : K j ≤ 255 := hKj.2
        have gw : w.heap.size ≤ u2.heap.size + 1 := by omega
        clear p5 p6 c0N c1N hb kL hIn he hKj
        rcases (by omega : K j % 3 = 0 ∨ K j % 3 = 1 ∨ K j % 3 = 2) with hk3 | hk3 | hk3
        · have e3 : (K j % 3 == 0) = true := beq_iff_eq.2 hk3
          have HK3 := Lib.hid hk3
          clear hk3
          go_wp2_with (at_builtin; refine wpList_append_fits _ rfl (.tmp 79) (.tmp 83) 63 rfl (u2.heap.size + 1) 36 i0 1 Try.underlying63 hi2.out hz1'.out (u2.heap.size + 1) k M xs rfl ((ho.alloc _).alloc _) ⟨W.heap.size + 1, 0, none⟩ 1 1 [.pointer (some ⟨W.heap.size, 0, none⟩)] rfl rfl (news_one (Bk.newAt (by simp))) (by simp [Value.oneCell']) (by omega) ?_; intro w2 ho2 hg2)
          have hjM : j < n0 + M := by have := HJ.out; omega
          have hbt : Below W.heap.size W ((W.alloc (.cells #[.bool false, .bool true, .pointer (some ⟨bl, 0, none⟩), .nilIface, .pointer none, .pointer none] 43)).alloc (.cells #[.pointer (some ⟨W.heap.size, 0, none⟩)] 36)) := by go_grown
          go_roundw
          case rel => exact reld_step (HIn.out.keep hbt) HJ.out hlt (by omega) gw ((ho.alloc _).alloc _) (fun i u h => AsP.keep (HE.out i u h) hbt) (by rw [HK3.out]; exact ⟨W.heap.size, bl, rfl, by omega, lL, by simp [go_sem], by simp [go_sem], by rw [(KL.out.keep hbt).cells]; rfl, by rw [(KL.out.keep hbt).cells]; rfl, .inl ⟨rfl, by simp [go_sem], by simp [go_sem], by simp [go_sem]⟩⟩) ho2 hg2
          case measure => simp [intOf]; omega
        · have e3 : (K j % 3 == 0) = false := beq_eq_false_iff_ne.2 (by omega)
          have e4 : (K j % 3 == 1) = true := beq_iff_eq.2 hk3
          have HK3 := Lib.hid hk3
          clear hk3
          go_wp2_with (at_builtin; refine wpList_append_fits _ rfl (.tmp 87) (.tmp 91) 63 rfl (u2.heap.size + 1) 36 i0 1 Try.underlying63 hi2.out hz1'.out (u2.heap.size + 1) k M xs rfl ((ho.alloc _).alloc _) ⟨W.heap.size + 1, 0, none⟩ 1 1 [.pointer (some ⟨W.heap.size, 0, none⟩)] rfl rfl (news_one (Bk.newAt (by simp))) (by simp [Value.oneCell']) (by omega) ?_; intro w2 ho2 hg2)
          have hjM : j < n0 + M := by have := HJ.out; omega
          have hbt : Below W.heap.size W ((W.alloc (.cells #[.bool false, .bool false, .pointer (some ⟨bl, 0, none⟩), .nilIface, .pointer none, .pointer none] 43)).alloc (.cells #[.pointer (some ⟨W.heap.size, 0, none⟩)] 36)) := by go_grown
          go_roundw
          case rel => exact reld_step (HIn.out.keep hbt) HJ.out hlt (by omega) gw ((ho.alloc _).alloc _) (fun i u h => AsP.keep (HE.out i u h) hbt) (by rw [HK3.out]; exact ⟨W.heap.size, bl, rfl, by omega, lL, by simp [go_sem], by simp [go_sem], by rw [(KL.out.keep hbt).cells]; rfl, by rw [(KL.out.keep hbt).cells]; rfl, .inr (.inl ⟨rfl, by simp [go_sem], by simp [go_sem], by simp [go_sem]⟩)⟩) ho2 hg2
          case measure => simp [intOf]; omega
        · have e3 : (K j % 3 == 0) = false := beq_eq_false_iff_ne.2 (by omega)
          have e4 : (K j % 3 == 1) = false := beq_eq_false_iff_ne.2 (by omega)
          have HK3 := Lib.hid hk3
          have p9 := keepc HIn.out.2.2 q9.out
          have p10 := keepc HIn.out.2.2 q10.out
          have H9 : Hid (In9 w (u2.heap.size + 1) u2.heap.size n0 k M nb bl j x9 x10 K e0 e1 r0 r1 (decV vo vl eo el) #[.int .u32 (s0 j), .int .u32 (s1 j), .int .u32 (e0 j), .int .u32 (e1 j), .string ⟨#[97]⟩] W) := Lib.hid ⟨p9, p10, d0, d1, KL.out, HIn.out⟩
          clear hk3 p9 p10 d0 d1 HIn KL ho HE
          have lW : u2.heap.size + 1 < W.heap.size := H9.out.2.2.2.2.2.1.lt.2
          have y9 : (x9.add j).block < u2.heap.size + 1 := by rw [blkD]; omega
          have y10 : (x10.add j).block < u2.heap.size + 1 := by rw [blkD]; omega
          have z9 : x9.block < u2.heap.size + 1 := by omega
          have z10 : x10.block < u2.heap.size + 1 := by omega
          have zv : u2.heap.size < u2.heap.size + 1 := by omega
          have HH := H9
          go_wp2_with fail
          go_region_held3 (fun W' => W'.cell? (x9.add j) = some (.int .u32 (r0 j)) ∧ W'.cell? (x10.add j) = some (.int .u32 (r1 j)) ∧ W'.cell? ⟨nb, 0, none⟩ = some (.int .u32 (e0 j)) ∧ W'.cell? ⟨nb, 1, none⟩ = some (.int .u32 (e1 j)) ∧ In9 w (u2.heap.size + 1) u2.heap.size n0 k M nb bl j x9 x10 K e0 e1 r0 r1 (decV vo vl eo el) #[.int .u32 (s0 j), .int .u32 (s1 j), .int .u32 (e0 j), .int .u32 (e1 j), .string ⟨#[97]⟩] W') (first | exact In9.keep5 ⟨HH.out.1, HH.out.2.1, HH.out.2.2.1, HH.out.2.2.2.1, HH.out⟩ ⟨rfl, rfl, rfl, Nat.le_refl _, fun _ _ => rfl⟩ | exact In9.keep5 (by assumption) (by assumption) | exact In9.app5 (by assumption) y9 y10 zv gw z9 z10 lN lL ho he ho2 hg2 | exact In9.keep5 (by assumption) (by go_grown))
            (first | (go_at_call 14; refine (mkPos161_any _ _ _).mono ?_; rintro e v2 ⟨rfl, hb2⟩) | (have hI := In9.fst (by assumption); obtain ⟨xs, ho, he⟩ := hI.2.2.2.2.2.1; refine step_append_fits _ (by rfl) _ _ 63 (by rfl) (u2.heap.size + 1) 36 i0 1 Try.underlying63 hi2.out hz1'.out (u2.heap.size + 1) k M xs (by rfl) ho ⟨v2.heap.size + 1 + 1, 0, none⟩ 1 1 [.pointer (some ⟨v2.heap.size + 1, 0, none⟩)] (by rfl) (by rfl) (news_one (Bk.newAt (by simp))) (by simp [Value.oneCell']) (by omega) ?_; intro w2 ho2 hg2))
          have hjM : j < n0 + M := by have := HJ.out; omega
          have lv2 : W.heap.size ≤ v2.heap.size := hb2.size
          go_wp2
          go_roundw
          case rel => exact reld_step hI.2.2.2.2.2 HJ.out hlt zv gw ho he (by rw [HK3.out]; exact ⟨v2.heap.size + 1, bl, rfl, by omega, lL, by simp [go_sem], by simp [go_sem], by rw [hI.2.2.2.2.1.cells]; rfl, by rw [hI.2.2.2.2.1.cells]; rfl, .inr (.inr ⟨rfl, v2.heap.size, by omega, by simp [go_sem], by simp [go_sem], by simp [go_sem]⟩)⟩) ho2 hg2
          case measure => simp [intOf]; omega
    · obtain rfl : k = M := by omega
      have hge : ¬ ((n0 : Int) + (k : Int) < (n : Int)) := by have := HM.out; omega
      have HR := Lib.hid hrow
      have HV := Lib.hid hV
      clear hrow hV
      go_wp2
      go_ret
      exact ⟨_, _, _, rfl, Bk.fresh _ _ _, HV.out.alloc _, HR.out.keep (by go_grown) (fun _ _ q => AsP.keep q (by go_grown)), hB.alloc hB.size _⟩
end Go.Proofs.Ytaampofbcbophaa
