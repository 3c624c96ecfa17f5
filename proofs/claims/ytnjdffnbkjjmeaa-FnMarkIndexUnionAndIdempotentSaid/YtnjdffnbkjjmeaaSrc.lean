/- Slices that came in, and the contracts of the functions that copy them. -/
import Derived.Test.YtnjdffnbkjjmeaaRowF
import Derived.OpenShut
import Derived.WalkSpells
import Derived.RegionTactic
import Derived.Deep.QuietTactic
import Derived.BigQuiet
namespace Go.Proofs.Ytnjdffnbkjjmeaa
open Go.RowKit
/-- What the walk is told of a slice of integers that came in. -/
def IsRow (k : IntKind) (w : World) (a : Option Addr) (len cap : Nat) (zs : List Int) : Prop :=
  (a = none ∧ len = 0 ∧ cap = 0 ∧ zs = []) ∨
  ∃ x, a = some x ∧ len ≤ cap ∧ cap ≤ maxLen ∧ zs.length = cap ∧ (∀ i, i < zs.length → w.cell? (x.add i) = some (.int k (zs.getD i 0))) ∧ ∀ n ∈ zs, (Lit.int k n).wf = true
/-- The slice at a reads as f at its first n places. -/
def Src (w : World) (a : Option Addr) (n : Nat) (f : Nat → Value) : Prop :=
  (a = none ∧ n = 0) ∨ ∃ x : Addr, a = some x ∧ ∀ i, i < n → w.cell? (x.add i) = some (f i)
theorem Src.keep {w w1 : World} {a : Option Addr} {n : Nat} {f : Nat → Value} (h : Src w a n f) (hb : Below w.heap.size w w1) : Src w1 a n f := by
  rcases h with h | ⟨x, hx, hc⟩
  · exact .inl h
  · exact .inr ⟨x, hx, fun i hi => keepc hb (hc i hi)⟩
theorem Src.at_ {w : World} {a : Option Addr} {n i : Nat} {f : Nat → Value} (h : Src w a n f) (hi : i < n) : ∃ x : Addr, a = some x ∧ w.cell? (x.add i) = some (f i) := by
  rcases h with ⟨_, h⟩ | ⟨x, hx, hc⟩
  · omega
  · exact ⟨x, hx, hc i hi⟩
theorem IsRow.src {k : IntKind} {w : World} {a : Option Addr} {len cap : Nat} {zs : List Int} (h : IsRow k w a len cap zs) : Src w a len (fun i => .int k (zs.getD i 0)) := by
  rcases h with ⟨rfl, rfl, _, _⟩ | ⟨x, rfl, h1, _, h3, h4, _⟩
  · exact .inl ⟨rfl, rfl⟩
  · exact .inr ⟨x, rfl, fun i hi => h4 i (by omega)⟩
theorem IsRow.len {k : IntKind} {w : World} {a : Option Addr} {len cap : Nat} {zs : List Int} (h : IsRow k w a len cap zs) : len ≤ cap ∧ cap ≤ 9223372036854775807 ∧ zs.length = cap := by
  rcases h with ⟨_, rfl, rfl, rfl⟩ | ⟨x, _, h1, h2, h3, _⟩
  · simp
  · unfold maxLen at h2; exact ⟨h1, h2, h3⟩
theorem IsRow.wf {k : IntKind} {w : World} {a : Option Addr} {len cap : Nat} {zs : List Int} (h : IsRow k w a len cap zs) {i : Nat} (hi : i < len) : (Lit.int k (zs.getD i 0)).wf = true := by
  rcases h with ⟨_, rfl, rfl, rfl⟩ | ⟨x, _, h1, h2, h3, _, h5⟩
  · omega
  · have hl : i < zs.length := by omega
    have e : zs.getD i 0 = zs[i] := by simp [List.getD, hl]
    rw [e]
    exact h5 _ (List.getElem_mem hl)
theorem IsRow.nilcap {k : IntKind} {w : World} {len cap : Nat} {zs : List Int} (h : IsRow k w none len cap zs) : len = 0 ∧ cap = 0 := by
  rcases h with ⟨_, h1, h2, _⟩ | ⟨x, h, _⟩
  · exact ⟨h1, h2⟩
  · cases h
theorem RowF.src {W : World} {base g n : Nat} {e : TypeId} {f : Nat → Value} (h : RowF W base g e n f) : Src W (some ⟨g, 0, none⟩) n f :=
  .inr ⟨_, rfl, fun i hi => by
    have := h.cell hi
    rcases i with _ | i <;> simpa [Addr.add] using this⟩
theorem RowF.fresh {base n : Nat} (W : World) (e : TypeId) (z : Value) (hb : base ≤ W.heap.size) (hn : n ≤ maxLen) : RowF (W.alloc (.cells (madeCells #[z] n) e)) base W.heap.size e n (fun _ => z) := by
  have hl : (madeCells #[z] n).toList = List.replicate n z := toList_madeCells_one z n
  have hs : (madeCells #[z] n).size = n := by rw [← Array.length_toList, hl]; simp
  refine ⟨List.replicate n z, ⟨by simp, .inr ⟨W.heap.size, n, madeCells #[z] n, rfl, hb, heap_alloc_new W _, Nat.le_refl _, hn, by simp [hs], by simp [hl]⟩⟩, fun j hj => by simp [hj]⟩
theorem makeN {P : Program} (t e : TypeId) (z : Value) (bytes : Nat) (ht : P.underlying t = some (.slice e)) (hinfo : (P.info? e).map (fun i => (i.zero, i.size, i.bytes)) = some (some z, 1, bytes)) (hz : z.cells = #[z])
    (n : Nat) (hn : bytes * n ≤ 281474976710656) (h63 : n ≤ 9223372036854775807) (W : World) :
    (Instr.makeSlice t (.int .i64 (n : Int)) (.int .i64 (n : Int))).run P W = .ok (.slice (some ⟨W.heap.size, 0, none⟩) n n) (W.alloc (.cells (madeCells #[z] n) e)) := by
  obtain ⟨i0, hi, hz0, hz1, hz2⟩ := info_parts hinfo
  have hb : (bytes : Int) * (n : Int) ≤ 281474976710656 := by
    have h : ((bytes * n : Nat) : Int) ≤ 281474976710656 := by omega
    rwa [Int.natCast_mul] at h
  have h := run_make (P := P) W t e i0 z ht hi hz0 .i64 .i64 (n : Int) (n : Int) (by omega) (by omega) (by rw [hz2]; exact hb) (by omega)
  rw [hz1, hz] at h
  simpa using h
/-- A copy: a slice of the same length that reads the same; nil for nil. -/
def Cloned (w : World) (n : Nat) (f : Nat → Value) (e : Ending) (w' : World) : Prop :=
  ∃ A : Option Addr, e = .returned (.slice A n n) ∧ Src w' A n f ∧ Below w.heap.size w w'
theorem n010_116_zzB1CloneBytes_make (n : Nat) (hn : n ≤ 1048576) (W : World) : (Instr.makeSlice 59 (.int .i64 (n : Int)) (.int .i64 (n : Int))).run Try.prog W = .ok (.slice (some ⟨W.heap.size, 0, none⟩) n n) (W.alloc (.cells (madeCells #[.int .u8 0] n) 5)) :=
  makeN 59 5 (.int .u8 0) 1 Try.underlying59 (by kernel_rfl) rfl n (by omega) (by omega) W
set_option maxHeartbeats 1000000 in
set_option maxRecDepth 100000 in
theorem n010_116_zzB1CloneBytes_some (x : Addr) (n cap : Nat) (f : Nat → Int) (w : World) (hs : ∀ i, i < n → w.cell? (x.add i) = some (.int .u8 (f i))) (hn : n ≤ 1048576) :
    Calls Try.prog 46 #[.slice (some x) n cap] w fun e w' => e = .returned (.slice (some ⟨w.heap.size, 0, none⟩) n n) ∧ RowF w' w.heap.size w.heap.size 5 n (fun j => .int .u8 (f j)) ∧ Below w.heap.size w w' := by
  have hmk := n010_116_zzB1CloneBytes_make n hn
  have HS := Lib.hid hs
  clear hs
  have hnil := fun (w : World) (a : Option Addr) (n c n' c' : Nat) => Lib.run_eql_slice_nil (P := Try.prog) w 59 5 a n c n' c' Try.underlying59
  go_enter Try.func46, Try.ntmps46
  go_wp2
  refine wp_gen (S := fun W => RowF W w.heap.size w.heap.size 5 n (fun _ => .int .u8 0) ∧ Below w.heap.size w W) ⟨RowF.fresh _ _ _ (Nat.le_refl _) (by unfold maxLen; omega), by go_grown⟩ ?_
  rintro W ⟨hR, hB⟩
  go_loopw [4] (fun i wr => ∃ k : Nat, k ≤ n ∧ i = .int .i64 k ∧ RowF wr w.heap.size w.heap.size 5 n (fun j => if j < k then .int .u8 (f j) else .int .u8 0) ∧ Below w.heap.size w wr) (fun i _ => n - (intOf i).toNat)
  case atStart => exact ⟨0, by omega, by go_num, hR.congr (fun j _ => by simp), hB⟩
  case round =>
    clear hR hB
    obtain ⟨k, hk, rfl, hR, hB⟩ := hrel
    by_cases hlt : k < n
    · have hc : wr.cell? (x.add k) = some (.int .u8 (f k)) := (hB.cell (World.block_lt_of_cell? _ _ (HS.out k hlt))).trans (HS.out k hlt)
      have hd := hR.cell hlt
      have hf := hR.frz k
      have hg := hR.lt.2
      rw [if_neg (by omega)] at hd
      have hlt' : (k : Int) < (n : Int) := by omega
      have HR := Lib.hid hR
      clear hR
      go_wp2
      go_roundw
      case rel => exact ⟨k + 1, by omega, by go_num, (HR.out.put _).congr (fun j hj => by by_cases h1 : j = k <;> by_cases h2 : j < k <;> simp [h1, h2] <;> omega), hB.setCell (by simp) _⟩
      case measure => simp [intOf]; omega
    · obtain rfl : k = n := by omega
      have HR := Lib.hid (hR.congr (f' := fun j => .int .u8 (f j)) (fun j hj => by simp [hj]))
      clear hR
      go_wp2
      go_ret
      exact ⟨rfl, HR.out, hB⟩
set_option maxRecDepth 100000 in
theorem n010_116_zzB1CloneBytes_any (a : Option Addr) (n cap : Nat) (f : Nat → Int) (w : World) (hs : Src w a n (fun i => .int .u8 (f i))) (hcap : a = none → cap = 0) (hn : n ≤ 1048576) :
    Calls Try.prog 46 #[.slice a n cap] w (Cloned w n (fun i => .int .u8 (f i))) := by
  rcases hs with ⟨rfl, rfl⟩ | ⟨x, rfl, hc⟩
  · obtain rfl := hcap rfl
    have hnil := fun (w : World) (a : Option Addr) (n c n' c' : Nat) => Lib.run_eql_slice_nil (P := Try.prog) w 59 5 a n c n' c' Try.underlying59
    go_enter Try.func46, Try.ntmps46
    go_wp2
    go_ret
    exact ⟨none, rfl, .inl ⟨rfl, rfl⟩, Below.refl _ _⟩
  · exact (n010_116_zzB1CloneBytes_some x n cap f w hc hn).mono fun e w' ⟨he, hr, hb⟩ => ⟨_, he, hr.src, hb⟩
theorem n010_144_zzCloneU8_make (n : Nat) (hn : n ≤ 1048576) (W : World) : (Instr.makeSlice 59 (.int .i64 (n : Int)) (.int .i64 (n : Int))).run Try.prog W = .ok (.slice (some ⟨W.heap.size, 0, none⟩) n n) (W.alloc (.cells (madeCells #[.int .u8 0] n) 5)) :=
  makeN 59 5 (.int .u8 0) 1 Try.underlying59 (by kernel_rfl) rfl n (by omega) (by omega) W
set_option maxHeartbeats 1000000 in
set_option maxRecDepth 100000 in
theorem n010_144_zzCloneU8_some (x : Addr) (n cap : Nat) (f : Nat → Int) (w : World) (hs : ∀ i, i < n → w.cell? (x.add i) = some (.int .u8 (f i))) (hn : n ≤ 1048576) :
    Calls Try.prog 27 #[.slice (some x) n cap] w fun e w' => e = .returned (.slice (some ⟨w.heap.size, 0, none⟩) n n) ∧ RowF w' w.heap.size w.heap.size 5 n (fun j => .int .u8 (f j)) ∧ Below w.heap.size w w' := by
  have hmk := n010_144_zzCloneU8_make n hn
  have HS := Lib.hid hs
  clear hs
  have hnil := fun (w : World) (a : Option Addr) (n c n' c' : Nat) => Lib.run_eql_slice_nil (P := Try.prog) w 59 5 a n c n' c' Try.underlying59
  go_enter Try.func27, Try.ntmps27
  go_wp2
  refine wp_gen (S := fun W => RowF W w.heap.size w.heap.size 5 n (fun _ => .int .u8 0) ∧ Below w.heap.size w W) ⟨RowF.fresh _ _ _ (Nat.le_refl _) (by unfold maxLen; omega), by go_grown⟩ ?_
  rintro W ⟨hR, hB⟩
  go_loopw [4] (fun i wr => ∃ k : Nat, k ≤ n ∧ i = .int .i64 k ∧ RowF wr w.heap.size w.heap.size 5 n (fun j => if j < k then .int .u8 (f j) else .int .u8 0) ∧ Below w.heap.size w wr) (fun i _ => n - (intOf i).toNat)
  case atStart => exact ⟨0, by omega, by go_num, hR.congr (fun j _ => by simp), hB⟩
  case round =>
    clear hR hB
    obtain ⟨k, hk, rfl, hR, hB⟩ := hrel
    by_cases hlt : k < n
    · have hc : wr.cell? (x.add k) = some (.int .u8 (f k)) := (hB.cell (World.block_lt_of_cell? _ _ (HS.out k hlt))).trans (HS.out k hlt)
      have hd := hR.cell hlt
      have hf := hR.frz k
      have hg := hR.lt.2
      rw [if_neg (by omega)] at hd
      have hlt' : (k : Int) < (n : Int) := by omega
      have HR := Lib.hid hR
      clear hR
      go_wp2
      go_roundw
      case rel => exact ⟨k + 1, by omega, by go_num, (HR.out.put _).congr (fun j hj => by by_cases h1 : j = k <;> by_cases h2 : j < k <;> simp [h1, h2] <;> omega), hB.setCell (by simp) _⟩
      case measure => simp [intOf]; omega
    · obtain rfl : k = n := by omega
      have HR := Lib.hid (hR.congr (f' := fun j => .int .u8 (f j)) (fun j hj => by simp [hj]))
      clear hR
      go_wp2
      go_ret
      exact ⟨rfl, HR.out, hB⟩
set_option maxRecDepth 100000 in
theorem n010_144_zzCloneU8_any (a : Option Addr) (n cap : Nat) (f : Nat → Int) (w : World) (hs : Src w a n (fun i => .int .u8 (f i))) (hcap : a = none → cap = 0) (hn : n ≤ 1048576) :
    Calls Try.prog 27 #[.slice a n cap] w (Cloned w n (fun i => .int .u8 (f i))) := by
  rcases hs with ⟨rfl, rfl⟩ | ⟨x, rfl, hc⟩
  · obtain rfl := hcap rfl
    have hnil := fun (w : World) (a : Option Addr) (n c n' c' : Nat) => Lib.run_eql_slice_nil (P := Try.prog) w 59 5 a n c n' c' Try.underlying59
    go_enter Try.func27, Try.ntmps27
    go_wp2
    go_ret
    exact ⟨none, rfl, .inl ⟨rfl, rfl⟩, Below.refl _ _⟩
  · exact (n010_144_zzCloneU8_some x n cap f w hc hn).mono fun e w' ⟨he, hr, hb⟩ => ⟨_, he, hr.src, hb⟩
theorem n010_144_zzCloneStrs_make (n : Nat) (hn : n ≤ 1048576) (W : World) : (Instr.makeSlice 144 (.int .i64 (n : Int)) (.int .i64 (n : Int))).run Try.prog W = .ok (.slice (some ⟨W.heap.size, 0, none⟩) n n) (W.alloc (.cells (madeCells #[.string ByteArray.empty] n) 9)) :=
  makeN 144 9 (.string ByteArray.empty) 16 Try.underlying144 (by kernel_rfl) rfl n (by omega) (by omega) W
set_option maxHeartbeats 1000000 in
set_option maxRecDepth 100000 in
theorem n010_144_zzCloneStrs_some (x : Addr) (n cap : Nat) (f : Nat → ByteArray) (w : World) (hs : ∀ i, i < n → w.cell? (x.add i) = some (.string (f i))) (hn : n ≤ 1048576) :
    Calls Try.prog 64 #[.slice (some x) n cap] w fun e w' => e = .returned (.slice (some ⟨w.heap.size, 0, none⟩) n n) ∧ RowF w' w.heap.size w.heap.size 9 n (fun j => .string (f j)) ∧ Below w.heap.size w w' := by
  have hmk := n010_144_zzCloneStrs_make n hn
  have HS := Lib.hid hs
  clear hs
  have hnil := fun (w : World) (a : Option Addr) (n c n' c' : Nat) => Lib.run_eql_slice_nil (P := Try.prog) w 144 9 a n c n' c' Try.underlying144
  go_enter Try.func64, Try.ntmps64
  go_wp2
  refine wp_gen (S := fun W => RowF W w.heap.size w.heap.size 9 n (fun _ => .string ByteArray.empty) ∧ Below w.heap.size w W) ⟨RowF.fresh _ _ _ (Nat.le_refl _) (by unfold maxLen; omega), by go_grown⟩ ?_
  rintro W ⟨hR, hB⟩
  go_loopw [4] (fun i wr => ∃ k : Nat, k ≤ n ∧ i = .int .i64 k ∧ RowF wr w.heap.size w.heap.size 9 n (fun j => if j < k then .string (f j) else .string ByteArray.empty) ∧ Below w.heap.size w wr) (fun i _ => n - (intOf i).toNat)
  case atStart => exact ⟨0, by omega, by go_num, hR.congr (fun j _ => by simp), hB⟩
  case round =>
    clear hR hB
    obtain ⟨k, hk, rfl, hR, hB⟩ := hrel
    by_cases hlt : k < n
    · have hc : wr.cell? (x.add k) = some (.string (f k)) := (hB.cell (World.block_lt_of_cell? _ _ (HS.out k hlt))).trans (HS.out k hlt)
      have hd := hR.cell hlt
      have hf := hR.frz k
      have hg := hR.lt.2
      rw [if_neg (by omega)] at hd
      have hlt' : (k : Int) < (n : Int) := by omega
      have HR := Lib.hid hR
      clear hR
      go_wp2
      go_roundw
      case rel => exact ⟨k + 1, by omega, by go_num, (HR.out.put _).congr (fun j hj => by by_cases h1 : j = k <;> by_cases h2 : j < k <;> simp [h1, h2] <;> omega), hB.setCell (by simp) _⟩
      case measure => simp [intOf]; omega
    · obtain rfl : k = n := by omega
      have HR := Lib.hid (hR.congr (f' := fun j => .string (f j)) (fun j hj => by simp [hj]))
      clear hR
      go_wp2
      go_ret
      exact ⟨rfl, HR.out, hB⟩
set_option maxRecDepth 100000 in
theorem n010_144_zzCloneStrs_any (a : Option Addr) (n cap : Nat) (f : Nat → ByteArray) (w : World) (hs : Src w a n (fun i => .string (f i))) (hcap : a = none → cap = 0) (hn : n ≤ 1048576) :
    Calls Try.prog 64 #[.slice a n cap] w (Cloned w n (fun i => .string (f i))) := by
  rcases hs with ⟨rfl, rfl⟩ | ⟨x, rfl, hc⟩
  · obtain rfl := hcap rfl
    have hnil := fun (w : World) (a : Option Addr) (n c n' c' : Nat) => Lib.run_eql_slice_nil (P := Try.prog) w 144 9 a n c n' c' Try.underlying144
    go_enter Try.func64, Try.ntmps64
    go_wp2
    go_ret
    exact ⟨none, rfl, .inl ⟨rfl, rfl⟩, Below.refl _ _⟩
  · exact (n010_144_zzCloneStrs_some x n cap f w hc hn).mono fun e w' ⟨he, hr, hb⟩ => ⟨_, he, hr.src, hb⟩
end Go.Proofs.Ytnjdffnbkjjmeaa
