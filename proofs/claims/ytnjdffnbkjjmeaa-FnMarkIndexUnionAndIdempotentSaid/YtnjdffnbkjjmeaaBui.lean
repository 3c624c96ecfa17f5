/- build, whole; the small loops over what it noted. -/
import Derived.Test.YtnjdffnbkjjmeaaBuiP
import Derived.Test.YtnjdffnbkjjmeaaBuiU
import Derived.Test.YtnjdffnbkjjmeaaBuiF
import Derived.Test.YtnjdffnbkjjmeaaBuiL
import Derived.Test.YtnjdffnbkjjmeaaBuiE
import Derived.Test.YtnjdffnbkjjmeaaBuiB
namespace Go.Proofs.Ytnjdffnbkjjmeaa
open Go.RowKit
theorem build_any (bb : Nat) (cA : Option Addr) (cn cc : Nat) (f : Nat → Int) : ∀ m, BP bb cA cn cc f m
  | 0 => fun W pos A1 n1 c1 A2 n2 c2 vs ws q hm hle hn hn2 hc hb => build_end W pos A1 n1 c1 A2 n2 c2 vs ws q (by omega) hn hn2 hc hb
  | m + 1 => fun W pos A1 n1 c1 A2 n2 c2 vs ws q hm hle hn hn2 hc hb => by
    by_cases hp : pos = cn
    · exact build_end W pos A1 n1 c1 A2 n2 c2 vs ws q hp hn hn2 hc hb
    have hlt : pos < cn := by omega
    have h0 := hc.2.2.2 pos hlt
    have hk : f pos % 5 = 0 ∨ f pos % 5 = 1 ∨ f pos % 5 = 2 ∨ f pos % 5 = 3 ∨ f pos % 5 = 4 := by omega
    rcases hk with hk | hk | hk | hk | hk
    · exact build_leaf W pos A1 n1 c1 A2 n2 c2 vs ws q hlt hn hn2 hc hb hk
    · exact build_bin (build_any bb cA cn cc f m) W pos A1 n1 c1 A2 n2 c2 vs ws q hm hlt hn hn2 hc hb hk
    · exact build_par (build_any bb cA cn cc f m) W pos A1 n1 c1 A2 n2 c2 vs ws q hm hlt hn hn2 hc hb hk
    · exact build_un (build_any bb cA cn cc f m) W pos A1 n1 c1 A2 n2 c2 vs ws q hm hlt hn hn2 hc hb hk
    · exact build_flg (build_any bb cA cn cc f m) W pos A1 n1 c1 A2 n2 c2 vs ws q hm hlt hn hn2 hc hb hk
/-- Behind the builder: a tree, its nodes and the model's flags in two rows. -/
def Built (W : World) (bb : Nat) (t : Tr) : Prop :=
  ∃ (c0 c1 : Value) (g1 k1 g2 k2 : Nat), Bk W bb 111 #[c0, c1, .slice (some ⟨g1, 0, none⟩) t.all.length k1, .slice (some ⟨g2, 0, none⟩) t.all.length k2] ∧
    W.ownsRow bb 78 1 (.slice (some ⟨g1, 0, none⟩) t.all.length k1) t.all.length t.all ∧ W.ownsRow bb 4 1 (.slice (some ⟨g2, 0, none⟩) t.all.length k2) t.all.length ((t.wants true).map Value.bool)
theorem all_pos (t : Tr) : ∃ m, t.all.length = m + 1 := by
  cases t <;> exact ⟨_, by simp [Tr.all]; rfl⟩
theorem BS.built {W : World} {bb : Nat} {cA : Option Addr} {cn cc pos : Nat} {A1 : Option Addr} {n1 c1 : Nat} {A2 : Option Addr} {n2 c2 : Nat} {t : Tr} (h : BS W bb cA cn cc pos A1 n1 c1 A2 n2 c2 t.all (t.wants true)) : Built W bb t := by
  obtain ⟨h1, h2⟩ := h.len1
  rw [Tr.len] at h2
  subst h1 h2
  obtain ⟨m, hm⟩ := all_pos t
  have ho1 := h.o1
  have ho2 := h.o2
  have hb := h.bk
  rw [hm] at ho1 ho2
  obtain ⟨g1, k1, e1⟩ := own_shape ho1
  obtain ⟨g2, k2, e2⟩ := own_shape ho2
  rw [← hm] at e1 e2 ho1 ho2
  rw [e1] at ho1 hb
  rw [e2] at ho2 hb
  exact ⟨_, _, g1, k1, g2, k2, hb, ho1, ho2⟩
theorem Built.keep {W W1 : World} {bb : Nat} {t : Tr} (h : Built W bb t) (hb : Below W.heap.size W W1) : Built W1 bb t := by
  obtain ⟨c0, c1, g1, k1, g2, k2, h1, h2, h3⟩ := h
  exact ⟨c0, c1, g1, k1, g2, k2, h1.keep hb, own_below h2 hb, own_below h3 hb⟩
theorem Built.grown {W W1 : World} {bb mb : Nat} {t : Tr} {ks : List Value} (h : Built W bb t) (hm : MapIs W mb ks) (hg : W.grownBy W1 (some mb)) : Built W1 bb t := by
  obtain ⟨c0, c1, g1, k1, g2, k2, h1, h2, h3⟩ := h
  obtain ⟨es, clock, he, _⟩ := hm
  have nb : ∀ (g : Nat) (ty : TypeId) (cs : Array Value), Bk W g ty cs → mb ≠ g := by
    rintro g ty cs hk rfl
    unfold Bk at hk
    rw [he] at hk
    cases hk
  have row : ∀ (e : TypeId) (g n k : Nat) (xs : List Value), W.ownsRow bb e 1 (.slice (some ⟨g, 0, none⟩) n k) n xs → W1.ownsRow bb e 1 (.slice (some ⟨g, 0, none⟩) n k) n xs := by
    intro e g n k xs ho
    refine ho.kept hg (.inr ?_)
    rcases ho.2 with ⟨h', _⟩ | ⟨g', cap, cur, h', _, hgg, _⟩
    · cases h'
    · injection h' with h'
      injection h' with h'
      injection h' with h'
      subst h'
      intro e
      simp [Value.ownBlock] at e
      exact nb g _ _ hgg e.symm
  exact ⟨c0, c1, g1, k1, g2, k2, h1.grown hg (by
    intro e
    injection e with e
    exact nb bb _ _ h1 e.symm), row _ _ _ _ _ h2, row _ _ _ _ _ h3⟩
theorem Built.want {W : World} {bb : Nat} {t : Tr} (h : Built W bb t) : ∃ (g2 k2 : Nat), W.cell? ⟨bb, 3, none⟩ = some (.slice (some ⟨g2, 0, none⟩) t.all.length k2) ∧ ∀ j b, (t.wants true)[j]? = some b → W.cell? ⟨g2, j, none⟩ = some (.bool b) := by
  obtain ⟨c0, c1, g1, k1, g2, k2, h1, h2, h3⟩ := h
  refine ⟨g2, k2, by rw [h1.cells]; rfl, fun j b hj => ?_⟩
  have hl : j < t.all.length := by
    have := (List.getElem?_eq_some_iff.1 hj).1
    rwa [Tr.len] at this
  rw [h3.cellAt j (by omega), List.getElem?_map, hj]
  rfl
theorem Built.node {W : World} {bb : Nat} {t : Tr} (h : Built W bb t) : ∃ (g1 k1 : Nat), W.cell? ⟨bb, 2, none⟩ = some (.slice (some ⟨g1, 0, none⟩) t.all.length k1) ∧ ∀ j v, t.all[j]? = some v → W.cell? ⟨g1, j, none⟩ = some v := by
  obtain ⟨c0, c1, g1, k1, g2, k2, h1, h2, h3⟩ := h
  refine ⟨g1, k1, by rw [h1.cells]; rfl, fun j b hj => ?_⟩
  have hl : j < t.all.length := (List.getElem?_eq_some_iff.1 hj).1
  rw [h2.cellAt j (by omega), hj]
theorem cnt_step {ws : List Bool} {k : Nat} {b : Bool} (h : ws[k]? = some b) : (ws.take (k + 1)).count true = (ws.take k).count true + (if b then 1 else 0) := by
  rw [List.take_add_one, h]
  cases b <;> simp [List.count_append]
theorem cnt_le (ws : List Bool) (k : Nat) : (ws.take k).count true ≤ k := Nat.le_trans List.count_le_length (by simp; omega)
set_option maxHeartbeats 1000000 in
set_option maxRecDepth 20000 in
theorem wantCount_ {W : World} {bb : Nat} {t : Tr} (h : Built W bb t) (hl : t.all.length ≤ 8193) : Calls Try.prog 48 #[ptrV bb] W fun e w' => e = .returned (.int .i64 ((t.wants true).count true : Nat)) ∧ W = w' := by
  obtain ⟨g2, k2, c3, hc⟩ := h.want
  have lb := World.block_lt_of_cell? _ _ c3
  have HC := Lib.hid hc
  have hw := Tr.len t true
  have HW := Lib.hid hw
  clear h hc hw
  go_enter Try.func48, Try.ntmps48
  go_wp2
  go_loop [3, 4] (fun n i => ∃ k : Nat, k ≤ t.all.length ∧ i = .int .i64 k ∧ n = .int .i64 (((t.wants true).take k).count true : Nat)) (fun _ i => t.all.length - (intOf i).toNat)
  case atStart => exact ⟨0, by omega, by go_num, by simp⟩
  case round =>
    obtain ⟨k, hk, rfl, rfl⟩ := hrel
    have hle := cnt_le (t.wants true) k
    by_cases hlt : k < t.all.length
    · have hx : ∃ b, (t.wants true)[k]? = some b := ⟨_, List.getElem?_eq_getElem (by rw [HW.out]; exact hlt)⟩
      obtain ⟨b, hb⟩ := hx
      have hcb := HC.out k b hb
      have lg := World.block_lt_of_cell? _ _ hcb
      have hs := cnt_step hb
      have hlt' : (k : Int) < (t.all.length : Int) := by omega
      have HS := Lib.hid hs
      clear hs hb
      cases b
      · go_wp2
        go_round
        case rel => exact ⟨k + 1, by omega, by go_num, by rw [HS.out]; simp⟩
        case measure => simp [intOf]; omega
      · go_wp2
        go_round
        case rel => exact ⟨k + 1, by omega, by go_num, by rw [HS.out]; simp⟩
        case measure => simp [intOf]; omega
    · obtain rfl : k = t.all.length := by omega
      have he : (t.wants true).take t.all.length = t.wants true := List.take_of_length_le (by rw [HW.out]; exact Nat.le_refl _)
      have HE := Lib.hid he
      have hlt' : ¬ (t.all.length : Int) < (t.all.length : Int) := by omega
      clear he
      go_wp2
      go_ret
      exact ⟨by first | rfl | (rw [HE.out]; rfl), rfl⟩
set_option maxHeartbeats 1000000 in
set_option maxRecDepth 20000 in
theorem keptAs_ {W : World} {bb g c base : Nat} {t : Tr} {F : Nat → Value} (h : Built W bb t) (hl : t.all.length ≤ 8193) (hr : RowF W base g 4 t.all.length F) (hF : ∀ j b, (t.wants true)[j]? = some b → F j = .bool b) :
    Calls Try.prog 53 #[ptrV bb, .slice (some ⟨g, 0, none⟩) t.all.length c] W fun e w' => e = .returned (.bool true) ∧ Below W.heap.size W w' := by
  obtain ⟨g2, k2, c3, hc⟩ := h.want
  have lb := World.block_lt_of_cell? _ _ c3
  have HC := Lib.hid hc
  have hw := Tr.len t true
  have HW := Lib.hid hw
  have HR := Lib.hid hr
  have HF := Lib.hid hF
  clear h hc hw hr hF
  go_enter Try.func53, Try.ntmps53
  go_wp2
  go_loopw [5] (fun i wr => ∃ k d : Nat, k ≤ t.all.length ∧ i = .int .i64 k ∧ wr = W.drewN d) (fun i _ => t.all.length - (intOf i).toNat)
  case atStart => exact ⟨0, 0, by omega, by go_num, rfl⟩
  case round =>
    obtain ⟨k, d, hk, rfl, rfl⟩ := hrel
    by_cases hlt : k < t.all.length
    · have hx : ∃ b, (t.wants true)[k]? = some b := ⟨_, List.getElem?_eq_getElem (by rw [HW.out]; exact hlt)⟩
      obtain ⟨b, hb⟩ := hx
      have hcb := HC.out k b hb
      have lg := World.block_lt_of_cell? _ _ hcb
      have hcf := HR.out.cell hlt
      have lg2 := World.block_lt_of_cell? _ _ hcf
      rw [HF.out k b hb] at hcf
      have hlt' : (k : Int) < (t.all.length : Int) := by omega
      clear hb
      cases b
      · go_wp2_with fail
        go_quiet (fail)
        go_wp2
        go_roundw
        case rel => exact ⟨k + 1, _, by omega, by go_num, rfl⟩
        case measure => simp [intOf]; omega
      · go_wp2_with fail
        go_quiet (fail)
        go_wp2
        go_roundw
        case rel => exact ⟨k + 1, _, by omega, by go_num, rfl⟩
        case measure => simp [intOf]; omega
    · obtain rfl : k = t.all.length := by omega
      have hlt' : ¬ (t.all.length : Int) < (t.all.length : Int) := by omega
      go_wp2
      go_ret
      exact ⟨rfl, bdrewN (Below.refl _ _) _⟩
theorem zzBytesMI_any (a b : Option Addr) (n c m d : Nat) (w : World) (h1 : n ≤ 9223372036854775807) (h2 : m ≤ 9223372036854775807) :
    Calls Try.prog 45 #[.slice a n c, .slice b m d] w fun e w' => ∃ b : Bool, e = .returned (.bool b) ∧ w = w' := by
  go_enter Try.func45, Try.ntmps45
  go_wp2
  all_goals (go_ret; exact ⟨_, rfl, rfl⟩)
end Go.Proofs.Ytnjdffnbkjjmeaa
