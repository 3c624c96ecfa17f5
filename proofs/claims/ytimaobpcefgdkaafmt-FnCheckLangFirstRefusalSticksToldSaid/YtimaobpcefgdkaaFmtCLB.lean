/- The small functions round checkLang: the law's parser, the shims, the reader of the error. -/
import Derived.Test.YtimaobpcefgdkaaFmtCL
import Derived.BigRegion
import Derived.ChangeAlike
import Derived.Handy
namespace Go.Proofs.YtimaobpcefgdkaaFmt
open Go.RowKit
theorem bp_gen' {P : Program} {f : Func} {R : Ending → World → Prop} {e : Exit} {a : Act} {W : World} {S : World → Prop} (h : S W) (k : ∀ W', S W' → bodyPost P f R e a W') : bodyPost P f R e a W := k W h
theorem build_lang (L : Int) (p : Option Addr) : ∃ cs : Array Value, (∀ w, (Instr.build 65 #[(19, .int .i64 L), (5, .pointer p)]).run Tryf.prog w = .ok (.agg cs) w) ∧ PCells cs p false L := by
  obtain ⟨it, fs, pl, z, hit, hz0, hfs, hpl, p23, p5, p19, hl, h1, h2, h3, h4, h7, h10, h24, h29, h87⟩ := parser_parts
  have hb : Tryf.prog.built 65 [(19, .int .i64 L), (5, .pointer p)] = some ((z.cells.setIfInBounds 20 (.int .i64 L)).setIfInBounds 5 (.pointer p)) := by
    unfold Program.built
    rw [hit, hfs]
    simp only [hz0, hpl]
    rw [fill_one p19 rfl (by omega), fill_one p5 rfl (by simp; omega), Instr.fill]
  refine ⟨_, fun w => run_build w 65 #[(19, .int .i64 L), (5, .pointer p)] _ hb, ?_⟩
  unfold PCells
  refine ⟨?_, ?_, ?_, ?_, ?_, ?_, ?_, ?_, ?_, ?_, ?_⟩
  all_goals (simp [Array.getElem?_setIfInBounds, h1, h2, h3, h4, h7, h10, h24, h29, h87]; try omega)
set_option maxRecDepth 100000 in
theorem newLang (L : Int) (w : World) : Calls Tryf.prog 10 #[.int .i64 L] w fun e w' => ∃ b fp : Nat, e = .returned (.pointer (some ⟨b, 0, none⟩)) ∧ PP w' b fp ByteArray.empty .nilIface 0 false L ∧ w.heap.size ≤ b ∧ Below w.heap.size w w' := by
  obtain ⟨cs, hbd, hcs⟩ := build_lang L (some ⟨w.heap.size, 0, none⟩)
  obtain ⟨fcs, hfb, hf0⟩ := build_file0
  have HB := Lib.hid hbd
  have HC := Lib.hid hcs
  have HFB := Lib.hid hfb
  have HF0 := Lib.hid hf0
  clear hbd hcs hfb hf0
  go_enter Tryf.func10, Tryf.ntmps10
  go_upto_region 1 with (fail)
  refine wp_region_lit ?_
  refine wpList_val rfl (.int .i64 L) rfl ?_
  refine wpList_build_abs rfl 50 #[] rfl fcs (fun w => by simpa [Act.eval, Act.put] using HFB.out w) ?_
  refine wpList_box rfl 50 (Operand.tmp 4) rfl fcs rfl ?_
  refine wpList_build_abs rfl 65 #[(19, Operand.tmp 3), (5, Operand.tmp 5)] rfl cs (fun w => by simpa [Act.eval, Act.put] using HB.out w) ?_
  refine wpList_box rfl 65 (Operand.tmp 6) rfl cs rfl ?_
  simp only [Act.put, List.setIfInBounds_toArray, List.set_cons_zero, List.set_cons_succ]
  clear HB HFB
  go_wp2
  go_ret
  have hk : Bk ((w.alloc (.cells fcs 50)).alloc (.cells cs 65)) w.heap.size 50 fcs := (Bk.fresh w 50 fcs).alloc _
  refine ⟨w.heap.size + 1, w.heap.size, by simp, HC.out.pp (Bk.newAt (by simp)) (by rw [hk.cells, HF0.out]) (by omega), by omega, by go_grown⟩
/-- The shim over checkLang. -/
theorem zzCheck {w : World} {b : Nat} {o l S : Int} {R : World → World → Prop} (h : ∀ W, Below w.heap.size w W → w.heap.size ≤ W.heap.size → Calls Tryf.prog 18 #[.pointer (some ⟨b, 0, none⟩), P2 o l, .int .i64 S, .string ⟨#[102, 101, 97, 116, 117, 114, 101]⟩, .slice none 0 0] W fun e w' => e = .returned (.tuple #[]) ∧ R W w') :
    Calls Tryf.prog 11 #[.pointer (some ⟨b, 0, none⟩), P2 o l, .int .i64 S] w fun e w' => e = .returned (.tuple #[]) ∧ ∃ W, Below w.heap.size w W ∧ R W w' := by
  have H := Lib.hid h
  clear h
  go_enter Tryf.func11, Tryf.ntmps11
  go_wp2_with fail
  have HB := Lib.hid ((Below.refl w.heap.size w).alloc (Nat.le_refl _) (.cells #[.int .u32 o, .int .u32 l] 28))
  refine (H.out _ HB.out (by simp)).mono ?_
  rintro e w' ⟨rfl, hR⟩
  have HR := Lib.hid hR
  clear hR
  go_wp2_with fail
  go_end0
  exact ⟨rfl, _, HB.out, HR.out⟩
theorem errIsNil_yes {w : World} {b fp : Nat} {nm : ByteArray} {tk : Int} {fb : Bool} {lg : Int} (h : PP w b fp nm .nilIface tk fb lg) :
    Calls Tryf.prog 12 #[.pointer (some ⟨b, 0, none⟩)] w fun e w' => e = .returned (.bool true) ∧ w = w' := by
  have c7 := h.c7
  have lb := h.lt
  clear h
  go_enter Tryf.func12, Tryf.ntmps12
  go_wp2
  go_ret
  exact ⟨rfl, rfl⟩
theorem tokIsEOF_0 {w : World} {b fp : Nat} {nm : ByteArray} {er : Value} {fb : Bool} {lg : Int} (h : PP w b fp nm er 0 fb lg) :
    Calls Tryf.prog 13 #[.pointer (some ⟨b, 0, none⟩)] w fun e w' => e = .returned (.bool false) ∧ w = w' := by
  have c10 := h.c10
  have lb := h.lt
  clear h
  go_enter Tryf.func13, Tryf.ntmps13
  go_wp2
  go_ret
  exact ⟨rfl, rfl⟩
theorem tokIsEOF_1 {w : World} {b fp : Nat} {nm : ByteArray} {er : Value} {fb : Bool} {lg : Int} (h : PP w b fp nm er 1 fb lg) :
    Calls Tryf.prog 13 #[.pointer (some ⟨b, 0, none⟩)] w fun e w' => e = .returned (.bool true) ∧ w = w' := by
  have c10 := h.c10
  have lb := h.lt
  clear h
  go_enter Tryf.func13, Tryf.ntmps13
  go_wp2
  go_ret
  exact ⟨rfl, rfl⟩
theorem tLE (x : Array Value) (w : World) : (Instr.typeAssert (.iface 39 (.agg x)) 55 39 true).run Tryf.prog w = .ok (.tuple #[.agg x, .bool true]) w := by kernel_rfl
set_option maxHeartbeats 1000000 in
set_option maxRecDepth 100000 in
theorem langErr_any {w : World} {b fp : Nat} {nm s : ByteArray} {o l tk : Int} {a : Option Addr} {n c : Nat} {fb : Bool} {lg : Int} (h : PP w b fp nm (langErr nm o l s a n c lg) tk fb lg) :
    Calls Tryf.prog 14 #[.pointer (some ⟨b, 0, none⟩)] w fun e w' => e = .returned (.tuple #[.agg #[.string nm, .int .u32 o, .int .u32 l, .string s, .slice a n c, .int .i64 lg], .bool true]) ∧ Below w.heap.size w w' := by
  have c7 := h.c7
  have lb := h.lt
  have ta := tLE
  clear h
  go_enter Tryf.func14, Tryf.ntmps14
  go_wp2
  refine bp_gen' (S := fun W' => Bk W' w.heap.size 39 #[.string nm, .int .u32 o, .int .u32 l, .string s, .slice a n c, .int .i64 lg] ∧ Below w.heap.size w W') ⟨(Bk.fresh w _ _).alloc _, by go_grown⟩ ?_
  clear c7 ta
  rintro W' ⟨kS, hP⟩
  have cW := kS.cells
  refine bodyPost_ret (v := .tuple #[.agg #[.string nm, .int .u32 o, .int .u32 l, .string s, .slice a n c, .int .i64 lg], .bool true]) (by simp [results, Tryf.results14, go_sem, cW]) rfl ⟨rfl, hP⟩
theorem row_cells {W : World} {base n : Nat} {e : TypeId} {a : Option Addr} {c : Nat} {xs : List Value} (h : W.ownsRow base e 1 (.slice a n c) n xs) {k : Nat} (hk : k < n) : ∃ g : Nat, a = some ⟨g, 0, none⟩ ∧ W.cell? ⟨g, k, none⟩ = xs[k]? := by
  rcases h.2 with ⟨_, h0⟩ | ⟨g, cap, cur, h', hb, hg, hr⟩
  · omega
  · injection h' with h1 h2 h3
    subst h1 h3
    exact ⟨g, rfl, World.ownsRow.cellAt h k (by omega)⟩
set_option maxHeartbeats 1000000 in
set_option maxRecDepth 100000 in
theorem same_any {w : World} {b1 b2 n : Nat} {a a2 : Option Addr} {c c2 : Nat} {xs : List Int} (h1 : w.ownsRow b1 34 1 (.slice a n c) n (xs.map (Value.int .i64))) (h2 : w.ownsRow b2 3 1 (.slice a2 n c2) n (xs.map (Value.int .i64))) (hn : n ≤ 5) :
    Calls Tryf.prog 15 #[.slice a n c, .slice a2 n c2] w fun e w' => e = .returned (.bool true) ∧ Below w.heap.size w w' := by
  have H1 := Lib.hid h1
  have H2 := Lib.hid h2
  have hl : xs.length = n := by simpa using h1.1
  have HL := Lib.hid hl
  clear h1 h2 hl
  go_enter Tryf.func15, Tryf.ntmps15
  go_wp2
  go_loopw [5] (fun i wr => ∃ k d : Nat, k ≤ n ∧ i = .int .i64 k ∧ wr = w.drewN d) (fun i _ => n - (intOf i).toNat)
  case atStart => exact ⟨0, 0, by omega, by go_num, rfl⟩
  case round =>
    obtain ⟨k, d, hk, rfl, rfl⟩ := hrel
    by_cases hlt : k < n
    · obtain ⟨g1, rfl, q1⟩ := row_cells H1.out hlt
      obtain ⟨g2, rfl, q2⟩ := row_cells H2.out hlt
      obtain ⟨v, hx⟩ : ∃ v, xs[k]? = some v := ⟨_, List.getElem?_eq_getElem (by rw [HL.out]; exact hlt)⟩
      rw [List.getElem?_map, hx] at q1 q2
      simp only [Option.map_some] at q1 q2
      have lg1 := World.block_lt_of_cell? _ _ q1
      have lg2 := World.block_lt_of_cell? _ _ q2
      have hlt' : (k : Int) < (n : Int) := by omega
      clear hx
      go_wp2_with fail
      go_quiet (fail)
      go_wp2
      go_roundw
      case rel => exact ⟨k + 1, _, by omega, by go_num, rfl⟩
      case measure => simp [intOf]; omega
    · obtain rfl : k = n := by omega
      have hlt' : ¬ (k : Int) < (k : Int) := by omega
      go_wp2
      go_ret
      exact ⟨rfl, bdrewN (Below.refl _ _) _⟩
end Go.Proofs.YtimaobpcefgdkaaFmt
