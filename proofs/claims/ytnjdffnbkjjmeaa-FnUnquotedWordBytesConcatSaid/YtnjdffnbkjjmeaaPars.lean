/- The parser: NewParser, preNested, postNested and the small readers. -/
import Derived.Test.YtnjdffnbkjjmeaaSrc
import Derived.Handy
import Derived.BigRegion
import Derived.Laws.Tables
import Derived.Deep.Cut
import Derived.ChangeAlike
namespace Go.Proofs.Ytnjdffnbkjjmeaa
open Go.RowKit
theorem wpList_build_abs {P : Program} {ops : Array Oper} {Q : Exit → Act → World → Prop} {rest : List Oper} {o : Oper} {a : Act} {w : World} (hgd : o.guard = none) (t : TypeId) (parts : Array (Nat × Operand)) (ho : o.op = .build t parts) (cs : Array Value)
    (hb : ∀ w, (Instr.build t (parts.map fun (i, x) => (i, a.eval x))).run P w = .ok (.agg cs) w) (h : wpList P ops Q rest (a.put o.dst (.agg cs)) w) : wpList P ops Q (o :: rest) a w :=
  wpList_plain hgd fun _ hK => by
    unfold Oper.wp execOp
    simp only [ho, Sem.run_bind, hb, Result.andThen_ok]
    exact hK _ _ h
theorem pinfo : (Try.prog.info? 189).map (fun it => it.zero.map (fun z => (z.cells.toList[17]?, z.cells.toList[25]?, z.cells.toList[26]?))) = some (some (some (.int .u32 0), some (.int .i64 0), some (.slice none 0 0))) := by kernel_rfl
theorem pplace : (match Try.prog.underlying 189 with | some (.struct fs) => (fs.toList.mapM (fun f => (Try.prog.info? f.type).map fun i => (f.offset, i.size))).map (fun pl => pl.toArray[19]?) | _ => none) = some (some (20, 1)) := by kernel_rfl
/-- The composite literal of a new parser: some cells, of which three are told. -/
theorem build_parser : ∃ cs : Array Value, (∀ w, (Instr.build 189 #[(19, .int .i64 1)]).run Try.prog w = .ok (.agg cs) w) ∧ cs[17]? = some (.int .u32 0) ∧ cs[25]? = some (.int .i64 0) ∧ cs[26]? = some (.slice none 0 0) := by
  obtain ⟨it, hit, hz⟩ := Option.map_eq_some_iff.1 pinfo
  obtain ⟨z, hz0, hz1⟩ := Option.map_eq_some_iff.1 hz
  simp only [Prod.mk.injEq] at hz1
  obtain ⟨h17, h25, h26⟩ := hz1
  have hp := pplace
  have hl : 26 < z.cells.size := by
    have := (List.getElem?_eq_some_iff.1 h26).1
    simpa using this
  split at hp
  · rename_i fs hfs
    obtain ⟨pl, hpl, hp19⟩ := Option.map_eq_some_iff.1 hp
    have hb : Try.prog.built 189 [(19, .int .i64 1)] = some (z.cells.setIfInBounds 20 (.int .i64 1)) := by
      unfold Program.built
      rw [hit, hfs]
      simp only [hz0, hpl]
      unfold Instr.fill
      rw [hp19]
      have hv : (Value.int .i64 1).cells = #[.int .i64 1] := rfl
      simp [hv, Instr.fill]
      omega
    refine ⟨_, fun w => run_build w 189 #[(19, .int .i64 1)] _ hb, ?_, ?_, ?_⟩
    · simpa using h17
    · simpa using h25
    · simpa using h26
  · cases hp
/-- The parser's quote state, its mark of buried heredocs, and no heredoc. -/
def PS (W : World) (b : Nat) (q bu : Int) : Prop := ∃ cs : Array Value, Bk W b 189 cs ∧ cs[17]? = some (.int .u32 q) ∧ cs[25]? = some (.int .i64 bu) ∧ cs[26]? = some (.slice none 0 0)
theorem PS.keep {W W1 : World} {b : Nat} {q bu : Int} (h : PS W b q bu) (hb : Below W.heap.size W W1) : PS W1 b q bu := by
  obtain ⟨cs, h1, h2⟩ := h
  exact ⟨cs, h1.keep hb, h2⟩
set_option maxRecDepth 100000 in
theorem newParser_any (w : World) : Calls Try.prog 24 #[.slice none 0 0] w fun e w' => ∃ b : Nat, e = .returned (.pointer (some ⟨b, 0, none⟩)) ∧ w.heap.size ≤ b ∧ PS w' b 0 0 ∧ Below w.heap.size w w' := by
  obtain ⟨cs, hbd, h17, h25, h26⟩ := build_parser
  have H17 := Lib.hid h17
  have H25 := Lib.hid h25
  have H26 := Lib.hid h26
  have HB := Lib.hid hbd
  clear h17 h25 h26 hbd
  go_enter Try.func24, Try.ntmps24
  go_upto_region 1 with (fail)
  refine wp_region_lit ?_
  refine wpList_build_abs rfl 189 #[(19, Operand.const (.int .i64 1))] rfl cs (fun w => by simpa [Act.eval] using HB.out w) ?_
  clear HB
  go_wp2
  refine wp_loop_rounds 1 ?_
  rw [rounds_succ]
  go_wp2
  go_ret
  exact ⟨w.heap.size, rfl, Nat.le_refl _, ⟨cs, Bk.fresh _ _ _, H17.out, H25.out, H26.out⟩, by go_grown⟩
theorem PS.set {W : World} {b : Nat} {q bu : Int} (h : PS W b q bu) (q2 b2 : Int) : PS ((W.setCell ⟨b, 17, none⟩ (.int .u32 q2)).setCell ⟨b, 25, none⟩ (.int .i64 b2)) b q2 b2 ∧ PS ((W.setCell ⟨b, 25, none⟩ (.int .i64 b2)).setCell ⟨b, 17, none⟩ (.int .u32 q2)) b q2 b2 := by
  obtain ⟨cs, h1, h2, h3, h4⟩ := h
  obtain ⟨l17, _⟩ := Array.getElem?_eq_some_iff.1 h2
  obtain ⟨l25, _⟩ := Array.getElem?_eq_some_iff.1 h3
  constructor
  · exact ⟨_, (h1.put 17 _).put 25 _, by simp [l17], by simp [l25], by simp [h4]⟩
  · exact ⟨_, (h1.put 25 _).put 17 _, by simp [l17], by simp [l25], by simp [h4]⟩
theorem PS.drew {W : World} {b : Nat} {q bu : Int} (h : PS W b q bu) : PS W.drew b q bu := h.keep ⟨rfl, rfl, rfl, Nat.le_refl _, fun _ _ => rfl⟩
theorem PS.far {W : World} {b : Nat} {q bu : Int} (h : PS W b q bu) {p : Addr} (hp : ¬ b = p.block) (u : Value) : PS (W.setCell p u) b q bu := by
  obtain ⟨cs, h1, h2⟩ := h
  exact ⟨cs, h1.far (p := p) hp u, h2⟩
theorem only_drew {a w : World} {row : Option Nat} (h : a.grownBy w row) : a.grownBy w.drew row := ⟨h.os, h.tape, h.output, h.size, h.block⟩
theorem only_setCell {a w : World} {g : Nat} (h : a.grownBy w (some g)) {p : Addr} (hp : p.block = g ∨ a.heap.size ≤ p.block) (u : Value) : a.grownBy (w.setCell p u) (some g) :=
  ⟨h.os, h.tape, h.output, by simpa [World.setCell] using h.size, fun i hi hne => (Below.heap_setCell w p u i (by
    rintro rfl
    rcases hp with hp | hp
    · exact hne (by rw [hp])
    · omega)).trans (h.block i hi hne)⟩
theorem bp_gen {P : Program} {f : Func} {R : Ending → World → Prop} {e : Exit} {a : Act} {W : World} {S : World → Prop} (h : S W) (k : ∀ W', S W' → bodyPost P f R e a W') : bodyPost P f R e a W := k W h
theorem PS.cells {W : World} {b : Nat} {q bu : Int} (h : PS W b q bu) : W.cell? ⟨b, 17, none⟩ = some (.int .u32 q) ∧ W.cell? ⟨b, 25, none⟩ = some (.int .i64 bu) ∧ W.cell? ⟨b, 26, none⟩ = some (.slice none 0 0) ∧ W.frozen? ⟨b, 17, none⟩ = false ∧ W.frozen? ⟨b, 25, none⟩ = false ∧ b < W.heap.size := by
  obtain ⟨cs, h1, h2, h3, h4⟩ := h
  exact ⟨by rw [h1.cells, h2], by rw [h1.cells, h3], by rw [h1.cells, h4], h1.frz 17, h1.frz 25, h1.lt⟩
set_option maxHeartbeats 2000000 in
theorem preNested_any (b : Nat) (q bu q2 : Int) (w : World) (h : PS w b q bu) :
    Calls Try.prog 76 #[.pointer (some ⟨b, 0, none⟩), .int .u32 q2] w fun e w' => e = .returned (.agg #[.int .u32 q, .int .i64 bu]) ∧ PS w' b q2 0 ∧ w.grownBy w' (some b) := by
  obtain ⟨c17, c25, c26, f17, f25, hl⟩ := h.cells
  have H := Lib.hid h
  clear h
  go_enter Try.func76, Try.ntmps76
  go_wp2
  refine wp_gen (S := fun W => W.cell? ⟨b, 17, none⟩ = some (.int .u32 q) ∧ W.cell? ⟨b, 25, none⟩ = some (.int .i64 bu) ∧ W.cell? ⟨b, 26, none⟩ = some (.slice none 0 0) ∧ W.frozen? ⟨b, 17, none⟩ = false ∧ W.frozen? ⟨b, 25, none⟩ = false ∧ Bk W w.heap.size 73 #[.int .u32 0, .int .i64 0] ∧ PS W b q bu ∧ Below w.heap.size w W) ⟨by simp [go_sem, c17, hl], by simp [go_sem, c25, hl], by simp [go_sem, c26, hl], by simp [go_sem, f17, hl], by simp [go_sem, f25, hl], Bk.fresh _ _ _, H.out.keep (by go_grown), by go_grown⟩ ?_
  clear c17 c25 c26 f17 f25
  rintro W ⟨c17, c25, c26, f17, f25, kS, hP, hB⟩
  have cS := kS.cells
  have fS := kS.frz
  have nb : ¬ w.heap.size = b := by omega
  have nb' : ¬ b = w.heap.size := by omega
  have HP := Lib.hid hP
  have HK := Lib.hid kS
  clear hP kS
  go_region
  go_wp2
  refine bp_gen (S := fun W' => Bk W' w.heap.size 73 #[.int .u32 q, .int .i64 bu] ∧ PS W' b q2 0 ∧ w.grownBy W' (some b)) ⟨?_, ?_, ?_⟩ ?_
  · exact ((((((HK.out.put 0 (.int .u32 q)).put 1 (.int .i64 bu)).far (p := ⟨b, 25, none⟩) nb _).far (p := ⟨b, 17, none⟩) nb _).put 0 (.int .u32 q)).put 1 (.int .i64 bu)).drew
  · have h1 := ((HP.out.far (p := ⟨w.heap.size, 0, none⟩) nb' (.int .u32 q)).far (p := ⟨w.heap.size, 1, none⟩) nb' (.int .i64 bu)).set q2 0
    exact ((h1.2.far (p := ⟨w.heap.size, 0, none⟩) nb' (.int .u32 q)).far (p := ⟨w.heap.size, 1, none⟩) nb' (.int .i64 bu)).drew
  · exact only_drew (only_setCell (only_setCell (only_setCell (only_setCell (only_setCell (only_setCell (grown_of_below hB (some b)) (.inr (Nat.le_refl _)) _) (.inr (Nat.le_refl _)) _) (.inl rfl) _) (.inl rfl) _) (.inr (Nat.le_refl _)) _) (.inr (Nat.le_refl _)) _)
  rintro W' ⟨kS, hP, hg⟩
  have cW := kS.cells
  refine bodyPost_ret (v := .agg #[.int .u32 q, .int .i64 bu]) (by simp [results, Try.results76, go_sem, cW]) rfl ⟨rfl, hP, hg⟩
set_option maxHeartbeats 2000000 in
theorem postNested_any (b : Nat) (q bu q2 b2 : Int) (w : World) (h : PS w b q bu) :
    Calls Try.prog 77 #[.pointer (some ⟨b, 0, none⟩), .agg #[.int .u32 q2, .int .i64 b2]] w fun e w' => e = .returned (.tuple #[]) ∧ PS w' b q2 b2 ∧ w.grownBy w' (some b) := by
  obtain ⟨c17, c25, c26, f17, f25, hl⟩ := h.cells
  have H := Lib.hid h
  clear h
  go_enter Try.func77, Try.ntmps77
  go_wp2
  refine wp_gen (S := fun W => W.cell? ⟨b, 17, none⟩ = some (.int .u32 q) ∧ W.cell? ⟨b, 25, none⟩ = some (.int .i64 bu) ∧ W.frozen? ⟨b, 17, none⟩ = false ∧ W.frozen? ⟨b, 25, none⟩ = false ∧ Bk W w.heap.size 73 #[.int .u32 q2, .int .i64 b2] ∧ PS W b q bu ∧ Below w.heap.size w W) ⟨by simp [go_sem, c17, hl], by simp [go_sem, c25, hl], by simp [go_sem, f17, hl], by simp [go_sem, f25, hl], Bk.fresh _ _ _, H.out.keep (by go_grown), by go_grown⟩ ?_
  clear c17 c25 c26 f17 f25
  rintro W ⟨c17, c25, f17, f25, kS, hP, hB⟩
  have cS := kS.cells
  have nb : ¬ w.heap.size = b := by omega
  have nb' : ¬ b = w.heap.size := by omega
  have HP := Lib.hid hP
  clear hP kS
  go_region
  go_wp2
  go_end0
  exact ⟨rfl, (HP.out.set q2 b2).1.drew, only_drew (only_setCell (only_setCell (grown_of_below hB (some b)) (.inl rfl) _) (.inl rfl) _)⟩
end Go.Proofs.Ytnjdffnbkjjmeaa
