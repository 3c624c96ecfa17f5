/- The two laws' parsers: a composite literal of a huge struct, some of its cells told. -/
import Derived.Test.YtimaobpcefgdkaaFmtPosErr
namespace Go.Proofs.YtimaobpcefgdkaaFmt
open Go.RowKit
theorem wpList_build_abs {P : Program} {ops : Array Oper} {Q : Exit → Act → World → Prop} {rest : List Oper} {o : Oper} {a : Act} {w : World} (hgd : o.guard = none) (t : TypeId) (parts : Array (Nat × Operand)) (ho : o.op = .build t parts) (cs : Array Value)
    (hb : ∀ w, (Instr.build t (parts.map fun (i, x) => (i, a.eval x))).run P w = .ok (.agg cs) w) (h : wpList P ops Q rest (a.put o.dst (.agg cs)) w) : wpList P ops Q (o :: rest) a w :=
  wpList_plain hgd fun _ hK => by
    unfold Oper.wp execOp
    simp only [ho, Sem.run_bind, hb, Result.andThen_ok]
    exact hK _ _ h
theorem fill_one {place : Nat → Option (Nat × Nat)} {cs : Array Value} {i off : Nat} {v : Value} {rest : List (Nat × Value)} (hp : place i = some (off, 1)) (hv : v.cells = #[v]) (hl : off < cs.size) :
    Instr.fill place cs ((i, v) :: rest) = Instr.fill place (cs.setIfInBounds off v) rest := by
  rw [Instr.fill, hp]
  simp [hv]
  omega
theorem pinfo : (Tryf.prog.info? 65).map (fun it => it.zero.map (fun z => (z.cells.toList[1]?, z.cells.toList[2]?, z.cells.toList[3]?, z.cells.toList[4]?, z.cells.toList[7]?, z.cells.toList[10]?, z.cells.toList[20]?, z.cells.toList[24]?, z.cells.toList[29]?, z.cells.toList[2087]?))) =
    some (some (some (.slice none 0 0), some (.int .u64 0), some (.int .i32 0), some (.int .i64 0), some .nilIface, some (.int .u32 0), some (.int .i64 0), some (.bool false), some (.int .i64 0), some (.slice none 0 0))) := by kernel_rfl
theorem pplace : (match Tryf.prog.underlying 65 with | some (.struct fs) => (fs.toList.mapM (fun f => (Tryf.prog.info? f.type).map fun i => (f.offset, i.size))).map (fun pl => (pl.toArray[23]?, pl.toArray[5]?, pl.toArray[19]?)) | _ => none) = some (some (24, 1), some (5, 1), some (20, 1)) := by kernel_rfl
def PCells (cs : Array Value) (p : Option Addr) (fb : Bool) (lg : Int) : Prop :=
  cs[1]? = some (.slice none 0 0) ∧ cs[2]? = some (.int .u64 0) ∧ cs[3]? = some (.int .i32 0) ∧ cs[4]? = some (.int .i64 0) ∧ cs[5]? = some (.pointer p) ∧ cs[7]? = some .nilIface ∧ cs[10]? = some (.int .u32 0) ∧ cs[20]? = some (.int .i64 lg) ∧ cs[24]? = some (.bool fb) ∧ cs[29]? = some (.int .i64 0) ∧ cs[2087]? = some (.slice none 0 0)
theorem parser_parts : ∃ (it : TypeInfo) (fs : Array Field) (pl : List (Nat × Nat)) (z : Value), Tryf.prog.info? 65 = some it ∧ it.zero = some z ∧ Tryf.prog.underlying 65 = some (.struct fs) ∧ fs.toList.mapM (fun f => (Tryf.prog.info? f.type).map fun i => (f.offset, i.size)) = some pl ∧
    pl.toArray[23]? = some (24, 1) ∧ pl.toArray[5]? = some (5, 1) ∧ pl.toArray[19]? = some (20, 1) ∧ 2087 < z.cells.size ∧
    z.cells[1]? = some (.slice none 0 0) ∧ z.cells[2]? = some (.int .u64 0) ∧ z.cells[3]? = some (.int .i32 0) ∧ z.cells[4]? = some (.int .i64 0) ∧ z.cells[7]? = some .nilIface ∧ z.cells[10]? = some (.int .u32 0) ∧ z.cells[24]? = some (.bool false) ∧ z.cells[29]? = some (.int .i64 0) ∧ z.cells[2087]? = some (.slice none 0 0) := by
  obtain ⟨it, hit, hz⟩ := Option.map_eq_some_iff.1 pinfo
  obtain ⟨z, hz0, hz1⟩ := Option.map_eq_some_iff.1 hz
  simp only [Prod.mk.injEq] at hz1
  obtain ⟨h1, h2, h3, h4, h7, h10, h20, h24, h29, h87⟩ := hz1
  have hp := pplace
  have hl : 2087 < z.cells.size := by
    have := (List.getElem?_eq_some_iff.1 h87).1
    simpa using this
  split at hp
  · rename_i fs hfs
    obtain ⟨pl, hpl, hp19⟩ := Option.map_eq_some_iff.1 hp
    simp only [Prod.mk.injEq] at hp19
    exact ⟨it, fs, pl, z, hit, hz0, hfs, hpl, hp19.1, hp19.2.1, hp19.2.2, hl, by simpa using h1, by simpa using h2, by simpa using h3, by simpa using h4, by simpa using h7, by simpa using h10, by simpa using h24, by simpa using h29, by simpa using h87⟩
  · cases hp
theorem wpList_val {P : Program} {ops : Array Oper} {Q : Exit → Act → World → Prop} {rest : List Oper} {o : Oper} {a : Act} {w w' : World} (hgd : o.guard = none) (v : Value) (hr : (execOp a.eval o).run P w = .ok (.value v) w') (h : wpList P ops Q rest (a.put o.dst v) w') : wpList P ops Q (o :: rest) a w :=
  wpList_plain hgd fun _ hK => by
    unfold Oper.wp
    rw [hr]
    exact hK _ _ h
theorem wpList_box {P : Program} {ops : Array Oper} {Q : Exit → Act → World → Prop} {rest : List Oper} {o : Oper} {a : Act} {w : World} (hgd : o.guard = none) (t : TypeId) (x : Operand) (ho : o.op = .box t x) (cs : Array Value) (hx : a.eval x = .agg cs)
    (h : wpList P ops Q rest (a.put o.dst (.pointer (some ⟨w.heap.size, 0, none⟩))) (w.alloc (.cells cs t))) : wpList P ops Q (o :: rest) a w := by
  refine wpList_val hgd _ ?_ h
  simp [execOp, ho, hx, Instr.box, newVar, newRow, Value.cells]
theorem file_parts : ∃ (it : TypeInfo) (fs : Array Field) (pl : List (Nat × Nat)) (z : Value), Tryf.prog.info? 50 = some it ∧ it.zero = some z ∧ Tryf.prog.underlying 50 = some (.struct fs) ∧ fs.toList.mapM (fun f => (Tryf.prog.info? f.type).map fun i => (f.offset, i.size)) = some pl ∧
    pl.toArray[0]? = some (0, 1) ∧ z.cells[0]? = some (.string ByteArray.empty) := by
  have finfo : (Tryf.prog.info? 50).map (fun it => it.zero.map (fun z => z.cells.toList[0]?)) = some (some (some (.string ByteArray.empty))) := by kernel_rfl
  have hp : (match Tryf.prog.underlying 50 with | some (.struct fs) => (fs.toList.mapM (fun f => (Tryf.prog.info? f.type).map fun i => (f.offset, i.size))).map (fun pl => pl.toArray[0]?) | _ => none) = some (some (0, 1)) := by kernel_rfl
  obtain ⟨it, hit, hz⟩ := Option.map_eq_some_iff.1 finfo
  obtain ⟨z, hz0, hz1⟩ := Option.map_eq_some_iff.1 hz
  split at hp
  · rename_i fs hfs
    obtain ⟨pl, hpl, hp0⟩ := Option.map_eq_some_iff.1 hp
    exact ⟨it, fs, pl, z, hit, hz0, hfs, hpl, hp0, by simpa using hz1⟩
  · cases hp
theorem build_file (nm : ByteArray) : ∃ cs : Array Value, (∀ w, (Instr.build 50 #[(0, .string nm)]).run Tryf.prog w = .ok (.agg cs) w) ∧ cs[0]? = some (.string nm) := by
  obtain ⟨it, fs, pl, z, hit, hz0, hfs, hpl, p0, h0⟩ := file_parts
  have hl : 0 < z.cells.size := (Array.getElem?_eq_some_iff.1 h0).1
  have hb : Tryf.prog.built 50 [(0, .string nm)] = some (z.cells.setIfInBounds 0 (.string nm)) := by
    unfold Program.built
    rw [hit, hfs]
    simp only [hz0, hpl]
    rw [fill_one p0 rfl hl, Instr.fill]
  exact ⟨_, fun w => run_build w 50 #[(0, .string nm)] _ hb, by simp [hl]⟩
theorem build_file0 : ∃ cs : Array Value, (∀ w, (Instr.build 50 #[]).run Tryf.prog w = .ok (.agg cs) w) ∧ cs[0]? = some (.string ByteArray.empty) := by
  obtain ⟨it, fs, pl, z, hit, hz0, hfs, hpl, p0, h0⟩ := file_parts
  have hb : Tryf.prog.built 50 [] = some z.cells := by
    unfold Program.built
    rw [hit, hfs]
    simp only [hz0, hpl]
    rw [Instr.fill]
  exact ⟨_, fun w => run_build w 50 #[] _ hb, h0⟩
theorem build_nest (fb : Bool) (p : Option Addr) : ∃ cs : Array Value, (∀ w, (Instr.build 65 #[(23, .bool fb), (5, .pointer p), (19, .int .i64 1)]).run Tryf.prog w = .ok (.agg cs) w) ∧ PCells cs p fb 1 := by
  obtain ⟨it, fs, pl, z, hit, hz0, hfs, hpl, p23, p5, p19, hl, h1, h2, h3, h4, h7, h10, h24, h29, h87⟩ := parser_parts
  have hb : Tryf.prog.built 65 [(23, .bool fb), (5, .pointer p), (19, .int .i64 1)] = some (((z.cells.setIfInBounds 24 (.bool fb)).setIfInBounds 5 (.pointer p)).setIfInBounds 20 (.int .i64 1)) := by
    unfold Program.built
    rw [hit, hfs]
    simp only [hz0, hpl]
    rw [fill_one p23 rfl (by omega), fill_one p5 rfl (by simp; omega), fill_one p19 rfl (by simp; omega), Instr.fill]
  refine ⟨_, fun w => run_build w 65 #[(23, .bool fb), (5, .pointer p), (19, .int .i64 1)] _ hb, ?_⟩
  unfold PCells
  refine ⟨?_, ?_, ?_, ?_, ?_, ?_, ?_, ?_, ?_, ?_, ?_⟩
  all_goals (simp [Array.getElem?_setIfInBounds, h1, h2, h3, h4, h7, h10, h29, h87]; try omega)
theorem PCells.pp {W : World} {cs : Array Value} {b fp : Nat} {nm : ByteArray} {fb : Bool} {lg : Int} (h : PCells cs (some ⟨fp, 0, none⟩) fb lg) (hk : Bk W b 65 cs) (hf : W.cell? ⟨fp, 0, none⟩ = some (.string nm)) (hne : fp ≠ b) : PP W b fp nm .nilIface 0 fb lg := by
  obtain ⟨h1, h2, h3, h4, h5, h7, h10, h20, h24, h29, h87⟩ := h
  exact ⟨cs, 0, 0, 0, hk, hf, hne, h1, h2, h3, h4, h5, h7, h10, h20, h24, h29, h87⟩
set_option maxRecDepth 100000 in
theorem newNest (fb : Bool) (nm : ByteArray) (w : World) : Calls Tryf.prog 6 #[.bool fb, .string nm] w fun e w' => ∃ b fp : Nat, e = .returned (.pointer (some ⟨b, 0, none⟩)) ∧ PP w' b fp nm .nilIface 0 fb 1 ∧ w.heap.size ≤ b ∧ Below w.heap.size w w' := by
  obtain ⟨cs, hbd, hcs⟩ := build_nest fb (some ⟨w.heap.size, 0, none⟩)
  obtain ⟨fcs, hfb, hf0⟩ := build_file nm
  have HB := Lib.hid hbd
  have HC := Lib.hid hcs
  have HFB := Lib.hid hfb
  have HF0 := Lib.hid hf0
  clear hbd hcs hfb hf0
  go_enter Tryf.func6, Tryf.ntmps6
  go_upto_region 1 with (fail)
  refine wp_region_lit ?_
  refine wpList_val rfl (.bool fb) rfl ?_
  refine wpList_val rfl (.string nm) rfl ?_
  refine wpList_build_abs rfl 50 #[(0, Operand.tmp 6)] rfl fcs (fun w => by simpa [Act.eval, Act.put] using HFB.out w) ?_
  refine wpList_box rfl 50 (Operand.tmp 7) rfl fcs rfl ?_
  refine wpList_build_abs rfl 65 #[(23, Operand.tmp 5), (5, Operand.tmp 8), (19, Operand.const (.int .i64 1))] rfl cs (fun w => by simpa [Act.eval, Act.put] using HB.out w) ?_
  refine wpList_box rfl 65 (Operand.tmp 9) rfl cs rfl ?_
  simp only [Act.put, List.setIfInBounds_toArray, List.set_cons_zero, List.set_cons_succ]
  clear HB HFB
  go_wp2
  go_ret
  have hk : Bk ((w.alloc (.cells fcs 50)).alloc (.cells cs 65)) w.heap.size 50 fcs := (Bk.fresh w 50 fcs).alloc _
  refine ⟨w.heap.size + 1, w.heap.size, by simp, HC.out.pp (Bk.newAt (by simp)) (by rw [hk.cells, HF0.out]) (by omega), by omega, by go_grown⟩
end Go.Proofs.YtimaobpcefgdkaaFmt
