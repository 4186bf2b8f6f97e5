/- Print, over one rule. -/
import Derived.Test.YtkfdcbdlcipmfaaGreatFmtHD
import Derived.Test.YtkfdcbdlcipmfaaGreatFmtGQ
set_option linter.unusedVariables false
set_option linter.unusedSimpArgs false
namespace Go.Proofs.YtkfdcbdlcipmfaaGreatFmt
open Go.RowKit Go.Extern.Stop Go.Stop Go.Extern

theorem run_storeAt_row {P : Program} (w : World) (g : Nat) (t ty : TypeId) (old cells : Array Value) (hg : w.heap[g]? = some (.cells old t (0, 0))) (hi : (P.info? ty).map (·.size) = some cells.size) (ho : old.size = cells.size) (h1 : cells.all (·.oneCell') = true) :
    (Instr.storeAt ty (.pointer (some ⟨g, 0, none⟩)) (.agg cells)).run P w = .ok () (w.setRow g cells) := by
  simp only [Instr.storeAt, Instr.sureAddr, Sem.run_bind, Sem.run_pure, Result.andThen]
  exact run_storeVar_row w g t ty old cells hg hi ho h1
theorem wpList_store_row {P : Program} {ops : Array Oper} {rest : List Oper} {o : Oper} {a : Act} {W : World} {Q : Exit → Act → World → Prop} (hgd : o.guard = none) (t : TypeId) (p x : Operand) (ho : o.op = .store t p x) (hdst : o.dst = none) (b : Nat) (e : TypeId) (old cells : Array Value)
    (hp : a.eval p = .pointer (some ⟨b, 0, none⟩)) (hx : a.eval x = .agg cells) (hb : W.heap[b]? = some (.cells old e (0, 0))) (hi : (P.info? t).map (·.size) = some cells.size) (hos : old.size = cells.size) (h1 : cells.all (·.oneCell') = true)
    (h : wpList P ops Q rest a (W.setRow b cells)) : wpList P ops Q (o :: rest) a W :=
  wpList_plain hgd fun K hK => by
    have hr := run_storeAt_row (P := P) W b e t old cells hb hi hos h1
    unfold Oper.wp execOp
    simp only [ho, hp, hx, Sem.run_bind, Sem.run_pure, Result.andThen_ok, hr]
    have e1 : a.put o.dst undef = a := by rw [hdst]; rfl
    exact hK _ _ (by rw [e1]; exact h)

theorem results_cell {P : Program} {fn : Func} {tmps : Array Value} {w : World} {k : Nat} {t : TypeId} {p : Addr} {v : Value} (hr : fn.results = #[ResultVar.cell k t]) (ha : tmps[k]?.getD undef = .pointer (some p)) (hl : (loadVar t p).run P w = .ok v w) : (results fn tmps).run P w = .ok v w := by
  unfold results
  rw [hr]
  simp [ha, asAddr, hl, Sem.run_bind, Sem.run_pure, Result.andThen]
theorem wp_store_row {P : Program} {o : Oper} {a : Act} {W : World} {K : Act → World → Prop} {Q : Exit → Act → World → Prop} (t : TypeId) (p x : Operand) (ho : o.op = .store t p x) (hdst : o.dst = none) (b : Nat) (e : TypeId) (old cells : Array Value)
    (hp : a.eval p = .pointer (some ⟨b, 0, none⟩)) (hx : a.eval x = .agg cells) (hb : W.heap[b]? = some (.cells old e (0, 0))) (hi : (P.info? t).map (·.size) = some cells.size) (hos : old.size = cells.size) (h1 : cells.all (·.oneCell') = true)
    (h : K a (W.setRow b cells)) : o.wp P a W K Q := by
  have hr := run_storeAt_row (P := P) W b e t old cells hb hi hos h1
  unfold Oper.wp execOp
  simp only [ho, hp, hx, Sem.run_bind, Sem.run_pure, Result.andThen_ok, hr]
  have e1 : a.put o.dst undef = a := by rw [hdst]; rfl
  show K (a.put o.dst undef) _
  rw [e1]; exact h
theorem step_store_row {P : Program} {ops : Array Oper} {o : Oper} {a : Act} {W : World} {K : Act → World → Prop} {Q : Exit → Act → World → Prop} {E : Prop} (hgd : o.guard = none) (t : TypeId) (p x : Operand) (ho : o.op = .store t p x) (hdst : o.dst = none) (b : Nat) (e : TypeId) (old cells : Array Value)
    (hp : a.eval p = .pointer (some ⟨b, 0, none⟩)) (hx : a.eval x = .agg cells) (hb : W.heap[b]? = some (.cells old e (0, 0))) (hi : (P.info? t).map (·.size) = some cells.size) (hos : old.size = cells.size) (h1 : cells.all (·.oneCell') = true)
    (h : K a (W.setRow b cells)) : if Region.wanted o (yielded ops a.tmps) = true then Oper.wp P o a W K Q else E := by
  have hw : Region.wanted o (yielded ops a.tmps) = true := by simp [Region.wanted, hgd]
  rw [if_pos hw]
  exact wp_store_row t p x ho hdst b e old cells hp hx hb hi hos h1 h
theorem run_loadAt_row {P : Program} (w : World) (g : Nat) (t ty : TypeId) (cs : Array Value) (d : TypeDesc) (hg : w.heap[g]? = some (.cells cs t (0, 0))) (hu : P.underlying ty = some d) (hd : (match d with | .struct _ | .array _ _ => true | _ => false) = true) (hi : (P.info? ty).map (·.size) = some cs.size) :
    (Instr.loadAt ty (.pointer (some ⟨g, 0, none⟩))).run P w = .ok (.agg cs) w := by
  simp only [Instr.loadAt, Instr.sureAddr, Sem.run_bind, Sem.run_pure, Result.andThen]
  exact run_loadVar_row w g t ty cs (0, 0) d hg hu hd hi
theorem wpList_load_row {P : Program} {ops : Array Oper} {rest : List Oper} {o : Oper} {a : Act} {W : World} {Q : Exit → Act → World → Prop} (hgd : o.guard = none) (t : TypeId) (p : Operand) (ho : o.op = .load t p) (b : Nat) (e : TypeId) (cells : Array Value) (d : TypeDesc)
    (hp : a.eval p = .pointer (some ⟨b, 0, none⟩)) (hb : W.heap[b]? = some (.cells cells e (0, 0))) (hu : P.underlying t = some d) (hd : (match d with | .struct _ | .array _ _ => true | _ => false) = true) (hi : (P.info? t).map (·.size) = some cells.size)
    (h : wpList P ops Q rest (a.put o.dst (.agg cells)) W) : wpList P ops Q (o :: rest) a W :=
  wpList_plain hgd fun K hK => by
    have hr := run_loadAt_row (P := P) W b e t cells d hb hu hd hi
    unfold Oper.wp execOp
    simp only [ho, hp, Sem.run_bind, Sem.run_pure, Result.andThen_ok, hr]
    exact hK _ _ h
def zeros156 : Array Value := #[.pointer none, .slice none 0 0, .slice none 0 0, .map none, .slice none 0 0, .string ⟨#[]⟩, .int .i64 0, .int .i64 0, .int .i64 0, .int .i64 0, .int .i64 0, .int .i64 0, .bool false, .int .i64 0, .int .i64 0, .int .i64 0, .int .i32 0, .int .u32 0, .bool false, .bool false, .bool false, .bool false]
def builderC (asc : Bool) (b : Nat) : Array Value := #[.pointer none, .slice none 0 0, .slice none 0 0, .map (some b), .slice none 0 0, .string ⟨#[]⟩, .int .i64 0, .int .i64 0, .int .i64 0, .int .i64 0, .int .i64 0, .int .i64 0, .bool false, .int .i64 0, .int .i64 0, .int .i64 0, .int .i32 (-1), .int .u32 0, .bool false, .bool asc, .bool false, .bool true]
theorem grown_setRow {a b : World} (h : a.grownBy b none) {g : Nat} (hg : a.heap.size ≤ g) (cs : Array Value) : a.grownBy (b.setRow g cs) none :=
  ⟨h.os, h.tape, h.output, by have := h.size; simp [World.setRow]; exact this, fun k hk _ => (setRow_other b g k cs (by omega)).trans (h.block k hk (by simp))⟩

set_option maxRecDepth 100000 in
set_option maxHeartbeats 4000000 in
theorem c55 (asc : Bool) (w : World) : Calls Tryz.prog 55 #[.pointer none, .slice none 0 0, .bool asc] w fun e w' => ∃ b, e = .returned (.agg (builderC asc b)) ∧ w.grownBy w' none := by
  have hmm := @run_makeMap Tryz.prog
  have HG : Hid (w.grownBy (w.alloc (.cells zeros156 156 (0, 0))) none) := Lib.hid (grown_alloc (grown_refl _ _) _)
  have HB := new_blk w (.cells zeros156 156 (0, 0))
  unfold zeros156 at HG HB
  unfold builderC
  go_enter Tryz.func55, Tryz.ntmps55
  go_upto_region 1 with (fail)
  generalize w.alloc (.cells #[.pointer none, .slice none 0 0, .slice none 0 0, .map none, .slice none 0 0, .string ⟨#[]⟩, .int .i64 0, .int .i64 0, .int .i64 0, .int .i64 0, .int .i64 0, .int .i64 0, .bool false, .int .i64 0, .int .i64 0, .int .i64 0, .int .i32 0, .int .u32 0, .bool false, .bool false, .bool false, .bool false] 156 (0, 0)) = wz at HB HG ⊢
  have HB2 : Hid (∀ o, (wz.alloc o).heap[w.heap.size]? = some (.cells #[.pointer none, .slice none 0 0, .slice none 0 0, .map none, .slice none 0 0, .string ⟨#[]⟩, .int .i64 0, .int .i64 0, .int .i64 0, .int .i64 0, .int .i64 0, .int .i64 0, .bool false, .int .i64 0, .int .i64 0, .int .i64 0, .int .i32 0, .int .u32 0, .bool false, .bool false, .bool false, .bool false] 156 (0, 0))) := Lib.hid fun o => free_keep (grown_alloc (grown_refl _ _) o) HB
  clear HB
  go_wp2_with (refine wpList_store_row rfl 156 (.tmp 6) (.tmp 14) rfl rfl w.heap.size 156 _ _ rfl rfl (HB2.out _) (by kernel_rfl) rfl (by kernel_rfl) ?_)
  refine bodyPost_ret (v := .agg #[.pointer none, .slice none 0 0, .slice none 0 0, .map (some wz.heap.size), .slice none 0 0, .string ⟨#[]⟩, .int .i64 0, .int .i64 0, .int .i64 0, .int .i64 0, .int .i64 0, .int .i64 0, .bool false, .int .i64 0, .int .i64 0, .int .i64 0, .int .i32 (-1), .int .u32 0, .bool false, .bool asc, .bool false, .bool true]) (results_cell rfl rfl (run_loadVar_row _ w.heap.size 156 156 _ (0, 0) _ (setRow_heap _ _ _ _ _ _ (HB2.out _)) Tryz.underlying156 rfl (by kernel_rfl))) rfl ⟨wz.heap.size, rfl, grown_setRow (grown_alloc HG.out _) (Nat.le_refl _) _⟩

set_option maxRecDepth 100000 in
theorem c46 (w : World) : Calls Tryz.prog 46 #[.int .i64 1] w fun e w' => ∃ b, e = .returned (.agg #[.slice (some ⟨b, 0, none⟩) 1 1]) ∧ w.grownBy w' none := by
  have hmk : ∃ o, ∀ W, (Instr.makeSlice 131 (.int .i64 1) (.int .i64 1)).run Tryz.prog W = .ok (.slice (some ⟨W.heap.size, 0, none⟩) 1 1) (W.alloc o) := by
    have h : (Tryz.prog.info? 106).map (fun i => (i.zero.map (·.cells.size), i.size, i.bytes)) = some (some 1, 1, 24) := by kernel_rfl
    obtain ⟨i, hi, hh⟩ := Option.map_eq_some_iff.1 h
    simp only [Prod.mk.injEq] at hh
    obtain ⟨z, hz, hzs⟩ := Option.map_eq_some_iff.1 hh.1
    exact ⟨_, fun W => run_makeSlice (P := Tryz.prog) W 131 106 i z Tryz.underlying131 hi hz .i64 .i64 1 1 (by omega) (by omega) (by rw [hh.2.1]; decide) (by rw [hh.2.2]; decide) (by omega)⟩
  obtain ⟨o, hmk⟩ := hmk
  have HG : Hid (∀ o1 o2, w.grownBy ((w.alloc o1).alloc o2) none) := Lib.hid fun o1 o2 => grown_alloc (grown_alloc (grown_refl _ _) _) _
  go_enter Tryz.func46, Tryz.ntmps46
  go_wp2_with fail
  exact bodyPost_ret (v := .agg #[.slice (some ⟨w.heap.size + 1, 0, none⟩) 1 1]) (results_cell rfl rfl (run_loadVar_row _ w.heap.size 133 133 #[.slice (some ⟨w.heap.size + 1, 0, none⟩) 1 1] (0, 0) _ (free_keep (grown_alloc (grown_refl _ _) _) (new_blk _ _)) Tryz.underlying133 rfl (by kernel_rfl))) rfl ⟨_, rfl, HG.out _ _⟩
end Go.Proofs.YtkfdcbdlcipmfaaGreatFmt
/- Print, over one rule. -/
namespace Go.Proofs.YtkfdcbdlcipmfaaGreatFmt
open Go.RowKit Go.Extern.Stop Go.Stop Go.Extern

def treeC (xl : Nat) : Array Value := #[.slice none 0 0, .pointer none, .slice none 0 0, .slice (some ⟨xl, 0, none⟩) 1 1, .string ⟨#[]⟩, .int .i32 0, .int .i32 0, .int .i32 0, .slice none 0 0, .map none, .map none, .map none, .slice none 0 0, .slice none 0 0]
def optC (ws asc : Bool) : Array Value := #[.pointer none, .slice none 0 0, .map none, .int .i64 0, .int .u32 0, .int .u16 0, .bool ws, .bool asc, .int .u8 0, .bool false, .int .u8 0, .bool false, .int .u8 0]
def zeros129 : Array Value := #[.slice none 0 0, .slice none 0 0, .slice none 0 0, .slice none 0 0, .int .u32 0, .slice none 0 0, .int .i64 0, .int .i64 0, .int .i64 0, .int .i64 0, .int .i64 0, .int .i64 0, .bool false, .int .i64 0, .bool false]

def outC (A : Option Addr) (n c : Nat) : Array Value := #[.slice A n c, .slice none 0 0, .slice none 0 0, .slice none 0 0, .int .u32 0, .slice none 0 0, .int .i64 0, .int .i64 0, .int .i64 0, .int .i64 0, .int .i64 0, .int .i64 0, .bool false, .int .i64 0, .bool false]
theorem all129 {v : Value} (h : v.oneCell' = true) : (#[v, .slice none 0 0, .slice none 0 0, .slice none 0 0, .int .u32 0, .slice none 0 0, .int .i64 0, .int .i64 0, .int .i64 0, .int .i64 0, .int .i64 0, .int .i64 0, .bool false, .int .i64 0, .bool false] : Array Value).all (·.oneCell') = true := by
  simp [Value.oneCell']
  exact h

set_option maxRecDepth 400000 in
set_option maxHeartbeats 40000000 in
theorem c45 {w : World} {ws asc : Bool} {xl bs t xr : Nat} {Q : List Int → Prop} (hx : w.heap[xl]? = some (.cells #[.iface t (.pointer (some ⟨xr, 0, none⟩)), .int .i32 0] 81 (0, 0)))
    (HR : ∀ (w1 : World) (g base : Nat) (v : Value), w.grownBy w1 none → Px w1 base g ws asc v [] → w.heap.size ≤ g → Calls Tryz.prog 56 #[.pointer (some ⟨g, 0, none⟩), .agg #[.iface t (.pointer (some ⟨xr, 0, none⟩)), .int .i32 0], .int .i32 0, .bool false] w1 fun e w' => e = .returned (.tuple #[]) ∧ ∃ X v', Q X ∧ Px w' base g ws asc v' (Css.enc X) ∧ Kv w1 w' g v v') :
    Calls Tryz.prog 45 #[.agg (treeC xl), .agg #[.slice (some ⟨bs, 0, none⟩) 1 1], .agg (optC ws asc)] w fun e w' => ∃ (X : List Int) (A' : Option Addr) (c' base : Nat), e = .returned (.agg (outC A' (Css.enc X).length c')) ∧ w.grownBy w' none ∧ Q X ∧ w'.ownsRow base 5 1 (.slice A' (Css.enc X).length c') (Css.enc X).length (bc (Css.enc X)) := by
  have HX := Lib.hid hx
  have H56 := Lib.hid HR
  clear hx HR
  have HB : Hid (∀ wa, wa = (((w.alloc (.cells (treeC xl) 116 (0, 0))).alloc (.cells #[.slice (some ⟨bs, 0, none⟩) 1 1] 133 (0, 0))).alloc (.cells (optC ws asc) 143 (0, 0))).alloc (.cells zeros129 129 (0, 0)) → w.grownBy wa none ∧ wa.heap.size = w.heap.size + 4 ∧ wa.heap[w.heap.size]? = some (.cells (treeC xl) 116 (0, 0)) ∧ wa.heap[w.heap.size + 1]? = some (.cells #[.slice (some ⟨bs, 0, none⟩) 1 1] 133 (0, 0)) ∧ wa.heap[w.heap.size + 1 + 1]? = some (.cells (optC ws asc) 143 (0, 0)) ∧ wa.heap[w.heap.size + 1 + 1 + 1]? = some (.cells zeros129 129 (0, 0))) := Lib.hid fun wa e => by
    subst e
    have g1 := grown_alloc (grown_refl (w.alloc (.cells (treeC xl) 116 (0, 0))) none) (.cells #[.slice (some ⟨bs, 0, none⟩) 1 1] 133 (0, 0))
    have g2 := grown_alloc (grown_refl ((w.alloc (.cells (treeC xl) 116 (0, 0))).alloc (.cells #[.slice (some ⟨bs, 0, none⟩) 1 1] 133 (0, 0))) none) (.cells (optC ws asc) 143 (0, 0))
    have g3 := grown_alloc (grown_refl (((w.alloc (.cells (treeC xl) 116 (0, 0))).alloc (.cells #[.slice (some ⟨bs, 0, none⟩) 1 1] 133 (0, 0))).alloc (.cells (optC ws asc) 143 (0, 0))) none) (.cells zeros129 129 (0, 0))
    refine ⟨grown_trans (grown_alloc (grown_refl _ _) _) (grown_trans g1 (grown_trans g2 g3)), by simp, ?_, ?_, ?_, ?_⟩
    · exact free_keep g3 (free_keep g2 (free_keep g1 (new_blk w _)))
    · exact free_keep g3 (free_keep g2 (new_blk' (by simp)))
    · exact free_keep g3 (new_blk' (by simp))
    · exact new_blk' (by simp)
  unfold treeC optC zeros129 at HB
  unfold treeC optC
  go_enter Tryz.func45, Tryz.ntmps45
  have hin : ∀ W : World, W.grownBy W none := fun W => grown_refl W none
  have hs4 : w.heap.size + 1 + 1 + 1 < w.heap.size + 4 := by omega
  go_upto_region 1 with (fail)
  generalize hwa : (((w.alloc (.cells #[.slice none 0 0, .pointer none, .slice none 0 0, .slice (some ⟨xl, 0, none⟩) 1 1, .string ⟨#[]⟩, .int .i32 0, .int .i32 0, .int .i32 0, .slice none 0 0, .map none, .map none, .map none, .slice none 0 0, .slice none 0 0] 116 (0, 0))).alloc (.cells #[.slice (some ⟨bs, 0, none⟩) 1 1] 133 (0, 0))).alloc (.cells #[.pointer none, .slice none 0 0, .map none, .int .i64 0, .int .u32 0, .int .u16 0, .bool ws, .bool asc, .int .u8 0, .bool false, .int .u8 0, .bool false, .int .u8 0] 143 (0, 0))).alloc (.cells #[.slice none 0 0, .slice none 0 0, .slice none 0 0, .slice none 0 0, .int .u32 0, .slice none 0 0, .int .i64 0, .int .i64 0, .int .i64 0, .int .i64 0, .int .i64 0, .int .i64 0, .bool false, .int .i64 0, .bool false] 129 (0, 0)) = wa
  have HB := Lib.hid (HB.out wa hwa.symm)
  clear hwa
  have FACTS : Hid (∀ W, wa.grownBy W none → wa.grownBy W none ∧ W.cell? ⟨w.heap.size, 2, none⟩ = some (.slice none 0 0) ∧ W.cell? ⟨w.heap.size + 1, 0, none⟩ = some (.slice (some ⟨bs, 0, none⟩) 1 1) ∧ W.cell? ⟨w.heap.size + 1 + 1, 0, none⟩ = some (.pointer none) ∧ W.cell? ⟨w.heap.size + 1 + 1, 1, none⟩ = some (.slice none 0 0) ∧ W.cell? ⟨w.heap.size + 1 + 1, 2, none⟩ = some (.map none) ∧ W.cell? ⟨w.heap.size + 1 + 1, 3, none⟩ = some (.int .i64 0) ∧ W.cell? ⟨w.heap.size + 1 + 1, 4, none⟩ = some (.int .u32 0) ∧ W.cell? ⟨w.heap.size + 1 + 1, 5, none⟩ = some (.int .u16 0) ∧ W.cell? ⟨w.heap.size + 1 + 1, 6, none⟩ = some (.bool ws) ∧ W.cell? ⟨w.heap.size + 1 + 1, 7, none⟩ = some (.bool asc) ∧ W.cell? ⟨w.heap.size + 1 + 1, 8, none⟩ = some (.int .u8 0) ∧ W.cell? ⟨w.heap.size + 1 + 1, 9, none⟩ = some (.bool false) ∧ W.cell? ⟨w.heap.size + 1 + 1, 10, none⟩ = some (.int .u8 0) ∧ W.cell? ⟨w.heap.size + 1 + 1, 11, none⟩ = some (.bool false) ∧ W.cell? ⟨w.heap.size + 1 + 1, 12, none⟩ = some (.int .u8 0)) := Lib.hid fun W hW => ⟨hW, cell_blk (free_keep hW HB.out.2.2.1) (i := 2) rfl, cell_blk (free_keep hW HB.out.2.2.2.1) (i := 0) rfl, cell_blk (free_keep hW HB.out.2.2.2.2.1) (i := 0) rfl, cell_blk (free_keep hW HB.out.2.2.2.2.1) (i := 1) rfl, cell_blk (free_keep hW HB.out.2.2.2.2.1) (i := 2) rfl, cell_blk (free_keep hW HB.out.2.2.2.2.1) (i := 3) rfl, cell_blk (free_keep hW HB.out.2.2.2.2.1) (i := 4) rfl, cell_blk (free_keep hW HB.out.2.2.2.2.1) (i := 5) rfl, cell_blk (free_keep hW HB.out.2.2.2.2.1) (i := 6) rfl, cell_blk (free_keep hW HB.out.2.2.2.2.1) (i := 7) rfl, cell_blk (free_keep hW HB.out.2.2.2.2.1) (i := 8) rfl, cell_blk (free_keep hW HB.out.2.2.2.2.1) (i := 9) rfl, cell_blk (free_keep hW HB.out.2.2.2.2.1) (i := 10) rfl, cell_blk (free_keep hW HB.out.2.2.2.2.1) (i := 11) rfl, cell_blk (free_keep hW HB.out.2.2.2.2.1) (i := 12) rfl⟩
  have H55 : Hid (∀ W, Calls Tryz.prog 55 #[.pointer none, .slice none 0 0, .bool asc] W fun e w' => ∃ b, e = .returned (.agg #[.pointer none, .slice none 0 0, .slice none 0 0, .map (some b), .slice none 0 0, .string ⟨#[]⟩, .int .i64 0, .int .i64 0, .int .i64 0, .int .i64 0, .int .i64 0, .int .i64 0, .bool false, .int .i64 0, .int .i64 0, .int .i64 0, .int .i32 (-1), .int .u32 0, .bool false, .bool asc, .bool false, .bool true]) ∧ W.grownBy w' none) := Lib.hid fun W => c55 asc W
  go_cut [7] from 11 to 22 (fun v7 wc => ∃ (g : Nat) (b : Nat), v7 = .pointer (some ⟨g, 0, none⟩) ∧ wa.heap.size ≤ g ∧ Hid (wa.grownBy wc none ∧ wc.heap[g]? = some (.cells #[.pointer none, .slice none 0 0, .map none, .int .i64 0, .int .u32 0, .int .u16 0, .bool ws, .bool asc, .int .u8 0, .bool false, .int .u8 0, .bool false, .int .u8 0, .slice (some ⟨bs, 0, none⟩) 1 1, .slice none 0 0, .slice none 0 0, .map none, .slice none 0 0, .slice none 0 0, .pointer none, .slice none 0 0, .slice none 0 0, .map (some b), .slice none 0 0, .string ⟨#[]⟩, .int .i64 0, .int .i64 0, .int .i64 0, .int .i64 0, .int .i64 0, .int .i64 0, .bool false, .int .i64 0, .int .i64 0, .int .i64 0, .int .i32 (-1), .int .u32 0, .bool false, .bool asc, .bool false, .bool true, .int .i64 0, .int .i64 0] 160 (0, 0))))
  case first =>
    refine wp_region_held_drew (S := fun W => wa.grownBy W none ∧ W.cell? ⟨w.heap.size, 2, none⟩ = some (.slice none 0 0) ∧ W.cell? ⟨w.heap.size + 1, 0, none⟩ = some (.slice (some ⟨bs, 0, none⟩) 1 1) ∧ W.cell? ⟨w.heap.size + 1 + 1, 0, none⟩ = some (.pointer none) ∧ W.cell? ⟨w.heap.size + 1 + 1, 1, none⟩ = some (.slice none 0 0) ∧ W.cell? ⟨w.heap.size + 1 + 1, 2, none⟩ = some (.map none) ∧ W.cell? ⟨w.heap.size + 1 + 1, 3, none⟩ = some (.int .i64 0) ∧ W.cell? ⟨w.heap.size + 1 + 1, 4, none⟩ = some (.int .u32 0) ∧ W.cell? ⟨w.heap.size + 1 + 1, 5, none⟩ = some (.int .u16 0) ∧ W.cell? ⟨w.heap.size + 1 + 1, 6, none⟩ = some (.bool ws) ∧ W.cell? ⟨w.heap.size + 1 + 1, 7, none⟩ = some (.bool asc) ∧ W.cell? ⟨w.heap.size + 1 + 1, 8, none⟩ = some (.int .u8 0) ∧ W.cell? ⟨w.heap.size + 1 + 1, 9, none⟩ = some (.bool false) ∧ W.cell? ⟨w.heap.size + 1 + 1, 10, none⟩ = some (.int .u8 0) ∧ W.cell? ⟨w.heap.size + 1 + 1, 11, none⟩ = some (.bool false) ∧ W.cell? ⟨w.heap.size + 1 + 1, 12, none⟩ = some (.int .u8 0)) (by kernel_rfl) (by exact FACTS.out _ (grown_drew (grown_refl wa none))) (fun hHeld => ?_)
    refine held_take (i := 0) (d := 11) (v := ?v1) rfl rfl (by kernel_rfl) (by kernel_rfl) (by kernel_rfl) (fun _ _ _ h => h) (Or.inl ⟨by kernel_rfl, ?hy1⟩) (by assumption) ?rest1
    case hy1 => (intro w hSw; (try dsimp only at hSw); go_simp; try with_reducible rfl)
    try simp only [Act.put, List.setIfInBounds_toArray, List.set_cons_zero, List.set_cons_succ]
    refine held_take (i := 1) (d := 12) (v := ?v2) rfl rfl (by kernel_rfl) (by kernel_rfl) (by kernel_rfl) (fun _ _ _ h => h) (Or.inl ⟨by kernel_rfl, ?hy2⟩) (by assumption) ?rest2
    case hy2 => (intro w hSw; (try dsimp only at hSw); go_simp; try with_reducible rfl)
    try simp only [Act.put, List.setIfInBounds_toArray, List.set_cons_zero, List.set_cons_succ]
    refine held_take (i := 2) (d := 13) (v := ?v3) rfl rfl (by kernel_rfl) (by kernel_rfl) (by kernel_rfl) (fun _ _ _ h => h) (Or.inl ⟨by kernel_rfl, ?hy3⟩) (by assumption) ?rest3
    case hy3 => (intro w hSw; (try dsimp only at hSw); go_simp; try with_reducible rfl)
    try simp only [Act.put, List.setIfInBounds_toArray, List.set_cons_zero, List.set_cons_succ]
    refine held_take (i := 3) (d := 14) (v := ?v4) rfl rfl (by kernel_rfl) (by kernel_rfl) (by kernel_rfl) (fun _ _ _ h => h) (Or.inl ⟨by kernel_rfl, ?hy4⟩) (by assumption) ?rest4
    case hy4 => (intro w hSw; (try dsimp only at hSw); go_simp; try with_reducible rfl)
    try simp only [Act.put, List.setIfInBounds_toArray, List.set_cons_zero, List.set_cons_succ]
    refine held_take (i := 4) (d := 15) (v := ?v5) rfl rfl (by kernel_rfl) (by kernel_rfl) (by kernel_rfl) (fun _ _ _ h => h) (Or.inl ⟨by kernel_rfl, ?hy5⟩) (by assumption) ?rest5
    case hy5 => (intro w hSw; (try dsimp only at hSw); go_simp; try with_reducible rfl)
    try simp only [Act.put, List.setIfInBounds_toArray, List.set_cons_zero, List.set_cons_succ]
    refine held_take (i := 5) (d := 16) (v := ?v6) rfl rfl (by kernel_rfl) (by kernel_rfl) (by kernel_rfl) (fun _ _ _ h => h) (Or.inl ⟨by kernel_rfl, ?hy6⟩) (by assumption) ?rest6
    case hy6 => (intro w hSw; (try dsimp only at hSw); go_simp; try with_reducible rfl)
    try simp only [Act.put, List.setIfInBounds_toArray, List.set_cons_zero, List.set_cons_succ]
    refine held_take (i := 6) (d := 17) (v := ?v7) rfl rfl (by kernel_rfl) (by kernel_rfl) (by kernel_rfl) (fun _ _ _ h => h) (Or.inl ⟨by kernel_rfl, ?hy7⟩) (by assumption) ?rest7
    case hy7 => (intro w hSw; (try dsimp only at hSw); go_simp; try with_reducible rfl)
    try simp only [Act.put, List.setIfInBounds_toArray, List.set_cons_zero, List.set_cons_succ]
    refine held_take (i := 7) (d := 18) (v := ?v8) rfl rfl (by kernel_rfl) (by kernel_rfl) (by kernel_rfl) (fun _ _ _ h => h) (Or.inl ⟨by kernel_rfl, ?hy8⟩) (by assumption) ?rest8
    case hy8 => (intro w hSw; (try dsimp only at hSw); go_simp; try with_reducible rfl)
    try simp only [Act.put, List.setIfInBounds_toArray, List.set_cons_zero, List.set_cons_succ]
    refine held_take (i := 8) (d := 19) (v := ?v9) rfl rfl (by kernel_rfl) (by kernel_rfl) (by kernel_rfl) (fun _ _ _ h => h) (Or.inl ⟨by kernel_rfl, ?hy9⟩) (by assumption) ?rest9
    case hy9 => (intro w hSw; (try dsimp only at hSw); go_simp; try with_reducible rfl)
    try simp only [Act.put, List.setIfInBounds_toArray, List.set_cons_zero, List.set_cons_succ]
    refine held_take (i := 9) (d := 20) (v := ?v10) rfl rfl (by kernel_rfl) (by kernel_rfl) (by kernel_rfl) (fun _ _ _ h => h) (Or.inl ⟨by kernel_rfl, ?hy10⟩) (by assumption) ?rest10
    case hy10 => (intro w hSw; (try dsimp only at hSw); go_simp; try with_reducible rfl)
    try simp only [Act.put, List.setIfInBounds_toArray, List.set_cons_zero, List.set_cons_succ]
    refine wpAnyH_ready (rs := [10, 12]) (by kernel_rfl) (by simp) ?_
    refine AllReadyH.cons rfl (fun K hK => ?_) (AllReadyH.cons rfl (fun K hK => ?_) AllReadyH.nil)
    · skip
      go_simp
      refine (H55.out _).mono ?_
      rintro e w5 ⟨b, rfl, hg5⟩
      have hg6 := Lib.hid (grown_trans (grown_drew (grown_refl wa none)) hg5)
      go_wp2_with fail
      refine hK.out _ _ (FACTS.out _ hg6.out) (fun hHeld => ?_)
      clear hK K
      try simp only [Act.put, List.setIfInBounds_toArray, List.set_cons_zero, List.set_cons_succ]
      refine held_take (i := 11) (d := 22) (v := ?v11) rfl rfl (by kernel_rfl) (by kernel_rfl) (by kernel_rfl) (fun _ _ _ h => h) (Or.inl ⟨by kernel_rfl, ?hy11⟩) (by assumption) ?rest11
      case hy11 => (intro w hSw; (try dsimp only at hSw); go_simp; try with_reducible rfl)
      try simp only [Act.put, List.setIfInBounds_toArray, List.set_cons_zero, List.set_cons_succ]
      refine wpAnyH_ready (rs := [12]) (by kernel_rfl) (by simp) ?_
      refine AllReadyH.cons rfl (fun K hK => ?_) AllReadyH.nil
      go_simp
      refine hK.out _ _ (FACTS.out _ (grown_alloc hg6.out _)) (fun hHeld => ?_)
      clear hK K
      try simp only [Act.put, List.setIfInBounds_toArray, List.set_cons_zero, List.set_cons_succ]
      refine wpAnyH_ready (rs := [13]) (by kernel_rfl) (by simp) ?_
      refine AllReadyH.cons rfl (fun K hK => ?_) AllReadyH.nil
      have HBK := Lib.hid (new_blk w5 (.cells #[.pointer none, .slice none 0 0, .map none, .int .i64 0, .int .u32 0, .int .u16 0, .bool false, .bool false, .int .u8 0, .bool false, .int .u8 0, .bool false, .int .u8 0, .slice none 0 0, .slice none 0 0, .slice none 0 0, .map none, .slice none 0 0, .slice none 0 0, .pointer none, .slice none 0 0, .slice none 0 0, .map none, .slice none 0 0, .string ⟨#[]⟩, .int .i64 0, .int .i64 0, .int .i64 0, .int .i64 0, .int .i64 0, .int .i64 0, .bool false, .int .i64 0, .int .i64 0, .int .i64 0, .int .i32 0, .int .u32 0, .bool false, .bool false, .bool false, .bool false, .int .i64 0, .int .i64 0] 160 (0, 0)))
      refine step_store_row rfl 160 (.tmp 7) (.tmp 22) rfl rfl w5.heap.size 160 _ _ rfl rfl HBK.out (by kernel_rfl) rfl (by kernel_rfl) ?_
      have HGS := Lib.hid (fun cs => grown_setRow (a := wa) (grown_alloc hg6.out (.cells #[.pointer none, .slice none 0 0, .map none, .int .i64 0, .int .u32 0, .int .u16 0, .bool false, .bool false, .int .u8 0, .bool false, .int .u8 0, .bool false, .int .u8 0, .slice none 0 0, .slice none 0 0, .slice none 0 0, .map none, .slice none 0 0, .slice none 0 0, .pointer none, .slice none 0 0, .slice none 0 0, .map none, .slice none 0 0, .string ⟨#[]⟩, .int .i64 0, .int .i64 0, .int .i64 0, .int .i64 0, .int .i64 0, .int .i64 0, .bool false, .int .i64 0, .int .i64 0, .int .i64 0, .int .i32 0, .int .u32 0, .bool false, .bool false, .bool false, .bool false, .int .i64 0, .int .i64 0] 160 (0, 0))) (g := w5.heap.size) (by first | exact hg6.out.size | exact Nat.le_refl _) cs)
      refine hK.out _ _ (FACTS.out _ (HGS.out _)) (fun hHeld => ?_)
      clear hK K
      refine wpAnyH_done (by kernel_rfl) ?_ _
      go_wp2_with fail
      go_meet
      exact ⟨w5.heap.size, b, rfl, (by first | exact hg6.out.size | exact Nat.le_refl _), Lib.hid ⟨HGS.out _, setRow_heap _ _ _ _ _ _ HBK.out⟩⟩
    · skip
      go_simp
      refine hK.out _ _ (FACTS.out _ (grown_alloc (grown_drew (grown_refl wa none)) _)) (fun hHeld => ?_)
      clear hK K
      try simp only [Act.put, List.setIfInBounds_toArray, List.set_cons_zero, List.set_cons_succ]
      refine wpAnyH_ready (rs := [10]) (by kernel_rfl) (by simp) ?_
      refine AllReadyH.cons rfl (fun K hK => ?_) AllReadyH.nil
      go_simp
      refine (H55.out _).mono ?_
      rintro e w5 ⟨b, rfl, hg5⟩
      have hg6 := Lib.hid (grown_trans (grown_alloc (grown_drew (grown_refl wa none)) _) hg5)
      go_wp2_with fail
      refine hK.out _ _ (FACTS.out _ hg6.out) (fun hHeld => ?_)
      clear hK K
      try simp only [Act.put, List.setIfInBounds_toArray, List.set_cons_zero, List.set_cons_succ]
      refine held_take (i := 11) (d := 22) (v := ?v12) rfl rfl (by kernel_rfl) (by kernel_rfl) (by kernel_rfl) (fun _ _ _ h => h) (Or.inl ⟨by kernel_rfl, ?hy12⟩) (by assumption) ?rest12
      case hy12 => (intro w hSw; (try dsimp only at hSw); go_simp; try with_reducible rfl)
      try simp only [Act.put, List.setIfInBounds_toArray, List.set_cons_zero, List.set_cons_succ]
      refine wpAnyH_ready (rs := [13]) (by kernel_rfl) (by simp) ?_
      refine AllReadyH.cons rfl (fun K hK => ?_) AllReadyH.nil
      have HBK := Lib.hid (free_keep (show (wa.alloc (.cells #[.pointer none, .slice none 0 0, .map none, .int .i64 0, .int .u32 0, .int .u16 0, .bool false, .bool false, .int .u8 0, .bool false, .int .u8 0, .bool false, .int .u8 0, .slice none 0 0, .slice none 0 0, .slice none 0 0, .map none, .slice none 0 0, .slice none 0 0, .pointer none, .slice none 0 0, .slice none 0 0, .map none, .slice none 0 0, .string ⟨#[]⟩, .int .i64 0, .int .i64 0, .int .i64 0, .int .i64 0, .int .i64 0, .int .i64 0, .bool false, .int .i64 0, .int .i64 0, .int .i64 0, .int .i32 0, .int .u32 0, .bool false, .bool false, .bool false, .bool false, .int .i64 0, .int .i64 0] 160 (0, 0))).grownBy w5 none from ⟨hg5.os, hg5.tape, hg5.output, hg5.size, hg5.block⟩) (new_blk wa _))
      refine step_store_row rfl 160 (.tmp 7) (.tmp 22) rfl rfl wa.heap.size 160 _ _ rfl rfl HBK.out (by kernel_rfl) rfl (by kernel_rfl) ?_
      have HGS := Lib.hid (fun cs => grown_setRow (a := wa) hg6.out (g := wa.heap.size) (by first | exact hg6.out.size | exact Nat.le_refl _) cs)
      refine hK.out _ _ (FACTS.out _ (HGS.out _)) (fun hHeld => ?_)
      clear hK K
      refine wpAnyH_done (by kernel_rfl) ?_ _
      go_wp2_with fail
      go_meet
      exact ⟨wa.heap.size, b, rfl, (by first | exact hg6.out.size | exact Nat.le_refl _), Lib.hid ⟨HGS.out _, setRow_heap _ _ _ _ _ _ HBK.out⟩⟩
  case rest =>
    obtain ⟨g, b, rfl, hgs, HC⟩ := hcut
    have hgl := lt_of_block HC.out.2
    have HBx : Hid (∀ W, wa.grownBy W none → W.heap[w.heap.size]? = some (.cells #[.slice none 0 0, .pointer none, .slice none 0 0, .slice (some ⟨xl, 0, none⟩) 1 1, .string ⟨#[]⟩, .int .i32 0, .int .i32 0, .int .i32 0, .slice none 0 0, .map none, .map none, .map none, .slice none 0 0, .slice none 0 0] 116 (0, 0)) ∧ W.heap[w.heap.size + 1 + 1 + 1]? = some (.cells #[.slice none 0 0, .slice none 0 0, .slice none 0 0, .slice none 0 0, .int .u32 0, .slice none 0 0, .int .i64 0, .int .i64 0, .int .i64 0, .int .i64 0, .int .i64 0, .int .i64 0, .bool false, .int .i64 0, .bool false] 129 (0, 0)) ∧ W.heap[xl]? = some (.cells #[.iface t (.pointer (some ⟨xr, 0, none⟩)), .int .i32 0] 81 (0, 0)) ∧ W.cell? ⟨w.heap.size + 1 + 1, 8, none⟩ = some (.int .u8 0)) := Lib.hid fun W hW => ⟨free_keep hW HB.out.2.2.1, free_keep hW HB.out.2.2.2.2.2, free_keep (grown_trans HB.out.1 hW) HX.out, cell_blk (free_keep hW HB.out.2.2.2.2.1) (i := 8) rfl⟩
    have HP0 : Hid (Px wc wc.heap.size g ws asc (.slice none 0 0) []) := Lib.hid ⟨⟨_, HC.out.2, ⟨rfl, rfl, rfl, rfl, rfl, rfl, rfl, rfl, rfl⟩⟩, World.ownsRow_nil _ _ _ _, hgl, Nat.le_refl _⟩
    have HG4 : Hid (w.heap.size + 4 ≤ g ∧ w.heap.size + 4 ≤ wc.heap.size ∧ w.heap.size ≤ g) := Lib.hid (by have := HB.out.2.1; omega)
    have HWA : Hid (w.grownBy wa none) := Lib.hid HB.out.1
    have x0 := cell_blk (HBx.out wc HC.out.1).1 (i := 3) rfl
    clear FACTS HB HX hin hs4 H55 hgl
    go_wp2_with fail
    clear x0
    go_loopg [26] 1 (fun gk s26 wr => ∃ k : Nat, s26 = .int .i64 k ∧ k ≤ 1 ∧ gk = 1 - k ∧ Hid (wa.grownBy wr none ∧ (k = 0 → Px wr wc.heap.size g ws asc (.slice none 0 0) []) ∧ (k = 1 → ∃ X v, Q X ∧ Px wr wc.heap.size g ws asc v (Css.enc X))))
    case atStart => exact ⟨0, rfl, by omega, rfl, Lib.hid ⟨HC.out.1, fun _ => HP0.out, fun e => by omega⟩⟩
    case round =>
      clear HP0 HC
      obtain ⟨k, rfl, hk, rfl, HW⟩ := hrel
      by_cases h0 : k = 0
      · subst h0
        have hP := HW.out.2.1 rfl
        have b0 := cell_blk (HBx.out wr HW.out.1).2.2.1 (i := 0) rfl
        have b1 := cell_blk (HBx.out wr HW.out.1).2.2.1 (i := 1) rfl
        have HX2 : Hid (∀ o, wa.grownBy (wr.alloc o) none ∧ Px (wr.alloc o) wc.heap.size g ws asc (.slice none 0 0) []) := Lib.hid fun o => ⟨grown_alloc HW.out.1 o, hP.alloc o⟩
        clear hP
        go_wp2_with fail
        refine (H56.out _ g wc.heap.size _ (grown_trans HWA.out (HX2.out _).1) (HX2.out _).2 HG4.out.2.2).mono ?_
        rintro e w2 ⟨rfl, X, v2, hq, h2, hk2⟩
        have HZ : Hid (wa.grownBy w2 none ∧ Q X ∧ Px w2 wc.heap.size g ws asc v2 (Css.enc X)) := Lib.hid ⟨kv_free (HX2.out _).1 hk2 hgs (fun b hb => by simp [Value.ownBlock] at hb), hq, h2⟩
        clear hq h2 hk2 b0 b1 HX2
        go_wp2_with fail
        go_roundg 0
        case measure => omega
        case rel => exact ⟨1, rfl, by omega, rfl, Lib.hid ⟨HZ.out.1, fun e => by omega, fun _ => ⟨X, v2, HZ.out.2⟩⟩⟩
      · obtain rfl : k = 1 := by omega
        obtain ⟨X, v, hq, hP⟩ := HW.out.2.2 rfl
        obtain ⟨A', c', rfl⟩ := own_slice' hP.own
        have HP := Lib.hid hP
        have HQ := Lib.hid hq
        have HV : Hid (((.slice A' (Css.enc X).length c') : Value).oneCell' = true) := Lib.hid rfl
        have cv := hP.cells.2.2.2.2
        have c17 := hP.got.1
        have c18 := hP.got.2
        have HN : Hid (∀ wq, wq = (wr.alloc (.cells #[.slice none 0 0, .slice none 0 0, .slice none 0 0, .slice none 0 0, .int .u32 0, .slice none 0 0, .int .i64 0, .int .i64 0, .int .i64 0, .int .i64 0, .int .i64 0, .int .i64 0, .bool false, .int .i64 0, .bool false] 129 (0, 0))).setRow wr.heap.size #[(.slice A' (Css.enc X).length c'), .slice none 0 0, .slice none 0 0, .slice none 0 0, .int .u32 0, .slice none 0 0, .int .i64 0, .int .i64 0, .int .i64 0, .int .i64 0, .int .i64 0, .int .i64 0, .bool false, .int .i64 0, .bool false] → wa.grownBy wq none ∧ wq.heap[wr.heap.size]? = some (.cells #[(.slice A' (Css.enc X).length c'), .slice none 0 0, .slice none 0 0, .slice none 0 0, .int .u32 0, .slice none 0 0, .int .i64 0, .int .i64 0, .int .i64 0, .int .i64 0, .int .i64 0, .int .i64 0, .bool false, .int .i64 0, .bool false] 129 (0, 0)) ∧ wq.ownsRow wc.heap.size 5 1 (.slice A' (Css.enc X).length c') (Css.enc X).length (bc (Css.enc X))) := Lib.hid fun wq e => by
          subst e
          exact ⟨grown_setRow (grown_alloc HW.out.1 _) HW.out.1.size _, setRow_heap _ _ _ _ _ _ (new_blk _ _), own_free HP.out.own (grown_setRow (grown_alloc (grown_refl wr none) _) (Nat.le_refl _) _)⟩
        clear hq hP H56 HW
        go_upto_region 8 with (refine wpList_store_row rfl 129 (.tmp 10) (.tmp 39) rfl rfl wr.heap.size 129 _ _ rfl rfl (new_blk wr _) (by kernel_rfl) rfl (all129 HV.out) ?_)
        generalize hwq : (wr.alloc (.cells #[.slice none 0 0, .slice none 0 0, .slice none 0 0, .slice none 0 0, .int .u32 0, .slice none 0 0, .int .i64 0, .int .i64 0, .int .i64 0, .int .i64 0, .int .i64 0, .int .i64 0, .bool false, .int .i64 0, .bool false] 129 (0, 0))).setRow wr.heap.size #[(.slice A' (Css.enc X).length c'), .slice none 0 0, .slice none 0 0, .slice none 0 0, .int .u32 0, .slice none 0 0, .int .i64 0, .int .i64 0, .int .i64 0, .int .i64 0, .int .i64 0, .int .i64 0, .bool false, .int .i64 0, .bool false] = wq
        obtain ⟨n1, n2, n3⟩ := HN.out wq hwq.symm
        have N1 := Lib.hid n1
        have N2 := Lib.hid n2
        have N3 := Lib.hid n3
        have N4 := Lib.hid (HBx.out wq n1).2.1
        have o8 := (HBx.out wq n1).2.2.2
        clear n1 n2 n3 hwq HN cv c17 c18
        go_wp2_with (first | (refine wpList_load_row rfl 129 (.tmp 10) rfl wr.heap.size 129 #[(.slice A' (Css.enc X).length c'), .slice none 0 0, .slice none 0 0, .slice none 0 0, .int .u32 0, .slice none 0 0, .int .i64 0, .int .i64 0, .int .i64 0, .int .i64 0, .int .i64 0, .int .i64 0, .bool false, .int .i64 0, .bool false] _ rfl N2.out Tryz.underlying129 rfl (by kernel_rfl) ?_) | (refine wpList_store_row rfl 129 (.tmp 6) (.tmp 48) rfl rfl (w.heap.size + 1 + 1 + 1) 129 _ _ rfl rfl N4.out (by kernel_rfl) rfl (all129 HV.out) ?_))
        have hk : Kv wq (wq.setRow (w.heap.size + 1 + 1 + 1) #[(.slice A' (Css.enc X).length c'), .slice none 0 0, .slice none 0 0, .slice none 0 0, .int .u32 0, .slice none 0 0, .int .i64 0, .int .i64 0, .int .i64 0, .int .i64 0, .int .i64 0, .int .i64 0, .bool false, .int .i64 0, .bool false]) (w.heap.size + 1 + 1 + 1) (.slice none 0 0) (.slice none 0 0) := ⟨rfl, rfl, rfl, by simp [World.setRow], fun k hk h1 h2 => setRow_other _ _ _ _ (by first | exact h1 | exact Ne.symm h1), .inl rfl⟩
        have hown := own_kv N3.out hk (fun e => by have := own_base N3.out _ e.symm; have := HG4.out; omega) (by
          by_cases hn : ((.slice A' (Css.enc X).length c') : Value).ownBlock = none
          · exact .inl hn
          · exact .inr hn)
        refine bodyPost_ret (v := .agg #[(.slice A' (Css.enc X).length c'), .slice none 0 0, .slice none 0 0, .slice none 0 0, .int .u32 0, .slice none 0 0, .int .i64 0, .int .i64 0, .int .i64 0, .int .i64 0, .int .i64 0, .int .i64 0, .bool false, .int .i64 0, .bool false]) (results_cell rfl rfl (run_loadVar_row _ (w.heap.size + 1 + 1 + 1) 129 129 _ (0, 0) _ (setRow_heap _ _ _ _ _ _ N4.out) Tryz.underlying129 rfl (by kernel_rfl))) rfl ⟨X, A', c', wc.heap.size, rfl, grown_setRow (grown_trans HWA.out N1.out) (by omega) _, HQ.out, hown⟩
end Go.Proofs.YtkfdcbdlcipmfaaGreatFmt
