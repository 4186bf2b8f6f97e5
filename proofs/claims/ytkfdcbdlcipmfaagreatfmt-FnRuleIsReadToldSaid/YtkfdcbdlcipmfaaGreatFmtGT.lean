/- What the walk over fmt.Sprintf("\\%x", c) asks. -/
import Derived.Test.YtkfdcbdlcipmfaaGreatFmtProg
import Derived.WalkKit
import Derived.WalkLawsBesides
import Derived.WalkSpells
import Derived.BigQuiet
import Derived.Deep.QuietTactic
import Derived.Outline
import Derived.Laws.BitsLemmas
import Derived.Lib.Hide
import Derived.OneCell
import Derived.Deep.Draws
import Derived.Deep.LoopGhost
import Derived.Laws.BytesArg
import Derived.Laws.ResultCell
import Derived.Deep.DeepCutAuto
import Derived.Deep.CutBlock
import Derived.Deep.RegionLaw
import Derived.Maps.AppendAt
import Derived.Deep.AppendLies
import Derived.KernelRfl
import Derived.Laws.OwnMore
import Derived.Deep.RegionHeld3
import Derived.Lib.TrimUEq
import Derived.Laws.RangeAny
import Derived.Shelf.Spec.EncodeRune
import Derived.Stop.CallBack
import Derived.Stop.IfaceNil
import Derived.Stop.FmtTextLaws
import GoSem.ClaimData
import Derived.Deep.AppendSrc
import Derived.Maps.OwnOps
import Derived.Maps.Views
import Derived.Test.YtkfdcbdlcipmfaaGreatFmtGA
import Derived.Stop.FmtTextWidths
import Derived.Stop.FmtTextBases
import Derived.Stop.Told
import Derived.Laws.IdiomCopy
import Derived.Stop.Texts
import Derived.Test.YtkfdcbdlcipmfaaGreatFmtGR
set_option linter.unusedVariables false
set_option linter.unusedSimpArgs false
namespace Go.Proofs.YtkfdcbdlcipmfaaGreatFmt
open Go.RowKit Go.Extern.Stop Go.Stop Go.Extern
@[go_sem] theorem call106 (args : Array Value) (w : World) : (callFunc 106 args).run Tryz.prog w = ((FmtStop.sprintf #[9, 434] #[9] args).run Tryz.prog w).andThen fun v w' => .ok (.value v) w' :=
 run_callFunc_extern Tryz.func106 (by kernel_rfl) (by kernel_rfl) (by kernel_rfl) (by kernel_rfl) args w
@[go_sem] theorem guard106 (name : String) (w : World) : (FmtStop.guard name).run Tryz.prog w = .ok () w := by kernel_rfl
@[go_sem] theorem fmtX : FmtStop.printed? ⟨#[92, 37, 120]⟩ 1 = some [(0, 120, false)] := by kernel_rfl
@[go_sem] theorem fmtXr (w : World) : (FmtDoors.printed ⟨#[92, 37, 120]⟩ 1).run Tryz.prog w = .ok [(0, 120, false)] w := by kernel_rfl
theorem fmtXt : (FmtText.parse [92, 37, 120]).map FmtText.glue = some [.lit [92], .verb {} 120] := by rfl
def shape21 : List UInt8 := [4, 5, 0, 0, 0, 0, 0, 0, 0, 105, 110, 116, 51, 50]
@[go_sem] theorem op21 (name : String) (x : Int) (w : World) : (FmtStop.operand name false 120 false (.iface 21 (.int .i32 x))).run Tryz.prog w = .ok (shape21, Go.Extern.Stop.digits 8 (x % 2 ^ 64).toNat) w := by kernel_rfl
def asked (c : Int) : List (List UInt8) := [[92, 37, 120], shape21, digits 8 (c % 18446744073709551616).toNat]
end Go.Proofs.YtkfdcbdlcipmfaaGreatFmt
/- What fmt.Sprintf("\\%x", c) is told to answer. -/
namespace Go.Proofs.YtkfdcbdlcipmfaaGreatFmt
open Go.Extern Go.Extern.Stop Go.Extern.FmtText
theorem op32 (x : Int) (h1 : -2 ^ 31 ≤ x) (h2 : x < 2 ^ 31) : operand shape21 (digits 8 (x % 18446744073709551616).toNat) = some (.int [105, 110, 116, 51, 50] true (x % 18446744073709551616).toNat) :=
 operand_int (n := [5, 0, 0, 0, 0, 0, 0, 0, 105, 110, 116, 51, 50]) (by rfl) .i32 x (by simpa [IntKind.min, IntKind.signed, IntKind.bits] using h1) (by simp [IntKind.max, IntKind.signed, IntKind.bits]; omega)
theorem asked_text (c : Int) (h1 : 0 ≤ c) (h2 : c < 2 ^ 31) : text "fmt.Sprintf" (asked c) = some (92 :: inBase 16 false c) := by
 unfold asked
 rw [text_sprintf_glued fmtXt (operands_cons (op32 c (by omega) h2) operands_nil)]
 have hw : (Lit.int .i32 c).wf = true := by simp [Lit.wf, IntKind.min, IntKind.max, IntKind.signed, IntKind.bits]; omega
 have := printArg_x false [105, 110, 116, 51, 50] hw
 simp only [IntKind.signed] at this
 simp [render, this]
theorem digit_hex {d : Nat} (h : d < 16) : digit false d = Css.byte (Css.hexDigit d) := by
 have : ∀ d : Fin 16, digit false d.val = Css.byte (Css.hexDigit d.val) := by decide +kernel
 exact this ⟨d, h⟩
theorem digitsFrom_hex : ∀ (fuel u : Nat) (acc : List UInt8), u < 16 ^ fuel → 0 < fuel → digitsFrom 16 false fuel u acc = (Css.hexStr u).map Css.byte ++ acc
 | 0, _, _, _, h => absurd h (by omega)
 | fuel + 1, u, acc, hu, _ => by
  rw [digitsFrom, Css.hexStr]
  by_cases h : u < 16
  ·rw [if_pos h, dif_pos h, digit_hex h]; rfl
  ·rw [if_neg h, dif_neg h]
   have hf : 0 < fuel := by
    rcases Nat.eq_zero_or_pos fuel with rfl | hf
    ·simp at hu; omega
    ·exact hf
   rw [digitsFrom_hex fuel (u / 16) _ (by rw [Nat.pow_succ] at hu; omega) hf, digit_hex (Nat.mod_lt _ (by omega))]
   simp
theorem asked_hex (c : Int) (h1 : 0 ≤ c) (h2 : c < 2 ^ 31) : text "fmt.Sprintf" (asked c) = some ((92 :: Css.hexStr c.toNat).map Css.byte) := by
 rw [asked_text c h1 h2, inBase, if_neg (by omega), numeral, digitsFrom_hex 64 c.toNat [] (by
  have : (16 : Nat) ^ 64 > 2 ^ 31 := by decide
  omega) (by omega), List.append_nil]
 rfl
end Go.Proofs.YtkfdcbdlcipmfaaGreatFmt
/- printWithEscape. -/
namespace Go.Proofs.YtkfdcbdlcipmfaaGreatFmt
open Go.RowKit Go.Extern.Stop Go.Stop Go.Extern
def tx (F : Interp) (c : Int) : ByteArray := FmtStop.textOf (F "fmt.Sprintf" (asked c) 0)
theorem hexStr_length (n : Nat) : (Css.hexStr n).length ≤ n + 1 := by
 induction n using Nat.strongRecOn with
 | _ n ih =>
  rw [Css.hexStr]
  split
  ·simp
  ·have := ih (n / 16) (by omega)
   simp
   omega
theorem tx_told (F : Interp) {c : Int} (h0 : 0 ≤ c) (h1 : c < 2 ^ 31) : (tx F.told c).data.toList = (92 :: Css.hexStr c.toNat).map Css.byte := by
 have hl : ((92 :: Css.hexStr c.toNat).map Css.byte).length < 2 ^ 63 := by
  have := hexStr_length c.toNat
  simp
  omega
 have ht := told_string F (asked_hex c h0 h1) hl
 unfold tx
 rw [Go.Kit.textOf_list]
 exact ht
theorem grown_setCells {w0 : World} {b : Nat} (hb : w0.heap.size ≤ b) : ∀ (vs : List Value) (o : Nat) (w : World), w0.grownBy w none → w0.grownBy (w.setCells b o vs) none
 | [], _, _, h => h
 | v :: r, o, w, h => grown_setCells hb r (o + 1) (w.setCell ⟨b, o, none⟩ v) (map_free h (grown_setCell (grown_refl w (some b)) _ _) hb)
theorem bc_one (T : List UInt8) : ∀ u ∈ bc T, u.oneCell' = true := by
 intro u hu
 obtain ⟨_, _, rfl⟩ := List.mem_map.1 hu
 rfl
theorem bc_length (T : List UInt8) : (bc T).length = T.length := by simp [bc]
theorem laid_bytes (w : World) (c : Int) (hl : (Css.enc1 c).length ≤ 4) (cs : Array Value) (t : TypeId) (h4 : cs.size = 4) :
  ∀ j u, (bc (Css.enc1 c))[j]? = some u → ((w.alloc (.cells cs t)).setCells w.heap.size 0 (bc (Css.enc1 c))).cell? ((⟨w.heap.size, 0, none⟩ : Addr).add j) = some u := by
 intro j u hj
 have hlt : j < (bc (Css.enc1 c)).length := by
  by_cases h : j < (bc (Css.enc1 c)).length
  ·exact h
  ·rw [List.getElem?_eq_none (by omega)] at hj; cases hj
 have hin := World.cell?_setCells_in w.heap.size (bc (Css.enc1 c)) 0 (w.alloc (.cells cs t)) (fun k hk => by
  rw [bc_length] at hk
  rw [Nat.zero_add, cell_blk (new_blk w (.cells cs t)) (i := k) (Array.getElem?_eq_getElem (by omega))]
  rfl) j hlt
 rw [List.getElem?_eq_getElem hlt] at hj
 rw [← hj]
 rcases Nat.eq_zero_or_pos j with h0 | h0
 ·subst h0; simpa [Addr.add] using hin
 ·simpa [Addr.add, Nat.ne_of_gt h0] using hin
end Go.Proofs.YtkfdcbdlcipmfaaGreatFmt
