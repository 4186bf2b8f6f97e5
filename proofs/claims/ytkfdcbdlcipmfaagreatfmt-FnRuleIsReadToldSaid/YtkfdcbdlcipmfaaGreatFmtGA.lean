/- The lexer of the reference as plain functions on code points; names, numbers and strings that are printed are read back. No condition. -/

set_option linter.unusedVariables false
set_option linter.unusedSimpArgs false
namespace Go.Proofs.YtkfdcbdlcipmfaaGreatFmt.Css
def isNewline (c : Int) : Bool := c == 10 || c == 13 || c == 12
def isSpace (c : Int) : Bool := isNewline c || c == 9 || c == 32
def isDigit (c : Int) : Bool := decide (48 ≤ c) && decide (c ≤ 57)
def hexv (c : Int) : Int :=
 if isDigit c then c - 48 else if decide (97 ≤ c) && decide (c ≤ 102) then c - 97 + 10 else if decide (65 ≤ c) && decide (c ≤ 70) then c - 65 + 10 else -1
def starts (c : Int) : Bool := (decide (97 ≤ c) && decide (c ≤ 122)) || (decide (65 ≤ c) && decide (c ≤ 90)) || c == 95 || decide (128 ≤ c)
def continues (c : Int) : Bool := starts c || isDigit c || c == 45
def unprintable (c : Int) : Bool := (decide (0 ≤ c) && decide (c ≤ 8)) || c == 11 || (decide (14 ≤ c) && decide (c ≤ 31)) || c == 127
def width (c : Int) : Nat := if c < 128 then 1 else if c < 2048 then 2 else if c < 65536 then 3 else 4
def wd : List Int → Nat
 | [] => 0
 | c :: U => width c + wd U
def byte (c : Int) : UInt8 := UInt8.ofNat (c % 256).toNat
def enc1 (c : Int) : List UInt8 :=
 if c < 128 then [byte c]
 else if c < 2048 then [byte (192 + c / 64), byte (128 + c % 64)]
 else if c < 65536 then [byte (224 + c / 4096), byte (128 + c / 64 % 64), byte (128 + c % 64)]
 else [byte (240 + c / 262144), byte (128 + c / 4096 % 64), byte (128 + c / 64 % 64), byte (128 + c % 64)]
def enc (V : List Int) : List UInt8 := V.flatMap enc1
def pk (k : Nat) (U : List Int) : Int := U.getD k (-1)
def newline (U : List Int) : List Int := if pk 0 U == 13 && pk 1 U == 10 then U.drop 2 else U.tail
def escapes (a b : Int) : Bool := a == 92 && !isNewline b
def identifies (a b c : Int) : Bool := if a == 45 then starts b || b == 45 || escapes b c else starts a || escapes a b
def counts (a b c : Int) : Bool :=
 if a == 43 || a == 45 then isDigit b || (b == 46 && isDigit c) else isDigit a || (a == 46 && isDigit b)
def hexRun : Nat → Int → List Int → Int × List Int
 | 0, v, U => (v, U)
 | n + 1, v, U => if 0 ≤ hexv (pk 0 U) then hexRun n (v * 16 + hexv (pk 0 U)) U.tail else (v, U)
def fixv (v : Int) : Int := if v == 0 || decide (v > 1114111) || (decide (v ≥ 55296) && decide (v < 57344)) then 65533 else v
def esc (U : List Int) : Int × List Int × Bool :=
 if hexv (pk 0 U) < 0 then
  if pk 0 U == -1 then (65533, U.tail, true) else (pk 0 U, U.tail, false)
 else
  let r := hexRun 6 0 U
  if isNewline (pk 0 r.2) then (fixv r.1, newline r.2, true)
  else if isSpace (pk 0 r.2) then (fixv r.1, r.2.tail, false)
  else (fixv r.1, r.2, false)
theorem hexRun_le (n : Nat) (v : Int) (U : List Int) : (hexRun n v U).2.length ≤ U.length := by
 induction n generalizing v U with
 | zero => simp [hexRun]
 | succ n ih =>
  simp only [hexRun]
  split
  ·exact Nat.le_trans (ih _ _) (by simp)
  ·exact Nat.le_refl _
theorem newline_le (U : List Int) : (newline U).length ≤ U.length := by
 unfold newline; split <;> simp
theorem esc_le (U : List Int) : (esc U).2.1.length ≤ U.length := by
 have h := hexRun_le 6 0 U
 have h2 := newline_le (hexRun 6 0 U).2
 unfold esc
 dsimp only
 repeat' split
 all_goals simp
 all_goals omega
theorem pk_lt {k : Nat} {U : List Int} {a : Int} (h : pk k U = a) (ha : a ≠ -1) : k < U.length := by
 unfold pk at h
 rcases Nat.lt_or_ge k U.length with h' | h'
 ·exact h'
 ·rw [List.getD_eq_getElem?_getD, List.getElem?_eq_none h'] at h
  exact absurd h.symm ha
theorem continues_ne {a : Int} (h : continues a = true) : a ≠ -1 := by
 rintro rfl
 simp [continues, starts, isDigit] at h
theorem escapes_ne {a b : Int} (h : escapes a b = true) : a ≠ -1 := by
 rintro rfl
 simp [escapes] at h
def name (U : List Int) : List UInt8 × List Int × Bool :=
 if _h : continues (pk 0 U) = true then
  let r := name U.tail
  (enc1 (pk 0 U) ++ r.1, r.2)
 else if _h2 : escapes (pk 0 U) (pk 1 U) = true then
  let e := esc U.tail
  let r := name e.2.1
  (enc1 e.1 ++ r.1, r.2.1, e.2.2 || r.2.2)
 else ([], U, false)
termination_by U.length
decreasing_by
 ·have := pk_lt (U := U) (k := 0) rfl (continues_ne _h)
  simp; omega
 ·have := pk_lt (U := U) (k := 0) rfl (escapes_ne _h2)
  have := esc_le U.tail
  simp at this; omega
def digits : List Int → List Int
 | c :: U => if isDigit c then digits U else c :: U
 | [] => []
def spaces : List Int → List Int
 | c :: U => if isSpace c then spaces U else c :: U
 | [] => []
def nSign (U : List Int) : List Int := if pk 0 U == 43 || pk 0 U == 45 then U.tail else U
def nFrac (U : List Int) : List Int × Bool := if pk 0 U == 46 && isDigit (pk 1 U) then (digits U.tail, false) else (U, pk 0 U == 46)
def isExpo (U : List Int) : Bool := (pk 0 U == 101 || pk 0 U == 69) && (isDigit (pk 1 U) || ((pk 1 U == 43 || pk 1 U == 45) && isDigit (pk 2 U)))
def nExp (U : List Int) : List Int := if isExpo U then digits (U.drop 2) else U
def numHead (U : List Int) : List Int × Bool := (nExp (nFrac (digits (nSign U))).1, (nFrac (digits (nSign U))).2)
structure Tk where
 kind : Int
 unit : Nat
 id : Bool
 text : List UInt8
def numeric (U : List Int) : Tk × List Int × Bool :=
 let r := numHead U
 if identifies (pk 0 r.1) (pk 1 r.1) (pk 2 r.1) then
  let m := name r.1
  (⟨26, wd U - wd r.1, false, []⟩, m.2.1, r.2 || m.2.2)
 else if pk 0 r.1 == 37 then (⟨34, 0, false, []⟩, r.1.tail, r.2)
 else (⟨30, 0, false, []⟩, r.1, r.2)
def isURL (s : List UInt8) : Bool :=
 match s with
 | [a, b, c] => (a == 117 || a == 85) && (b == 114 || b == 82) && (c == 108 || c == 76)
 | _ => false
def badURL (U : List Int) : Tk × List Int × Bool :=
 match U with
 | [] => (⟨3, 0, false, []⟩, [], true)
 | c :: V =>
  if c == 41 then (⟨3, 0, false, []⟩, V, false)
  else if escapes c (pk 0 V) then
   let e := esc V
   let r := badURL e.2.1
   (r.1, r.2.1, e.2.2 || r.2.2)
  else badURL V
termination_by U.length
decreasing_by
 ·have := esc_le V; simp; omega
 ·simp
theorem spaces_le (U : List Int) : (spaces U).length ≤ U.length := by
 induction U with
 | nil => simp [spaces]
 | cons c U ih => simp only [spaces]; split <;> simp; omega
def url (out : List UInt8) (U : List Int) : Tk × List Int × Bool :=
 match U with
 | [] => (⟨37, 0, false, out⟩, [], true)
 | c :: V =>
  if c == 41 then (⟨37, 0, false, out⟩, V, false)
  else if isSpace c then
   let W := spaces V
   if pk 0 W != 41 && pk 0 W != -1 then badURL W else url out W
  else if c == 34 || c == 39 || c == 40 || unprintable c || (c == 92 && !escapes c (pk 0 V)) then badURL U
  else if c == 92 then
   let e := esc V
   let r := url (out ++ enc1 e.1) e.2.1
   (r.1, r.2.1, e.2.2 || r.2.2)
  else url (out ++ enc1 c) V
termination_by U.length
decreasing_by
 ·have := spaces_le V; simp; omega
 ·have := esc_le V; simp; omega
 ·simp
def trimmed (s : List UInt8) : Bool :=
 match s with
 | [] => true
 | a :: r => !isSpace a.toNat && !isSpace ((a :: r).getLastD 0).toNat
def named (U : List Int) : Tk × List Int × Bool :=
 let r := name U
 if pk 0 r.2.1 != 40 then (⟨29, 0, false, r.1⟩, r.2)
 else
  let V := r.2.1.tail
  if isURL r.1 && (pk 0 (spaces V) != 34 && pk 0 (spaces V) != 39) then
   let t := url [] (spaces V)
   (t.1, t.2.1, r.2.2 || t.2.2 || !(wd U - wd r.2.1 == 3) || !trimmed t.1.text)
  else (⟨27, 0, false, r.1⟩, V, r.2.2)
def quoted (quote : Int) (out : List UInt8) (U : List Int) : Tk × List Int × Bool :=
 match U with
 | [] => (⟨36, 0, false, out⟩, [], true)
 | c :: V =>
  if c == quote then (⟨36, 0, false, out⟩, V, false)
  else if isNewline c then (⟨2, 0, false, []⟩, U, false)
  else if c == 92 then
   if pk 0 V == -1 then quoted quote out V
   else if isNewline (pk 0 V) then quoted quote out (newline V)
   else
    let e := esc V
    let r := quoted quote (out ++ enc1 e.1) e.2.1
    (r.1, r.2.1, e.2.2 || r.2.2)
  else quoted quote (out ++ enc1 c) V
termination_by U.length
decreasing_by
 ·simp
 ·have := newline_le V; simp; omega
 ·have := esc_le V; simp; omega
 ·simp
def inComment : List Int → List Int × Bool
 | [] => ([], true)
 | c :: V => if c == 42 && pk 0 V == 47 then (V.tail, false) else inComment V
theorem inComment_le (U : List Int) : (inComment U).1.length ≤ U.length := by
 induction U with
 | nil => simp [inComment]
 | cons c V ih => simp only [inComment]; split <;> simp <;> omega
def comment (U : List Int) : List Int × Nat × Bool :=
 if h : (pk 0 U == 47 && pk 1 U == 42) = true then
  let r := inComment (U.drop 2)
  if r.2 then (r.1, 1, true)
  else
   let q := comment r.1
   (q.1, 1 + q.2.1, q.2.2)
 else (U, 0, false)
termination_by U.length
decreasing_by
 have h1 : pk 0 U = 47 := by simp at h; exact h.1
 have := pk_lt h1 (by decide)
 have := inComment_le (U.drop 2)
 simp at this; omega
def signKind (c : Int) : Int :=
 if c == 123 then 31 else if c == 125 then 6 else if c == 91 then 32 else if c == 93 then 7 else if c == 40 then 33 else if c == 41 then 8
 else if c == 58 then 9 else if c == 59 then 35 else if c == 44 then 10 else if c == 38 then 12 else if c == 42 then 13 else if c == 124 then 14
 else if c == 94 then 15 else if c == 36 then 16 else if c == 46 then 17 else if c == 61 then 18 else if c == 33 then 19 else if c == 62 then 20
 else if c == 60 then 21 else if c == 45 then 22 else if c == 43 then 23 else if c == 47 then 24 else if c == 126 then 25 else 11
def next (U : List Int) : Tk × List Int × Bool :=
 let a := pk 0 U
 let b := pk 1 U
 let c := pk 2 U
 if a == -1 then (⟨0, 0, false, []⟩, U, false)
 else if isSpace a then (⟨38, 0, false, []⟩, spaces U, false)
 else if a == 34 || a == 39 then quoted a [] U.tail
 else if a == 35 && (continues b || escapes b c) then
  let r := name U.tail
  (⟨28, 0, identifies b c (pk 3 U), r.1⟩, r.2)
 else if counts a b c then numeric U
 else if a == 45 && b == 45 && c == 62 then (⟨4, 0, false, []⟩, U.drop 3, false)
 else if identifies a b c then named U
 else if a == 60 && b == 33 && c == 45 && pk 3 U == 45 then (⟨5, 0, false, []⟩, U.drop 4, false)
 else if a == 64 && identifies b c (pk 3 U) then
  let r := name U.tail
  (⟨1, 0, false, r.1⟩, r.2)
 else (⟨signKind a, 0, false, []⟩, U.tail, false)
def Valid (c : Int) : Prop := 0 < c ∧ c ≤ 1114111 ∧ ¬ (55296 ≤ c ∧ c < 57344)
def isHexC (c : Int) : Bool := (decide (48 ≤ c) && decide (c ≤ 57)) || (decide (97 ≤ c) && decide (c ≤ 102)) || (decide (65 ≤ c) && decide (c ≤ 70))
def hexDigit (d : Nat) : Int := if d < 10 then 48 + d else 87 + d
def hexStr (n : Nat) : List Int := if _h : n < 16 then [hexDigit n] else hexStr (n / 16) ++ [hexDigit (n % 16)]
termination_by n
decreasing_by omega
inductive Esc where
 | none | back | hex
deriving DecidableEq
def pEsc (c : Int) (e : Esc) (rest : List Int) (need : Bool) : List Int :=
 match e, isHexC c with
 | .none, _ => [c]
 | .back, false => [92, c]
 | _, _ =>
  let t := 92 :: hexStr c.toNat
  if t.length < 7 then
   match rest with
   | d :: _ => if d == 32 || d == 9 || isHexC d then t ++ [32] else t
   | [] => if need then t ++ [32] else t
  else t
def escOf (ascii : Bool) (first : Option Esc) (c : Int) : Esc :=
 if ascii && decide (128 ≤ c) then .hex
 else if c == 13 || c == 10 || c == 12 || c == 65279 then .hex
 else first.getD (if continues c then .none else .back)
def pTail (ascii need : Bool) : List Int → List Int
 | [] => []
 | c :: V => pEsc c (escOf ascii none c) V need ++ pTail ascii need V
def wouldStart : List Int → Bool
 | [] => false
 | c :: V => starts c || (c == 45 && (starts (pk 0 V) || pk 0 V == 45))
def firstEsc (mode : Nat) (V : List Int) : Option Esc :=
 if mode == 1 then none
 else if !wouldStart V then some .back
 else if mode == 2 && (pk 0 V == 101 || pk 0 V == 69) && (isDigit (pk 1 V) || (pk 1 V == 45 && isDigit (pk 2 V))) then some .hex
 else none
def pIdent (mode : Nat) (ascii need : Bool) : List Int → List Int
 | [] => []
 | c :: V => pEsc c (escOf ascii (firstEsc mode (c :: V)) c) V need ++ pTail ascii need V
theorem pk_cons_zero (c : Int) (U : List Int) : pk 0 (c :: U) = c := by simp [pk]
theorem pk_cons_succ (c : Int) (U : List Int) (k : Nat) : pk (k + 1) (c :: U) = pk k U := by simp [pk]
theorem pk_nil (k : Nat) : pk k [] = -1 := by simp [pk]
theorem pk_append_zero (X R : List Int) : pk 0 (X ++ R) = if X = [] then pk 0 R else pk 0 X := by
 cases X <;> simp [pk]
theorem pk_tail (k : Nat) (U : List Int) : pk k U.tail = pk (k + 1) U := by
 cases U <;> simp [pk]
theorem hexv_nonneg {c : Int} : 0 ≤ hexv c ↔ isHexC c = true := by
 unfold hexv isHexC isDigit
 by_cases h1 : 48 ≤ c <;> by_cases h2 : c ≤ 57 <;> by_cases h3 : 97 ≤ c <;> by_cases h4 : c ≤ 102 <;> by_cases h5 : 65 ≤ c <;> by_cases h6 : c ≤ 70 <;>
  simp [h1, h2, h3, h4, h5, h6] <;> omega
theorem hexv_neg {c : Int} : hexv c < 0 ↔ isHexC c = false := by
 have h := @hexv_nonneg c
 constructor
 ·intro h'
  cases hh : isHexC c with
  | false => rfl
  | true => exact absurd (h.2 hh) (by omega)
 ·intro h'
  by_cases h2 : hexv c < 0
  ·exact h2
  ·exact absurd (h.1 (by omega)) (by simp [h'])
theorem hexv_hexDigit {d : Nat} (h : d < 16) : hexv (hexDigit d) = d := by
 unfold hexDigit hexv isDigit
 by_cases h1 : d < 10
 ·simp [h1]; omega
 ·have : ¬ ((87 : Int) + d ≤ 57) := by omega
  simp [h1, this]; omega
theorem hexStr_length {n k : Nat} (h : n < 16 ^ (k + 1)) : (hexStr n).length ≤ k + 1 := by
 induction k generalizing n with
 | zero => unfold hexStr; simp at h; simp [h]
 | succ k ih =>
  unfold hexStr
  split
  ·simp
  ·simp; exact ih (by rw [Nat.pow_succ] at h; omega)
theorem hexStr_ne (n : Nat) : hexStr n ≠ [] := by
 unfold hexStr; split <;> simp
theorem hexStr_head (n : Nat) : isHexC (pk 0 (hexStr n)) = true := by
 induction n using Nat.strongRecOn with
 | _ n ih =>
  unfold hexStr
  split
  ·rename_i h
   exact hexv_nonneg.1 (by rw [pk_cons_zero, hexv_hexDigit h]; omega)
  ·rename_i h
   rw [pk_append_zero, if_neg (hexStr_ne _)]
   exact ih _ (by omega)
theorem hexRun_append (n : Nat) : ∀ (k : Nat) (v : Int) (R : List Int), (hexStr n).length ≤ k →
  hexRun k v (hexStr n ++ R) = hexRun (k - (hexStr n).length) (v * 16 ^ (hexStr n).length + n) R := by
 induction n using Nat.strongRecOn with
 | _ n ih =>
  intro k v R hk
  by_cases h : n < 16
  ·have e : hexStr n = [hexDigit n] := by unfold hexStr; simp [h]
   rw [e] at hk ⊢
   simp at hk ⊢
   obtain ⟨k, rfl⟩ : ∃ m, k = m + 1 := ⟨k - 1, by omega⟩
   simp [hexRun, pk_cons_zero, hexv_hexDigit h]
  ·have e : hexStr n = hexStr (n / 16) ++ [hexDigit (n % 16)] := by rw [hexStr]; simp [h]
   have hl : (hexStr n).length = (hexStr (n / 16)).length + 1 := by rw [e]; simp
   rw [hl] at hk ⊢
   rw [e, List.append_assoc, ih (n / 16) (by omega) k v _ (by omega)]
   obtain ⟨m, hm⟩ : ∃ m, k - (hexStr (n / 16)).length = m + 1 := ⟨k - (hexStr (n / 16)).length - 1, by omega⟩
   rw [hm]
   have hm2 : k - ((hexStr (n / 16)).length + 1) = m := by omega
   rw [hm2]
   have hd : hexv (hexDigit (n % 16)) = ((n % 16 : Nat) : Int) := hexv_hexDigit (by omega)
   simp only [hexRun, List.cons_append, List.nil_append, pk_cons_zero, List.tail_cons, hd]
   rw [if_pos (by omega)]
   congr 1
   rw [Int.pow_succ]
   have : ((n : Nat) : Int) = 16 * ((n / 16 : Nat) : Int) + ((n % 16 : Nat) : Int) := by omega
   rw [this, Int.add_mul, Int.mul_assoc]
   omega
theorem hexRun_stop (k : Nat) (v : Int) (R : List Int) (h : isHexC (pk 0 R) = false) : hexRun k v R = (v, R) := by
 cases k with
 | zero => rfl
 | succ k =>
  have := hexv_neg.2 h
  simp only [hexRun]
  rw [if_neg (by omega)]
theorem valid_fix {c : Int} (h : Valid c) : fixv c = c := by
 obtain ⟨h1, h2, h3⟩ := h
 unfold fixv
 rw [if_neg]
 simp
 omega
theorem hexStr_valid {c : Int} (h : Valid c) : (hexStr c.toNat).length ≤ 6 := by
 obtain ⟨h1, h2, _⟩ := h
 exact hexStr_length (k := 5) (by omega)
theorem hexStr_low {c : Int} (h : Valid c) (hc : c < 1048576) : (hexStr c.toNat).length ≤ 5 := by
 obtain ⟨h1, h2, _⟩ := h
 exact hexStr_length (k := 4) (by omega)
theorem esc_hex {c : Int} (hv : Valid c) (R : List Int) (h : (hexStr c.toNat).length = 6 ∨ isHexC (pk 0 R) = false) :
  esc (hexStr c.toNat ++ R) = if isNewline (pk 0 R) then (c, newline R, true) else if isSpace (pk 0 R) then (c, R.tail, false) else (c, R, false) := by
 have h0 : ¬ hexv (pk 0 (hexStr c.toNat ++ R)) < 0 := by
  have := hexv_nonneg.2 (hexStr_head c.toNat)
  rw [pk_append_zero, if_neg (hexStr_ne _)]
  omega
 have hr : hexRun 6 0 (hexStr c.toNat ++ R) = (c, R) := by
  rw [hexRun_append _ _ _ _ (hexStr_valid hv)]
  have e : (0 : Int) * 16 ^ (hexStr c.toNat).length + (c.toNat : Int) = c := by have := hv.1; omega
  rw [e]
  rcases h with h | h
  ·rw [h]; rfl
  ·exact hexRun_stop _ _ _ h
 unfold esc
 rw [if_neg h0]
 simp only [hr, valid_fix hv]
theorem esc_plain {c : Int} (hc : isHexC c = false) (h1 : c ≠ -1) (R : List Int) : esc (c :: R) = (c, R, false) := by
 unfold esc
 rw [pk_cons_zero, if_pos (hexv_neg.2 hc)]
 simp [h1]
theorem name_cont {c : Int} (hc : continues c = true) (R : List Int) : name (c :: R) = (enc1 c ++ (name R).1, (name R).2) := by
 rw [name]; simp [pk_cons_zero, hc]
theorem name_esc {d : Int} (hd : isNewline d = false) (R : List Int) : name (92 :: d :: R) =
  (enc1 (esc (d :: R)).1 ++ (name (esc (d :: R)).2.1).1, (name (esc (d :: R)).2.1).2.1, (esc (d :: R)).2.2 || (name (esc (d :: R)).2.1).2.2) := by
 rw [name]
 have h1 : continues 92 = false := by decide
 have h2 : escapes 92 d = true := by simp [escapes, hd]
 simp [pk_cons_zero, pk_cons_succ, h1, h2]
theorem name_stop {R : List Int} (h1 : continues (pk 0 R) = false) (h2 : escapes (pk 0 R) (pk 1 R) = false) : name R = ([], R, false) := by
 rw [name]; simp [h1, h2]
theorem hex_not_newline {c : Int} (h : isHexC c = true) : isNewline c = false := by
 cases hn : isNewline c with
 | false => rfl
 | true =>
  simp [isNewline] at hn
  rcases hn with (rfl | rfl) | rfl <;> simp [isHexC] at h
theorem continues_hex {c : Int} (h : continues c = false) : isHexC c = false := by
 cases hh : isHexC c with
 | false => rfl
 | true =>
  simp [isHexC] at hh
  simp [continues, starts, isDigit] at h
  omega
theorem continues_space {c : Int} (h : continues c = true) : isSpace c = false := by
 cases hh : isSpace c with
 | false => rfl
 | true =>
  simp [isSpace, isNewline] at hh
  simp [continues, starts, isDigit] at h
  omega
theorem isNewline_space {c : Int} (h : isSpace c = false) : isNewline c = false := by
 simp [isSpace] at h; exact h.1.1
def legit (c : Int) (e : Esc) : Prop :=
 match e with
 | .none => continues c = true
 | .back => isNewline c = false
 | .hex => True
def calm (c : Int) : Prop := isHexC c = false ∧ isNewline c = false
theorem name_pEsc {c : Int} {e : Esc} {rest : List Int} {need : Bool} (hv : Valid c) (hl : legit c e) (S : List Int)
  (h5 : e ≠ .none → (e = .back ∧ isHexC c = false) ∨ (hexStr c.toNat).length ≤ 5)
  (hS : e = .none ∨ (e = .back ∧ isHexC c = false) ∨ (pEsc c e rest need = 92 :: hexStr c.toNat ++ [32]) ∨ (isHexC (pk 0 S) = false ∧ isSpace (pk 0 S) = false)) :
  name (pEsc c e rest need ++ S) = (enc1 c ++ (name S).1, (name S).2) := by
 have hc1 : c ≠ -1 := by have := hv.1; omega
 have key : ∀ q, (q = 92 :: hexStr c.toNat ++ [32] ∨ (q = 92 :: hexStr c.toNat ∧ isHexC (pk 0 S) = false ∧ isSpace (pk 0 S) = false)) →
   name (q ++ S) = (enc1 c ++ (name S).1, (name S).2) := by
  intro q hq
  have hh := hexStr_head c.toNat
  cases hs : hexStr c.toNat with
  | nil => exact absurd hs (hexStr_ne _)
  | cons d t =>
   rw [hs, pk_cons_zero] at hh
   have hnl := hex_not_newline hh
   rcases hq with rfl | ⟨rfl, hx, hsp⟩
   ·have he := esc_hex hv (32 :: S) (.inr (by rw [pk_cons_zero]; decide))
    rw [hs] at he
    simp only [pk_cons_zero, show isNewline 32 = false by decide, show isSpace 32 = true by decide, if_true, List.tail_cons, Bool.false_eq_true, if_false, List.cons_append] at he
    rw [hs]
    simp only [List.cons_append, List.append_assoc, List.nil_append]
    rw [name_esc hnl, he]; simp
   ·have he := esc_hex hv S (.inr hx)
    rw [hs] at he
    simp only [isNewline_space hsp, hsp, Bool.false_eq_true, if_false, List.cons_append] at he
    rw [hs]
    simp only [List.cons_append]
    rw [name_esc hnl, he]; simp
 have hexcase : ∀ b, isHexC c = b → (e = .hex ∨ (e = .back ∧ b = true)) → name (pEsc c e rest need ++ S) = (enc1 c ++ (name S).1, (name S).2) := by
  intro b hb he
  have e1 : e ≠ .none := by rcases he with rfl | ⟨rfl, _⟩ <;> simp
  have e2 : ¬ (e = .back ∧ isHexC c = false) := by rcases he with rfl | ⟨rfl, h⟩ <;> simp_all
  have hl5 := (h5 e1).resolve_left e2
  have hS' := (hS.resolve_left e1).resolve_left e2
  have hform : pEsc c e rest need = 92 :: hexStr c.toNat ++ [32] ∨ pEsc c e rest need = 92 :: hexStr c.toNat := by
   rcases he with rfl | ⟨rfl, h⟩
   ·simp only [pEsc]
    repeat' split
    all_goals first | (left; rfl) | (right; rfl)
   ·subst h
    simp only [pEsc, hb]
    repeat' split
    all_goals first | (left; rfl) | (right; rfl)
  apply key
  rcases hform with hf | hf
  ·exact .inl hf
  ·rcases hS' with h | h
   ·exact .inl h
   ·exact .inr ⟨hf, h⟩
 cases e with
 | none =>
  simp only [pEsc, List.cons_append, List.nil_append]
  exact name_cont hl S
 | back =>
  cases hb : isHexC c with
  | true => exact hexcase true hb (.inr ⟨rfl, rfl⟩)
  | false =>
   simp only [pEsc, hb, List.cons_append, List.nil_append]
   rw [name_esc hl, esc_plain hb hc1]; simp
 | hex => exact hexcase _ rfl (.inl rfl)
def goodFirst (f : Option Esc) (c : Int) : Prop := f = none ∨ f = some .back ∨ (f = some .hex ∧ c < 128)
theorem firstEsc_good (mode : Nat) (c : Int) (V : List Int) : goodFirst (firstEsc mode (c :: V)) c := by
 unfold firstEsc goodFirst
 by_cases h1 : (mode == 1) = true
 ·simp [h1]
 ·by_cases h2 : (!wouldStart (c :: V)) = true
  ·simp [h1, h2]
  ·by_cases h3 : (mode == 2 && (pk 0 (c :: V) == 101 || pk 0 (c :: V) == 69) && (isDigit (pk 1 (c :: V)) || (pk 1 (c :: V) == 45 && isDigit (pk 2 (c :: V))))) = true
   ·right; right
    rw [if_neg h1, if_neg h2, if_pos h3]
    refine ⟨rfl, ?_⟩
    simp [pk_cons_zero] at h3
    omega
   ·left
    rw [if_neg h1, if_neg h2, if_neg h3]
theorem escOf_legit {ascii : Bool} {f : Option Esc} {c : Int} (hf : goodFirst f c) : legit c (escOf ascii f c) := by
 unfold escOf
 split
 ·exact trivial
 ·split
  ·exact trivial
  ·rename_i h
   have hn : isNewline c = false := by
    simp at h
    simp [isNewline]
    omega
   rcases hf with rfl | rfl | ⟨rfl, _⟩
   ·simp only [Option.getD_none]
    split
    ·assumption
    ·exact hn
   ·exact hn
   ·exact trivial
theorem escOf_low {ascii : Bool} {f : Option Esc} {c : Int} (hf : goodFirst f c) (hlow : ascii = true → c < 1048576) (hv : Valid c)
  (h1 : escOf ascii f c ≠ .none) : (escOf ascii f c = .back ∧ isHexC c = false) ∨ (hexStr c.toNat).length ≤ 5 := by
 unfold escOf at h1 ⊢
 split
 ·rename_i h
  simp at h
  exact .inr (hexStr_low hv (hlow h.1))
 ·rename_i h0
  rw [if_neg h0] at h1
  split
  ·rename_i h
   simp at h
   exact .inr (hexStr_low hv (by omega))
  ·rename_i h2
   rw [if_neg h2] at h1
   have hx : isHexC c = true → (hexStr c.toNat).length ≤ 5 := fun h => hexStr_low hv (by simp [isHexC] at h; omega)
   rcases hf with rfl | rfl | ⟨rfl, hc⟩
   ·simp only [Option.getD_none] at h1 ⊢
    split
    ·rename_i h3; rw [if_pos h3] at h1; exact absurd rfl h1
    ·cases hb : isHexC c with
     | false => exact .inl ⟨rfl, rfl⟩
     | true => exact .inr (hx hb)
   ·cases hb : isHexC c with
    | false => exact .inl ⟨rfl, rfl⟩
    | true => exact .inr (hx hb)
   ·exact .inr (hexStr_low hv (by omega))
theorem pEsc_head (c : Int) (e : Esc) (rest : List Int) (need : Bool) (S : List Int) :
  pk 0 (pEsc c e rest need ++ S) = if e = .none then c else 92 := by
 cases e with
 | none => rfl
 | back =>
  rw [if_neg (by simp)]
  cases hb : isHexC c with
  | false => simp only [pEsc, hb]; rfl
  | true =>
   simp only [pEsc, hb]
   repeat' split
   all_goals rfl
 | hex =>
  rw [if_neg (by simp)]
  simp only [pEsc]
  repeat' split
  all_goals rfl
theorem pEsc_ne (c : Int) (e : Esc) (rest : List Int) (need : Bool) : pEsc c e rest need ≠ [] := by
 cases e with
 | none => simp [pEsc]
 | back =>
  cases hb : isHexC c with
  | false => simp [pEsc, hb]
  | true =>
   simp only [pEsc, hb]
   repeat' split
   all_goals simp
 | hex =>
  simp only [pEsc]
  repeat' split
  all_goals simp
theorem hexStr_pEsc {c : Int} {e : Esc} {d : Int} {V : List Int} {need : Bool} (h1 : e ≠ .none) (h2 : ¬ (e = .back ∧ isHexC c = false)) (hl : (hexStr c.toNat).length ≤ 5) :
  pEsc c e (d :: V) need = if d == 32 || d == 9 || isHexC d then 92 :: hexStr c.toNat ++ [32] else 92 :: hexStr c.toNat := by
 have hl' : (92 :: hexStr c.toNat).length < 7 := by simp; omega
 cases e with
 | none => exact absurd rfl h1
 | back =>
  cases hb : isHexC c with
  | false => exact absurd ⟨rfl, hb⟩ h2
  | true => simp only [pEsc, hb]; rw [if_pos hl']
 | hex => simp only [pEsc]; rw [if_pos hl']
theorem hexStr_pEsc_nil {c : Int} {e : Esc} {need : Bool} (h1 : e ≠ .none) (h2 : ¬ (e = .back ∧ isHexC c = false)) (hl : (hexStr c.toNat).length ≤ 5) :
  pEsc c e [] need = if need then 92 :: hexStr c.toNat ++ [32] else 92 :: hexStr c.toNat := by
 have hl' : (92 :: hexStr c.toNat).length < 7 := by simp; omega
 cases e with
 | none => exact absurd rfl h1
 | back =>
  cases hb : isHexC c with
  | false => exact absurd ⟨rfl, hb⟩ h2
  | true => simp only [pEsc, hb]; rw [if_pos hl']
 | hex => simp only [pEsc]; rw [if_pos hl']
def ends (R : List Int) : Prop := continues (pk 0 R) = false ∧ escapes (pk 0 R) (pk 1 R) = false
def apart (need : Bool) (R : List Int) : Prop := need = true ∨ isSpace (pk 0 R) = false ∨ (pk 0 R = 32 ∧ ends R.tail)
def left (need : Bool) (R R' : List Int) : Prop := R' = R ∨ (need = false ∧ pk 0 R = 32 ∧ R' = R.tail)
def apart2 (need : Bool) (R : List Int) : Prop := need = true ∨ isSpace (pk 0 R) = false ∨ (pk 0 R = 32 ∧ pk 0 R.tail = 32)
theorem apart2_apart {need : Bool} {R : List Int} (h : apart2 need R) : apart need R := by
 rcases h with h | h | ⟨h1, h2⟩
 ·exact .inl h
 ·exact .inr (.inl h)
 ·exact .inr (.inr ⟨h1, by rw [h2]; decide, by rw [h2]; simp [escapes]⟩)
theorem left_pk {need : Bool} {R R' : List Int} (ha : apart2 need R) (h : left need R R') : pk 0 R' = pk 0 R := by
 rcases h with rfl | ⟨h0, h1, h2⟩
 ·rfl
 ·rcases ha with h | h | ⟨_, h⟩
  ·rw [h0] at h; exact absurd h (by simp)
  ·rw [h1] at h; exact absurd h (by decide)
  ·rw [h2, h1, h]
theorem name_one {ascii need : Bool} {f : Option Esc} {c : Int} {V R : List Int} (hf : goodFirst f c) (hv : Valid c) (hlow : ascii = true → c < 1048576)
  (hR : ends R) (ha : apart need R)
  (hin : V ≠ [] → isHexC (pk 0 (pTail ascii need V ++ R)) = true ∨ isSpace (pk 0 (pTail ascii need V ++ R)) = true → pk 0 V = 32 ∨ pk 0 V = 9 ∨ isHexC (pk 0 V) = true) :
  (V ≠ [] ∨ need = true ∨ isSpace (pk 0 R) = false → name (pEsc c (escOf ascii f c) V need ++ (pTail ascii need V ++ R)) = (enc1 c ++ (name (pTail ascii need V ++ R)).1, (name (pTail ascii need V ++ R)).2)) ∧
  (V = [] → ∃ R', name (pEsc c (escOf ascii f c) V need ++ R) = (enc1 c, R', false) ∧ left need R R') := by
 have hl := escOf_legit (ascii := ascii) hf
 have h5 := escOf_low hf hlow hv
 generalize escOf ascii f c = e at hl h5
 constructor
 ·intro hcase
  apply name_pEsc hv hl _ h5
  by_cases h1 : e = .none
  ·exact .inl h1
  ·by_cases h2 : e = .back ∧ isHexC c = false
   ·exact .inr (.inl h2)
   ·have hl5 := (h5 h1).resolve_left h2
    right; right
    cases V with
    | cons d V =>
     rw [hexStr_pEsc h1 h2 hl5]
     by_cases hd : (d == 32 || d == 9 || isHexC d) = true
     ·left; rw [if_pos hd]
     ·right
      have hn := hin (by simp)
      rw [pk_cons_zero] at hn
      simp at hd
      constructor
      ·cases hx : isHexC (pk 0 (pTail ascii need (d :: V) ++ R)) with
       | false => rfl
       | true => have := hn (.inl hx); simp_all
      ·cases hx : isSpace (pk 0 (pTail ascii need (d :: V) ++ R)) with
       | false => rfl
       | true => have := hn (.inr hx); simp_all
    | nil =>
     rw [hexStr_pEsc_nil h1 h2 hl5]
     cases need with
     | true => left; simp
     | false =>
      right
      simp only [pTail, List.nil_append]
      exact ⟨continues_hex hR.1, by simpa using hcase⟩
 ·rintro rfl
  have hend := name_stop hR.1 hR.2
  by_cases hsp : need = true ∨ isSpace (pk 0 R) = false
  ·refine ⟨R, ?_, .inl rfl⟩
   have := name_pEsc (rest := []) (need := need) hv hl R h5 (by
    by_cases h1 : e = .none
    ·exact .inl h1
    ·by_cases h2 : e = .back ∧ isHexC c = false
     ·exact .inr (.inl h2)
     ·have hl5 := (h5 h1).resolve_left h2
      right; right
      rw [hexStr_pEsc_nil h1 h2 hl5]
      rcases hsp with rfl | hsp
      ·left; simp
      ·right; exact ⟨continues_hex hR.1, hsp⟩)
   rw [this, hend]; simp
  ·have hne : need = false := by cases need <;> simp_all
   subst hne
   have hr := (ha.resolve_left (by simp)).resolve_left (by simpa using hsp)
   by_cases h1 : e = .none
   ·subst h1
    refine ⟨R, ?_, .inl rfl⟩
    have := name_pEsc (rest := []) (need := false) hv hl R h5 (.inl rfl)
    rw [this, hend]; simp
   ·by_cases h2 : e = .back ∧ isHexC c = false
    ·refine ⟨R, ?_, .inl rfl⟩
     have := name_pEsc (rest := []) (need := false) hv hl R h5 (.inr (.inl h2))
     rw [this, hend]; simp
    ·have hl5 := (h5 h1).resolve_left h2
     refine ⟨R.tail, ?_, .inr ⟨rfl, hr.1, rfl⟩⟩
     rw [hexStr_pEsc_nil h1 h2 hl5]
     have he := esc_hex hv R (.inr (by rw [hr.1]; decide))
     rw [hr.1] at he
     simp only [show isNewline 32 = false by decide, show isSpace 32 = true by decide, if_true, Bool.false_eq_true, if_false] at he
     have hh := hexStr_head c.toNat
     cases hs : hexStr c.toNat with
     | nil => exact absurd hs (hexStr_ne _)
     | cons d t =>
      rw [hs, pk_cons_zero] at hh
      rw [hs] at he
      simp only [List.cons_append, Bool.false_eq_true, if_false] at he ⊢
      rw [name_esc (hex_not_newline hh), he]
      have hend' := name_stop hr.2.1 hr.2.2
      rw [hend']; simp
theorem pTail_head {ascii need : Bool} {d : Int} {V R : List Int}
  (h : isHexC (pk 0 (pTail ascii need (d :: V) ++ R)) = true ∨ isSpace (pk 0 (pTail ascii need (d :: V) ++ R)) = true) : d = 32 ∨ d = 9 ∨ isHexC d = true := by
 simp only [pTail, List.append_assoc, pEsc_head] at h
 by_cases h1 : escOf ascii none d = .none
 ·rw [if_pos h1] at h
  have hc := escOf_legit (ascii := ascii) (f := none) (c := d) (.inl rfl)
  rw [h1] at hc
  rcases h with h | h
  ·exact .inr (.inr h)
  ·rw [continues_space hc] at h; exact absurd h (by simp)
 ·rw [if_neg h1] at h
  exact absurd h (by decide)
theorem name_tail {ascii need : Bool} {R : List Int} (hR : ends R) (ha : apart need R) : ∀ V : List Int, (∀ c ∈ V, Valid c) → (ascii = true → ∀ c ∈ V, c < 1048576) →
  ∃ R', name (pTail ascii need V ++ R) = (enc V, R', false) ∧ (V = [] → R' = R) ∧ left need R R' := by
 intro V
 induction V with
 | nil =>
  intro _ _
  exact ⟨R, by simp [pTail, name_stop hR.1 hR.2, enc], fun _ => rfl, .inl rfl⟩
 | cons c V ih =>
  intro hv hlow
  have hone := name_one (ascii := ascii) (need := need) (f := none) (V := V) (.inl rfl) (hv c (by simp)) (fun h => hlow h c (by simp)) hR ha (by
   intro hne h
   cases V with
   | nil => exact absurd rfl hne
   | cons d V => rw [pk_cons_zero]; exact pTail_head h)
  by_cases hV : V = []
  ·subst hV
   obtain ⟨R', h, hl⟩ := hone.2 rfl
   refine ⟨R', ?_, by simp, hl⟩
   simp only [pTail, List.append_nil, enc, List.flatMap_cons, List.flatMap_nil]
   exact h
  ·obtain ⟨R', h, _, hl⟩ := ih (fun c hc => hv c (by simp [hc])) (fun h c hc => hlow h c (by simp [hc]))
   refine ⟨R', ?_, by simp, hl⟩
   have h1 := hone.1 (.inl hV)
   simp only [pTail, List.append_assoc]
   rw [h1, h]
   simp [enc]
theorem name_pIdent {mode : Nat} {ascii need : Bool} {R : List Int} (hR : ends R) (ha : apart need R) {V : List Int} (hne : V ≠ []) (hv : ∀ c ∈ V, Valid c)
  (hlow : ascii = true → ∀ c ∈ V, c < 1048576) : ∃ R', name (pIdent mode ascii need V ++ R) = (enc V, R', false) ∧ left need R R' := by
 cases V with
 | nil => exact absurd rfl hne
 | cons c V =>
  have hone := name_one (ascii := ascii) (need := need) (f := firstEsc mode (c :: V)) (V := V) (firstEsc_good mode c V) (hv c (by simp)) (fun h => hlow h c (by simp)) hR ha (by
   intro hne h
   cases V with
   | nil => exact absurd rfl hne
   | cons d V => rw [pk_cons_zero]; exact pTail_head h)
  by_cases hV : V = []
  ·subst hV
   obtain ⟨R', h, hl⟩ := hone.2 rfl
   refine ⟨R', ?_, hl⟩
   simp only [pIdent, pTail, List.append_nil, enc, List.flatMap_cons, List.flatMap_nil]
   exact h
  ·obtain ⟨R', h, _, hl⟩ := name_tail hR ha V (fun c hc => hv c (by simp [hc])) (fun h c hc => hlow h c (by simp [hc]))
   refine ⟨R', ?_, hl⟩
   have h1 := hone.1 (.inl hV)
   simp only [pIdent, List.append_assoc]
   rw [h1, h]
   simp [enc]
def safeN (c : Int) : Bool := [-1, 32, 10, 34, 39, 58, 44, 59, 60, 38, 42, 124, 94, 36, 61, 33, 47, 126, 123, 91, 41, 93, 125].contains c
def safeS (c : Int) : Bool := [-1, 32, 10, 34, 39, 44, 59, 58, 123, 91, 40, 41, 93, 125].contains c
theorem safeN_spec {c : Int} (h : safeN c = true) : continues c = false ∧ starts c = false ∧ isDigit c = false ∧ c ≠ 92 ∧ c ≠ 40 ∧ c ≠ 62 ∧ c ≠ 43 ∧ c ≠ 45 ∧ c ≠ 46 ∧ c ≠ 37 ∧ c ≠ 101 ∧ c ≠ 69 := by
 simp [safeN] at h
 rcases h with rfl | rfl | rfl | rfl | rfl | rfl | rfl | rfl | rfl | rfl | rfl | rfl | rfl | rfl | rfl | rfl | rfl | rfl | rfl | rfl | rfl | rfl | rfl <;> decide
theorem safeS_spec {c : Int} (h : safeS c = true) : continues c = false ∧ starts c = false ∧ isDigit c = false ∧ c ≠ 92 ∧ c ≠ 62 ∧ c ≠ 43 ∧ c ≠ 45 ∧ c ≠ 46 ∧ c ≠ 37 ∧ c ≠ 33 ∧ c ≠ 42 := by
 simp [safeS] at h
 rcases h with rfl | rfl | rfl | rfl | rfl | rfl | rfl | rfl | rfl | rfl | rfl | rfl | rfl | rfl <;> decide
theorem safeN_ends {R : List Int} (h : safeN (pk 0 R) = true) : ends R := by
 obtain ⟨h1, _, _, h2, _⟩ := safeN_spec h
 exact ⟨h1, by simp [escapes, h2]⟩
def begins (p : Int → Bool) (S : List Int) : Prop := (∃ d T, S = 92 :: d :: T ∧ isNewline d = false) ∨ (∃ c T, S = c :: T ∧ p c = true)
theorem begins_pEsc {c : Int} {e : Esc} {rest : List Int} {need : Bool} (hl : legit c e) {S : List Int} (p : Int → Bool) (h : e = .none → p c = true) :
  begins p (pEsc c e rest need ++ S) := by
 have hex : ∀ q, (q = 92 :: hexStr c.toNat ++ [32] ∨ q = 92 :: hexStr c.toNat) → begins p (q ++ S) := by
  intro q hq
  have hh := hexStr_head c.toNat
  cases hs : hexStr c.toNat with
  | nil => exact absurd hs (hexStr_ne _)
  | cons d t =>
   rw [hs, pk_cons_zero] at hh
   rw [hs] at hq
   rcases hq with rfl | rfl
   ·exact .inl ⟨d, t ++ [32] ++ S, by simp, hex_not_newline hh⟩
   ·exact .inl ⟨d, t ++ S, by simp, hex_not_newline hh⟩
 cases e with
 | none => exact .inr ⟨c, S, rfl, h rfl⟩
 | back =>
  cases hb : isHexC c with
  | false => exact .inl ⟨c, S, by simp [pEsc, hb], hl⟩
  | true =>
   apply hex
   simp only [pEsc, hb]
   repeat' split
   all_goals simp
 | hex =>
  apply hex
  simp only [pEsc]
  repeat' split
  all_goals simp
theorem begins_mono {p q : Int → Bool} {S : List Int} (h : begins p S) (hpq : ∀ c, p c = true → q c = true) : begins q S := by
 rcases h with h | ⟨c, T, rfl, hp⟩
 ·exact .inl h
 ·exact .inr ⟨c, T, rfl, hpq c hp⟩
theorem escOf_none {ascii : Bool} {c : Int} (h : escOf ascii none c = .none) : continues c = true := by
 have := escOf_legit (ascii := ascii) (f := none) (c := c) (.inl rfl)
 rwa [h] at this
theorem begins_pTail {ascii need : Bool} {d : Int} {V R : List Int} : begins (fun c => c == d && continues c) (pTail ascii need (d :: V) ++ R) := by
 simp only [pTail, List.append_assoc]
 exact begins_pEsc (escOf_legit (.inl rfl)) _ fun h => by simp [escOf_none h]
def startsIdent (S : List Int) : Prop :=
 (∃ d T, S = 92 :: d :: T ∧ isNewline d = false) ∨ (∃ c T, S = c :: T ∧ starts c = true) ∨ (∃ T, S = 45 :: T ∧ begins (fun c => starts c || c == 45) T)
theorem starts_facts {c : Int} (h : starts c = true) : isSpace c = false ∧ isDigit c = false ∧ c ≠ -1 ∧ c ≠ 34 ∧ c ≠ 39 ∧ c ≠ 35 ∧ c ≠ 45 ∧ c ≠ 43 ∧ c ≠ 46 ∧ c ≠ 92 := by
 simp [starts] at h
 simp [isSpace, isNewline, isDigit]
 omega
theorem startsIdent_identifies {S : List Int} (h : startsIdent S) : identifies (pk 0 S) (pk 1 S) (pk 2 S) = true := by
 rcases h with ⟨d, T, rfl, hd⟩ | ⟨c, T, rfl, hc⟩ | ⟨T, rfl, h⟩
 ·simp [identifies, pk_cons_zero, pk_cons_succ, escapes, hd]
 ·have := starts_facts hc
  simp [identifies, pk_cons_zero, hc, this]
 ·rcases h with ⟨d, T, rfl, hd⟩ | ⟨c, T, rfl, hc⟩
  ·simp [identifies, pk_cons_zero, pk_cons_succ, escapes, hd]
  ·simp only [Bool.or_eq_true] at hc
   simp only [identifies, pk_cons_zero, pk_cons_succ]
   rcases hc with hc | hc <;> simp [hc]
theorem startsIdent_named {S : List Int} (h : startsIdent S) (hcdc : pk 0 S = 45 → pk 1 S = 45 → pk 2 S ≠ 62) : next S = named S := by
 have hi := startsIdent_identifies h
 have f : isSpace (pk 0 S) = false ∧ pk 0 S ≠ -1 ∧ pk 0 S ≠ 34 ∧ pk 0 S ≠ 39 ∧ pk 0 S ≠ 35 ∧ counts (pk 0 S) (pk 1 S) (pk 2 S) = false := by
  rcases h with ⟨d, T, rfl, hd⟩ | ⟨c, T, rfl, hc⟩ | ⟨T, rfl, h⟩
  ·simp only [pk_cons_zero, pk_cons_succ]
   exact ⟨by decide, by decide, by decide, by decide, by decide, by simp [counts, isDigit]⟩
  ·have := starts_facts hc
   simp only [pk_cons_zero, pk_cons_succ]
   exact ⟨this.1, by simp [this], by simp [this], by simp [this], by simp [this], by simp [counts, this]⟩
  ·simp only [pk_cons_zero, pk_cons_succ]
   refine ⟨by decide, by decide, by decide, by decide, by decide, ?_⟩
   rcases h with ⟨d, T, rfl, hd⟩ | ⟨c, T, rfl, hc⟩
   ·simp [counts, isDigit, pk_cons_zero]
   ·simp only [Bool.or_eq_true] at hc
    simp only [pk_cons_zero, pk_cons_succ]
    rcases hc with hc | hc
    ·have := starts_facts hc
     simp [counts, this]
    ·simp at hc
     subst hc
     simp [counts, isDigit]
 obtain ⟨f1, f2, f3, f4, f5, f6⟩ := f
 have f7 : (pk 0 S == 45 && pk 1 S == 45 && pk 2 S == 62) = false := by
  by_cases h1 : pk 0 S = 45 <;> by_cases h2 : pk 1 S = 45 <;> simp_all
 unfold next
 simp only [f1, f6, hi, f7]
 simp [f2, f3, f4, f5]
theorem pIdent_starts {mode : Nat} {ascii need : Bool} {V R : List Int} (hm : mode ≠ 1) (hne : V ≠ []) : startsIdent (pIdent mode ascii need V ++ R) := by
 cases V with
 | nil => exact absurd rfl hne
 | cons c V =>
  simp only [pIdent, List.append_assoc]
  by_cases hn : escOf ascii (firstEsc mode (c :: V)) c = .none
  ·rw [hn]
   have hw : wouldStart (c :: V) = true := by
    cases hw : wouldStart (c :: V) with
    | true => rfl
    | false =>
     have : firstEsc mode (c :: V) = some .back := by simp [firstEsc, hm, hw]
     rw [this] at hn
     unfold escOf at hn
     repeat' split at hn
     all_goals simp at hn
   simp only [pEsc, List.cons_append, List.nil_append]
   simp only [wouldStart, Bool.or_eq_true, Bool.and_eq_true] at hw
   rcases hw with hw | ⟨h45, hd⟩
   ·exact .inr (.inl ⟨c, _, rfl, hw⟩)
   ·simp at h45
    subst h45
    refine .inr (.inr ⟨_, rfl, ?_⟩)
    cases V with
    | nil => simp [pk_nil, starts] at hd
    | cons d V =>
     rw [pk_cons_zero] at hd
     exact begins_mono begins_pTail fun x hx => by
      simp only [Bool.and_eq_true, beq_iff_eq] at hx
      rw [hx.1]
      simp only [Bool.or_eq_true]
      exact hd
  ·have hb := begins_pEsc (rest := V) (need := need) (escOf_legit (ascii := ascii) (firstEsc_good mode c V)) (S := pTail ascii need V ++ R) (fun _ => false) fun h => absurd h hn
   rcases hb with h | ⟨_, _, _, h⟩
   ·exact .inl h
   ·exact absurd h (by simp)
theorem pTail_pk {ascii need : Bool} {V R : List Int} : (V = [] ∧ pk 0 (pTail ascii need V ++ R) = pk 0 R) ∨ pk 0 (pTail ascii need V ++ R) = 92 ∨ (V ≠ [] ∧ pk 0 (pTail ascii need V ++ R) = pk 0 V ∧ continues (pk 0 V) = true) := by
 cases V with
 | nil => exact .inl ⟨rfl, rfl⟩
 | cons d V =>
  rcases begins_pTail (ascii := ascii) (need := need) (d := d) (V := V) (R := R) with ⟨x, T, h, _⟩ | ⟨x, T, h, hx⟩
  ·rw [h]; exact .inr (.inl rfl)
  ·rw [h]
   simp only [Bool.and_eq_true, beq_iff_eq] at hx
   exact .inr (.inr ⟨by simp, by rw [pk_cons_zero, pk_cons_zero]; exact hx.1, by rw [pk_cons_zero, ← hx.1]; exact hx.2⟩)
theorem pIdent_cdc {mode : Nat} {ascii need : Bool} {V R : List Int} (hne : V ≠ []) (hR : pk 0 R ≠ 62) (hR2 : continues (pk 0 R) = false) :
  pk 0 (pIdent mode ascii need V ++ R) = 45 → pk 1 (pIdent mode ascii need V ++ R) = 45 → pk 2 (pIdent mode ascii need V ++ R) ≠ 62 := by
 cases V with
 | nil => exact absurd rfl hne
 | cons c V =>
  intro h1 h2
  simp only [pIdent, List.append_assoc] at h1 h2 ⊢
  rw [pEsc_head] at h1
  by_cases hn : escOf ascii (firstEsc mode (c :: V)) c = .none
  ·rw [hn] at h2 ⊢
   simp only [pEsc, List.cons_append, List.nil_append, pk_cons_succ] at h2 ⊢
   cases V with
   | nil =>
    simp only [pTail, List.nil_append] at h2
    rw [h2] at hR2
    exact absurd hR2 (by decide)
   | cons d V =>
    simp only [pTail, List.append_assoc] at h2 ⊢
    have h3 := h2
    rw [pEsc_head] at h3
    by_cases hn2 : escOf ascii none d = .none
    ·rw [hn2]
     simp only [pEsc, List.cons_append, List.nil_append, pk_cons_succ]
     rcases pTail_pk (ascii := ascii) (need := need) (V := V) (R := R) with ⟨_, h⟩ | h | ⟨_, h, hc⟩
     ·rw [h]; exact hR
     ·rw [h]; decide
     ·rw [h]; intro h62; rw [h62] at hc; exact absurd hc (by decide)
    ·rw [if_neg hn2] at h3; exact absurd h3 (by decide)
  ·rw [if_neg hn] at h1; exact absurd h1 (by decide)
section names
variable {ascii need : Bool} {V R : List Int}
theorem next_ident (hne : V ≠ []) (hv : ∀ c ∈ V, Valid c) (hlow : ascii = true → ∀ c ∈ V, c < 1048576) (hR : safeN (pk 0 R) = true) (ha : apart2 need R) :
  ∃ R', next (pIdent 0 ascii need V ++ R) = (⟨29, 0, false, enc V⟩, R', false) ∧ left need R R' := by
 obtain ⟨R', h, hl⟩ := name_pIdent (mode := 0) (safeN_ends hR) (apart2_apart ha) hne hv hlow
 refine ⟨R', ?_, hl⟩
 have hs := safeN_spec hR
 rw [startsIdent_named (pIdent_starts (by decide) hne) (pIdent_cdc hne hs.2.2.2.2.2.1 hs.1)]
 unfold named
 rw [h]
 have : pk 0 R' ≠ 40 := by rw [left_pk ha hl]; exact hs.2.2.2.2.1
 simp [this]
theorem next_function (hne : V ≠ []) (hv : ∀ c ∈ V, Valid c) (hlow : ascii = true → ∀ c ∈ V, c < 1048576) (hu : isURL (enc V) = false) :
  next (pIdent 0 ascii need V ++ 40 :: R) = (⟨27, 0, false, enc V⟩, R, false) := by
 have he : ends (40 :: R) := ⟨rfl, by simp [escapes, pk_cons_zero]⟩
 obtain ⟨R', h, hl⟩ := name_pIdent (mode := 0) (need := need) he (.inr (.inl rfl)) hne hv hlow
 have hR' : R' = 40 :: R := by
  rcases hl with h | ⟨_, h, _⟩
  ·exact h
  ·simp [pk_cons_zero] at h
 subst hR'
 rw [startsIdent_named (pIdent_starts (by decide) hne) (pIdent_cdc hne (by simp [pk_cons_zero]) rfl)]
 unfold named
 rw [h]
 simp [pk_cons_zero, hu]
theorem next_at (hne : V ≠ []) (hv : ∀ c ∈ V, Valid c) (hlow : ascii = true → ∀ c ∈ V, c < 1048576) (hR : safeN (pk 0 R) = true) (ha : apart2 need R) :
  ∃ R', next (64 :: (pIdent 0 ascii need V ++ R)) = (⟨1, 0, false, enc V⟩, R', false) ∧ left need R R' := by
 obtain ⟨R', h, hl⟩ := name_pIdent (mode := 0) (safeN_ends hR) (apart2_apart ha) hne hv hlow
 refine ⟨R', ?_, hl⟩
 have hi := startsIdent_identifies (pIdent_starts (mode := 0) (ascii := ascii) (need := need) (R := R) (by decide) hne)
 unfold next
 simp only [pk_cons_zero, pk_cons_succ, List.tail_cons]
 have f1 : counts 64 (pk 0 (pIdent 0 ascii need V ++ R)) (pk 1 (pIdent 0 ascii need V ++ R)) = false := by simp [counts, isDigit]
 have f2 : identifies 64 (pk 0 (pIdent 0 ascii need V ++ R)) (pk 1 (pIdent 0 ascii need V ++ R)) = false := by simp [identifies, starts, escapes]
 simp only [f1, f2, hi, h]
 simp [isSpace, isNewline]
theorem next_hash (hne : V ≠ []) (hv : ∀ c ∈ V, Valid c) (hlow : ascii = true → ∀ c ∈ V, c < 1048576) (hR : safeN (pk 0 R) = true) (ha : apart2 need R) :
  ∃ R' i, next (35 :: (pIdent 1 ascii need V ++ R)) = (⟨28, 0, i, enc V⟩, R', false) ∧ left need R R' := by
 obtain ⟨R', h, hl⟩ := name_pIdent (mode := 1) (safeN_ends hR) (apart2_apart ha) hne hv hlow
 refine ⟨R', identifies (pk 0 (pIdent 1 ascii need V ++ R)) (pk 1 (pIdent 1 ascii need V ++ R)) (pk 2 (pIdent 1 ascii need V ++ R)), ?_, hl⟩
 have hb : (continues (pk 0 (pIdent 1 ascii need V ++ R)) || escapes (pk 0 (pIdent 1 ascii need V ++ R)) (pk 1 (pIdent 1 ascii need V ++ R))) = true := by
  cases V with
  | nil => exact absurd rfl hne
  | cons c V =>
   have hf : firstEsc 1 (c :: V) = none := by simp [firstEsc]
   simp only [pIdent, List.append_assoc, hf]
   rcases begins_pEsc (rest := V) (need := need) (escOf_legit (ascii := ascii) (f := none) (c := c) (.inl rfl)) (S := pTail ascii need V ++ R) continues escOf_none with ⟨d, T, h, hd⟩ | ⟨d, T, h, hd⟩
   ·rw [h]; simp [pk_cons_zero, pk_cons_succ, escapes, hd]
   ·rw [h]; simp [pk_cons_zero, hd]
 unfold next
 simp only [pk_cons_zero, pk_cons_succ, List.tail_cons, hb, h]
 simp [isSpace, isNewline]
end names
theorem name_le (U : List Int) : (name U).2.1.length ≤ U.length := by
 induction hn : U.length using Nat.strongRecOn generalizing U with
 | _ n ih =>
  subst hn
  rw [name]
  split
  ·rename_i h
   have := pk_lt (U := U) (k := 0) rfl (continues_ne h)
   have := ih U.tail.length (by simp; omega) U.tail rfl
   simp at this ⊢; omega
  ·split
   ·rename_i h
    have := pk_lt (U := U) (k := 0) rfl (escapes_ne h)
    have he := esc_le U.tail
    simp at he
    have := ih (esc U.tail).2.1.length (by omega) _ rfl
    simp; omega
   ·simp
theorem name_lt {U : List Int} (h : continues (pk 0 U) = true ∨ escapes (pk 0 U) (pk 1 U) = true) : (name U).2.1.length < U.length := by
 rw [name]
 split
 ·rename_i h
  have := pk_lt (U := U) (k := 0) rfl (continues_ne h)
  have := name_le U.tail
  simp at this ⊢; omega
 ·rename_i h1
  have h2 := h.resolve_left h1
  rw [dif_pos h2]
  have := pk_lt (U := U) (k := 0) rfl (escapes_ne h2)
  have he := esc_le U.tail
  simp at he
  have := name_le (esc U.tail).2.1
  simp; omega
theorem identifies_name {U : List Int} (h : identifies (pk 0 U) (pk 1 U) (pk 2 U) = true) : (name U).2.1.length < U.length := by
 apply name_lt
 unfold identifies at h
 split at h
 ·rename_i h'; simp at h'; left; rw [h']; decide
 ·simp only [Bool.or_eq_true] at h
  rcases h with h | h
  ·left; simp [continues, h]
  ·right; exact h
theorem digits_le (U : List Int) : (digits U).length ≤ U.length := by
 induction U with
 | nil => simp [digits]
 | cons c U ih => simp only [digits]; split <;> simp; omega
theorem digits_lt {U : List Int} (h : isDigit (pk 0 U) = true) : (digits U).length < U.length := by
 cases U with
 | nil => simp [pk_nil, isDigit] at h
 | cons c U =>
  rw [pk_cons_zero] at h
  have := digits_le U
  simp [digits, h]; omega
theorem spaces_lt {U : List Int} (h : isSpace (pk 0 U) = true) : (spaces U).length < U.length := by
 cases U with
 | nil => simp [pk_nil, isSpace, isNewline] at h
 | cons c U =>
  rw [pk_cons_zero] at h
  have := spaces_le U
  simp [spaces, h]; omega
theorem nSign_le (U : List Int) : (nSign U).length ≤ U.length := by
 unfold nSign; split <;> simp
theorem nFrac_le (U : List Int) : (nFrac U).1.length ≤ U.length := by
 unfold nFrac
 split
 ·have := digits_le U.tail; simp at this ⊢; omega
 ·simp
theorem nExp_le (U : List Int) : (nExp U).length ≤ U.length := by
 unfold nExp
 split
 ·have := digits_le (U.drop 2); simp at this ⊢; omega
 ·simp
theorem numHead_le (U : List Int) : (numHead U).1.length ≤ U.length := by
 have h1 := nSign_le U
 have h2 := digits_le (nSign U)
 have h3 := nFrac_le (digits (nSign U))
 have h4 := nExp_le (nFrac (digits (nSign U))).1
 unfold numHead
 simp; omega
theorem numHead_lt {U : List Int} (h : counts (pk 0 U) (pk 1 U) (pk 2 U) = true) : (numHead U).1.length < U.length := by
 have h2 := digits_le (nSign U)
 have h3 := nFrac_le (digits (nSign U))
 have h4 := nExp_le (nFrac (digits (nSign U))).1
 unfold numHead
 simp only
 unfold counts at h
 by_cases hp : (pk 0 U == 43 || pk 0 U == 45) = true
 ·have : 0 < U.length := pk_lt (k := 0) rfl (by intro h; rw [h] at hp; exact absurd hp (by decide))
  have : (nSign U).length < U.length := by unfold nSign; rw [if_pos hp]; simp; omega
  omega
 ·rw [if_neg hp] at h
  have hs : nSign U = U := by unfold nSign; rw [if_neg hp]
  rw [hs] at h2 h3 h4 ⊢
  simp only [Bool.or_eq_true] at h
  rcases h with h | h
  ·have := digits_lt h; omega
  ·have hd : isDigit (pk 0 U) = false := by simp at h; rw [h.1]; decide
   have e : digits U = U := by
    cases U with
    | nil => rfl
    | cons c U => rw [pk_cons_zero] at hd; simp [digits, hd]
   rw [e] at h3 h4 ⊢
   have : (nFrac U).1.length < U.length := by
    unfold nFrac
    rw [if_pos h]
    have h5 : 0 < U.length := pk_lt (k := 0) rfl (by intro h'; rw [h'] at h; simp at h)
    have := digits_le U.tail; simp at this ⊢; omega
   omega
theorem numeric_lt {U : List Int} (h : counts (pk 0 U) (pk 1 U) (pk 2 U) = true) : (numeric U).2.1.length < U.length := by
 have := numHead_lt h
 unfold numeric
 dsimp only
 split
 ·have := name_le (numHead U).1; simp; omega
 ·split
  ·simp; omega
  ·simp; omega
theorem badURL_le (U : List Int) : (badURL U).2.1.length ≤ U.length := by
 induction hn : U.length using Nat.strongRecOn generalizing U with
 | _ n ih =>
  subst hn
  rw [badURL.eq_def]
  split
  ·simp
  ·rename_i c V
   have he := esc_le V
   split
   ·simp
   ·split
    ·have := ih (esc V).2.1.length (by simp; omega) _ rfl
     simp at this ⊢; omega
    ·have := ih V.length (by simp) _ rfl
     simp; omega
theorem url_le (U : List Int) : ∀ out, (url out U).2.1.length ≤ U.length := by
 induction hn : U.length using Nat.strongRecOn generalizing U with
 | _ n ih =>
  subst hn
  intro out
  rw [url.eq_def]
  split
  ·simp
  ·rename_i c V
   have he := esc_le V
   have hs := spaces_le V
   split
   ·simp
   ·split
    ·have h1 := ih (spaces V).length (by simp; omega) _ rfl out
     have h2 := badURL_le (spaces V)
     dsimp only
     split <;> simp <;> omega
    ·split
     ·exact badURL_le _
     ·split
      ·have := ih (esc V).2.1.length (by simp; omega) _ rfl (out ++ enc1 (esc V).1)
       simp at this ⊢; omega
      ·have := ih V.length (by simp) _ rfl (out ++ enc1 c)
       simp; omega
theorem named_lt {U : List Int} (h : identifies (pk 0 U) (pk 1 U) (pk 2 U) = true) : (named U).2.1.length < U.length := by
 have h1 := identifies_name h
 unfold named
 dsimp only
 split
 ·exact h1
 ·split
  ·have h2 := url_le (spaces (name U).2.1.tail) []
   have h3 := spaces_le (name U).2.1.tail
   simp at h3 ⊢; omega
  ·simp; omega
theorem quoted_le (quote : Int) (U : List Int) : ∀ out, (quoted quote out U).2.1.length ≤ U.length := by
 induction hn : U.length using Nat.strongRecOn generalizing U with
 | _ n ih =>
  subst hn
  intro out
  rw [quoted.eq_def]
  split
  ·simp
  ·rename_i c V
   have he := esc_le V
   have hl := newline_le V
   split
   ·simp
   ·split
    ·simp
    ·split
     ·split
      ·have := ih V.length (by simp) _ rfl out; simp; omega
      ·split
       ·have := ih (newline V).length (by simp; omega) _ rfl out; simp; omega
       ·have := ih (esc V).2.1.length (by simp; omega) _ rfl (out ++ enc1 (esc V).1)
        simp at this ⊢; omega
     ·have := ih V.length (by simp) _ rfl (out ++ enc1 c)
      simp; omega
theorem next_lt {U : List Int} (h : pk 0 U ≠ -1) : (next U).2.1.length < U.length := by
 have h0 : 0 < U.length := pk_lt (k := 0) rfl h
 unfold next
 dsimp only
 rw [if_neg (by simpa using h)]
 split
 ·rename_i hs; exact spaces_lt hs
 ·split
  ·have := quoted_le (pk 0 U) U.tail []; simp at this ⊢; omega
  ·split
   ·have := name_le U.tail; simp at this ⊢; omega
   ·split
    ·rename_i hc; exact numeric_lt hc
    ·split
     ·simp; omega
     ·split
      ·rename_i hi; exact named_lt hi
      ·split
       ·simp; omega
       ·split
        ·have := name_le U.tail; simp at this ⊢; omega
        ·simp; omega
theorem comment_le (U : List Int) : (comment U).1.length ≤ U.length := by
 induction hn : U.length using Nat.strongRecOn generalizing U with
 | _ n ih =>
  subst hn
  rw [comment]
  split
  ·rename_i h
   have h1 : pk 0 U = 47 := by simp at h; exact h.1
   have h2 := pk_lt h1 (by decide)
   have h3 := inComment_le (U.drop 2)
   simp at h3
   dsimp only
   split
   ·simp; omega
   ·have := ih (inComment (U.drop 2)).1.length (by omega) _ rfl
    simp; omega
  ·simp
structure Tok where
 tk : Tk
 from' : List Int
 upto : List Int
def tokens (U : List Int) : List Tok × Nat × Bool :=
 let C := comment U
 if _h : pk 0 C.1 = -1 then ([], C.2.1, C.2.2)
 else
  let n := next C.1
  let r := tokens n.2.1
  (⟨n.1, C.1, n.2.1⟩ :: r.1, C.2.1 + r.2.1, C.2.2 || n.2.2 || r.2.2)
termination_by U.length
decreasing_by
 have h1 := comment_le U
 have h2 := next_lt _h
 exact Nat.lt_of_lt_of_le h2 h1
theorem pk_append_lt {k : Nat} {X R : List Int} (h : k < X.length) : pk k (X ++ R) = pk k X := by
 simp [pk, List.getElem?_append_left h]
theorem digits_append {R : List Int} (h : isDigit (pk 0 R) = false) (X : List Int) : digits (X ++ R) = digits X ++ R := by
 induction X with
 | nil =>
  cases R with
  | nil => rfl
  | cons c R => rw [pk_cons_zero] at h; simp [digits, h]
 | cons c X ih =>
  simp only [List.cons_append, digits]
  split
  ·exact ih
  ·rfl
theorem isDigit_lt {k : Nat} {U : List Int} (h : isDigit (pk k U) = true) : k < U.length :=
 pk_lt rfl (by intro h'; rw [h'] at h; exact absurd h (by decide))
theorem isDigit_neg : isDigit (-1) = false := by decide
theorem nSign_append {X R : List Int} (h : X ≠ [] ∨ (pk 0 R ≠ 43 ∧ pk 0 R ≠ 45)) : nSign (X ++ R) = nSign X ++ R := by
 cases X with
 | nil =>
  have h := h.resolve_left (by simp)
  simp [nSign, pk_nil, h]
 | cons c X => simp only [nSign, List.cons_append, pk_cons_zero]; split <;> rfl
theorem nFrac_append {R : List Int} (h1 : isDigit (pk 0 R) = false) (h2 : pk 0 R ≠ 46) (X : List Int) : nFrac (X ++ R) = ((nFrac X).1 ++ R, (nFrac X).2) := by
 cases X with
 | nil => simp [nFrac, pk_nil, h2]
 | cons c X =>
  have e : isDigit (pk 1 (c :: X ++ R)) = isDigit (pk 1 (c :: X)) := by
   cases X with
   | nil => simp only [List.cons_append, List.nil_append, pk_cons_succ, h1, pk_nil, isDigit_neg]
   | cons d X => rfl
  unfold nFrac
  rw [e]
  simp only [List.cons_append, pk_cons_zero, List.tail_cons]
  split
  ·rw [digits_append h1]
  ·rfl
theorem isExpo_lt {X : List Int} (h : isExpo X = true) : 2 ≤ X.length ∧ (isDigit (pk 1 X) = true ∨ 3 ≤ X.length) := by
 simp only [isExpo, Bool.and_eq_true, Bool.or_eq_true] at h
 rcases h.2 with h | h
 ·have := isDigit_lt h; exact ⟨by omega, .inl h⟩
 ·have := isDigit_lt h.2; exact ⟨by omega, .inr (by omega)⟩
theorem isExpo_append {X R : List Int} (h : isExpo X = true) : isExpo (X ++ R) = true := by
 have hl := isExpo_lt h
 simp only [isExpo, Bool.and_eq_true, Bool.or_eq_true] at h ⊢
 rw [pk_append_lt (by omega), pk_append_lt (by omega)]
 refine ⟨h.1, ?_⟩
 rcases h.2 with h | h
 ·exact .inl h
 ·have := isDigit_lt h.2
  rw [pk_append_lt (by omega)]
  exact .inr h
theorem isExpo_append_iff {X R : List Int} (h1 : isDigit (pk 0 R) = false) (h2 : pk 0 R ≠ 101) (h3 : pk 0 R ≠ 69) (h4 : pk 0 R ≠ 43) (h5 : pk 0 R ≠ 45) : isExpo (X ++ R) = isExpo X := by
 match X with
 | [] => simp [isExpo, pk_nil, h2, h3]
 | [a] => simp [isExpo, pk_nil, pk_cons_succ, h1, h4, h5, isDigit_neg]
 | [a, b] => simp [isExpo, pk_nil, pk_cons_succ, pk_cons_zero, h1, isDigit_neg]
 | a :: b :: c :: X => simp [isExpo, pk_cons_succ, pk_cons_zero]
theorem nExp_append {X R : List Int} (h1 : isDigit (pk 0 R) = false) (h2 : pk 0 R ≠ 101) (h3 : pk 0 R ≠ 69) (h4 : pk 0 R ≠ 43) (h5 : pk 0 R ≠ 45) : nExp (X ++ R) = nExp X ++ R := by
 unfold nExp
 rw [isExpo_append_iff h1 h2 h3 h4 h5]
 split
 ·rename_i h
  have := isExpo_lt h
  rw [List.drop_append_of_le_length (by omega), digits_append h1]
 ·rfl
def neutral (c : Int) : Prop := isDigit c = false ∧ c ≠ 46 ∧ c ≠ 101 ∧ c ≠ 69 ∧ c ≠ 43 ∧ c ≠ 45
theorem numHead_neutral {R : List Int} (h : neutral (pk 0 R)) (N : List Int) : numHead (N ++ R) = ((numHead N).1 ++ R, (numHead N).2) := by
 obtain ⟨h1, h2, h3, h4, h5, h6⟩ := h
 unfold numHead
 rw [nSign_append (.inr ⟨h5, h6⟩), digits_append h1, nFrac_append h1 h2]
 simp only
 rw [nExp_append h1 h3 h4 h5 h6]
theorem digits_suffix (U : List Int) : ∃ p, U = p ++ digits U ∧ ∀ c ∈ p, isDigit c = true := by
 induction U with
 | nil => exact ⟨[], rfl, by simp⟩
 | cons c U ih =>
  simp only [digits]
  split
  ·rename_i h
   obtain ⟨p, hp, ha⟩ := ih
   exact ⟨c :: p, by rw [List.cons_append, ← hp], by simpa [h] using ha⟩
  ·exact ⟨[], rfl, by simp⟩
theorem mantissa (U : List Int) : ∃ p, U = p ++ (nFrac (digits (nSign U))).1 ∧ ∀ c ∈ p, c ≠ 101 ∧ c ≠ 69 := by
 obtain ⟨p1, e1, h1⟩ : ∃ p, U = p ++ nSign U ∧ ∀ c ∈ p, c = 43 ∨ c = 45 := by
  cases U with
  | nil => exact ⟨[], rfl, by simp⟩
  | cons c U =>
   unfold nSign
   split
   ·rename_i h; simp [pk_cons_zero] at h; exact ⟨[c], rfl, by simpa using h⟩
   ·exact ⟨[], rfl, by simp⟩
 obtain ⟨p2, e2, h2⟩ := digits_suffix (nSign U)
 obtain ⟨p3, e3, h3⟩ : ∃ p, digits (nSign U) = p ++ (nFrac (digits (nSign U))).1 ∧ ∀ c ∈ p, c = 46 ∨ isDigit c = true := by
  generalize digits (nSign U) = X
  cases X with
  | nil => exact ⟨[], rfl, by simp⟩
  | cons c X =>
   unfold nFrac
   split
   ·rename_i h
    simp [pk_cons_zero] at h
    obtain ⟨p, e, hp⟩ := digits_suffix X
    refine ⟨c :: p, by simp [← e], ?_⟩
    intro d hd
    simp at hd
    rcases hd with rfl | hd
    ·exact .inl h.1
    ·exact .inr (hp d hd)
   ·exact ⟨[], rfl, by simp⟩
 refine ⟨p1 ++ p2 ++ p3, by rw [List.append_assoc, List.append_assoc, ← e3, ← e2, ← e1], ?_⟩
 intro c hc
 simp at hc
 rcases hc with hc | hc | hc
 ·rcases h1 c hc with rfl | rfl <;> decide
 ·have := h2 c hc; simp [isDigit] at this; omega
 ·rcases h3 c hc with rfl | h
  ·decide
  ·simp [isDigit] at h; omega
theorem numHead_suffix (U : List Int) : ∃ p, U = p ++ (numHead U).1 := by
 obtain ⟨p, e, _⟩ := mantissa U
 unfold numHead
 simp only
 generalize (nFrac (digits (nSign U))).1 = X at e
 unfold nExp
 split
 ·obtain ⟨q, e2, _⟩ := digits_suffix (X.drop 2)
  exact ⟨p ++ X.take 2 ++ q, by rw [List.append_assoc, List.append_assoc, ← e2, List.take_append_drop, ← e]⟩
 ·exact ⟨p, e⟩
def hasE (N : List Int) : Bool := N.any fun c => c == 101 || c == 69
theorem numHead_whole {N R : List Int} (h : numHead N = ([], false)) (hne : N ≠ []) (h1 : isDigit (pk 0 R) = false) (h2 : pk 0 R ≠ 46)
  (h3 : hasE N = false → isExpo R = false) : numHead (N ++ R) = (R, false) := by
 obtain ⟨p, ep, hp⟩ := mantissa N
 unfold numHead at h ⊢
 rw [nSign_append (.inl hne), digits_append h1, nFrac_append h1 h2]
 simp only at h ⊢
 generalize (nFrac (digits (nSign N))).2 = o at h
 generalize (nFrac (digits (nSign N))).1 = X at h ep
 simp only [Prod.mk.injEq] at h
 rw [h.2]
 congr 1
 have hx := h.1
 cases X with
 | nil =>
  have hE : hasE N = false := by
   rw [ep]
   simp [hasE]
   intro c hc
   exact hp c hc
  simp [nExp, h3 hE]
 | cons c X =>
  unfold nExp at hx ⊢
  by_cases he : isExpo (c :: X) = true
  ·rw [if_pos he] at hx
   rw [if_pos (isExpo_append he)]
   have := isExpo_lt he
   rw [List.drop_append_of_le_length (by omega), digits_append h1, hx]
   rfl
  ·rw [if_neg he] at hx
   simp at hx
theorem counts_append {N R : List Int} (h : counts (pk 0 N) (pk 1 N) (pk 2 N) = true) : counts (pk 0 (N ++ R)) (pk 1 (N ++ R)) (pk 2 (N ++ R)) = true := by
 match N, h with
 | [], h => simp [counts, pk_nil, isDigit_neg] at h
 | [a], h =>
  simp [counts, pk_nil, pk_cons_zero, pk_cons_succ, isDigit_neg] at h
  simp only [List.cons_append, List.nil_append, pk_cons_zero, pk_cons_succ, counts]
  have h43 : (a == 43 || a == 45) = false := by
   have := h.1; simp; omega
  rw [h43]; simp [h]
 | [a, b], h =>
  simp only [List.cons_append, List.nil_append, pk_cons_zero, pk_cons_succ, pk_nil, counts, isDigit_neg] at h ⊢
  split
  ·rename_i hs; rw [if_pos hs] at h; simp at h; simp [h]
  ·rename_i hs; rw [if_neg hs] at h; exact h
 | a :: b :: c :: N, h => exact h
theorem counts_head {a b c : Int} (h : counts a b c = true) : a ≠ -1 ∧ isSpace a = false ∧ a ≠ 34 ∧ a ≠ 39 ∧ a ≠ 35 := by
 unfold counts at h
 split at h
 ·rename_i h'; simp at h'; rcases h' with rfl | rfl <;> decide
 ·simp only [Bool.or_eq_true, Bool.and_eq_true, beq_iff_eq] at h
  rcases h with h | h
  ·simp [isDigit] at h; simp [isSpace, isNewline]; omega
  ·rw [h.1]; decide
theorem next_numeric {U : List Int} (h : counts (pk 0 U) (pk 1 U) (pk 2 U) = true) : next U = numeric U := by
 obtain ⟨h1, h2, h3, h4, h5⟩ := counts_head h
 unfold next
 simp only [h, h2]
 simp [h1, h3, h4, h5]
theorem next_number {N R : List Int} (hc : counts (pk 0 N) (pk 1 N) (pk 2 N) = true) (h : numHead N = ([], false)) (hR : safeN (pk 0 R) = true) :
  next (N ++ R) = (⟨30, 0, false, []⟩, R, false) := by
 obtain ⟨s1, s2, s3, s4, s5, s6, s7, s8, s9, s10, s11, s12⟩ := safeN_spec hR
 have hne : N ≠ [] := by rintro rfl; exact absurd hc (by decide)
 rw [next_numeric (counts_append hc)]
 unfold numeric
 rw [numHead_whole h hne s3 s9 (fun _ => by simp [isExpo, s11, s12])]
 simp [identifies, escapes, s2, s4, s8, s10]
theorem next_percent {T R : List Int} (hc : counts (pk 0 T) (pk 1 T) (pk 2 T) = true) (h : numHead T = ([37], false)) :
  next (T ++ R) = (⟨34, 0, false, []⟩, R, false) := by
 obtain ⟨M, e⟩ := numHead_suffix T
 rw [h] at e
 have hn : ∀ X : List Int, neutral (pk 0 (37 :: X)) := fun X => by rw [pk_cons_zero]; exact ⟨by decide, by decide, by decide, by decide, by decide, by decide⟩
 have h1 := numHead_neutral (hn []) M
 rw [← e, h] at h1
 simp at h1
 have h2 := numHead_neutral (hn R) M
 rw [h1.1, h1.2] at h2
 rw [next_numeric (counts_append hc)]
 have e2 : T ++ R = M ++ 37 :: R := by rw [e]; simp
 unfold numeric
 rw [e2, h2]
 simp [identifies, pk_cons_zero, starts, escapes]
theorem wd_append (X R : List Int) : wd (X ++ R) = wd X + wd R := by
 induction X with
 | nil => simp [wd]
 | cons c X ih => simp [wd, ih, Nat.add_assoc]
theorem unit_expo {ascii need : Bool} {V R : List Int} (hne : V ≠ []) (hR : safeN (pk 0 R) = true) : isExpo (pIdent 2 ascii need V ++ R) = false := by
 obtain ⟨s1, s2, s3, s4, s5, s6, s7, s8, s9, s10, s11, s12⟩ := safeN_spec hR
 cases V with
 | nil => exact absurd rfl hne
 | cons c V =>
  simp only [pIdent, List.append_assoc]
  by_cases hn : escOf ascii (firstEsc 2 (c :: V)) c = .none
  ·rw [hn]
   simp only [pEsc, List.cons_append, List.nil_append]
   by_cases hc : c = 101 ∨ c = 69
   ·have hfe : firstEsc 2 (c :: V) ≠ some .hex := by
     intro h
     rw [h] at hn
     unfold escOf at hn
     repeat' split at hn
     all_goals simp at hn
    have hws : wouldStart (c :: V) = true := by rcases hc with rfl | rfl <;> simp [wouldStart, starts]
    have hV : (isDigit (pk 0 V) || (pk 0 V == 45 && isDigit (pk 1 V))) = false := by
     cases hx : (isDigit (pk 0 V) || (pk 0 V == 45 && isDigit (pk 1 V))) with
     | false => rfl
     | true =>
      exfalso; apply hfe
      unfold firstEsc
      have h1 : (pk 0 (c :: V) == 101 || pk 0 (c :: V) == 69) = true := by rw [pk_cons_zero]; simpa using hc
      rw [pk_cons_succ, pk_cons_succ, h1, hx, hws]
      rfl
    have hx1 := Bool.or_eq_false_iff.1 hV
    have hd0 : isDigit (pk 0 (pTail ascii need V ++ R)) = false ∧ pk 0 (pTail ascii need V ++ R) ≠ 43 ∧ (pk 0 (pTail ascii need V ++ R) = 45 → isDigit (pk 1 (pTail ascii need V ++ R)) = false) := by
     cases V with
     | nil => simp only [pTail, List.nil_append]; exact ⟨s3, s7, fun h => absurd h s8⟩
     | cons d V =>
      rcases begins_pTail (ascii := ascii) (need := need) (d := d) (V := V) (R := R) with ⟨x, T, h, _⟩ | ⟨x, T, h, hx⟩
      ·rw [h, pk_cons_zero]; exact ⟨by decide, by decide, fun h => absurd h (by decide)⟩
      ·simp only [Bool.and_eq_true, beq_iff_eq] at hx
       obtain ⟨rfl, hcont⟩ := hx
       rw [pk_cons_zero] at hx1
       rw [h, pk_cons_zero]
       refine ⟨hx1.1, ?_, ?_⟩
       ·rintro rfl; exact absurd hcont (by decide)
       ·rintro rfl
        have hdd : isDigit (pk 0 V) = false := by
         have := hx1.2
         rw [pk_cons_succ] at this
         simpa using this
        have hT : T = pTail ascii need V ++ R := by
         simp only [pTail, List.append_assoc] at h
         by_cases hn2 : escOf ascii none 45 = .none
         ·rw [hn2] at h; simp only [pEsc, List.cons_append, List.nil_append, List.cons.injEq, true_and] at h; exact h.symm
         ·have := pEsc_head 45 (escOf ascii none 45) V need (pTail ascii need V ++ R)
          rw [h, if_neg hn2, pk_cons_zero] at this
          exact absurd this (by decide)
        rw [pk_cons_succ, hT]
        rcases pTail_pk (ascii := ascii) (need := need) (V := V) (R := R) with ⟨_, h⟩ | h | ⟨_, h, _⟩
        ·rw [h]; exact s3
        ·rw [h]; decide
        ·rw [h]; exact hdd
    simp only [isExpo, pk_cons_zero, pk_cons_succ, hd0.1]
    by_cases h45 : pk 0 (pTail ascii need V ++ R) = 45
    ·simp [hd0.2.2 h45]
    ·simp [hd0.2.1, h45]
   ·simp only [isExpo, pk_cons_zero]
    have : (c == 101 || c == 69) = false := by simpa using hc
    rw [this]; rfl
  ·have h := pEsc_head c (escOf ascii (firstEsc 2 (c :: V)) c) V need (pTail ascii need V ++ R)
   rw [if_neg hn] at h
   simp [isExpo, h]
theorem startsIdent_num {S : List Int} (h : startsIdent S) : isDigit (pk 0 S) = false ∧ pk 0 S ≠ 46 := by
 rcases h with ⟨d, T, rfl, _⟩ | ⟨c, T, rfl, hc⟩ | ⟨T, rfl, _⟩
 ·rw [pk_cons_zero]; decide
 ·have := starts_facts hc; rw [pk_cons_zero]; exact ⟨this.2.1, by simp [this]⟩
 ·rw [pk_cons_zero]; decide
theorem next_dimension {ascii need : Bool} {N V R : List Int} (hc : counts (pk 0 N) (pk 1 N) (pk 2 N) = true) (h : numHead N = ([], false))
  (hne : V ≠ []) (hv : ∀ c ∈ V, Valid c) (hlow : ascii = true → ∀ c ∈ V, c < 1048576) (hR : safeN (pk 0 R) = true) (ha : apart2 need R) :
  ∃ R', next (N ++ (pIdent (if hasE N then 3 else 2) ascii need V ++ R)) = (⟨26, wd N, false, []⟩, R', false) ∧ left need R R' := by
 obtain ⟨R', hn, hl⟩ := name_pIdent (mode := if hasE N then 3 else 2) (safeN_ends hR) (apart2_apart ha) hne hv hlow
 refine ⟨R', ?_, hl⟩
 have hN : N ≠ [] := by rintro rfl; exact absurd hc (by decide)
 have hm : (if hasE N then 3 else 2) ≠ 1 := by split <;> decide
 have hs := pIdent_starts (ascii := ascii) (need := need) (V := V) (R := R) hm hne
 have hi := startsIdent_identifies hs
 have hd := startsIdent_num hs
 have hw := numHead_whole h hN hd.1 hd.2 (fun hE => by rw [hE]; exact unit_expo hne hR)
 rw [next_numeric (counts_append hc)]
 unfold numeric
 rw [hw]
 simp only [hi, hn, if_true, wd_append]
 simp
def legitS (q c : Int) (e : Esc) : Prop :=
 match e with
 | .none => c ≠ q ∧ c ≠ 92 ∧ isNewline c = false
 | .back => isNewline c = false
 | .hex => c < 1048576
def QS (q : Int) : List Int → List Int → Prop
 | [], out => out = []
 | c :: V, out => ∃ e out', legitS q c e ∧ out = pEsc c e V false ++ out' ∧ QS q V out'
theorem QS_head {q : Int} (hq : q = 34 ∨ q = 39) {V out R : List Int} (h : QS q V out) :
  isHexC (pk 0 (out ++ q :: R)) = true ∨ isSpace (pk 0 (out ++ q :: R)) = true → V ≠ [] ∧ (pk 0 V = 32 ∨ pk 0 V = 9 ∨ isHexC (pk 0 V) = true) := by
 cases V with
 | nil =>
  have h : out = [] := h
  subst h
  rw [List.nil_append, pk_cons_zero]
  rcases hq with rfl | rfl <;> decide
 | cons d V =>
  obtain ⟨e, out', hl, rfl, _⟩ := h
  rw [List.append_assoc, pEsc_head]
  intro h
  refine ⟨by simp, ?_⟩
  rw [pk_cons_zero]
  by_cases he : e = .none
  ·subst he
   rw [if_pos rfl] at h
   rcases h with h | h
   ·exact .inr (.inr h)
   ·have h2 := hl.2.2
    simp [isSpace, h2] at h
    rcases h with h | h
    ·exact .inr (.inl h)
    ·exact .inl h
  ·rw [if_neg he] at h
   exact absurd h (by decide)
theorem quoted_plain {q c : Int} (h1 : c ≠ q) (h2 : c ≠ 92) (h3 : isNewline c = false) (acc : List UInt8) (S : List Int) : quoted q acc (c :: S) = quoted q (acc ++ enc1 c) S := by
 rw [quoted.eq_def]; simp [h1, h2, h3]
theorem quoted_esc {q d : Int} (hq : q = 34 ∨ q = 39) (h1 : d ≠ -1) (h2 : isNewline d = false) (acc : List UInt8) (S : List Int) :
  quoted q acc (92 :: d :: S) = ((quoted q (acc ++ enc1 (esc (d :: S)).1) (esc (d :: S)).2.1).1, (quoted q (acc ++ enc1 (esc (d :: S)).1) (esc (d :: S)).2.1).2.1,
   (esc (d :: S)).2.2 || (quoted q (acc ++ enc1 (esc (d :: S)).1) (esc (d :: S)).2.1).2.2) := by
 have hq' : (92 : Int) ≠ q := by rcases hq with rfl | rfl <;> decide
 have hn : isNewline 92 = false := by decide
 rw [quoted.eq_def]; simp [hq', hn, pk_cons_zero, h1, h2]
theorem quoted_QS {q : Int} (hq : q = 34 ∨ q = 39) (R : List Int) : ∀ (V out : List Int) (acc : List UInt8), (∀ c ∈ V, Valid c) → QS q V out →
  quoted q acc (out ++ q :: R) = (⟨36, 0, false, acc ++ enc V⟩, R, false) := by
 intro V
 induction V with
 | nil =>
  intro out acc _ h
  have h : out = [] := h
  subst h
  rw [quoted.eq_def]; simp [enc]
 | cons c V ih =>
  intro out acc hv h
  have hh := h
  obtain ⟨e, out', hl, rfl, ho⟩ := h
  have hvc := hv c (by simp)
  have ih' := ih out' (acc ++ enc1 c) (fun c hc => hv c (by simp [hc])) ho
  have hlast : (⟨36, 0, false, acc ++ enc1 c ++ enc V⟩ : Tk) = ⟨36, 0, false, acc ++ enc (c :: V)⟩ := by simp [enc]
  rw [← hlast, ← ih', List.append_assoc]
  have hc1 : c ≠ -1 := by have := hvc.1; omega
  have hopen : (quoted q (acc ++ enc1 c) (out' ++ q :: R)).2.2 = false := by rw [ih']
  have hdig : ∀ x, (x = 92 :: hexStr c.toNat ++ [32] ∨ (x = 92 :: hexStr c.toNat ∧ isHexC (pk 0 (out' ++ q :: R)) = false ∧ isSpace (pk 0 (out' ++ q :: R)) = false)) →
    quoted q acc (x ++ (out' ++ q :: R)) = quoted q (acc ++ enc1 c) (out' ++ q :: R) := by
   intro x hx
   have hh := hexStr_head c.toNat
   cases hs : hexStr c.toNat with
   | nil => exact absurd hs (hexStr_ne _)
   | cons d t =>
    rw [hs, pk_cons_zero] at hh
    have hnl := hex_not_newline hh
    have hd1 : d ≠ -1 := by rintro rfl; exact absurd hh (by decide)
    rcases hx with rfl | ⟨rfl, hx, hsp⟩
    ·have he := esc_hex hvc (32 :: (out' ++ q :: R)) (.inr (by rw [pk_cons_zero]; decide))
     rw [hs, if_neg (by rw [pk_cons_zero]; decide), if_pos (by rw [pk_cons_zero]; decide)] at he
     simp only [List.cons_append, List.tail_cons] at he
     rw [hs]
     simp only [List.cons_append, List.append_assoc, List.nil_append]
     rw [quoted_esc hq hd1 hnl, he]
     simp
    ·have he := esc_hex hvc (out' ++ q :: R) (.inr hx)
     rw [hs, if_neg (by simp [isNewline_space hsp]), if_neg (by simp [hsp])] at he
     simp only [List.cons_append] at he
     rw [hs]
     simp only [List.cons_append]
     rw [quoted_esc hq hd1 hnl, he]
     simp
  have hexcase : (e = .hex ∨ (e = .back ∧ isHexC c = true)) → quoted q acc (pEsc c e V false ++ (out' ++ q :: R)) = quoted q (acc ++ enc1 c) (out' ++ q :: R) := by
   intro he
   have e1 : e ≠ .none := by rcases he with rfl | ⟨rfl, _⟩ <;> simp
   have e2 : ¬ (e = .back ∧ isHexC c = false) := by rcases he with rfl | ⟨rfl, h⟩ <;> simp_all
   have hl5 : (hexStr c.toNat).length ≤ 5 := by
    rcases he with rfl | ⟨rfl, h⟩
    ·exact hexStr_low hvc hl
    ·exact hexStr_low hvc (by simp [isHexC] at h; omega)
   apply hdig
   have hH := QS_head hq (R := R) ho
   cases V with
   | nil =>
    rw [hexStr_pEsc_nil e1 e2 hl5]
    right
    refine ⟨rfl, ?_, ?_⟩
    ·cases hx : isHexC (pk 0 (out' ++ q :: R)) with
     | false => rfl
     | true => exact absurd rfl (hH (.inl hx)).1
    ·cases hx : isSpace (pk 0 (out' ++ q :: R)) with
     | false => rfl
     | true => exact absurd rfl (hH (.inr hx)).1
   | cons d V =>
    rw [hexStr_pEsc e1 e2 hl5]
    rw [pk_cons_zero] at hH
    by_cases hd : (d == 32 || d == 9 || isHexC d) = true
    ·left; rw [if_pos hd]
    ·right
     rw [if_neg hd]
     simp at hd
     refine ⟨rfl, ?_, ?_⟩
     ·cases hx : isHexC (pk 0 (out' ++ q :: R)) with
      | false => rfl
      | true => have := (hH (.inl hx)).2; simp_all
     ·cases hx : isSpace (pk 0 (out' ++ q :: R)) with
      | false => rfl
      | true => have := (hH (.inr hx)).2; simp_all
  cases e with
  | none =>
   simp only [pEsc, List.cons_append, List.nil_append]
   exact quoted_plain hl.1 hl.2.1 hl.2.2 _ _
  | back =>
   cases hb : isHexC c with
   | true => exact hexcase (.inr ⟨rfl, hb⟩)
   | false =>
    simp only [pEsc, hb, List.cons_append, List.nil_append]
    rw [quoted_esc hq hc1 hl, esc_plain hb hc1]
    simp
  | hex => exact hexcase (.inl rfl)
theorem next_string {q : Int} (hq : q = 34 ∨ q = 39) {V out R : List Int} (hv : ∀ c ∈ V, Valid c) (h : QS q V out) :
  next (q :: (out ++ q :: R)) = (⟨36, 0, false, enc V⟩, R, false) := by
 have := quoted_QS hq R V out [] hv h
 unfold next
 simp only [pk_cons_zero, List.tail_cons, this]
 rcases hq with rfl | rfl <;> simp [isSpace, isNewline]
theorem quoted_kind (q : Int) (U : List Int) : ∀ out, (quoted q out U).1.kind = 36 ∨ (quoted q out U).1.kind = 2 := by
 induction hn : U.length using Nat.strongRecOn generalizing U with
 | _ n ih =>
  subst hn
  intro out
  rw [quoted.eq_def]
  split
  ·exact .inl rfl
  ·rename_i c V
   have he := esc_le V
   have hl := newline_le V
   split
   ·exact .inl rfl
   ·split
    ·exact .inr rfl
    ·split
     ·split
      ·exact ih V.length (by simp) _ rfl out
      ·split
       ·exact ih (newline V).length (by simp; omega) _ rfl out
       ·exact ih (esc V).2.1.length (by simp; omega) _ rfl (out ++ enc1 (esc V).1)
     ·exact ih V.length (by simp) _ rfl (out ++ enc1 c)
theorem badURL_kind (U : List Int) : (badURL U).1.kind = 3 := by
 induction hn : U.length using Nat.strongRecOn generalizing U with
 | _ n ih =>
  subst hn
  rw [badURL.eq_def]
  split
  ·rfl
  ·rename_i c V
   have he := esc_le V
   split
   ·rfl
   ·split
    ·exact ih (esc V).2.1.length (by simp; omega) _ rfl
    ·exact ih V.length (by simp) _ rfl
theorem url_kind (U : List Int) : ∀ out, (url out U).1.kind = 37 ∨ (url out U).1.kind = 3 := by
 induction hn : U.length using Nat.strongRecOn generalizing U with
 | _ n ih =>
  subst hn
  intro out
  rw [url.eq_def]
  split
  ·exact .inl rfl
  ·rename_i c V
   have he := esc_le V
   have hs := spaces_le V
   split
   ·exact .inl rfl
   ·split
    ·dsimp only
     split
     ·exact .inr (badURL_kind _)
     ·exact ih (spaces V).length (by simp; omega) _ rfl out
    ·split
     ·exact .inr (badURL_kind _)
     ·split
      ·exact ih (esc V).2.1.length (by simp; omega) _ rfl (out ++ enc1 (esc V).1)
      ·exact ih V.length (by simp) _ rfl (out ++ enc1 c)
theorem named_kind (U : List Int) : (named U).1.kind = 29 ∨ (named U).1.kind = 27 ∨ (named U).1.kind = 37 ∨ (named U).1.kind = 3 := by
 unfold named
 dsimp only
 split
 ·exact .inl rfl
 ·split
  ·rcases url_kind (spaces (name U).2.1.tail) [] with h | h
   ·exact .inr (.inr (.inl h))
   ·exact .inr (.inr (.inr h))
  ·exact .inr (.inl rfl)
inductive Way (U : List Int) : Prop where
 | number (h : counts (pk 0 U) (pk 1 U) (pk 2 U) = true) (e : next U = numeric U)
 | cdc (h : pk 0 U = 45 ∧ pk 1 U = 45 ∧ pk 2 U = 62) (e : next U = (⟨4, 0, false, []⟩, U.drop 3, false))
 | cdo (h : pk 0 U = 60 ∧ pk 1 U = 33 ∧ pk 2 U = 45 ∧ pk 3 U = 45) (e : next U = (⟨5, 0, false, []⟩, U.drop 4, false))
 | sign (h1 : pk 0 U ≠ -1) (h2 : isSpace (pk 0 U) = false) (h3 : pk 0 U ≠ 34 ∧ pk 0 U ≠ 39) (h5 : counts (pk 0 U) (pk 1 U) (pk 2 U) = false)
   (h6 : identifies (pk 0 U) (pk 1 U) (pk 2 U) = false) (e : next U = (⟨signKind (pk 0 U), 0, false, []⟩, U.tail, false))
 | other (h : (next U).1.kind ∈ [0, 38, 36, 2, 28, 29, 27, 37, 3, 1])
theorem way (U : List Int) : Way U := by
 by_cases h0 : pk 0 U = -1
 ·exact .other (by simp [next, h0])
 by_cases h1 : isSpace (pk 0 U) = true
 ·exact .other (by simp [next, h0, h1])
 by_cases h2 : pk 0 U = 34 ∨ pk 0 U = 39
 ·refine .other ?_
  have : next U = quoted (pk 0 U) [] U.tail := by unfold next; simp [h0, h1, h2]
  rw [this]
  rcases quoted_kind (pk 0 U) U.tail [] with h | h <;> simp [h]
 by_cases h3 : pk 0 U = 35 ∧ (continues (pk 1 U) = true ∨ escapes (pk 1 U) (pk 2 U) = true)
 ·exact .other (by simp [next, h3, isSpace, isNewline])
 by_cases h4 : counts (pk 0 U) (pk 1 U) (pk 2 U) = true
 ·exact .number h4 (next_numeric h4)
 by_cases h5 : pk 0 U = 45 ∧ pk 1 U = 45 ∧ pk 2 U = 62
 ·exact .cdc h5 (by simp [next, h5, isSpace, isNewline, counts, isDigit])
 by_cases h6 : identifies (pk 0 U) (pk 1 U) (pk 2 U) = true
 ·refine .other ?_
  have h5' : (pk 0 U == 45 && pk 1 U == 45 && pk 2 U == 62) = false := by simpa [and_assoc] using h5
  have h3' : (pk 0 U == 35 && (continues (pk 1 U) || escapes (pk 1 U) (pk 2 U))) = false := by
   simp only [Bool.and_eq_false_iff, beq_eq_false_iff_ne, Bool.or_eq_false_iff]
   by_cases h35 : pk 0 U = 35
   ·right
    have := fun h => h3 ⟨h35, h⟩
    simpa using this
   ·exact .inl h35
  have : next U = named U := by unfold next; simp only [h5', h3', h6]; simp [h0, h1, h2, h4]
  rw [this]
  rcases named_kind U with h | h | h | h <;> simp [h]
 by_cases h7 : pk 0 U = 60 ∧ pk 1 U = 33 ∧ pk 2 U = 45 ∧ pk 3 U = 45
 ·exact .cdo h7 (by simp [next, h7, isSpace, isNewline, counts, isDigit, identifies, starts, escapes])
 have h5' : (pk 0 U == 45 && pk 1 U == 45 && pk 2 U == 62) = false := by simpa [and_assoc] using h5
 have h7' : (pk 0 U == 60 && pk 1 U == 33 && pk 2 U == 45 && pk 3 U == 45) = false := by simpa [and_assoc] using h7
 have h3' : (pk 0 U == 35 && (continues (pk 1 U) || escapes (pk 1 U) (pk 2 U))) = false := by
  simp only [Bool.and_eq_false_iff, beq_eq_false_iff_ne, Bool.or_eq_false_iff]
  by_cases h35 : pk 0 U = 35
  ·right
   have := fun h => h3 ⟨h35, h⟩
   simpa using this
  ·exact .inl h35
 by_cases h8 : (pk 0 U == 64 && identifies (pk 1 U) (pk 2 U) (pk 3 U)) = true
 ·refine .other ?_
  unfold next; simp only [h5', h3', h7', h8]; simp [h0, h1, h2, h4, h6]
 ·have h8' : (pk 0 U == 64 && identifies (pk 1 U) (pk 2 U) (pk 3 U)) = false := by simpa using h8
  refine .sign h0 (by simpa using h1) (by simpa using h2) (by simpa using h4) (by simpa using h6) ?_
  unfold next; simp only [h5', h3', h7', h8']; simp [h0, h1, h2, h4, h6]
theorem next_sign {c : Int} {R : List Int} (h1 : c ≠ -1) (h2 : isSpace c = false) (h3 : c ≠ 34 ∧ c ≠ 39) (h4 : isDigit c = false) (h5 : starts c = false) (h6 : c ≠ 92)
  (hR : c = 35 ∨ c = 45 ∨ c = 64 ∨ c = 43 ∨ c = 46 ∨ c = 60 → safeS (pk 0 R) = true) : next (c :: R) = (⟨signKind c, 0, false, []⟩, R, false) := by
 unfold next
 simp only [pk_cons_zero, pk_cons_succ, List.tail_cons, h2]
 by_cases hc : c = 35 ∨ c = 45 ∨ c = 64 ∨ c = 43 ∨ c = 46 ∨ c = 60
 ·obtain ⟨s1, s2, s3, s4, s5, s6, s7, s8, s9, s10, s11⟩ := safeS_spec (hR hc)
  rcases hc with rfl | rfl | rfl | rfl | rfl | rfl <;>
   simp [s1, s2, s3, s4, s7, s8, s10, counts, identifies, escapes, h4, h5]
 ·simp only [not_or] at hc
  simp [h1, h3, h4, h5, h6, hc, counts, identifies, escapes]
def ext : Nat → Nat → List UInt8 → Option Nat
 | 0, v, _ => some v
 | n + 1, v, b :: r => if b.toNat / 64 = 2 then ext n (v * 64 + b.toNat % 64) r else none
 | _ + 1, _, [] => none
def okRune (low v : Nat) : Bool := decide (low ≤ v) && decide (v ≤ 1114111) && !(decide (55296 ≤ v) && decide (v < 57344))
def finRune (n low : Nat) : Option Nat → Int × Nat
 | none => (-2, 1)
 | some v => if okRune low v then (v, n) else (-2, 1)
def rune : List UInt8 → Int × Nat
 | [] => (-1, 0)
 | b :: r =>
  if b.toNat < 128 then (b.toNat, 1)
  else if 194 ≤ b.toNat ∧ b.toNat < 224 then finRune 2 128 (ext 1 (b.toNat % 32) r)
  else if 224 ≤ b.toNat ∧ b.toNat < 240 then finRune 3 2048 (ext 2 (b.toNat % 16) r)
  else if 240 ≤ b.toNat ∧ b.toNat < 245 then finRune 4 65536 (ext 3 (b.toNat % 8) r)
  else (-2, 1)
def codes : List UInt8 → List Int
 | [] => []
 | b :: r => (rune (b :: r)).1 :: codes (r.drop ((rune (b :: r)).2 - 1))
termination_by s => s.length
decreasing_by simp; omega
theorem byte_toNat {c : Int} (h0 : 0 ≤ c) (h : c < 256) : (byte c).toNat = c.toNat := by
 unfold byte
 rw [UInt8.toNat_ofNat']
 omega
theorem u8_lt (b : UInt8) : b.toNat < 256 := b.toNat_lt
theorem u8_byte (b : UInt8) : byte (b.toNat : Int) = b := by
 have := u8_lt b
 apply UInt8.toNat_inj.1
 rw [byte_toNat (by omega) (by omega)]
 simp
theorem byte_eq {c : Int} {b : UInt8} (h : c = b.toNat) : byte c = b := by rw [h, u8_byte]
theorem enc1_length (c : Int) : (enc1 c).length = width c := by
 unfold enc1 width
 split
 ·rfl
 ·split
  ·rfl
  ·split <;> rfl
theorem rune_enc1 {c : Int} (h : Valid c) (r : List UInt8) : rune (enc1 c ++ r) = (c, width c) := by
 obtain ⟨h0, h1, h2⟩ := h
 unfold enc1 width
 by_cases a1 : c < 128
 ·simp only [a1, if_true, List.cons_append, List.nil_append, rune]
  rw [byte_toNat (by omega) (by omega), if_pos (by omega)]
  congr 1
  omega
 by_cases a2 : c < 2048
 ·simp only [a1, a2, if_true, if_false, List.cons_append, List.nil_append, rune, ext]
  rw [byte_toNat (by omega) (by omega), byte_toNat (by omega) (by omega), if_neg (by omega), if_pos (by omega), if_pos (by omega)]
  simp only [finRune]
  rw [if_pos (by simp [okRune]; omega)]
  congr 1
  omega
 by_cases a3 : c < 65536
 ·simp only [a1, a2, a3, if_true, if_false, List.cons_append, List.nil_append, rune, ext]
  rw [byte_toNat (by omega) (by omega), byte_toNat (by omega) (by omega), byte_toNat (by omega) (by omega), if_neg (by omega), if_neg (by omega), if_pos (by omega), if_pos (by omega), if_pos (by omega)]
  simp only [finRune]
  rw [if_pos (by simp [okRune]; omega)]
  congr 1
  omega
 ·simp only [a1, a2, a3, if_false, List.cons_append, List.nil_append, rune, ext]
  rw [byte_toNat (by omega) (by omega), byte_toNat (by omega) (by omega), byte_toNat (by omega) (by omega), byte_toNat (by omega) (by omega), if_neg (by omega), if_neg (by omega), if_neg (by omega), if_pos (by omega), if_pos (by omega), if_pos (by omega), if_pos (by omega)]
  simp only [finRune]
  rw [if_pos (by simp [okRune]; omega)]
  congr 1
  omega
theorem width_pos (c : Int) : 0 < width c := by
 unfold width; repeat' split
 all_goals simp
theorem codes_enc1 {c : Int} (h : Valid c) (r : List UInt8) : codes (enc1 c ++ r) = c :: codes r := by
 have hr := rune_enc1 h r
 have hl := enc1_length c
 have hp := width_pos c
 cases he : enc1 c with
 | nil => rw [he] at hl; simp at hl; omega
 | cons b t =>
  rw [he] at hr hl
  simp only [List.cons_append] at hr ⊢
  rw [codes, hr]
  simp only
  congr 2
  simp at hl
  rw [← hl]
  simp
theorem codes_enc {V : List Int} (h : ∀ c ∈ V, Valid c) (r : List UInt8) : codes (enc V ++ r) = V ++ codes r := by
 induction V with
 | nil => simp [enc]
 | cons c V ih =>
  have e : enc (c :: V) ++ r = enc1 c ++ (enc V ++ r) := by simp [enc]
  rw [e, codes_enc1 (h c (by simp)), ih (fun c hc => h c (by simp [hc]))]
  rfl
def Got (s : List UInt8) (c : Int) (n : Nat) : Prop :=
 n = width c ∧ n ≤ s.length ∧ (c = -2 ∨ (0 ≤ c ∧ c ≤ 1114111 ∧ ¬ (55296 ≤ c ∧ c < 57344) ∧ s.take n = enc1 c))
theorem rune_got {b : UInt8} {r : List UInt8} : Got (b :: r) (rune (b :: r)).1 (rune (b :: r)).2 := by
 have hbad : Got (b :: r) (-2) 1 := ⟨by decide, by simp, .inl rfl⟩
 have hb := u8_lt b
 simp only [rune]
 by_cases a1 : b.toNat < 128
 ·rw [if_pos a1]
  refine ⟨?_, by simp, .inr ⟨by omega, by omega, by omega, ?_⟩⟩
  ·unfold width; rw [if_pos (by omega)]
  ·unfold enc1; rw [if_pos (by omega), u8_byte]; simp
 rw [if_neg a1]
 by_cases a2 : 194 ≤ b.toNat ∧ b.toNat < 224
 ·rw [if_pos a2]
  match r with
  | [] => exact hbad
  | b1 :: r =>
   have h1 := u8_lt b1
   simp only [ext]
   by_cases c1 : b1.toNat / 64 = 2
   ·rw [if_pos c1]
    simp only [finRune]
    split
    ·rename_i ho
     simp [okRune] at ho
     refine ⟨?_, by simp, .inr ⟨by omega, by omega, by omega, ?_⟩⟩
     ·unfold width; rw [if_neg (by omega), if_pos (by omega)]
     ·unfold enc1; rw [if_neg (by omega), if_pos (by omega), byte_eq (b := b) (by omega), byte_eq (b := b1) (by omega)]; simp
    ·exact hbad
   ·rw [if_neg c1]; exact hbad
 rw [if_neg a2]
 by_cases a3 : 224 ≤ b.toNat ∧ b.toNat < 240
 ·rw [if_pos a3]
  match r with
  | [] => exact hbad
  | [b1] => simp only [ext]; split <;> exact hbad
  | b1 :: b2 :: r =>
   have h1 := u8_lt b1
   have h2 := u8_lt b2
   simp only [ext]
   by_cases c1 : b1.toNat / 64 = 2
   ·rw [if_pos c1]
    by_cases c2 : b2.toNat / 64 = 2
    ·rw [if_pos c2]
     simp only [finRune]
     split
     ·rename_i ho
      simp [okRune] at ho
      refine ⟨?_, by simp, .inr ⟨by omega, by omega, by omega, ?_⟩⟩
      ·unfold width; rw [if_neg (by omega), if_neg (by omega), if_pos (by omega)]
      ·unfold enc1; rw [if_neg (by omega), if_neg (by omega), if_pos (by omega), byte_eq (b := b) (by omega), byte_eq (b := b1) (by omega), byte_eq (b := b2) (by omega)]; simp
     ·exact hbad
    ·rw [if_neg c2]; exact hbad
   ·rw [if_neg c1]; exact hbad
 rw [if_neg a3]
 by_cases a4 : 240 ≤ b.toNat ∧ b.toNat < 245
 ·rw [if_pos a4]
  match r with
  | [] => exact hbad
  | [b1] => simp only [ext]; split <;> exact hbad
  | [b1, b2] =>
   simp only [ext]
   repeat' split
   all_goals exact hbad
  | b1 :: b2 :: b3 :: r =>
   have h1 := u8_lt b1
   have h2 := u8_lt b2
   have h3 := u8_lt b3
   simp only [ext]
   by_cases c1 : b1.toNat / 64 = 2
   ·rw [if_pos c1]
    by_cases c2 : b2.toNat / 64 = 2
    ·rw [if_pos c2]
     by_cases c3 : b3.toNat / 64 = 2
     ·rw [if_pos c3]
      simp only [finRune]
      split
      ·rename_i ho
       simp [okRune] at ho
       refine ⟨?_, by simp, .inr ⟨by omega, by omega, by omega, ?_⟩⟩
       ·unfold width; rw [if_neg (by omega), if_neg (by omega), if_neg (by omega)]
       ·unfold enc1; rw [if_neg (by omega), if_neg (by omega), if_neg (by omega), byte_eq (b := b) (by omega), byte_eq (b := b1) (by omega), byte_eq (b := b2) (by omega), byte_eq (b := b3) (by omega)]; simp
      ·exact hbad
     ·rw [if_neg c3]; exact hbad
    ·rw [if_neg c2]; exact hbad
   ·rw [if_neg c1]; exact hbad
 ·rw [if_neg a4]; exact hbad
theorem codes_cons (b : UInt8) (r : List UInt8) : codes (b :: r) = (rune (b :: r)).1 :: codes ((b :: r).drop (rune (b :: r)).2) := by
 rw [codes]
 have h := (rune_got (b := b) (r := r)).1
 have hp := width_pos (rune (b :: r)).1
 obtain ⟨m, hm⟩ : ∃ m, (rune (b :: r)).2 = m + 1 := ⟨(rune (b :: r)).2 - 1, by omega⟩
 rw [hm]; simp
theorem codes_wd (s : List UInt8) : wd (codes s) = s.length := by
 induction hn : s.length using Nat.strongRecOn generalizing s with
 | _ n ih =>
  subst hn
  cases s with
  | nil => simp [codes, wd]
  | cons b r =>
   have h := rune_got (b := b) (r := r)
   have hp := width_pos (rune (b :: r)).1
   rw [codes_cons, wd, ih _ (by simp; have := h.1; omega) _ rfl]
   have h1 := h.1
   have h2 := h.2.1
   simp at h2 ⊢
   omega
theorem codes_mem {s : List UInt8} {c : Int} (h : c ∈ codes s) : c = -2 ∨ c = 0 ∨ Valid c := by
 induction hn : s.length using Nat.strongRecOn generalizing s with
 | _ n ih =>
  subst hn
  cases s with
  | nil => simp [codes] at h
  | cons b r =>
   have g := rune_got (b := b) (r := r)
   have hp := width_pos (rune (b :: r)).1
   rw [codes_cons] at h
   simp only [List.mem_cons] at h
   rcases h with h | h
   ·rcases g.2.2 with g | g
    ·left; rw [h, g]
    ·right
     rw [h]
     by_cases h0 : (rune (b :: r)).1 = 0
     ·exact .inl h0
     ·exact .inr ⟨by omega, g.2.1, g.2.2.1⟩
   ·exact ih _ (by simp; have := g.1; omega) h rfl
theorem enc_codes {s : List UInt8} (h : ∀ c ∈ codes s, Valid c) : enc (codes s) = s := by
 induction hn : s.length using Nat.strongRecOn generalizing s with
 | _ n ih =>
  subst hn
  cases s with
  | nil => simp [codes, enc]
  | cons b r =>
   have g := rune_got (b := b) (r := r)
   have hp := width_pos (rune (b :: r)).1
   rw [codes_cons] at h ⊢
   have hv := h _ (List.mem_cons_self)
   have h2 := ih _ (by simp; have := g.1; omega) (fun c hc => h c (List.mem_cons_of_mem _ hc)) rfl
   have e : enc ((rune (b :: r)).1 :: codes ((b :: r).drop (rune (b :: r)).2)) = enc1 (rune (b :: r)).1 ++ enc (codes ((b :: r).drop (rune (b :: r)).2)) := by simp [enc]
   rw [e, h2]
   rcases g.2.2 with g2 | g2
   ·rw [g2] at hv; exact absurd hv.1 (by decide)
   ·rw [← g2.2.2.2, List.take_append_drop]
def plainX (s : List UInt8) : Bool := (codes s).all fun c => c != -2 && c != 0
def plain (s : List UInt8) : Bool := plainX s && pk 0 (codes s) != 65279
theorem plainX_valid {s : List UInt8} (h : plainX s = true) : ∀ c ∈ codes s, Valid c := by
 intro c hc
 have := List.all_eq_true.1 h c hc
 simp at this
 exact ((codes_mem hc).resolve_left this.1).resolve_left this.2
theorem valid_plainX {V : List Int} (h : ∀ c ∈ V, Valid c) : plainX (enc V) = true := by
 have := codes_enc h []
 simp [codes] at this
 unfold plainX
 rw [this, List.all_eq_true]
 intro c hc
 obtain ⟨h0, _⟩ := h c hc
 simp; omega
def low (s : List UInt8) : Bool := s.all fun b => decide (b.toNat < 244)
theorem enc1_low {c : Int} (h : Valid c) : (enc1 c).all (fun b => decide (b.toNat < 244)) = true → c < 1048576 := by
 obtain ⟨h0, h1, h2⟩ := h
 intro h
 rcases Int.lt_or_le c 1048576 with h3 | h3
 ·exact h3
 ·exfalso
  unfold enc1 at h
  rw [if_neg (by omega), if_neg (by omega), if_neg (by omega)] at h
  simp at h
  have := h.1
  rw [byte_toNat (by omega) (by omega)] at this
  omega
theorem low_codes {s : List UInt8} (hp : plainX s = true) (h : low s = true) : ∀ c ∈ codes s, c < 1048576 := by
 intro c hc
 have hv := plainX_valid hp
 have he := enc_codes hv
 apply enc1_low (hv c hc)
 rw [List.all_eq_true]
 intro b hb
 unfold low at h
 rw [List.all_eq_true] at h
 apply h
 rw [← he]
 exact List.mem_flatMap.2 ⟨c, hc, hb⟩
end Go.Proofs.YtkfdcbdlcipmfaaGreatFmt.Css
/- Trees of tokens that are printed are read as their items. No condition. -/
namespace Go.Proofs.YtkfdcbdlcipmfaaGreatFmt.Css
structure Node where
 kind : Int
 unit : Int
 depth : Int
 text : List UInt8
 before : Bool
 after : Bool
structure Item where
 kind : Int
 unit : Int
 text : List UInt8
 space : Int
def lone (s : List UInt8) (kind : Int) : Bool :=
 let r := tokens (codes s)
 plain s && !r.2.2 && r.2.1 == 0 && (match r.1 with | [t] => t.tk.kind == kind | _ => false)
def isName (s : List UInt8) : Bool := !s.isEmpty && plainX s
def opens (k : Int) : Option Int := if k == 27 || k == 33 then some 8 else if k == 32 then some 7 else if k == 31 then some 6 else none
def isSign (k : Int) : Bool := [31, 32, 33, 9, 10, 35, 4, 5, 11, 12, 13, 14, 15, 16, 17, 18, 19, 20, 21, 22, 23, 24, 25].contains k
def isNode (n : Node) : Bool :=
 if n.kind == 29 || n.kind == 28 || n.kind == 1 then isName n.text
 else if n.kind == 27 then isName n.text && !isURL n.text
 else if n.kind == 36 then plainX n.text
 else if n.kind == 30 || n.kind == 34 then lone n.text n.kind
 else if n.kind == 26 then decide (0 < n.unit) && decide (n.unit < n.text.length) && decide (n.unit < 60000) && lone (n.text.take n.unit.toNat) 30 && isName (n.text.drop n.unit.toNat)
 else if isSign n.kind then n.text != [92] && lone n.text n.kind
 else false
def cls (k : Int) : Int := if k == 29 || k == 1 || k == 28 || k == 26 || k == 27 then 1 else if k == 30 || k == 34 then 2 else 0
def sgn (k : Int) (t : List UInt8) : Int := if cls k == 0 && k != 36 then (match t with | [b] => b.toNat | _ => 0) else 0
def risky (c : Int) : Bool := [35, 45, 64, 43, 46, 60, 47, 33, 37, 63].contains c
def calmSign (c : Int) : Bool := [44, 59, 58, 123, 91, 40].contains c
def apartB (k : Int) (t : List UInt8) (k' : Int) (t' : List UInt8) : Bool :=
 if cls k != 0 && k != 27 then cls k' != 0 || [22, 4, 33, 11, 17, 23, 20].contains k'
 else if risky (sgn k t) then cls k' != 0 || k' == 4 || k' == 5 || (sgn k' t' != 0 && !calmSign (sgn k' t'))
 else false
def PCore (ascii need : Bool) (n : Node) (core : List Int) : Prop :=
 if n.kind = 29 then core = pIdent 0 ascii need (codes n.text)
 else if n.kind = 27 then core = pIdent 0 ascii need (codes n.text) ++ [40]
 else if n.kind = 26 then core = codes (n.text.take n.unit.toNat) ++ pIdent (if hasE (codes (n.text.take n.unit.toNat)) then 3 else 2) ascii need (codes (n.text.drop n.unit.toNat))
 else if n.kind = 1 then core = 64 :: pIdent 0 ascii need (codes n.text)
 else if n.kind = 28 then core = 35 :: pIdent 1 ascii need (codes n.text)
 else if n.kind = 36 then ∃ q o, (q = 34 ∨ q = 39) ∧ QS q (codes n.text) o ∧ core = q :: (o ++ [q])
 else core = codes n.text
def Matches (tk : Tk) (X : List Int) (x : Item) : Prop :=
 tk.kind = x.kind ∧
 (if x.kind = 29 ∨ x.kind = 27 ∨ x.kind = 1 ∨ x.kind = 28 ∨ x.kind = 36 then tk.text = x.text
  else if x.kind = 26 then (tk.unit : Int) = x.unit ∧ (enc X).take tk.unit = x.text.take tk.unit ∧ (name (codes ((enc X).drop tk.unit))).1 = x.text.drop tk.unit
  else if x.kind = 8 ∨ x.kind = 7 ∨ x.kind = 6 then True
  else enc X = x.text)
def Follow (n : Node) (need : Bool) (R : List Int) : Prop :=
 (cls n.kind ≠ 0 → n.kind ≠ 27 → safeN (pk 0 R) = true ∧ apart2 need R) ∧ (risky (sgn n.kind n.text) = true → safeS (pk 0 R) = true)
theorem plain_parts {s : List UInt8} (h : plain s = true) : plainX s = true ∧ pk 0 (codes s) ≠ 65279 := by
 simpa [plain] using h
theorem mem_ne {U : List Int} (h : ∀ c ∈ U, Valid c) {k : Nat} (hk : k < U.length) : Valid (pk k U) := by
 have : pk k U ∈ U := by unfold pk; rw [List.getD_eq_getElem?_getD, List.getElem?_eq_getElem hk]; exact List.getElem_mem hk
 exact h _ this
theorem pk_end {U : List Int} (h : ∀ c ∈ U, Valid c) (h1 : pk 0 U = -1) : U = [] := by
 cases U with
 | nil => rfl
 | cons c U => have := h c (by simp); rw [pk_cons_zero] at h1; rw [h1] at this; exact absurd this.1 (by decide)
theorem comment_none {U : List Int} (h : ¬ (pk 0 U = 47 ∧ pk 1 U = 42)) : comment U = (U, 0, false) := by
 rw [comment, dif_neg]; simpa using h
theorem comment_zero {U : List Int} (h : (comment U).2.1 = 0) : ¬ (pk 0 U = 47 ∧ pk 1 U = 42) := by
 intro hc
 rw [comment, dif_pos (by simp [hc])] at h
 dsimp only at h
 split at h
 ·simp at h
 ·simp at h
theorem nil_of_tokens {U : List Int} (hv : ∀ c ∈ U, Valid c) (h1 : (tokens U).1 = []) (h2 : (tokens U).2.1 = 0) : U = [] := by
 rw [tokens] at h1 h2
 by_cases h : pk 0 (comment U).1 = -1
 ·rw [dif_pos h] at h2
  have := comment_none (comment_zero h2)
  rw [this] at h
  exact pk_end hv h
 ·rw [dif_neg h] at h1
  simp at h1
theorem next_suffix_valid {U : List Int} (hv : ∀ c ∈ U, Valid c) {X U' : List Int} (h : U = X ++ U') : ∀ c ∈ U', Valid c :=
 fun c hc => hv c (by rw [h]; simp [hc])
theorem lone_next {s : List UInt8} {k : Int} (h : lone s k = true) :
  plainX s = true ∧ (next (codes s)).1.kind = k ∧ (next (codes s)).2.2 = false ∧ ((∀ c ∈ (next (codes s)).2.1, Valid c) → (next (codes s)).2.1 = []) ∧
   ¬ (pk 0 (codes s) = 47 ∧ pk 1 (codes s) = 42) ∧ pk 0 (codes s) ≠ -1 := by
 unfold lone at h
 dsimp only at h
 simp only [Bool.and_eq_true, Bool.not_eq_true', beq_iff_eq] at h
 obtain ⟨⟨⟨hp, ho⟩, hc⟩, hm⟩ := h
 have hX := (plain_parts hp).1
 rw [tokens] at ho hc hm
 by_cases hn : pk 0 (comment (codes s)).1 = -1
 ·rw [dif_pos hn] at hm; simp at hm
 ·rw [dif_neg hn] at ho hc hm
  dsimp only at ho hc hm
  have hcz : (comment (codes s)).2.1 = 0 := by omega
  have hnc := comment_zero hcz
  have hce := comment_none hnc
  rw [hce] at ho hc hm hn
  dsimp only at ho hc hm hn
  simp only [Bool.or_eq_false_iff] at ho
  have hne : (tokens (next (codes s)).2.1).1 = [] := by
   cases h1 : (tokens (next (codes s)).2.1).1 with
   | nil => rfl
   | cons t l => rw [h1] at hm; simp at hm
  rw [hne] at hm
  simp at hm
  exact ⟨hX, hm, ho.1.2, fun hr => nil_of_tokens hr hne (by omega), hnc, hn⟩
def isSig (k : Int) : Bool := isSign k || [6, 7, 8].contains k
theorem ite_sign {p : Prop} [Decidable p] {a b : Int} (ha : isSig a = true) (hb : isSig b = true) : isSig (if p then a else b) = true := by
 split <;> assumption
theorem signKind_sign (c : Int) : isSig (signKind c) = true := by
 unfold signKind
 repeat' (refine ite_sign (by decide) ?_)
 decide
theorem signKind_not {c k : Int} (h : signKind c = k) (hk : isSig k = false) : False := by
 have := signKind_sign c
 rw [h, hk] at this
 exact absurd this (by decide)
theorem numeric_kind (U : List Int) : (numeric U).1.kind = 26 ∨ (numeric U = (⟨34, 0, false, []⟩, (numHead U).1.tail, (numHead U).2) ∧ pk 0 (numHead U).1 = 37) ∨ numeric U = (⟨30, 0, false, []⟩, (numHead U).1, (numHead U).2) := by
 unfold numeric
 dsimp only
 split
 ·exact .inl rfl
 ·split
  ·rename_i h; exact .inr (.inl ⟨rfl, by simpa using h⟩)
  ·exact .inr (.inr rfl)
theorem valid_suffix {U X Y : List Int} (hv : ∀ c ∈ U, Valid c) (h : U = X ++ Y) : ∀ c ∈ Y, Valid c :=
 fun c hc => hv c (by rw [h]; simp [hc])
theorem lone_number {s : List UInt8} (h : lone s 30 = true) : plainX s = true ∧ counts (pk 0 (codes s)) (pk 1 (codes s)) (pk 2 (codes s)) = true ∧ numHead (codes s) = ([], false) := by
 obtain ⟨hX, hk, ho, hr, _, _⟩ := lone_next h
 have hv := plainX_valid hX
 refine ⟨hX, ?_⟩
 rcases way (codes s) with ⟨hc, e⟩ | ⟨_, e⟩ | ⟨_, e⟩ | ⟨_, _, _, _, _, e⟩ | h
 ·refine ⟨hc, ?_⟩
  rw [e] at hk ho hr
  rcases numeric_kind (codes s) with h | ⟨h, _⟩ | h
  ·rw [h] at hk; exact absurd hk (by decide)
  ·rw [h] at hk; exact absurd hk (by simp)
  ·rw [h] at ho hr
   dsimp only at ho hr
   obtain ⟨p, hp⟩ := numHead_suffix (codes s)
   have := hr (valid_suffix hv hp)
   rw [← this, ← ho]
 ·rw [e] at hk; dsimp only at hk; exact absurd hk (by decide)
 ·rw [e] at hk; dsimp only at hk; exact absurd hk (by decide)
 ·rw [e] at hk; dsimp only at hk; exact (signKind_not hk (by decide)).elim
 ·rw [hk] at h; exact absurd h (by decide)
theorem lone_percent {s : List UInt8} (h : lone s 34 = true) : plainX s = true ∧ counts (pk 0 (codes s)) (pk 1 (codes s)) (pk 2 (codes s)) = true ∧ numHead (codes s) = ([37], false) := by
 obtain ⟨hX, hk, ho, hr, _, _⟩ := lone_next h
 have hv := plainX_valid hX
 refine ⟨hX, ?_⟩
 rcases way (codes s) with ⟨hc, e⟩ | ⟨_, e⟩ | ⟨_, e⟩ | ⟨_, _, _, _, _, e⟩ | h
 ·refine ⟨hc, ?_⟩
  rw [e] at hk ho hr
  rcases numeric_kind (codes s) with h | ⟨h, h37⟩ | h
  ·rw [h] at hk; exact absurd hk (by decide)
  ·rw [h] at ho hr
   dsimp only at ho hr
   obtain ⟨p, hp⟩ := numHead_suffix (codes s)
   have hvs := valid_suffix hv hp
   have := hr (fun c hc => hvs c (List.mem_of_mem_tail hc))
   rw [← ho]
   cases hn : (numHead (codes s)).1 with
   | nil => rw [hn] at h37; exact absurd h37 (by decide)
   | cons c l =>
    rw [hn] at h37 this
    rw [pk_cons_zero] at h37
    simp at this
    rw [← h37, ← this, ← hn]
  ·rw [h] at hk; exact absurd hk (by simp)
 ·rw [e] at hk; dsimp only at hk; exact absurd hk (by decide)
 ·rw [e] at hk; dsimp only at hk; exact absurd hk (by decide)
 ·rw [e] at hk; dsimp only at hk; exact (signKind_not hk (by decide)).elim
 ·rw [hk] at h; exact absurd h (by decide)
structure IsSign (c : Int) : Prop where
 ne : c ≠ -1
 space : isSpace c = false
 quote : c ≠ 34 ∧ c ≠ 39
 digit : isDigit c = false
 start : starts c = false
 back : c ≠ 92
 valid : Valid c
theorem lone_sign {s : List UInt8} {k : Int} (hs : isSign k = true) (h : lone s k = true) :
  plainX s = true ∧ ((k = 4 ∧ codes s = [45, 45, 62]) ∨ (k = 5 ∧ codes s = [60, 33, 45, 45]) ∨ ∃ c, codes s = [c] ∧ signKind c = k ∧ IsSign c) := by
 obtain ⟨hX, hk, ho, hr, _, _⟩ := lone_next h
 have hv := plainX_valid hX
 refine ⟨hX, ?_⟩
 have hdrop : ∀ n, (∀ c ∈ (codes s).drop n, Valid c) := fun n c hc => hv c (List.mem_of_mem_drop hc)
 rcases way (codes s) with ⟨hc, e⟩ | ⟨hc, e⟩ | ⟨hc, e⟩ | ⟨h1, h2, h3, h5, h6, e⟩ | h
 ·rw [e] at hk
  rcases numeric_kind (codes s) with h | ⟨h, _⟩ | h
  ·rw [h] at hk; subst hk; exact absurd hs (by decide)
  ·rw [h] at hk; dsimp only at hk; subst hk; exact absurd hs (by decide)
  ·rw [h] at hk; dsimp only at hk; subst hk; exact absurd hs (by decide)
 ·left
  rw [e] at hk hr
  dsimp only at hk hr
  have hn := hr (hdrop 3)
  refine ⟨hk.symm, ?_⟩
  match hl : codes s, hn, hc with
  | [a, b, c], _, hc => simp [pk_cons_zero, pk_cons_succ] at hc; simp [hc]
  | [], _, hc => simp [pk_nil] at hc
  | [a], _, hc => simp [pk_nil, pk_cons_zero, pk_cons_succ] at hc
  | [a, b], _, hc => simp [pk_nil, pk_cons_zero, pk_cons_succ] at hc
  | a :: b :: c :: d :: l, hn, _ => simp at hn
 ·right; left
  rw [e] at hk hr
  dsimp only at hk hr
  have hn := hr (hdrop 4)
  refine ⟨hk.symm, ?_⟩
  match hl : codes s, hn, hc with
  | [a, b, c, d], _, hc => simp [pk_cons_zero, pk_cons_succ] at hc; simp [hc]
  | [], _, hc => simp [pk_nil] at hc
  | [a], _, hc => simp [pk_nil, pk_cons_zero, pk_cons_succ] at hc
  | [a, b], _, hc => simp [pk_nil, pk_cons_zero, pk_cons_succ] at hc
  | [a, b, c], _, hc => simp [pk_nil, pk_cons_zero, pk_cons_succ] at hc
  | a :: b :: c :: d :: x :: l, hn, _ => simp at hn
 ·right; right
  rw [e] at hk hr
  dsimp only at hk hr
  have hn := hr (fun c hc => hv c (List.mem_of_mem_tail hc))
  cases hl : codes s with
  | nil => rw [hl] at h1; exact absurd (pk_nil 0) h1
  | cons c l =>
   rw [hl] at hn h1 h2 h3 h5 h6 hk
   simp at hn
   subst hn
   rw [pk_cons_zero] at h1 h2 h3 hk
   refine ⟨c, rfl, hk, h1, h2, h3, ?_, ?_, ?_, hv c (by rw [hl]; simp)⟩
   ·cases hd : isDigit c with
    | false => rfl
    | true =>
     simp [counts, pk_cons_zero, hd] at h5
     simp [isDigit] at hd
     omega
   ·cases hd : starts c with
    | false => rfl
    | true =>
     have := starts_facts hd
     simp [identifies, pk_cons_zero, hd] at h6
     exact absurd h6.1 this.2.2.2.2.2.2.1
   ·rintro rfl
    simp [identifies, escapes, pk_cons_zero, pk_cons_succ, pk_nil, isNewline] at h6
 ·rw [hk] at h
  exfalso
  revert h
  simp only [isSign, List.contains_eq_mem, decide_eq_true_eq] at hs
  simp at hs
  rcases hs with rfl | rfl | rfl | rfl | rfl | rfl | rfl | rfl | rfl | rfl | rfl | rfl | rfl | rfl | rfl | rfl | rfl | rfl | rfl | rfl | rfl | rfl | rfl <;> decide
theorem signKind_safe (c : Int) : safeN c = true ∨ [22, 33, 11, 17, 23, 20, 8].contains (signKind c) = true := by
 by_cases h123 : c = 123
 ·subst h123; decide
 by_cases h125 : c = 125
 ·subst h125; decide
 by_cases h91 : c = 91
 ·subst h91; decide
 by_cases h93 : c = 93
 ·subst h93; decide
 by_cases h40 : c = 40
 ·subst h40; decide
 by_cases h41 : c = 41
 ·subst h41; decide
 by_cases h58 : c = 58
 ·subst h58; decide
 by_cases h59 : c = 59
 ·subst h59; decide
 by_cases h44 : c = 44
 ·subst h44; decide
 by_cases h38 : c = 38
 ·subst h38; decide
 by_cases h42 : c = 42
 ·subst h42; decide
 by_cases h124 : c = 124
 ·subst h124; decide
 by_cases h94 : c = 94
 ·subst h94; decide
 by_cases h36 : c = 36
 ·subst h36; decide
 by_cases h46 : c = 46
 ·subst h46; decide
 by_cases h61 : c = 61
 ·subst h61; decide
 by_cases h33 : c = 33
 ·subst h33; decide
 by_cases h62 : c = 62
 ·subst h62; decide
 by_cases h60 : c = 60
 ·subst h60; decide
 by_cases h45 : c = 45
 ·subst h45; decide
 by_cases h43 : c = 43
 ·subst h43; decide
 by_cases h47 : c = 47
 ·subst h47; decide
 by_cases h126 : c = 126
 ·subst h126; decide
 right
 have : signKind c = 11 := by simp [signKind, h123, h125, h91, h93, h40, h41, h58, h59, h44, h38, h42, h124, h94, h36, h46, h61, h33, h62, h60, h45, h43, h47, h126]
 rw [this]; decide
theorem name_codes {s : List UInt8} (h : isName s = true) : codes s ≠ [] ∧ (∀ c ∈ codes s, Valid c) ∧ enc (codes s) = s ∧ plainX s = true := by
 simp only [isName, Bool.and_eq_true, Bool.not_eq_true'] at h
 have hv := plainX_valid h.2
 refine ⟨?_, hv, enc_codes hv, h.2⟩
 cases s with
 | nil => simp at h
 | cons b r => rw [codes_cons]; simp
theorem sign_text {c : Int} (h : IsSign c) {s : List UInt8} (hp : plainX s = true) (hs : codes s = [c]) : s = [byte c] ∧ 0 < c ∧ c < 128 := by
 have he := enc_codes (plainX_valid hp)
 rw [hs] at he
 have h1 := h.valid.1
 have h2 : c < 128 := by
  have := h.start
  simp [starts] at this
  omega
 refine ⟨?_, h1, h2⟩
 rw [← he]
 simp [enc, enc1, h2]
theorem isSign_cls {k : Int} (h : isSign k = true) : cls k = 0 ∧ k ≠ 36 ∧ k ≠ 26 ∧ k ≠ 29 ∧ k ≠ 27 ∧ k ≠ 1 ∧ k ≠ 28 ∧ k ≠ 38 ∧ k ≠ 8 ∧ k ≠ 7 ∧ k ≠ 6 := by
 simp only [isSign, List.contains_eq_mem, decide_eq_true_eq] at h
 simp at h
 rcases h with rfl | rfl | rfl | rfl | rfl | rfl | rfl | rfl | rfl | rfl | rfl | rfl | rfl | rfl | rfl | rfl | rfl | rfl | rfl | rfl | rfl | rfl | rfl <;> decide
theorem sgn_sign {k c : Int} (hk : isSign k = true) (h : IsSign c) {s : List UInt8} (hp : plainX s = true) (hs : codes s = [c]) : sgn k s = c := by
 obtain ⟨h1, h2, _⟩ := isSign_cls hk
 obtain ⟨rfl, h3, h4⟩ := sign_text h hp hs
 simp [sgn, h1, h2, byte_toNat (show 0 ≤ c by omega) (show c < 256 by omega)]
 omega
inductive Form (n : Node) : Prop where
 | ident (k : n.kind = 29) (h : isName n.text = true)
 | hash (k : n.kind = 28) (h : isName n.text = true)
 | at (k : n.kind = 1) (h : isName n.text = true)
 | fn (k : n.kind = 27) (h : isName n.text = true) (u : isURL n.text = false)
 | string (k : n.kind = 36) (h : plainX n.text = true)
 | number (k : n.kind = 30) (h : lone n.text 30 = true)
 | percent (k : n.kind = 34) (h : lone n.text 34 = true)
 | dim (k : n.kind = 26) (u0 : 0 < n.unit) (u1 : n.unit < n.text.length) (u2 : n.unit < 60000) (h1 : lone (n.text.take n.unit.toNat) 30 = true) (h2 : isName (n.text.drop n.unit.toNat) = true)
 | sign (k : isSign n.kind = true) (h : lone n.text n.kind = true)
theorem form {n : Node} (h : isNode n = true) : Form n := by
 unfold isNode at h
 by_cases h1 : (n.kind == 29 || n.kind == 28 || n.kind == 1) = true
 ·rw [if_pos h1] at h
  simp at h1
  rcases h1 with (h1 | h1) | h1
  ·exact .ident h1 h
  ·exact .hash h1 h
  ·exact .at h1 h
 rw [if_neg h1] at h
 by_cases h2 : (n.kind == 27) = true
 ·rw [if_pos h2] at h
  simp at h2 h
  exact .fn h2 h.1 h.2
 rw [if_neg h2] at h
 by_cases h3 : (n.kind == 36) = true
 ·rw [if_pos h3] at h
  simp at h3
  exact .string h3 h
 rw [if_neg h3] at h
 by_cases h4 : (n.kind == 30 || n.kind == 34) = true
 ·rw [if_pos h4] at h
  simp at h4
  rcases h4 with h4 | h4
  ·rw [h4] at h; exact .number h4 h
  ·rw [h4] at h; exact .percent h4 h
 rw [if_neg h4] at h
 by_cases h5 : (n.kind == 26) = true
 ·rw [if_pos h5] at h
  simp only [beq_iff_eq] at h5
  simp only [Bool.and_eq_true, decide_eq_true_eq] at h
  exact .dim h5 h.1.1.1.1 h.1.1.1.2 h.1.1.2 h.1.2 h.2
 rw [if_neg h5] at h
 by_cases h6 : isSign n.kind = true
 ·rw [if_pos h6] at h
  simp only [Bool.and_eq_true] at h
  exact .sign h6 h.2
 ·rw [if_neg h6] at h
  exact absurd h (by simp)
theorem low_take {s : List UInt8} (h : low s = true) (k : Nat) : low (s.take k) = true := by
 unfold low at *
 rw [List.all_eq_true] at *
 exact fun b hb => h b (List.mem_of_mem_take hb)
theorem low_drop {s : List UInt8} (h : low s = true) (k : Nat) : low (s.drop k) = true := by
 unfold low at *
 rw [List.all_eq_true] at *
 exact fun b hb => h b (List.mem_of_mem_drop hb)
theorem enc_append (X Y : List Int) : enc (X ++ Y) = enc X ++ enc Y := by simp [enc]
theorem enc_length (X : List Int) : (enc X).length = wd X := by
 induction X with
 | nil => rfl
 | cons c X ih =>
  have : enc (c :: X) = enc1 c ++ enc X := by simp [enc]
  rw [this, List.length_append, enc1_length, ih, wd]
theorem left_consumed {need : Bool} {P R R' : List Int} (h : left need R R') : ∃ Y, P ++ R = P ++ Y ++ R' ∧ (Y = [] ∨ (Y = [32] ∧ need = false)) := by
 rcases h with rfl | ⟨h0, h1, rfl⟩
 ·exact ⟨[], by simp, .inl rfl⟩
 ·cases R with
  | nil => exact absurd h1 (by decide)
  | cons c R => rw [pk_cons_zero] at h1; subst h1; exact ⟨[32], by simp, .inr ⟨rfl, h0⟩⟩
theorem hexDigit_valid {d : Nat} (h : d < 16) : Valid (hexDigit d) := by
 unfold hexDigit Valid; split <;> omega
theorem hexStr_allvalid (n : Nat) : ∀ c ∈ hexStr n, Valid c := by
 induction n using Nat.strongRecOn with
 | _ n ih =>
  unfold hexStr
  split
  ·rename_i h; intro c hc; simp at hc; subst hc; exact hexDigit_valid h
  ·rename_i h
   intro c hc
   simp only [List.mem_append, List.mem_singleton] at hc
   rcases hc with hc | rfl
   ·exact ih _ (by omega) c hc
   ·exact hexDigit_valid (by omega)
theorem valid_92 : Valid 92 := ⟨by decide, by decide, by decide⟩
theorem valid_32 : Valid 32 := ⟨by decide, by decide, by decide⟩
theorem pEsc_valid {c : Int} (h : Valid c) (e : Esc) (rest : List Int) (need : Bool) : ∀ d ∈ pEsc c e rest need, Valid d := by
 have hex : ∀ x, (x = 92 :: hexStr c.toNat ++ [32] ∨ x = 92 :: hexStr c.toNat) → ∀ d ∈ x, Valid d := by
  intro x hx d hd
  have hd' : d = 92 ∨ d ∈ hexStr c.toNat ∨ d = 32 := by
   rcases hx with rfl | rfl
   ·simpa using hd
   ·simp at hd
    rcases hd with hd | hd
    ·exact .inl hd
    ·exact .inr (.inl hd)
  rcases hd' with rfl | hd | rfl
  ·exact valid_92
  ·exact hexStr_allvalid _ d hd
  ·exact valid_32
 cases e with
 | none => intro d hd; simp [pEsc] at hd; subst hd; exact h
 | back =>
  cases hb : isHexC c with
  | false =>
   intro d hd
   simp [pEsc, hb] at hd
   rcases hd with rfl | rfl
   ·exact valid_92
   ·exact h
  | true =>
   apply hex
   simp only [pEsc, hb]
   repeat' split
   all_goals simp
 | hex =>
  apply hex
  simp only [pEsc]
  repeat' split
  all_goals simp
theorem pTail_valid {ascii need : Bool} {V : List Int} (h : ∀ c ∈ V, Valid c) : ∀ d ∈ pTail ascii need V, Valid d := by
 induction V with
 | nil => simp [pTail]
 | cons c V ih =>
  intro d hd
  simp only [pTail, List.mem_append] at hd
  rcases hd with hd | hd
  ·exact pEsc_valid (h c (by simp)) _ _ _ d hd
  ·exact ih (fun c hc => h c (by simp [hc])) d hd
theorem pIdent_valid {mode : Nat} {ascii need : Bool} {V : List Int} (h : ∀ c ∈ V, Valid c) : ∀ d ∈ pIdent mode ascii need V, Valid d := by
 cases V with
 | nil => simp [pIdent]
 | cons c V =>
  intro d hd
  simp only [pIdent, List.mem_append] at hd
  rcases hd with hd | hd
  ·exact pEsc_valid (h c (by simp)) _ _ _ d hd
  ·exact pTail_valid (fun c hc => h c (by simp [hc])) d hd
theorem QS_valid {q : Int} : ∀ {V out : List Int}, (∀ c ∈ V, Valid c) → QS q V out → ∀ d ∈ out, Valid d := by
 intro V
 induction V with
 | nil => intro out _ h d hd; have h : out = [] := h; subst h; simp at hd
 | cons c V ih =>
  intro out hv h d hd
  obtain ⟨e, out', _, rfl, ho⟩ := h
  rw [List.mem_append] at hd
  rcases hd with hd | hd
  ·exact pEsc_valid (hv c (by simp)) _ _ _ d hd
  ·exact ih (fun c hc => hv c (by simp [hc])) ho d hd
theorem codes_plain {V : List Int} (h : ∀ c ∈ V, Valid c) : codes (enc V) = V := by
 have := codes_enc h []
 simpa [codes] using this
theorem tok_step {ascii need : Bool} {n : Node} {core R : List Int} (sp : Int) (hn : isNode n = true) (hlow : ascii = true → low n.text = true) (hc : PCore ascii need n core) (hf : Follow n need R) :
  ∃ tk Y R', next (core ++ R) = (tk, R', false) ∧ core ++ R = core ++ Y ++ R' ∧ (Y = [] ∨ (Y = [32] ∧ need = false)) ∧ Matches tk (core ++ Y) ⟨n.kind, n.unit, n.text, sp⟩ ∧ ¬ (pk 0 (core ++ R) = 47 ∧ pk 1 (core ++ R) = 42) ∧
   tk.kind ≠ 38 ∧ pk 0 (core ++ R) ≠ -1 ∧ isSpace (pk 0 (core ++ R)) = false ∧ (opens n.kind ≠ none → Y = []) := by
 have hstart : ∀ S, startsIdent S → pk 0 S ≠ 47 ∧ pk 0 S ≠ -1 ∧ isSpace (pk 0 S) = false := by
  intro S hS
  rcases hS with ⟨d, T, rfl, _⟩ | ⟨c, T, rfl, hc⟩ | ⟨T, rfl, _⟩
  ·rw [pk_cons_zero]; decide
  ·have := starts_facts hc
   rw [pk_cons_zero]
   refine ⟨?_, this.2.2.1, this.1⟩
   rintro rfl; exact absurd hc (by decide)
  ·rw [pk_cons_zero]; decide
 rcases form hn with ⟨k, h⟩ | ⟨k, h⟩ | ⟨k, h⟩ | ⟨k, h, u⟩ | ⟨k, h⟩ | ⟨k, h⟩ | ⟨k, h⟩ | ⟨k, u0, u1, u2, h1, h2⟩ | ⟨k, h⟩
 ·
  obtain ⟨v1, v2, v3, v4⟩ := name_codes h
  obtain ⟨hR, hap⟩ := hf.1 (by rw [k]; decide) (by rw [k]; decide)
  simp only [PCore, k, if_true] at hc
  subst hc
  obtain ⟨R', e, hl⟩ := next_ident (ascii := ascii) (need := need) v1 v2 (fun ha => low_codes v4 (hlow ha)) hR hap
  obtain ⟨Y, eY, hY⟩ := left_consumed (P := pIdent 0 ascii need (codes n.text)) hl
  have hs := hstart _ (pIdent_starts (mode := 0) (ascii := ascii) (need := need) (R := R) (by decide) v1)
  refine ⟨_, Y, R', e, eY, hY, ?_, fun h => hs.1 h.1, by simp, hs.2.1, hs.2.2, fun h => absurd (by rw [k]; decide) h⟩
  exact ⟨k.symm, by simp [k, v3]⟩
 ·
  obtain ⟨v1, v2, v3, v4⟩ := name_codes h
  obtain ⟨hR, hap⟩ := hf.1 (by rw [k]; decide) (by rw [k]; decide)
  simp only [PCore, k] at hc
  simp at hc
  subst hc
  obtain ⟨R', i, e, hl⟩ := next_hash (ascii := ascii) (need := need) v1 v2 (fun ha => low_codes v4 (hlow ha)) hR hap
  obtain ⟨Y, eY, hY⟩ := left_consumed (P := 35 :: pIdent 1 ascii need (codes n.text)) hl
  refine ⟨_, Y, R', e, eY, hY, ?_, ?_, by simp, ?_, ?_, fun h => absurd (by rw [k]; decide) h⟩
  ·exact ⟨k.symm, by simp [k, v3]⟩
  ·rw [List.cons_append, pk_cons_zero]; exact fun h => absurd h.1 (by decide)
  ·rw [List.cons_append, pk_cons_zero]; decide
  ·rw [List.cons_append, pk_cons_zero]; decide
 ·
  obtain ⟨v1, v2, v3, v4⟩ := name_codes h
  obtain ⟨hR, hap⟩ := hf.1 (by rw [k]; decide) (by rw [k]; decide)
  simp only [PCore, k] at hc
  simp at hc
  subst hc
  obtain ⟨R', e, hl⟩ := next_at (ascii := ascii) (need := need) v1 v2 (fun ha => low_codes v4 (hlow ha)) hR hap
  obtain ⟨Y, eY, hY⟩ := left_consumed (P := 64 :: pIdent 0 ascii need (codes n.text)) hl
  refine ⟨_, Y, R', e, eY, hY, ?_, ?_, by simp, ?_, ?_, fun h => absurd (by rw [k]; decide) h⟩
  ·exact ⟨k.symm, by simp [k, v3]⟩
  ·rw [List.cons_append, pk_cons_zero]; exact fun h => absurd h.1 (by decide)
  ·rw [List.cons_append, pk_cons_zero]; decide
  ·rw [List.cons_append, pk_cons_zero]; decide
 ·
  obtain ⟨v1, v2, v3, v4⟩ := name_codes h
  simp only [PCore, k] at hc
  simp at hc
  subst hc
  have e := next_function (ascii := ascii) (need := need) (R := R) v1 v2 (fun ha => low_codes v4 (hlow ha)) (by rw [v3]; exact u)
  have hs := hstart _ (pIdent_starts (mode := 0) (ascii := ascii) (need := need) (R := 40 :: R) (by decide) v1)
  have eq : pIdent 0 ascii need (codes n.text) ++ [40] ++ R = pIdent 0 ascii need (codes n.text) ++ 40 :: R := by simp
  rw [eq]
  refine ⟨_, [], R, e, by simp, .inl rfl, ?_, fun h => hs.1 h.1, by simp, hs.2.1, hs.2.2, fun _ => rfl⟩
  exact ⟨k.symm, by simp [k, v3]⟩
 ·
  unfold PCore at hc
  rw [if_neg (by omega), if_neg (by omega), if_neg (by omega), if_neg (by omega), if_neg (by omega), if_pos k] at hc
  obtain ⟨q, o, hq, hQ, rfl⟩ := hc
  have hv := plainX_valid h
  have e := next_string hq (R := R) hv hQ
  have eq : q :: (o ++ [q]) ++ R = q :: (o ++ q :: R) := by simp
  rw [eq]
  refine ⟨_, [], R, e, by simp, .inl rfl, ?_, ?_, by simp, ?_, ?_, fun _ => rfl⟩
  ·exact ⟨k.symm, by simp [k, enc_codes hv]⟩
  ·rw [pk_cons_zero]; rcases hq with rfl | rfl <;> exact fun h => absurd h.1 (by decide)
  ·rw [pk_cons_zero]; rcases hq with rfl | rfl <;> decide
  ·rw [pk_cons_zero]; rcases hq with rfl | rfl <;> decide
 ·
  obtain ⟨hX, hcnt, hnum⟩ := lone_number h
  obtain ⟨hR, hap⟩ := hf.1 (by rw [k]; decide) (by rw [k]; decide)
  simp only [PCore, k] at hc
  simp at hc
  subst hc
  have hh := counts_head (counts_append (R := R) hcnt)
  have h47 : pk 0 (codes n.text ++ R) ≠ 47 := by
   intro h; have := counts_append (R := R) hcnt; rw [h] at this; exact absurd this (by simp [counts, isDigit])
  refine ⟨_, [], R, next_number hcnt hnum hR, by simp, .inl rfl, ?_, fun h => h47 h.1, by simp, hh.1, hh.2.1, fun _ => rfl⟩
  exact ⟨k.symm, by simp [k, enc_codes (plainX_valid hX)]⟩
 ·
  obtain ⟨hX, hcnt, hnum⟩ := lone_percent h
  simp only [PCore, k] at hc
  simp at hc
  subst hc
  have hh := counts_head (counts_append (R := R) hcnt)
  have h47 : pk 0 (codes n.text ++ R) ≠ 47 := by
   intro h; have := counts_append (R := R) hcnt; rw [h] at this; exact absurd this (by simp [counts, isDigit])
  refine ⟨_, [], R, next_percent hcnt hnum, by simp, .inl rfl, ?_, fun h => h47 h.1, by simp, hh.1, hh.2.1, fun _ => rfl⟩
  exact ⟨k.symm, by simp [k, enc_codes (plainX_valid hX)]⟩
 ·
  obtain ⟨hX, hcnt, hnum⟩ := lone_number h1
  obtain ⟨v1, v2, v3, v4⟩ := name_codes h2
  obtain ⟨hR, hap⟩ := hf.1 (by rw [k]; decide) (by rw [k]; decide)
  simp only [PCore, k] at hc
  simp at hc
  subst hc
  have hlv : ascii = true → ∀ c ∈ codes (n.text.drop n.unit.toNat), c < 1048576 := fun ha => low_codes v4 (low_drop (hlow ha) _)
  obtain ⟨R', e, hl⟩ := next_dimension (ascii := ascii) (need := need) hcnt hnum v1 v2 hlv hR hap
  obtain ⟨Y, eY, hY⟩ := left_consumed (P := codes (n.text.take n.unit.toNat) ++ pIdent (if hasE (codes (n.text.take n.unit.toNat)) = true then 3 else 2) ascii need (codes (n.text.drop n.unit.toNat))) hl
  have hcnt2 := counts_append (R := pIdent (if hasE (codes (n.text.take n.unit.toNat)) = true then 3 else 2) ascii need (codes (n.text.drop n.unit.toNat)) ++ R) hcnt
  have hh := counts_head hcnt2
  rw [← List.append_assoc] at hcnt2 hh e
  have h47 : pk 0 (codes (n.text.take n.unit.toNat) ++ pIdent (if hasE (codes (n.text.take n.unit.toNat)) = true then 3 else 2) ascii need (codes (n.text.drop n.unit.toNat)) ++ R) ≠ 47 := by
   intro h; rw [h] at hcnt2; exact absurd hcnt2 (by simp [counts, isDigit])
  have hlen : wd (codes (n.text.take n.unit.toNat)) = n.unit.toNat := by
   rw [codes_wd, List.length_take]; omega
  have hencN : enc (codes (n.text.take n.unit.toNat)) = n.text.take n.unit.toNat := enc_codes (plainX_valid hX)
  refine ⟨_, Y, R', e, eY, hY, ?_, fun h => h47 h.1, by simp, hh.1, hh.2.1, fun h => absurd (by rw [k]; decide) h⟩
  refine ⟨k.symm, ?_⟩
  simp only [k]
  rw [if_neg (by decide), if_pos trivial, hlen]
  have hl2 : (n.text.take n.unit.toNat).length = n.unit.toNat := by rw [List.length_take]; omega
  have hsplit : enc (codes (n.text.take n.unit.toNat) ++ pIdent (if hasE (codes (n.text.take n.unit.toNat)) = true then 3 else 2) ascii need (codes (n.text.drop n.unit.toNat)) ++ Y) =
    n.text.take n.unit.toNat ++ enc (pIdent (if hasE (codes (n.text.take n.unit.toNat)) = true then 3 else 2) ascii need (codes (n.text.drop n.unit.toNat)) ++ Y) := by
   rw [List.append_assoc, enc_append, hencN]
  rw [hsplit]
  refine ⟨by omega, ?_, ?_⟩
  ·rw [List.take_append_of_le_length (by omega), List.take_of_length_le (by omega)]
  ·rw [List.drop_append_of_le_length (by omega), List.drop_of_length_le (by omega), List.nil_append]
   have hvY : ∀ c ∈ pIdent (if hasE (codes (n.text.take n.unit.toNat)) = true then 3 else 2) ascii need (codes (n.text.drop n.unit.toNat)) ++ Y, Valid c := by
    intro c hc
    rw [List.mem_append] at hc
    rcases hc with hc | hc
    ·exact pIdent_valid v2 c hc
    ·rcases hY with rfl | ⟨rfl, _⟩
     ·simp at hc
     ·simp at hc; subst hc; exact valid_32
   rw [codes_plain hvY]
   have hends : ends Y ∧ apart need Y := by
    rcases hY with rfl | ⟨rfl, h0⟩
    ·exact ⟨⟨by decide, by decide⟩, .inr (.inl (by decide))⟩
    ·exact ⟨⟨by decide, by decide⟩, .inr (.inr ⟨by decide, by decide, by decide⟩)⟩
   obtain ⟨Y', e', _⟩ := name_pIdent (mode := if hasE (codes (n.text.take n.unit.toNat)) = true then 3 else 2) (ascii := ascii) hends.1 hends.2 v1 v2 hlv
   rw [e', v3]
 ·
  obtain ⟨c1, c2, c3, c4, c5, c6, c7, c8, c9, c10, c11⟩ := isSign_cls k
  obtain ⟨hX, hs⟩ := lone_sign k h
  have henc := enc_codes (plainX_valid hX)
  simp only [PCore, c2, c3, c4, c5, c6, c7, if_false] at hc
  subst hc
  have hM : ∀ tk : Tk, tk.kind = n.kind → Matches tk (codes n.text ++ []) ⟨n.kind, n.unit, n.text, sp⟩ := by
   intro tk ht
   refine ⟨ht, ?_⟩
   simp [c2, c3, c4, c5, c6, c7, c9, c10, c11, henc]
  rcases hs with ⟨k4, hs⟩ | ⟨k5, hs⟩ | ⟨c, hs, hk, hg⟩
  ·have e : next (codes n.text ++ R) = (⟨4, 0, false, []⟩, R, false) := by
    rw [hs]; simp [next, pk_cons_zero, pk_cons_succ, isSpace, isNewline, counts, isDigit]
   refine ⟨_, [], R, e, by simp, .inl rfl, hM _ k4.symm, ?_, by simp, ?_, ?_, fun _ => rfl⟩ <;> rw [hs] <;> simp [pk_cons_zero, isSpace, isNewline]
  ·have e : next (codes n.text ++ R) = (⟨5, 0, false, []⟩, R, false) := by
    rw [hs]; simp [next, pk_cons_zero, pk_cons_succ, isSpace, isNewline, counts, isDigit, identifies, starts, escapes]
   refine ⟨_, [], R, e, by simp, .inl rfl, hM _ k5.symm, ?_, by simp, ?_, ?_, fun _ => rfl⟩ <;> rw [hs] <;> simp [pk_cons_zero, isSpace, isNewline]
  ·have hsg := sgn_sign k hg hX hs
   have e : next (codes n.text ++ R) = (⟨signKind c, 0, false, []⟩, R, false) := by
    rw [hs]
    exact next_sign hg.ne hg.space hg.quote hg.digit hg.start hg.back fun h => hf.2 (by rw [hsg]; simp [risky]; omega)
   refine ⟨_, [], R, e, by simp, .inl rfl, hM _ hk, ?_, ?_, ?_, ?_, fun _ => rfl⟩
   ·rw [hs, List.cons_append, pk_cons_zero, pk_cons_succ, List.nil_append]
    rintro ⟨rfl, h42⟩
    have := hf.2 (by rw [hsg]; decide)
    rw [h42] at this
    exact absurd this (by decide)
   ·rw [hk]; exact c8
   ·rw [hs, List.cons_append, pk_cons_zero]; exact hg.ne
   ·rw [hs, List.cons_append, pk_cons_zero]; exact hg.space
theorem first_facts {ascii need : Bool} {n : Node} {core S : List Int} (hn : isNode n = true) (hc : PCore ascii need n core) :
  isSpace (pk 0 (core ++ S)) = false ∧
  (cls n.kind = 0 → n.kind ≠ 22 → n.kind ≠ 4 → n.kind ≠ 33 → n.kind ≠ 11 → n.kind ≠ 17 → n.kind ≠ 23 → n.kind ≠ 20 → safeN (pk 0 (core ++ S)) = true) ∧
  (cls n.kind = 0 → n.kind ≠ 4 → n.kind ≠ 5 → (sgn n.kind n.text = 0 ∨ calmSign (sgn n.kind n.text) = true) → safeS (pk 0 (core ++ S)) = true) := by
 have hstart : ∀ S, startsIdent S → isSpace (pk 0 S) = false := by
  intro S hS
  rcases hS with ⟨d, T, rfl, _⟩ | ⟨c, T, rfl, hc⟩ | ⟨T, rfl, _⟩
  ·rw [pk_cons_zero]; decide
  ·rw [pk_cons_zero]; exact (starts_facts hc).1
  ·rw [pk_cons_zero]; decide
 have named : ∀ k : Int, cls k ≠ 0 → n.kind = k → isSpace (pk 0 (core ++ S)) = false →
   isSpace (pk 0 (core ++ S)) = false ∧
   (cls n.kind = 0 → n.kind ≠ 22 → n.kind ≠ 4 → n.kind ≠ 33 → n.kind ≠ 11 → n.kind ≠ 17 → n.kind ≠ 23 → n.kind ≠ 20 → safeN (pk 0 (core ++ S)) = true) ∧
   (cls n.kind = 0 → n.kind ≠ 4 → n.kind ≠ 5 → (sgn n.kind n.text = 0 ∨ calmSign (sgn n.kind n.text) = true) → safeS (pk 0 (core ++ S)) = true) := by
  intro k hk e h
  subst e
  exact ⟨h, fun h0 => absurd h0 hk, fun h0 => absurd h0 hk⟩
 rcases form hn with ⟨k, h⟩ | ⟨k, h⟩ | ⟨k, h⟩ | ⟨k, h, u⟩ | ⟨k, h⟩ | ⟨k, h⟩ | ⟨k, h⟩ | ⟨k, u0, u1, u2, h1, h2⟩ | ⟨k, h⟩
 ·refine named 29 (by decide) k ?_
  unfold PCore at hc
  rw [if_pos k] at hc
  subst hc
  exact hstart _ (pIdent_starts (by decide) (name_codes h).1)
 ·refine named 28 (by decide) k ?_
  unfold PCore at hc
  rw [if_neg (by omega), if_neg (by omega), if_neg (by omega), if_neg (by omega), if_pos k] at hc
  subst hc
  rw [List.cons_append, pk_cons_zero]; decide
 ·refine named 1 (by decide) k ?_
  unfold PCore at hc
  rw [if_neg (by omega), if_neg (by omega), if_neg (by omega), if_pos k] at hc
  subst hc
  rw [List.cons_append, pk_cons_zero]; decide
 ·refine named 27 (by decide) k ?_
  unfold PCore at hc
  rw [if_neg (by omega), if_pos k] at hc
  subst hc
  rw [List.append_assoc]
  exact hstart _ (pIdent_starts (by decide) (name_codes h).1)
 ·unfold PCore at hc
  rw [if_neg (by omega), if_neg (by omega), if_neg (by omega), if_neg (by omega), if_neg (by omega), if_pos k] at hc
  obtain ⟨q, o, hq, _, rfl⟩ := hc
  rw [List.cons_append, pk_cons_zero]
  rcases hq with rfl | rfl <;> exact ⟨by decide, fun _ _ _ _ _ _ _ _ => by decide, fun _ _ _ _ => by decide⟩
 ·refine named 30 (by decide) k ?_
  unfold PCore at hc
  rw [if_neg (by omega), if_neg (by omega), if_neg (by omega), if_neg (by omega), if_neg (by omega), if_neg (by omega)] at hc
  subst hc
  exact (counts_head (counts_append (lone_number h).2.1)).2.1
 ·refine named 34 (by decide) k ?_
  unfold PCore at hc
  rw [if_neg (by omega), if_neg (by omega), if_neg (by omega), if_neg (by omega), if_neg (by omega), if_neg (by omega)] at hc
  subst hc
  exact (counts_head (counts_append (lone_percent h).2.1)).2.1
 ·refine named 26 (by decide) k ?_
  unfold PCore at hc
  rw [if_neg (by omega), if_neg (by omega), if_pos k] at hc
  subst hc
  rw [List.append_assoc]
  exact (counts_head (counts_append (lone_number h1).2.1)).2.1
 ·obtain ⟨c1, c2, c3, c4, c5, c6, c7, c8, c9, c10, c11⟩ := isSign_cls k
  obtain ⟨hX, hs⟩ := lone_sign k h
  simp only [PCore, c2, c3, c4, c5, c6, c7, if_false] at hc
  subst hc
  rcases hs with ⟨k4, hs⟩ | ⟨k5, hs⟩ | ⟨c, hs, hk, hg⟩
  ·rw [hs, List.cons_append, pk_cons_zero]
   exact ⟨by decide, fun _ _ h => absurd k4 h, fun _ h => absurd k4 h⟩
  ·rw [hs, List.cons_append, pk_cons_zero]
   exact ⟨by decide, fun _ _ _ _ _ _ _ _ => by decide, fun _ _ h => absurd k5 h⟩
  ·have hsg := sgn_sign k hg hX hs
   rw [hs, List.cons_append, pk_cons_zero]
   refine ⟨hg.space, fun _ e1 e2 e3 e4 e5 e6 e7 => ?_, fun _ _ _ h => ?_⟩
   ·rcases signKind_safe c with h | h
    ·exact h
    ·rw [hk] at h
     simp at h
     omega
   ·rw [hsg] at h
    rcases h with h | h
    ·have := hg.valid.1; omega
    ·simp [calmSign] at h
     rcases h with rfl | rfl | rfl | rfl | rfl | rfl <;> decide
theorem follow_next {ascii need' : Bool} {n m : Node} {core S : List Int} (hm : isNode m = true) (hc : PCore ascii need' m core)
  (h : apartB n.kind n.text m.kind m.text = false) : Follow n false (core ++ S) := by
 obtain ⟨f1, f2, f3⟩ := first_facts (S := S) hm hc
 refine ⟨fun h1 h2 => ⟨?_, .inr (.inl f1)⟩, fun h1 => ?_⟩
 ·unfold apartB at h
  rw [if_pos (by simp [h1, h2])] at h
  simp at h
  exact f2 h.1 h.2.1 h.2.2.1 h.2.2.2.1 h.2.2.2.2.1 h.2.2.2.2.2.1 h.2.2.2.2.2.2.1 h.2.2.2.2.2.2.2
 ·have hcl : cls n.kind = 0 := by
   rcases Decidable.em (cls n.kind = 0) with h | h
   ·exact h
   ·exfalso
    have : sgn n.kind n.text = 0 := by simp [sgn, h]
    rw [this] at h1; exact absurd h1 (by decide)
  unfold apartB at h
  rw [if_neg (by simp [hcl]), if_pos h1] at h
  simp only [Bool.or_eq_false_iff, bne_eq_false_iff_eq, beq_eq_false_iff_ne, Bool.and_eq_false_iff, Bool.not_eq_false'] at h
  exact f3 h.1.1.1 h.1.1.2 h.1.2 h.2
theorem follow_space {n : Node} {c : Int} {S : List Int} (h : c = 32 ∨ c = 10) : Follow n true (c :: S) := by
 refine ⟨fun _ _ => ⟨?_, .inl rfl⟩, fun _ => ?_⟩ <;> rw [pk_cons_zero] <;> rcases h with rfl | rfl <;> decide
theorem follow_close {n : Node} {c : Int} {S : List Int} (h : c = 41 ∨ c = 93 ∨ c = 125 ∨ c = 59) : Follow n false (c :: S) := by
 refine ⟨fun _ _ => ⟨?_, .inr (.inl ?_)⟩, fun _ => ?_⟩ <;> rw [pk_cons_zero] <;> rcases h with rfl | rfl | rfl | rfl <;> decide
inductive Tree where
 | mk (n : Node) (kids : List Tree)
def Tree.n : Tree → Node | .mk n _ => n
def Tree.kids : Tree → List Tree | .mk _ k => k
def isWs (w : List Int) : Prop := ∀ c ∈ w, c = 32 ∨ c = 10
def headBefore : List Tree → Bool
 | [] => false
 | t :: _ => t.n.before
def closeChar (k : Int) : Int := if k == 8 then 41 else if k == 7 then 93 else 125
mutual
def PL (ascii : Bool) (ws : Bool) : List Tree → List Int → Prop
 | [], out => out = if ws then [32] else []
 | t :: ts, out => ∃ pre body rest, out = pre ++ (body ++ rest) ∧ isWs pre ∧ (pre = [] ↔ ws = false) ∧ PT ascii (t.n.after || headBefore ts) t body ∧ PL ascii (t.n.after || headBefore ts) ts rest
def PT (ascii : Bool) (need : Bool) : Tree → List Int → Prop
 | .mk n kids, body => ∃ core, PCore ascii need n core ∧
   match opens n.kind with
   | none => body = core
   | some k => ∃ w inner, body = core ++ (w ++ (inner ++ [closeChar k])) ∧ isWs w ∧ PL ascii (headBefore kids) kids inner
end
def spaceOf (prev : Option Bool) (before : Bool) : Int := match prev with | none => -1 | some a => if before || a then 1 else 0
mutual
def itemsL (prev : Option Bool) : List Tree → List Item
 | [] => []
 | t :: ts => itemsT (spaceOf prev t.n.before) t ++ itemsL (some t.n.after) ts
def itemsT (space : Int) : Tree → List Item
 | .mk n kids => ⟨n.kind, n.unit, n.text, space⟩ :: (match opens n.kind with
   | none => []
   | some k => itemsL none kids ++ [⟨k, 0, [], -1⟩])
end
def Tight (t : Tree) : List Tree → Prop
 | [] => True
 | u :: _ => opens t.n.kind = none → (t.n.after || u.n.before) = false → apartB t.n.kind t.n.text u.n.kind u.n.text = false
mutual
def WL (ascii : Bool) : List Tree → Prop
 | [] => True
 | t :: ts => WT ascii t ∧ Tight t ts ∧ WL ascii ts
def WT (ascii : Bool) : Tree → Prop
 | .mk n kids => isNode n = true ∧ (ascii = true → low n.text = true) ∧ WL ascii kids
end
inductive Reads : Bool → List Int → List Item → Bool → List Int → Prop where
 | done (sp : Bool) (R : List Int) : Reads sp R [] sp R
 | space {sp sp' : Bool} {c : Int} {U R : List Int} {its : List Item} (h : isSpace c = true) (r : Reads true U its sp' R) : Reads sp (c :: U) its sp' R
 | tok {sp sp' : Bool} {U U' X R : List Int} {tk : Tk} {x : Item} {its : List Item} (hn : next U = (tk, U', false)) (hX : U = X ++ U') (hm : Matches tk X x)
   (hc : ¬ (pk 0 U = 47 ∧ pk 1 U = 42)) (hk : tk.kind ≠ 38) (h0 : pk 0 U ≠ -1) (hs : isSpace (pk 0 U) = false) (hsp : x.space ≥ 0 → x.space = if sp then 1 else 0)
   (r : Reads false U' its sp' R) : Reads sp U (x :: its) sp' R
theorem Reads.trans {sp sp1 sp2 : Bool} {U V W : List Int} {a b : List Item} (h : Reads sp U a sp1 V) (h' : Reads sp1 V b sp2 W) : Reads sp U (a ++ b) sp2 W := by
 induction h with
 | done sp R => exact h'
 | space h _ ih => exact .space h (ih h')
 | tok hn hX hm hc hk h0 hs hsp _ ih => exact .tok hn hX hm hc hk h0 hs hsp (ih h')
theorem isWs_space {c : Int} (h : c = 32 ∨ c = 10) : isSpace c = true := by rcases h with rfl | rfl <;> decide
theorem Reads.ws {sp sp' : Bool} {w U R : List Int} {its : List Item} (hw : isWs w) (h : Reads (sp || !w.isEmpty) U its sp' R) : Reads sp (w ++ U) its sp' R := by
 induction w generalizing sp with
 | nil => simpa using h
 | cons c w ih =>
  refine .space (isWs_space (hw c (by simp))) (ih (fun c hc => hw c (by simp [hc])) ?_)
  simpa using h
theorem next_free {c : Int} (h : c = 41 ∨ c = 93 ∨ c = 125 ∨ c = 59 ∨ c = 123 ∨ c = 58 ∨ c = 33) (R : List Int) : next (c :: R) = (⟨signKind c, 0, false, []⟩, R, false) := by
 refine next_sign ?_ ?_ ?_ ?_ ?_ ?_ (fun h' => absurd h' ?_)
 all_goals rcases h with rfl | rfl | rfl | rfl | rfl | rfl | rfl <;> decide
theorem Reads.free {sp sp' : Bool} {c : Int} {U R : List Int} {x : Item} {its : List Item} (h : c = 41 ∨ c = 93 ∨ c = 125 ∨ c = 59 ∨ c = 123 ∨ c = 58 ∨ c = 33)
  (hm : Matches ⟨signKind c, 0, false, []⟩ [c] x) (hx : x.space < 0) (r : Reads false U its sp' R) : Reads sp (c :: U) (x :: its) sp' R := by
 refine .tok (next_free h U) (X := [c]) rfl hm ?_ ?_ ?_ ?_ (fun h => absurd h (by omega)) r
 ·rw [pk_cons_zero]; rcases h with rfl | rfl | rfl | rfl | rfl | rfl | rfl <;> exact fun h => absurd h.1 (by decide)
 ·rcases h with rfl | rfl | rfl | rfl | rfl | rfl | rfl <;> decide
 ·rw [pk_cons_zero]; rcases h with rfl | rfl | rfl | rfl | rfl | rfl | rfl <;> decide
 ·rw [pk_cons_zero]; rcases h with rfl | rfl | rfl | rfl | rfl | rfl | rfl <;> decide
def FollowL : List Tree → List Int → Prop
 | [], _ => True
 | [t], R => opens t.n.kind = none → t.n.after = false → Follow t.n false R
 | _ :: u :: ts, R => FollowL (u :: ts) R
def lastAfter (ws : Bool) : List Tree → Bool
 | [] => ws
 | [t] => t.n.after
 | _ :: u :: ts => lastAfter false (u :: ts)
theorem opens_close {k c : Int} (h : opens k = some c) : (closeChar c = 41 ∨ closeChar c = 93 ∨ closeChar c = 125) ∧ signKind (closeChar c) = c ∧ (c = 8 ∨ c = 7 ∨ c = 6) := by
 unfold opens at h
 split at h
 ·simp at h; subst h; decide
 ·split at h
  ·simp at h; subst h; decide
  ·split at h
   ·simp at h; subst h; decide
   ·simp at h
theorem close_matches {k c : Int} (h : opens k = some c) : Matches ⟨signKind (closeChar c), 0, false, []⟩ [closeChar c] ⟨c, 0, [], -1⟩ := by
 obtain ⟨_, h2, h3⟩ := opens_close h
 refine ⟨h2, ?_⟩
 rcases h3 with rfl | rfl | rfl <;> simp
theorem follow_open {n : Node} {c : Int} (hn : isNode n = true) (h : opens n.kind = some c) (need : Bool) (R : List Int) : Follow n need R := by
 have hno : ∀ k : Int, n.kind = k → opens k = none → Follow n need R := by
  intro k e h'
  rw [e, h'] at h
  exact absurd h (by simp)
 rcases form hn with ⟨k, _⟩ | ⟨k, _⟩ | ⟨k, _⟩ | ⟨k, _, _⟩ | ⟨k, _⟩ | ⟨k, _⟩ | ⟨k, _⟩ | ⟨k, _, _, _, _, _⟩ | ⟨k, hl⟩
 ·exact hno _ k (by decide)
 ·exact hno _ k (by decide)
 ·exact hno _ k (by decide)
 ·refine ⟨fun _ h27 => absurd k h27, fun hr => ?_⟩
  have : sgn n.kind n.text = 0 := by rw [k]; simp [sgn, cls]
  rw [this] at hr; exact absurd hr (by decide)
 ·exact hno _ k (by decide)
 ·exact hno _ k (by decide)
 ·exact hno _ k (by decide)
 ·exact hno _ k (by decide)
 ·obtain ⟨hX, hs⟩ := lone_sign k hl
  refine ⟨fun h0 _ => absurd (isSign_cls k).1 h0, fun hr => ?_⟩
  exfalso
  rcases hs with ⟨k4, _⟩ | ⟨k5, _⟩ | ⟨d, hs, hk, hg⟩
  ·rw [k4] at h; exact absurd h (by simp [opens])
  ·rw [k5] at h; exact absurd h (by simp [opens])
  ·rw [sgn_sign k hg hX hs] at hr
   simp [risky] at hr
   rw [← hk] at h
   rcases hr with rfl | rfl | rfl | rfl | rfl | rfl | rfl | rfl | rfl | rfl <;> exact absurd h (by simp [signKind, opens])
theorem read_core {ascii need : Bool} {n : Node} {core R : List Int} {sp : Bool} (space : Int) (hn : isNode n = true) (hlow : ascii = true → low n.text = true) (hc : PCore ascii need n core)
  (hf : Follow n need R) (hsp : space ≥ 0 → space = if sp then 1 else 0) (hR : opens n.kind = none → need = true ∨ pk 0 R ≠ 32 ∨ isSpace (pk 0 R.tail) = true) :
  ∃ R', Reads sp (core ++ R) [⟨n.kind, n.unit, n.text, space⟩] false R' ∧ (R' = R ∨ (opens n.kind = none ∧ need = false ∧ R = 32 :: R' ∧ isSpace (pk 0 R') = true)) := by
 obtain ⟨tk, Y, R', e, eY, hY, hm, hcm, hk, h0, hs, ho⟩ := tok_step space hn hlow hc hf
 refine ⟨R', .tok e eY hm hcm hk h0 hs hsp (.done _ _), ?_⟩
 rcases hY with rfl | ⟨rfl, hneed⟩
 ·left
  simpa using eY.symm
 ·right
  have hno : opens n.kind = none := by
   rcases Decidable.em (opens n.kind = none) with h | h
   ·exact h
   ·exact absurd (ho h) (by simp)
  have : R = 32 :: R' := by
   rw [List.append_assoc] at eY
   simpa using List.append_cancel_left eY
  refine ⟨hno, hneed, this, ?_⟩
  subst this
  rcases hR hno with h | h | h
  ·rw [hneed] at h; exact absurd h (by simp)
  ·rw [pk_cons_zero] at h; exact absurd rfl h
  ·simpa using h
theorem followL_close {c : Int} {R : List Int} (h : c = 41 ∨ c = 93 ∨ c = 125 ∨ c = 59) : ∀ ts : List Tree, FollowL ts (c :: R)
 | [] => trivial
 | [_] => fun _ _ => follow_close h
 | _ :: u :: ts => followL_close h (u :: ts)
theorem lastAfter_cons (a b : Bool) (t : Tree) (ts : List Tree) : lastAfter a (t :: ts) = lastAfter b (t :: ts) := by
 cases ts <;> rfl
theorem PT_core {ascii need : Bool} {t : Tree} {body : List Int} (h : PT ascii need t body) : ∃ core x, PCore ascii need t.n core ∧ body = core ++ x := by
 cases t with
 | mk n kids =>
  obtain ⟨core, hc, hm⟩ := (show ∃ core, PCore ascii need n core ∧ (match opens n.kind with | none => body = core | some k => ∃ w inner, body = core ++ (w ++ (inner ++ [closeChar k])) ∧ isWs w ∧ PL ascii (headBefore kids) kids inner) from h)
  cases ho : opens n.kind with
  | none => rw [ho] at hm; exact ⟨core, [], hc, by simpa using hm⟩
  | some k => rw [ho] at hm; obtain ⟨w, inner, hb, _⟩ := hm; exact ⟨core, _, hc, hb⟩
mutual
theorem read_list {ascii : Bool} : ∀ (ts : List Tree) (ws : Bool) (out R : List Int) (prev : Option Bool) (sp : Bool), WL ascii ts → PL ascii ws ts out →
  (∀ a, prev = some a → sp = false ∧ ws = (a || headBefore ts)) → FollowL ts R → (lastAfter ws ts = false → pk 0 R ≠ 32 ∨ isSpace (pk 0 R.tail) = true) →
  ∃ sp' R', Reads sp (out ++ R) (itemsL prev ts) sp' R' ∧ (R' = R ∨ (R = 32 :: R' ∧ isSpace (pk 0 R') = true))
 | [], ws, out, R, prev, sp, _, hp, _, _, _ => by
  have hp : out = if ws then [32] else [] := by simpa [PL] using hp
  subst hp
  refine ⟨sp || ws, R, ?_, .inl rfl⟩
  cases ws with
  | true => exact Reads.space (by decide) (by simpa [itemsL] using Reads.done true R)
  | false => simpa [itemsL] using Reads.done sp R
 | t :: ts, ws, out, R, prev, sp, hw, hp, hprev, hf, hlast => by
  obtain ⟨pre, body, rest, rfl, hpre, hpe, hT, hL⟩ := (show ∃ pre body rest, out = pre ++ (body ++ rest) ∧ isWs pre ∧ (pre = [] ↔ ws = false) ∧ PT ascii (t.n.after || headBefore ts) t body ∧ PL ascii (t.n.after || headBefore ts) ts rest from hp)
  obtain ⟨hw1, hw2, hw3⟩ := (show WT ascii t ∧ Tight t ts ∧ WL ascii ts from hw)
  have hflag' : (sp || !pre.isEmpty) = (sp || ws) := by
   cases ws with
   | true => cases pre with
    | nil => exact absurd (hpe.1 rfl) (by simp)
    | cons c l => rfl
   | false => rw [hpe.2 rfl]; rfl
  have hsp : spaceOf prev t.n.before ≥ 0 → spaceOf prev t.n.before = if (sp || !pre.isEmpty) then 1 else 0 := by
   intro h
   cases prev with
   | none => simp [spaceOf] at h
   | some a =>
    obtain ⟨h1, h2⟩ := hprev a rfl
    rw [hflag', h1, h2]
    simp only [headBefore, Bool.false_or, spaceOf]
    rw [Bool.or_comm]
  have hfollow : opens t.n.kind = none → Follow t.n (t.n.after || headBefore ts) (rest ++ R) ∧
    ((t.n.after || headBefore ts) = true ∨ pk 0 (rest ++ R) ≠ 32 ∨ isSpace (pk 0 (rest ++ R).tail) = true) := by
   intro ho
   cases ts with
   | nil =>
    have hrest : rest = if (t.n.after || headBefore []) then [32] else [] := by simpa [PL] using hL
    simp only [headBefore, Bool.or_false] at hrest ⊢
    cases ha : t.n.after with
    | true => rw [ha] at hrest; subst hrest; exact ⟨follow_space (.inl rfl), .inl rfl⟩
    | false => rw [ha] at hrest; subst hrest; exact ⟨hf ho ha, .inr (hlast ha)⟩
   | cons u us =>
    obtain ⟨pre', body', rest', rfl, hpre', hpe', hT', _⟩ := (show ∃ pre body r, rest = pre ++ (body ++ r) ∧ isWs pre ∧ (pre = [] ↔ (t.n.after || headBefore (u :: us)) = false) ∧ PT ascii (u.n.after || headBefore us) u body ∧ PL ascii (u.n.after || headBefore us) us r from hL)
    cases hneed : (t.n.after || headBefore (u :: us)) with
    | true =>
     cases pre' with
     | nil => rw [hneed] at hpe'; exact absurd (hpe'.1 rfl) (by simp)
     | cons c l => exact ⟨follow_space (hpre' c (by simp)), .inl rfl⟩
    | false =>
     rw [hneed] at hpe'
     rw [hpe'.2 rfl, List.nil_append]
     obtain ⟨core, x, hc, rfl⟩ := PT_core hT'
     have hu : isNode u.n = true := by
      cases u with
      | mk m k => exact (show WT ascii (.mk m k) ∧ _ from hw3).1.1
     rw [List.append_assoc, List.append_assoc]
     refine ⟨follow_next hu hc (hw2 ho hneed), .inr (.inl ?_)⟩
     have := (first_facts (S := x ++ (rest' ++ R)) hu hc).1
     intro h; rw [h] at this; exact absurd this (by decide)
  obtain ⟨R1, hr1, hR1⟩ := read_tree t (t.n.after || headBefore ts) body (rest ++ R) (spaceOf prev t.n.before) (sp || !pre.isEmpty) hw1 hT hsp hfollow
  have hstart := Reads.ws hpre hr1
  have e0 : pre ++ (body ++ rest) ++ R = pre ++ (body ++ (rest ++ R)) := by simp
  rw [e0]
  cases ts with
  | nil =>
   have hrest : rest = if (t.n.after || headBefore []) then [32] else [] := by simpa [PL] using hL
   simp only [headBefore, Bool.or_false] at hrest hR1
   simp only [itemsL, List.append_nil]
   cases ha : t.n.after with
   | true =>
    rw [ha] at hrest hR1
    subst hrest
    simp only [if_true] at hR1
    rcases hR1 with rfl | ⟨h, _⟩
    ·refine ⟨true, R, ?_, .inl rfl⟩
     have := hstart.trans (b := []) (Reads.space (c := 32) (U := R) (by decide) (.done true R))
     simpa using this
    ·simp at h
   | false =>
    rw [ha] at hrest hR1
    subst hrest
    simp only [Bool.false_eq_true, if_false, List.nil_append, true_and] at hR1 hstart ⊢
    exact ⟨false, R1, hstart, hR1⟩
  | cons u us =>
   have hR1' : R1 = rest ++ R := by
    rcases hR1 with h | ⟨hneed, h, _⟩
    ·exact h
    ·exfalso
     obtain ⟨pre', body', rest', rfl, hpre', hpe', hT', _⟩ := (show ∃ pre body r, rest = pre ++ (body ++ r) ∧ isWs pre ∧ (pre = [] ↔ (t.n.after || headBefore (u :: us)) = false) ∧ PT ascii (u.n.after || headBefore us) u body ∧ PL ascii (u.n.after || headBefore us) us r from hL)
     rw [hpe'.2 hneed, List.nil_append] at h
     obtain ⟨core, x, hc, rfl⟩ := PT_core hT'
     have hu : isNode u.n = true := by
      cases u with
      | mk m k => exact (show WT ascii (.mk m k) ∧ _ from hw3).1.1
     rw [List.append_assoc, List.append_assoc] at h
     have := (first_facts (S := x ++ (rest' ++ R)) hu hc).1
     rw [h, pk_cons_zero] at this
     exact absurd this (by decide)
   subst hR1'
   obtain ⟨sp2, R2, hr2, hR2⟩ := read_list (u :: us) (t.n.after || headBefore (u :: us)) rest R (some t.n.after) false hw3 hL (fun a ha => by simp at ha; subst ha; exact ⟨rfl, rfl⟩) hf
    (fun h => hlast (by rw [← h]; exact lastAfter_cons false _ u us))
   refine ⟨sp2, R2, ?_, hR2⟩
   have := hstart.trans hr2
   simpa [itemsL] using this
theorem read_tree {ascii : Bool} : ∀ (t : Tree) (need : Bool) (body R : List Int) (space : Int) (sp : Bool), WT ascii t → PT ascii need t body →
  (space ≥ 0 → space = if sp then 1 else 0) → (opens t.n.kind = none → Follow t.n need R ∧ (need = true ∨ pk 0 R ≠ 32 ∨ isSpace (pk 0 R.tail) = true)) →
  ∃ R', Reads sp (body ++ R) (itemsT space t) false R' ∧ (R' = R ∨ (need = false ∧ R = 32 :: R' ∧ isSpace (pk 0 R') = true))
 | .mk n kids, need, body, R, space, sp, hw, hp, hsp, hf => by
  obtain ⟨hn, hlow, hk⟩ := (show isNode n = true ∧ (ascii = true → low n.text = true) ∧ WL ascii kids from hw)
  obtain ⟨core, hc, hm⟩ := (show ∃ core, PCore ascii need n core ∧ (match opens n.kind with | none => body = core | some k => ∃ w inner, body = core ++ (w ++ (inner ++ [closeChar k])) ∧ isWs w ∧ PL ascii (headBefore kids) kids inner) from hp)
  cases ho : opens n.kind with
  | none =>
   rw [ho] at hm
   have hm : body = core := hm
   subst hm
   obtain ⟨hf1, hf2⟩ := hf ho
   obtain ⟨R', hr, hR'⟩ := read_core space hn hlow hc hf1 hsp (fun _ => hf2)
   refine ⟨R', by simpa [itemsT, ho] using hr, ?_⟩
   rcases hR' with h | ⟨_, h⟩
   ·exact .inl h
   ·exact .inr h
  | some k =>
   rw [ho] at hm
   obtain ⟨w, inner, rfl, hws, hL⟩ := hm
   obtain ⟨hcc, _, _⟩ := opens_close ho
   have hcc4 : closeChar k = 41 ∨ closeChar k = 93 ∨ closeChar k = 125 ∨ closeChar k = 59 := by rcases hcc with h | h | h <;> simp [h]
   have e0 : core ++ (w ++ (inner ++ [closeChar k])) ++ R = core ++ (w ++ (inner ++ closeChar k :: R)) := by simp
   rw [e0]
   obtain ⟨R1, hr1, hR1⟩ := read_core space hn hlow hc (follow_open hn ho need (w ++ (inner ++ closeChar k :: R))) hsp (fun h => absurd h (by rw [ho]; simp))
   have hR1' : R1 = w ++ (inner ++ closeChar k :: R) := by
    rcases hR1 with h | ⟨h, _⟩
    ·exact h
    ·rw [ho] at h; exact absurd h (by simp)
   subst hR1'
   obtain ⟨sp2, R2, hr2, hR2⟩ := read_list kids (headBefore kids) inner (closeChar k :: R) none (false || !w.isEmpty) hk hL (fun a h => absurd h (by simp)) (followL_close hcc4 kids)
    (fun _ => .inl (by rw [pk_cons_zero]; rcases hcc with h | h | h <;> rw [h] <;> decide))
   have hR2' : R2 = closeChar k :: R := by
    rcases hR2 with h | ⟨h, _⟩
    ·exact h
    ·simp at h; rcases hcc with h' | h' | h' <;> rw [h'] at h <;> exact absurd h.1 (by decide)
   subst hR2'
   have h3 := (hr1.trans (Reads.ws hws hr2)).trans (Reads.free (sp := sp2) (U := R) (c := closeChar k) (by rcases hcc with h | h | h <;> simp [h]) (close_matches ho) (by simp) (.done false R))
   exact ⟨R, by simpa [itemsT, ho] using h3, .inl rfl⟩
end
end Go.Proofs.YtkfdcbdlcipmfaaGreatFmt.Css
/- Nodes in a flat list are trees and have their items; whole texts are read as their items. No condition. -/
namespace Go.Proofs.YtkfdcbdlcipmfaaGreatFmt.Css
inductive Parses : Int → List Node → List Tree → List Node → Prop where
 | nil (d : Int) : Parses d [] [] []
 | stop {d : Int} {n : Node} {r : List Node} (h : n.depth < d) : Parses d (n :: r) [] (n :: r)
 | leaf {d : Int} {n : Node} {r r' : List Node} {ts : List Tree} (h : d ≤ n.depth) (ho : opens n.kind = none) (p : Parses d r ts r') : Parses d (n :: r) (.mk n [] :: ts) r'
 | node {d k : Int} {n : Node} {r r1 r' : List Node} {kids ts : List Tree} (h : d ≤ n.depth) (ho : opens n.kind = some k) (p : Parses (n.depth + 1) r kids r1) (q : Parses d r1 ts r') : Parses d (n :: r) (.mk n kids :: ts) r'
theorem parses_total : ∀ (k : Nat) (l : List Node), l.length ≤ k → ∀ d, ∃ ts r, Parses d l ts r ∧ r.length ≤ l.length := by
 intro k
 induction k with
 | zero =>
  intro l h d
  cases l with
  | nil => exact ⟨[], [], .nil d, Nat.le_refl _⟩
  | cons n r => simp at h
 | succ k ih =>
  intro l h d
  cases l with
  | nil => exact ⟨[], [], .nil d, Nat.le_refl _⟩
  | cons n r =>
   by_cases hd : n.depth < d
   ·exact ⟨[], n :: r, .stop hd, Nat.le_refl _⟩
   ·have hd' : d ≤ n.depth := by omega
    have hr : r.length ≤ k := by simpa using h
    cases ho : opens n.kind with
    | none =>
     obtain ⟨ts, r', p, hl⟩ := ih r hr d
     exact ⟨_, r', .leaf hd' ho p, by simp; omega⟩
    | some c =>
     obtain ⟨kids, r1, p, hl⟩ := ih r hr (n.depth + 1)
     obtain ⟨ts, r', q, hl'⟩ := ih r1 (by omega) d
     exact ⟨_, r', .node hd' ho p q, by simp; omega⟩
theorem Parses.rest {d : Int} {l r : List Node} {ts : List Tree} (h : Parses d l ts r) : r = [] ∨ ∃ n r', r = n :: r' ∧ n.depth < d := by
 induction h with
 | nil => exact .inl rfl
 | stop h => exact .inr ⟨_, _, rfl, h⟩
 | leaf _ _ _ ih => exact ih
 | node _ _ _ _ _ ih => exact ih
theorem Parses.sfx {d : Int} {l r : List Node} {ts : List Tree} (h : Parses d l ts r) : r <:+ l := by
 induction h with
 | nil => exact List.suffix_refl _
 | stop h => exact List.suffix_refl _
 | leaf _ _ _ ih => exact ih.trans (List.suffix_cons _ _)
 | node _ _ _ _ ih1 ih2 => exact (ih2.trans ih1).trans (List.suffix_cons _ _)
def chain : Int → List Node → Bool
 | _, [] => true
 | m, n :: r => decide (0 ≤ n.depth) && decide (n.depth ≤ m) && isNode n && chain (if (opens n.kind).isSome then n.depth + 1 else n.depth) r
theorem chain_cons {m : Int} {n : Node} {r : List Node} (h : chain m (n :: r) = true) : 0 ≤ n.depth ∧ n.depth ≤ m ∧ isNode n = true ∧ chain (if (opens n.kind).isSome then n.depth + 1 else n.depth) r = true := by
 simp only [chain, Bool.and_eq_true, decide_eq_true_eq] at h
 exact ⟨h.1.1.1, h.1.1.2, h.1.2, h.2⟩
theorem chain_sfx {m : Int} {l r : List Node} (h : chain m l = true) (hs : r <:+ l) : ∃ m', chain m' r = true := by
 induction l generalizing m with
 | nil => rw [List.suffix_nil.1 hs]; exact ⟨0, rfl⟩
 | cons n l ih =>
  rcases List.suffix_cons_iff.1 hs with rfl | hs
  ·exact ⟨m, h⟩
  ·exact ih (chain_cons h).2.2.2 hs
theorem chain_head {m m' : Int} {l : List Node} (h : chain m l = true) (hd : l = [] ∨ ∃ n r, l = n :: r ∧ n.depth < m' + 1) : chain m' l = true := by
 rcases hd with rfl | ⟨n, r, rfl, hlt⟩
 ·rfl
 ·obtain ⟨h1, h2, h3, h4⟩ := chain_cons h
  simp only [chain, Bool.and_eq_true, decide_eq_true_eq]
  exact ⟨⟨⟨h1, by omega⟩, h3⟩, h4⟩
def closed (c : Int) : Item := ⟨c, 0, [], -1⟩
def setF (f : Int → Bool) (d : Int) (b : Bool) : Int → Bool := fun x => if x = d then b else f x
def itemsGo : List Node → List Int → (Int → Bool) → (Int → Bool) → List Item
 | [], op, _, _ => op.map closed
 | n :: r, op, last, fresh =>
  (op.take (op.length - n.depth.toNat)).map closed ++
   (⟨n.kind, n.unit, n.text, if fresh n.depth then -1 else if n.before || last n.depth then 1 else 0⟩ ::
    (match opens n.kind with
     | none => itemsGo r (op.drop (op.length - n.depth.toNat)) (setF last n.depth n.after) (setF fresh n.depth false)
     | some c => itemsGo r (c :: op.drop (op.length - n.depth.toNat)) (setF last n.depth n.after) (setF (setF fresh n.depth false) (n.depth + 1) true)))
theorem items_flush {op : List Int} {c : Int} {l : List Node} {last fresh : Int → Bool} (h : l = [] ∨ ∃ n r, l = n :: r ∧ 0 ≤ n.depth ∧ n.depth ≤ op.length) :
  itemsGo l (c :: op) last fresh = closed c :: itemsGo l op last fresh := by
 rcases h with rfl | ⟨n, r, rfl, h0, h1⟩
 ·simp [itemsGo]
 ·have e : (c :: op).length - n.depth.toNat = (op.length - n.depth.toNat) + 1 := by simp; omega
  simp only [itemsGo]
  rw [e, List.take_succ_cons, List.drop_succ_cons]
  rfl
theorem items_parse {d : Int} {l r : List Node} {ts : List Tree} (p : Parses d l ts r) : ∀ (op : List Int) (last fresh : Int → Bool), chain d l = true → (op.length : Int) = d →
  ∃ last' fresh', itemsGo l op last fresh = itemsL (if fresh d then none else some (last d)) ts ++ itemsGo r op last' fresh' ∧ ∀ x, x < d → last' x = last x ∧ fresh' x = fresh x := by
 induction p with
 | nil d => exact fun op last fresh _ _ => ⟨last, fresh, by simp [itemsL], fun _ _ => ⟨rfl, rfl⟩⟩
 | stop h => exact fun op last fresh _ _ => ⟨last, fresh, by simp [itemsL], fun _ _ => ⟨rfl, rfl⟩⟩
 | @leaf d n r r' ts h ho p ih =>
  intro op last fresh hc hop
  obtain ⟨c1, c2, c3, c4⟩ := chain_cons hc
  have hd : n.depth = d := by omega
  rw [ho] at c4
  simp only [Option.isSome_none, Bool.false_eq_true, if_false] at c4
  rw [hd] at c4
  have e0 : op.length - n.depth.toNat = 0 := by omega
  obtain ⟨last', fresh', e, hk⟩ := ih op (setF last n.depth n.after) (setF fresh n.depth false) c4 hop
  refine ⟨last', fresh', ?_, fun x hx => ?_⟩
  ·simp only [itemsGo, e0, ho, List.take_zero, List.drop_zero, List.map_nil, List.nil_append]
   rw [e]
   simp only [itemsL, itemsT, ho, hd, setF, if_true, Tree.n]
   simp only [Bool.false_eq_true, if_false, List.cons_append, List.nil_append]
   congr 1
   cases fresh d <;> simp [spaceOf]
  ·have := hk x hx
   simp only [setF] at this
   rw [this.1, this.2, hd, if_neg (by omega), if_neg (by omega)]
   exact ⟨rfl, rfl⟩
 | @node d k n r r1 r' kids ts h ho p q ih1 ih2 =>
  intro op last fresh hc hop
  obtain ⟨c1, c2, c3, c4⟩ := chain_cons hc
  have hd : n.depth = d := by omega
  rw [ho] at c4
  simp only [Option.isSome_some, if_true] at c4
  have e0 : op.length - n.depth.toNat = 0 := by omega
  obtain ⟨last1, fresh1, e1, hk1⟩ := ih1 (k :: op) (setF last n.depth n.after) (setF (setF fresh n.depth false) (n.depth + 1) true) c4 (by simp; omega)
  have hr1 := p.rest
  obtain ⟨m', hm'⟩ := chain_sfx c4 p.sfx
  have hc1 : chain d r1 = true := by
   refine chain_head hm' ?_
   rcases hr1 with h | ⟨m, s, h, hlt⟩
   ·exact .inl h
   ·exact .inr ⟨m, s, h, by omega⟩
  have hfl : r1 = [] ∨ ∃ m s, r1 = m :: s ∧ 0 ≤ m.depth ∧ m.depth ≤ op.length := by
   rcases hr1 with h | ⟨m, s, h, hlt⟩
   ·exact .inl h
   ·subst h
    have := chain_cons hc1
    exact .inr ⟨m, s, rfl, this.1, by omega⟩
  obtain ⟨last', fresh', e2, hk2⟩ := ih2 op last1 fresh1 hc1 hop
  have hd1 := hk1 d (by omega)
  have hl1 : last1 d = n.after := by rw [hd1.1]; simp [setF, hd]
  have hf1 : fresh1 d = false := by rw [hd1.2]; simp [setF, hd]; omega
  refine ⟨last', fresh', ?_, fun x hx => ?_⟩
  ·simp only [itemsGo, e0, ho, List.take_zero, List.drop_zero, List.map_nil, List.nil_append]
   rw [e1, items_flush hfl, e2, hl1, hf1]
   have ef : setF (setF fresh n.depth false) (n.depth + 1) true (n.depth + 1) = true := by simp [setF]
   rw [ef]
   simp only [itemsL, itemsT, ho, hd, Tree.n]
   simp only [Bool.false_eq_true, if_false, if_true, List.cons_append, List.append_assoc, List.nil_append, closed]
   congr 1
   cases fresh d <;> simp [spaceOf]
  ·have g2 := hk2 x hx
   have g1 := hk1 x (by omega)
   simp only [setF] at g1
   rw [g2.1, g2.2, g1.1, g1.2, hd, if_neg (by omega), if_neg (by omega), if_neg (by omega)]
   exact ⟨rfl, rfl⟩
theorem tree_items {l : List Node} (h : chain 0 l = true) : ∃ ts, Parses 0 l ts [] ∧ itemsGo l [] (fun _ => false) (fun d => d == 0) = itemsL none ts := by
 obtain ⟨ts, r, p, _⟩ := parses_total l.length l (Nat.le_refl _) 0
 have hr : r = [] := by
  rcases p.rest with h' | ⟨n, s, h', hlt⟩
  ·exact h'
  ·obtain ⟨m, hm⟩ := chain_sfx h p.sfx
   subst h'
   have := chain_cons hm
   omega
 subst hr
 refine ⟨ts, p, ?_⟩
 obtain ⟨l', f', e, _⟩ := items_parse p [] (fun _ => false) (fun d => d == 0) h rfl
 rw [e]
 simp [itemsGo]
def needs (n : Node) : List Node → Bool
 | [] => false
 | m :: _ => (opens n.kind).isNone && m.depth == n.depth && apartB n.kind n.text m.kind m.text
def setL (all : Bool) : List Node → List Node
 | [] => []
 | n :: r => { n with after := n.after || all || needs n r } :: setL all r
def tightL : List Node → Prop
 | [] => True
 | n :: r => (∀ m s, r = m :: s → opens n.kind = none → n.after = false → m.depth = n.depth → apartB n.kind n.text m.kind m.text = false) ∧ tightL r
theorem set_tight (all : Bool) : ∀ l, tightL (setL all l)
 | [] => trivial
 | n :: r => by
  refine ⟨?_, set_tight all r⟩
  intro m s hr ho ha hd
  cases r with
  | nil => simp [setL] at hr
  | cons u us =>
   simp only [setL, List.cons.injEq] at hr
   obtain ⟨rfl, _⟩ := hr
   simp only at ho ha hd ⊢
   simp only [needs, ho, Option.isNone_none, Bool.true_and, hd, beq_self_eq_true, Bool.or_eq_false_iff] at ha
   exact ha.2
theorem isNode_after (n : Node) (b : Bool) : isNode { n with after := b } = isNode n := rfl
theorem set_chain (all : Bool) : ∀ (l : List Node) (m : Int), chain m (setL all l) = chain m l
 | [], _ => rfl
 | n :: r, m => by
  simp only [setL, chain, isNode_after]
  rw [set_chain all r]
theorem set_mem {all : Bool} {l : List Node} {n : Node} (h : n ∈ setL all l) : ∃ m ∈ l, n = { m with after := n.after } := by
 induction l with
 | nil => simp [setL] at h
 | cons u r ih =>
  simp only [setL, List.mem_cons] at h
  rcases h with rfl | h
  ·exact ⟨u, by simp, rfl⟩
  ·obtain ⟨m, hm, e⟩ := ih h
   exact ⟨m, by simp [hm], e⟩
theorem tightL_sfx {l r : List Node} (h : tightL l) (hs : r <:+ l) : tightL r := by
 induction l with
 | nil => rw [List.suffix_nil.1 hs]; trivial
 | cons n l ih =>
  rcases List.suffix_cons_iff.1 hs with rfl | hs
  ·exact h
  ·exact ih h.2 hs
theorem Parses.head {d : Int} {l r : List Node} {t : Tree} {ts : List Tree} (h : Parses d l (t :: ts) r) : ∃ s, l = t.n :: s ∧ d ≤ t.n.depth := by
 cases h with
 | leaf h _ _ => exact ⟨_, rfl, h⟩
 | node h _ _ _ => exact ⟨_, rfl, h⟩
theorem parses_WL {ascii : Bool} {d : Int} {l r : List Node} {ts : List Tree} (p : Parses d l ts r) : chain d l = true → tightL l → (ascii = true → ∀ n ∈ l, low n.text = true) → WL ascii ts := by
 induction p with
 | nil d => exact fun _ _ _ => trivial
 | stop h => exact fun _ _ _ => trivial
 | @leaf d n r r' ts h ho p ih =>
  intro hc ht hl
  obtain ⟨c1, c2, c3, c4⟩ := chain_cons hc
  have hd : n.depth = d := by omega
  rw [ho] at c4
  simp only [Option.isSome_none, Bool.false_eq_true, if_false] at c4
  rw [hd] at c4
  refine ⟨⟨c3, fun ha => hl ha n (by simp), trivial⟩, ?_, ih c4 ht.2 fun ha m hm => hl ha m (by simp [hm])⟩
  cases ts with
  | nil => trivial
  | cons u us =>
   obtain ⟨s, rfl, hdu⟩ := p.head
   have := chain_cons c4
   intro _ hb
   simp only [Tree.n, Bool.or_eq_false_iff] at hb
   exact ht.1 _ _ rfl ho hb.1 (by omega)
 | @node d k n r r1 r' kids ts h ho p q ih1 ih2 =>
  intro hc ht hl
  obtain ⟨c1, c2, c3, c4⟩ := chain_cons hc
  have hd : n.depth = d := by omega
  rw [ho] at c4
  simp only [Option.isSome_some, if_true] at c4
  obtain ⟨m', hm'⟩ := chain_sfx c4 p.sfx
  have hc1 : chain d r1 = true := by
   refine chain_head hm' ?_
   rcases p.rest with h | ⟨m, s, h, hlt⟩
   ·exact .inl h
   ·exact .inr ⟨m, s, h, by omega⟩
  refine ⟨⟨c3, fun ha => hl ha n (by simp), ih1 c4 ht.2 fun ha m hm => hl ha m (by simp [hm])⟩, ?_, ih2 hc1 (tightL_sfx ht.2 p.sfx) fun ha m hm => hl ha m (by simp [p.sfx.subset hm])⟩
  cases ts with
  | nil => trivial
  | cons u us =>
   intro hn
   simp only [Tree.n] at hn
   rw [ho] at hn
   exact absurd hn (by simp)
theorem set_trees {all ascii : Bool} {l : List Node} (h : chain 0 l = true) (hl : ascii = true → ∀ n ∈ l, low n.text = true) :
  ∃ ts, Parses 0 (setL all l) ts [] ∧ WL ascii ts ∧ itemsGo (setL all l) [] (fun _ => false) (fun d => d == 0) = itemsL none ts := by
 have hc : chain 0 (setL all l) = true := by rw [set_chain]; exact h
 obtain ⟨ts, p, e⟩ := tree_items hc
 refine ⟨ts, p, parses_WL p hc (set_tight all l) (fun ha n hn => ?_), e⟩
 obtain ⟨m, hm, e⟩ := set_mem hn
 rw [e]
 exact hl ha m hm
def rds (sp : Bool) : List Tok → List (Tok × Bool)
 | [] => []
 | t :: l => if t.tk.kind = 38 then rds true l else (t, sp) :: rds false l
def IsIt (q : Tok × Bool) (x : Item) : Prop :=
 ∃ X, q.1.from' = X ++ q.1.upto ∧ next q.1.from' = (q.1.tk, q.1.upto, false) ∧ Matches q.1.tk X x ∧ (x.space ≥ 0 → x.space = if q.2 then 1 else 0)
def AreIt : List (Tok × Bool) → List Item → Prop
 | [], [] => True
 | q :: l, x :: xs => IsIt q x ∧ AreIt l xs
 | _, _ => False
theorem reads_spaces : ∀ {U : List Int} {its : List Item} {sp' : Bool}, Reads true U its sp' [] → Reads true (spaces U) its sp' []
 | [], _, _, h => h
 | c :: U, its, sp', h => by
  simp only [spaces]
  by_cases hc : isSpace c = true
  ·rw [if_pos hc]
   cases h with
   | space hs r => exact reads_spaces r
   | tok _ _ _ _ _ _ hs _ _ => rw [pk_cons_zero, hc] at hs; exact absurd hs (by simp)
  ·rw [if_neg hc]; exact h
theorem space_facts {c : Int} (h : isSpace c = true) : c ≠ 47 ∧ c ≠ -1 := by
 constructor <;> rintro rfl <;> exact absurd h (by decide)
theorem next_space {c : Int} {U : List Int} (h : isSpace c = true) : next (c :: U) = (⟨38, 0, false, []⟩, spaces U, false) := by
 unfold next
 dsimp only
 rw [pk_cons_zero, if_neg (by simpa using (space_facts h).2), if_pos h]
 simp [spaces, h]
theorem reads_tokens : ∀ (k : Nat) (U : List Int) (sp sp' : Bool) (its : List Item), U.length ≤ k → Reads sp U its sp' [] →
  (tokens U).2.1 = 0 ∧ (tokens U).2.2 = false ∧ AreIt (rds sp (tokens U).1) its := by
 intro k
 induction k with
 | zero =>
  intro U sp sp' its hk h
  have : U = [] := List.eq_nil_of_length_eq_zero (by omega)
  subst this
  cases h with
  | done =>
   rw [tokens, comment_none (by simp [pk_nil]), dif_pos (by simp [pk_nil])]
   exact ⟨rfl, rfl, trivial⟩
  | tok _ _ _ _ _ h0 _ _ _ => exact absurd (pk_nil 0) h0
 | succ k ih =>
  intro U sp sp' its hk h
  cases h with
  | done =>
   rw [tokens, comment_none (by simp [pk_nil]), dif_pos (by simp [pk_nil])]
   exact ⟨rfl, rfl, trivial⟩
  | @space _ _ c V _ _ hs r =>
   have hf := space_facts hs
   have hr := reads_spaces r
   have hl := spaces_le V
   simp only [List.length_cons] at hk
   obtain ⟨g1, g2, g3⟩ := ih (spaces V) true sp' its (by omega) hr
   rw [tokens, comment_none (by rw [pk_cons_zero]; exact fun h => hf.1 h.1), dif_neg (by simp only [pk_cons_zero]; exact hf.2), next_space hs]
   dsimp only
   refine ⟨by omega, by rw [g2]; rfl, ?_⟩
   simpa [rds] using g3
  | @tok _ _ _ U' X _ tk x its' hn hX hm hc hk' h0 hs hsp r =>
   have hlt := next_lt h0
   rw [hn] at hlt
   dsimp only at hlt
   obtain ⟨g1, g2, g3⟩ := ih U' false sp' its' (by omega) r
   rw [tokens, comment_none hc, dif_neg (by simpa using h0)]
   dsimp only
   rw [hn]
   dsimp only
   refine ⟨by omega, by rw [g2]; rfl, ?_⟩
   rw [rds, if_neg hk']
   exact ⟨⟨X, hX, hn, hm, hsp⟩, g3⟩
theorem reads_resume {R R' : List Int} {its : List Item} (h : R' = R ∨ (R = 32 :: R' ∧ isSpace (pk 0 R') = true)) (hr : ∀ sp, ∃ sp', Reads sp R its sp' []) : ∀ sp, ∃ sp', Reads sp R' its sp' [] := by
 rcases h with rfl | ⟨rfl, h⟩
 ·exact hr
 ·intro sp
  obtain ⟨sp', h1⟩ := hr sp
  cases h1 with
  | space _ h2 =>
   cases h2 with
   | done => rw [pk_nil] at h; exact absurd h (by decide)
   | space hc r => exact ⟨_, .space hc r⟩
   | tok _ _ _ _ _ _ hs _ _ => rw [h] at hs; exact absurd hs (by simp)
  | tok _ _ _ _ _ _ hs _ _ => rw [pk_cons_zero] at hs; exact absurd hs (by decide)
theorem list_reads {ascii ws : Bool} {ts : List Tree} {out R : List Int} {prev : Option Bool} {sp : Bool} {its : List Item} (hw : WL ascii ts) (hp : PL ascii ws ts out)
  (hprev : ∀ a, prev = some a → sp = false ∧ ws = (a || headBefore ts)) (hf : FollowL ts R) (hlast : lastAfter ws ts = false → pk 0 R ≠ 32 ∨ isSpace (pk 0 R.tail) = true)
  (hr : ∀ sp, ∃ sp', Reads sp R its sp' []) : ∃ sp', Reads sp (out ++ R) (itemsL prev ts ++ its) sp' [] := by
 obtain ⟨sp1, R', h1, h2⟩ := read_list ts ws out R prev sp hw hp hprev hf hlast
 obtain ⟨sp', h3⟩ := reads_resume h2 hr sp1
 exact ⟨sp', h1.trans h3⟩
theorem tail_reads {w : List Int} (h : isWs w) : ∀ sp, ∃ sp', Reads sp w [] sp' [] := by
 intro sp
 have := Reads.ws (sp := sp) (U := []) (R := []) (its := []) h (.done _ _)
 rw [List.append_nil] at this
 exact ⟨_, this⟩
theorem sign_reads {c : Int} {x : Item} {U : List Int} {its : List Item} (h : c = 41 ∨ c = 93 ∨ c = 125 ∨ c = 59 ∨ c = 123 ∨ c = 58 ∨ c = 33) (hm : Matches ⟨signKind c, 0, false, []⟩ [c] x) (hx : x.space < 0)
  (hr : ∀ sp, ∃ sp', Reads sp U its sp' []) : ∀ sp, ∃ sp', Reads sp (c :: U) (x :: its) sp' [] := by
 intro sp
 obtain ⟨sp', r⟩ := hr false
 exact ⟨sp', .free h hm hx r⟩
theorem ws_reads {w U : List Int} {its : List Item} (h : isWs w) (hr : ∀ sp, ∃ sp', Reads sp U its sp' []) : ∀ sp, ∃ sp', Reads sp (w ++ U) its sp' [] := by
 intro sp
 obtain ⟨sp', r⟩ := hr (sp || !w.isEmpty)
 exact ⟨sp', .ws h r⟩
def semi : Item := ⟨35, 0, [59], -1⟩
def colon : Item := ⟨9, 0, [58], -1⟩
def bang : Item := ⟨19, 0, [33], -1⟩
def brace : Item := ⟨31, 0, [123], -1⟩
def unbrace : Item := ⟨6, 0, [], -1⟩
theorem semi_matches : Matches ⟨signKind 59, 0, false, []⟩ [59] semi := ⟨by decide, by simp [semi, enc, enc1, byte]⟩
theorem colon_matches : Matches ⟨signKind 58, 0, false, []⟩ [58] colon := ⟨by decide, by simp [colon, enc, enc1, byte]⟩
theorem bang_matches : Matches ⟨signKind 33, 0, false, []⟩ [33] bang := ⟨by decide, by simp [bang, enc, enc1, byte]⟩
theorem brace_matches : Matches ⟨signKind 123, 0, false, []⟩ [123] brace := ⟨by decide, by simp [brace, enc, enc1, byte]⟩
theorem unbrace_matches : Matches ⟨signKind 125, 0, false, []⟩ [125] unbrace := ⟨by decide, by simp [unbrace]⟩
theorem semi_reads {w : List Int} (h : isWs w) : ∀ sp, ∃ sp', Reads sp (59 :: w) [semi] sp' [] := sign_reads (by simp) semi_matches (by decide) (tail_reads h)
theorem name_reads {ascii need : Bool} {k : Int} {name : List UInt8} {core R : List Int} {its : List Item} (hk : k = 29 ∨ k = 1) (hn : isName name = true) (hl : ascii = true → low name = true)
  (hc : PCore ascii need ⟨k, 0, 0, name, false, false⟩ core) (hs : safeN (pk 0 R) = true) (ha : apart2 need R) (hR : need = true ∨ pk 0 R ≠ 32) (hr : ∀ sp, ∃ sp', Reads sp R its sp' []) :
  ∀ sp, ∃ sp', Reads sp (core ++ R) (⟨k, 0, name, -1⟩ :: its) sp' [] := by
 intro sp
 have hnode : isNode ⟨k, 0, 0, name, false, false⟩ = true := by
  rcases hk with rfl | rfl <;> simp [isNode, hn]
 obtain ⟨R', h1, h2⟩ := read_core (sp := sp) (-1) hnode hl hc ⟨fun _ _ => ⟨hs, ha⟩, fun h => by
  exfalso
  have : sgn k name = 0 := by rcases hk with rfl | rfl <;> simp [sgn, cls]
  simp only [this] at h
  exact absurd h (by decide)⟩ (by intro h; exact absurd h (by decide)) (fun _ => hR.imp_right .inl)
 have hR' : R' = R := by
  rcases h2 with h | ⟨_, hneed, h, _⟩
  ·exact h
  ·rcases hR with g | g
   ·rw [hneed] at g; exact absurd g (by simp)
   ·rw [h, pk_cons_zero] at g; exact absurd rfl g
 subst hR'
 obtain ⟨sp', r⟩ := hr false
 exact ⟨sp', h1.trans (b := its) r⟩
theorem core_ident {ascii need : Bool} {name : List UInt8} : PCore ascii need ⟨29, 0, 0, name, false, false⟩ (pIdent 0 ascii need (codes name)) := by simp [PCore]
theorem core_at {ascii need : Bool} {name : List UInt8} : PCore ascii need ⟨1, 0, 0, name, false, false⟩ (64 :: pIdent 0 ascii need (codes name)) := by simp [PCore]
def atText (ascii : Bool) (name : List UInt8) (ts : List Tree) (body tail : List Int) : List Int :=
 64 :: pIdent 0 ascii (!ts.isEmpty) (codes name) ++ ((if ts.isEmpty then [] else [32]) ++ (body ++ 59 :: tail))
def atItems (name : List UInt8) (its : List Item) : List Item := ⟨1, 0, name, -1⟩ :: (its ++ [semi])
theorem at_reads {ascii : Bool} {name : List UInt8} {ts : List Tree} {body tail : List Int} (hn : isName name = true) (hl : ascii = true → low name = true) (hw : WL ascii ts) (hp : PL ascii (headBefore ts) ts body) (ht : isWs tail) :
  ∃ sp', Reads false (atText ascii name ts body tail) (atItems name (itemsL none ts)) sp' [] := by
 have hlist : ∀ sp, ∃ sp', Reads sp (body ++ 59 :: tail) (itemsL none ts ++ [semi]) sp' [] := fun sp =>
  list_reads hw hp (fun a h => absurd h (by simp)) (followL_close (by simp) ts) (fun _ => .inl (by rw [pk_cons_zero]; decide)) (semi_reads ht)
 cases ts with
 | nil =>
  have hb : body = [] := by simpa [PL, headBefore] using hp
  subst hb
  exact name_reads (.inr rfl) hn hl core_at (by simp only [List.isEmpty_nil, if_true, List.nil_append, pk_cons_zero]; decide) (.inr (.inl (by simp only [List.isEmpty_nil, if_true, List.nil_append, pk_cons_zero]; decide)))
   (.inr (by simp only [List.isEmpty_nil, if_true, List.nil_append, pk_cons_zero]; decide)) hlist false
 | cons t ts =>
  exact name_reads (.inr rfl) hn hl core_at (by simp only [List.isEmpty_cons, Bool.false_eq_true, if_false, List.cons_append, pk_cons_zero]; decide) (.inl rfl) (.inl rfl)
   (ws_reads (w := [32]) (by intro c hc; simp at hc; exact .inl hc) hlist) false
def declText (ascii : Bool) (key : List UInt8) (body R : List Int) : List Int := pIdent 0 ascii false (codes key) ++ 58 :: (body ++ R)
def declItems (key : List UInt8) (its : List Item) : List Item := ⟨29, 0, key, -1⟩ :: colon :: its
theorem decl_reads {ascii : Bool} {key : List UInt8} {ts : List Tree} {body R : List Int} {its : List Item} (hn : isName key = true) (hl : ascii = true → low key = true) (hw : WL ascii ts) (hp : PL ascii (headBefore ts) ts body)
  (hf : FollowL ts R) (hlast : lastAfter (headBefore ts) ts = false → pk 0 R ≠ 32 ∨ isSpace (pk 0 R.tail) = true) (hr : ∀ sp, ∃ sp', Reads sp R its sp' []) :
  ∀ sp, ∃ sp', Reads sp (declText ascii key body R) (declItems key (itemsL none ts ++ its)) sp' [] :=
 name_reads (.inl rfl) hn hl core_ident (by rw [pk_cons_zero]; decide) (.inr (.inl (by rw [pk_cons_zero]; decide))) (.inr (by rw [pk_cons_zero]; decide))
  (sign_reads (by simp) colon_matches (by decide) fun _ => list_reads hw hp (fun a h => absurd h (by simp)) hf hlast hr)
def Asc (ascii : Bool) (V : List Int) : Prop := ascii = true → ∀ c ∈ V, c < 128
theorem Asc.append {a : Bool} {X Y : List Int} (h : Asc a X) (k : Asc a Y) : Asc a (X ++ Y) := fun ha c hc => by
 rcases List.mem_append.1 hc with hc | hc
 ·exact h ha c hc
 ·exact k ha c hc
theorem Asc.nil {a : Bool} : Asc a [] := fun _ c hc => absurd hc (by simp)
theorem Asc.cons {a : Bool} {c : Int} {X : List Int} (hc : c < 128) (h : Asc a X) : Asc a (c :: X) := fun ha d hd => by
 rcases List.mem_cons.1 hd with rfl | hd
 ·exact hc
 ·exact h ha d hd
theorem Asc.ws {a : Bool} {w : List Int} (h : isWs w) : Asc a w := fun _ c hc => by rcases h c hc with rfl | rfl <;> decide
theorem hexDigit_asc (d : Nat) (h : d < 16) : hexDigit d < 128 := by unfold hexDigit; split <;> omega
theorem hexStr_asc (n : Nat) : ∀ c ∈ hexStr n, c < 128 := by
 induction n using Nat.strongRecOn with
 | _ n ih =>
  unfold hexStr
  split
  ·rename_i h; intro c hc; simp at hc; subst hc; exact hexDigit_asc _ h
  ·rename_i h
   intro c hc
   simp only [List.mem_append, List.mem_singleton] at hc
   rcases hc with hc | rfl
   ·exact ih _ (by omega) c hc
   ·exact hexDigit_asc _ (by omega)
theorem pEsc_asc {c : Int} {e : Esc} (h : e ≠ .hex → c < 128) (rest : List Int) (need : Bool) : ∀ d ∈ pEsc c e rest need, d < 128 := by
 have hex : ∀ x, (x = 92 :: hexStr c.toNat ++ [32] ∨ x = 92 :: hexStr c.toNat) → ∀ d ∈ x, d < 128 := by
  intro x hx d hd
  have hd' : d = 92 ∨ d ∈ hexStr c.toNat ∨ d = 32 := by
   rcases hx with rfl | rfl
   ·simpa using hd
   ·simp at hd
    rcases hd with hd | hd
    ·exact .inl hd
    ·exact .inr (.inl hd)
  rcases hd' with rfl | hd | rfl
  ·decide
  ·exact hexStr_asc _ d hd
  ·decide
 cases e with
 | none => intro d hd; simp [pEsc] at hd; subst hd; exact h (by simp)
 | back =>
  cases hb : isHexC c with
  | false =>
   intro d hd
   simp [pEsc, hb] at hd
   rcases hd with rfl | rfl
   ·decide
   ·exact h (by simp)
  | true =>
   apply hex
   simp only [pEsc, hb]
   repeat' split
   all_goals simp
 | hex =>
  apply hex
  simp only [pEsc]
  repeat' split
  all_goals simp
theorem escOf_asc {f : Option Esc} {c : Int} : escOf true f c ≠ .hex → c < 128 := by
 intro h
 unfold escOf at h
 by_cases hc : (128 : Int) ≤ c
 ·simp [hc] at h
 ·omega
theorem pTail_asc {ascii need : Bool} (V : List Int) : Asc ascii (pTail ascii need V) := by
 intro ha
 subst ha
 induction V with
 | nil => simp [pTail]
 | cons c V ih =>
  intro d hd
  simp only [pTail, List.mem_append] at hd
  rcases hd with hd | hd
  ·exact pEsc_asc escOf_asc _ _ d hd
  ·exact ih d hd
theorem pIdent_asc {mode : Nat} {ascii need : Bool} (V : List Int) : Asc ascii (pIdent mode ascii need V) := by
 intro ha
 cases V with
 | nil => simp [pIdent]
 | cons c V =>
  intro d hd
  simp only [pIdent, List.mem_append] at hd
  rcases hd with hd | hd
  ·subst ha; exact pEsc_asc escOf_asc _ _ d hd
  ·exact pTail_asc V ha d hd
theorem digit_asc {c : Int} (h : isDigit c = true) : c < 128 := by simp [isDigit] at h; omega
theorem numHead_asc (U : List Int) : ∃ p, U = p ++ (numHead U).1 ∧ ∀ c ∈ p, c < 128 := by
 obtain ⟨p1, e1, h1⟩ : ∃ p, U = p ++ nSign U ∧ ∀ c ∈ p, c < 128 := by
  cases U with
  | nil => exact ⟨[], rfl, by simp⟩
  | cons c U =>
   unfold nSign
   split
   ·rename_i h; simp [pk_cons_zero] at h; exact ⟨[c], rfl, by simp; omega⟩
   ·exact ⟨[], rfl, by simp⟩
 obtain ⟨p2, e2, h2⟩ := digits_suffix (nSign U)
 obtain ⟨p3, e3, h3⟩ : ∃ p, digits (nSign U) = p ++ (nFrac (digits (nSign U))).1 ∧ ∀ c ∈ p, c < 128 := by
  generalize digits (nSign U) = X
  cases X with
  | nil => exact ⟨[], rfl, by simp⟩
  | cons c X =>
   unfold nFrac
   split
   ·rename_i h
    simp [pk_cons_zero] at h
    obtain ⟨p, e, hp⟩ := digits_suffix X
    refine ⟨c :: p, by simp [← e], ?_⟩
    intro d hd
    simp at hd
    rcases hd with rfl | hd
    ·omega
    ·exact digit_asc (hp d hd)
   ·exact ⟨[], rfl, by simp⟩
 unfold numHead
 simp only
 generalize (nFrac (digits (nSign U))).1 = X at e3
 have e : U = (p1 ++ p2 ++ p3) ++ X := by rw [List.append_assoc, List.append_assoc, ← e3, ← e2, ← e1]
 have hp : ∀ c ∈ p1 ++ p2 ++ p3, c < 128 := by
  intro c hc
  simp only [List.mem_append] at hc
  rcases hc with (hc | hc) | hc
  ·exact h1 c hc
  ·exact digit_asc (h2 c hc)
  ·exact h3 c hc
 unfold nExp
 split
 ·rename_i hx
  obtain ⟨q, e4, h4⟩ := digits_suffix (X.drop 2)
  refine ⟨(p1 ++ p2 ++ p3) ++ X.take 2 ++ q, by rw [List.append_assoc, List.append_assoc, ← e4, List.take_append_drop, ← e], ?_⟩
  intro c hc
  have hc' : c ∈ p1 ++ p2 ++ p3 ∨ c ∈ X.take 2 ∨ c ∈ q := by
   rcases List.mem_append.1 hc with h | h
   ·rcases List.mem_append.1 h with h | h
    ·exact .inl h
    ·exact .inr (.inl h)
   ·exact .inr (.inr h)
  rcases hc' with hc | hc | hc
  ·exact hp c hc
  ·cases X with
   | nil => simp at hc
   | cons a X =>
    cases X with
    | nil =>
     simp at hc
     subst hc
     simp [isExpo, pk_cons_zero] at hx
     omega
    | cons b X =>
     simp at hc
     simp [isExpo, pk_cons_zero, pk_cons_succ] at hx
     rcases hc with rfl | rfl
     ·omega
     ·rcases hx.2 with h | h
      ·exact digit_asc h
      ·omega
  ·exact digit_asc (h4 c hc)
 ·exact ⟨p1 ++ p2 ++ p3, e, hp⟩
theorem starts_bom {S : List Int} : pk 0 S = 65279 → isSpace (pk 0 S) = false := by intro h; rw [h]; decide
theorem pIdent_bom {mode : Nat} {ascii need : Bool} {V : List Int} (hne : V ≠ []) (R : List Int) : pk 0 (pIdent mode ascii need V ++ R) ≠ 65279 := by
 cases V with
 | nil => exact absurd rfl hne
 | cons c V =>
  simp only [pIdent, List.append_assoc]
  rw [pEsc_head]
  split
  ·rename_i h
   rintro rfl
   unfold escOf at h
   revert h
   cases ascii <;> simp
  ·decide
theorem sign_asc {c : Int} (h : IsSign c) : 0 < c ∧ c < 128 := by
 refine ⟨h.valid.1, ?_⟩
 have := h.start
 simp [starts] at this
 omega
theorem core_facts {ascii need : Bool} {n : Node} {core : List Int} (hn : isNode n = true) (hc : PCore ascii need n core) :
  (∀ c ∈ core, Valid c) ∧ (∀ R, pk 0 (core ++ R) ≠ 65279) ∧ (n.kind ≠ 36 → Asc ascii core) := by
 rcases form hn with ⟨k, h⟩ | ⟨k, h⟩ | ⟨k, h⟩ | ⟨k, h, u⟩ | ⟨k, h⟩ | ⟨k, h⟩ | ⟨k, h⟩ | ⟨k, u0, u1, u2, h1, h2⟩ | ⟨k, h⟩
 ·obtain ⟨v1, v2, v3, v4⟩ := name_codes h
  simp only [PCore, k, if_true] at hc
  subst hc
  exact ⟨pIdent_valid v2, pIdent_bom v1, fun _ => pIdent_asc _⟩
 ·obtain ⟨v1, v2, v3, v4⟩ := name_codes h
  unfold PCore at hc
  rw [if_neg (by omega), if_neg (by omega), if_neg (by omega), if_neg (by omega), if_pos k] at hc
  subst hc
  refine ⟨fun c hc => ?_, fun R => by rw [List.cons_append, pk_cons_zero]; decide, fun _ => Asc.cons (by decide) (pIdent_asc _)⟩
  rcases List.mem_cons.1 hc with rfl | hc
  ·exact ⟨by decide, by decide, by decide⟩
  ·exact pIdent_valid v2 c hc
 ·obtain ⟨v1, v2, v3, v4⟩ := name_codes h
  unfold PCore at hc
  rw [if_neg (by omega), if_neg (by omega), if_neg (by omega), if_pos k] at hc
  subst hc
  refine ⟨fun c hc => ?_, fun R => by rw [List.cons_append, pk_cons_zero]; decide, fun _ => Asc.cons (by decide) (pIdent_asc _)⟩
  rcases List.mem_cons.1 hc with rfl | hc
  ·exact ⟨by decide, by decide, by decide⟩
  ·exact pIdent_valid v2 c hc
 ·obtain ⟨v1, v2, v3, v4⟩ := name_codes h
  unfold PCore at hc
  rw [if_neg (by omega), if_pos k] at hc
  subst hc
  refine ⟨fun c hc => ?_, fun R => by rw [List.append_assoc]; exact pIdent_bom v1 _, fun _ => Asc.append (pIdent_asc _) (Asc.cons (by decide) Asc.nil)⟩
  rcases List.mem_append.1 hc with hc | hc
  ·exact pIdent_valid v2 c hc
  ·simp at hc; subst hc; exact ⟨by decide, by decide, by decide⟩
 ·have hv := plainX_valid h
  unfold PCore at hc
  rw [if_neg (by omega), if_neg (by omega), if_neg (by omega), if_neg (by omega), if_neg (by omega), if_pos k] at hc
  obtain ⟨q, o, hq, hqs, rfl⟩ := hc
  have hqv : Valid q := by rcases hq with rfl | rfl <;> exact ⟨by decide, by decide, by decide⟩
  refine ⟨fun c hc => ?_, fun R => by rw [List.cons_append, pk_cons_zero]; rcases hq with rfl | rfl <;> decide, fun hk => absurd k hk⟩
  rcases List.mem_cons.1 hc with rfl | hc
  ·exact hqv
  ·rcases List.mem_append.1 hc with hc | hc
   ·exact QS_valid hv hqs c hc
   ·simp at hc; subst hc; exact hqv
 ·obtain ⟨hX, hco, hh⟩ := lone_number h
  unfold PCore at hc
  rw [if_neg (by omega), if_neg (by omega), if_neg (by omega), if_neg (by omega), if_neg (by omega), if_neg (by omega)] at hc
  subst hc
  obtain ⟨p, e, ha⟩ := numHead_asc (codes n.text)
  rw [hh, List.append_nil] at e
  refine ⟨plainX_valid hX, fun R hb => ?_, fun _ _ c hc => ha c (by rw [← e]; exact hc)⟩
  have hco' := counts_append (R := R) hco
  rw [hb] at hco'
  simp [counts, isDigit] at hco'
 ·obtain ⟨hX, hco, hh⟩ := lone_percent h
  unfold PCore at hc
  rw [if_neg (by omega), if_neg (by omega), if_neg (by omega), if_neg (by omega), if_neg (by omega), if_neg (by omega)] at hc
  subst hc
  obtain ⟨p, e, ha⟩ := numHead_asc (codes n.text)
  rw [hh] at e
  refine ⟨plainX_valid hX, fun R hb => ?_, fun _ _ c hc => ?_⟩
  ·have hco' := counts_append (R := R) hco
   rw [hb] at hco'
   simp [counts, isDigit] at hco'
  ·rw [e] at hc
   rcases List.mem_append.1 hc with hc | hc
   ·exact ha c hc
   ·simp at hc; subst hc; decide
 ·obtain ⟨hX, hco, hh⟩ := lone_number h1
  obtain ⟨v1, v2, v3, v4⟩ := name_codes h2
  unfold PCore at hc
  rw [if_neg (by omega), if_neg (by omega), if_pos k] at hc
  subst hc
  obtain ⟨p, e, ha⟩ := numHead_asc (codes (n.text.take n.unit.toNat))
  rw [hh, List.append_nil] at e
  refine ⟨fun c hc => ?_, fun R hb => ?_, fun _ => Asc.append (fun _ c hc => ha c (by rw [← e]; exact hc)) (pIdent_asc _)⟩
  ·rcases List.mem_append.1 hc with hc | hc
   ·exact plainX_valid hX c hc
   ·exact pIdent_valid v2 c hc
  ·rw [List.append_assoc] at hb
   have hco' := counts_append (R := pIdent (if hasE (codes (n.text.take n.unit.toNat)) then 3 else 2) ascii need (codes (n.text.drop n.unit.toNat)) ++ R) hco
   rw [hb] at hco'
   simp [counts, isDigit] at hco'
 ·obtain ⟨c1, c2, c3, c4, c5, c6, c7, c8, c9, c10, c11⟩ := isSign_cls k
  obtain ⟨hX, hs⟩ := lone_sign k h
  simp only [PCore, c2, c3, c4, c5, c6, c7, if_false] at hc
  subst hc
  refine ⟨plainX_valid hX, ?_⟩
  rcases hs with ⟨_, hs⟩ | ⟨_, hs⟩ | ⟨c, hs, hk, hg⟩
  ·rw [hs]
   exact ⟨fun R => by rw [List.cons_append, pk_cons_zero]; decide, fun _ _ => by decide⟩
  ·rw [hs]
   exact ⟨fun R => by rw [List.cons_append, pk_cons_zero]; decide, fun _ _ => by decide⟩
  ·have hz := sign_asc hg
   rw [hs]
   exact ⟨fun R => by rw [List.cons_append, pk_cons_zero]; omega, fun _ => Asc.cons hz.2 Asc.nil⟩
theorem ws_valid {w : List Int} (h : isWs w) : ∀ c ∈ w, Valid c := fun c hc => by rcases h c hc with rfl | rfl <;> exact ⟨by decide, by decide, by decide⟩
theorem close_valid {k c : Int} (h : opens k = some c) : Valid (closeChar c) := by
 rcases (opens_close h).1 with e | e | e <;> rw [e] <;> exact ⟨by decide, by decide, by decide⟩
theorem valid_append {X Y : List Int} (h : ∀ c ∈ X, Valid c) (k : ∀ c ∈ Y, Valid c) : ∀ c ∈ X ++ Y, Valid c := fun c hc => by
 rcases List.mem_append.1 hc with hc | hc
 ·exact h c hc
 ·exact k c hc
mutual
theorem PL_valid {ascii : Bool} : ∀ (ts : List Tree) (ws : Bool) (out : List Int), WL ascii ts → PL ascii ws ts out → ∀ c ∈ out, Valid c
 | [], ws, out, _, hp => by
  have hp : out = if ws then [32] else [] := by simpa [PL] using hp
  subst hp
  cases ws
  ·simp
  ·simp; exact ⟨by decide, by decide, by decide⟩
 | t :: ts, ws, out, hw, hp => by
  obtain ⟨pre, body, rest, rfl, hpre, hpe, hT, hL⟩ := (show ∃ pre body rest, out = pre ++ (body ++ rest) ∧ isWs pre ∧ (pre = [] ↔ ws = false) ∧ PT ascii (t.n.after || headBefore ts) t body ∧ PL ascii (t.n.after || headBefore ts) ts rest from hp)
  obtain ⟨hw1, hw2, hw3⟩ := (show WT ascii t ∧ Tight t ts ∧ WL ascii ts from hw)
  exact valid_append (ws_valid hpre) (valid_append (PT_valid t _ body hw1 hT) (PL_valid ts _ rest hw3 hL))
theorem PT_valid {ascii : Bool} : ∀ (t : Tree) (need : Bool) (body : List Int), WT ascii t → PT ascii need t body → ∀ c ∈ body, Valid c
 | .mk n kids, need, body, hw, hp => by
  obtain ⟨hn, hlow, hk⟩ := (show isNode n = true ∧ (ascii = true → low n.text = true) ∧ WL ascii kids from hw)
  obtain ⟨core, hc, hm⟩ := (show ∃ core, PCore ascii need n core ∧ (match opens n.kind with | none => body = core | some k => ∃ w inner, body = core ++ (w ++ (inner ++ [closeChar k])) ∧ isWs w ∧ PL ascii (headBefore kids) kids inner) from hp)
  have hv := (core_facts hn hc).1
  cases ho : opens n.kind with
  | none =>
   rw [ho] at hm
   have hm : body = core := hm
   subst hm
   exact hv
  | some k =>
   rw [ho] at hm
   obtain ⟨w, inner, rfl, hws, hL⟩ := hm
   refine valid_append hv (valid_append (ws_valid hws) (valid_append (PL_valid kids _ inner hk hL) ?_))
   intro c hc
   simp at hc
   subst hc
   exact close_valid ho
end
theorem PL_bom {ascii ws : Bool} {ts : List Tree} {out R : List Int} (hw : WL ascii ts) (hp : PL ascii ws ts out) (hR : pk 0 R ≠ 65279) : pk 0 (out ++ R) ≠ 65279 := by
 cases ts with
 | nil =>
  have hp : out = if ws then [32] else [] := by simpa [PL] using hp
  subst hp
  cases ws
  ·simpa using hR
  ·simp [pk_cons_zero]
 | cons t ts =>
  obtain ⟨pre, body, rest, rfl, hpre, hpe, hT, hL⟩ := (show ∃ pre body rest, out = pre ++ (body ++ rest) ∧ isWs pre ∧ (pre = [] ↔ ws = false) ∧ PT ascii (t.n.after || headBefore ts) t body ∧ PL ascii (t.n.after || headBefore ts) ts rest from hp)
  obtain ⟨hw1, hw2, hw3⟩ := (show WT ascii t ∧ Tight t ts ∧ WL ascii ts from hw)
  cases pre with
  | cons c w =>
   simp only [List.cons_append, pk_cons_zero]
   rcases hpre c (by simp) with rfl | rfl <;> decide
  | nil =>
   obtain ⟨core, x, hc, rfl⟩ := PT_core hT
   have hn : isNode t.n = true := by
    cases t with
    | mk n k => exact (show isNode n = true ∧ _ from hw1).1
   simp only [List.nil_append, List.append_assoc]
   exact (core_facts hn hc).2.1 _
theorem text_plain {T : List Int} (hv : ∀ c ∈ T, Valid c) (hb : pk 0 T ≠ 65279) : plain (enc T) = true := by
 unfold plain
 rw [valid_plainX hv, codes_plain hv]
 simpa using hb
theorem enc1_asc {c : Int} (h0 : 0 ≤ c) (h : c < 128) : ∀ b ∈ enc1 c, b.toNat < 128 := by
 unfold enc1
 rw [if_pos h]
 intro b hb
 simp at hb
 subst hb
 rw [byte_toNat h0 (by omega)]
 omega
theorem enc_asc {T : List Int} (hv : ∀ c ∈ T, Valid c) (h : ∀ c ∈ T, c < 128) : ∀ b ∈ enc T, b.toNat < 128 := by
 intro b hb
 obtain ⟨c, hc, hb⟩ := List.mem_flatMap.1 hb
 exact enc1_asc (by have := (hv c hc).1; omega) (h c hc) b hb
end Go.Proofs.YtkfdcbdlcipmfaaGreatFmt.Css
/- The texts of rules and important declarations, and two pieces behind each other, are read as their items. No condition. -/
namespace Go.Proofs.YtkfdcbdlcipmfaaGreatFmt.Css
theorem followL_after : ∀ {b : Bool} {ts : List Tree} {R : List Int}, lastAfter b ts = true → FollowL ts R
 | _, [], _, _ => trivial
 | _, [_], _, h => fun _ h2 => by
  have h : _ = true := h
  simp only [lastAfter] at h
  rw [h] at h2
  exact absurd h2 (by simp)
 | _, _ :: u :: ts, R, h => followL_after (b := false) (ts := u :: ts) h
theorem parses_after {d : Int} {l r : List Node} {ts : List Tree} (p : Parses d l ts r) : (∀ n ∈ l, n.after = true) → ∀ b, ts = [] ∨ lastAfter b ts = true := by
 induction p with
 | nil => exact fun _ _ => .inl rfl
 | stop => exact fun _ _ => .inl rfl
 | @leaf d n r r' ts h ho p ih =>
  intro ha b
  right
  cases ts with
  | nil => exact ha n (by simp)
  | cons u us =>
   rcases ih (fun m hm => ha m (by simp [hm])) false with h | h
   ·cases h
   ·exact h
 | @node d k n r r1 r' kids ts h ho p q ih1 ih2 =>
  intro ha b
  right
  cases ts with
  | nil => exact ha n (by simp)
  | cons u us =>
   rcases ih2 (fun m hm => ha m (by simp [p.sfx.subset hm])) false with h | h
   ·cases h
   ·exact h
theorem set_after : ∀ (l : List Node), ∀ n ∈ setL true l, n.after = true
 | [], _, h => by simp [setL] at h
 | m :: r, n, h => by
  simp only [setL, List.mem_cons] at h
  rcases h with rfl | h
  ·simp
  ·exact set_after r n h
def impCodes : List Int := [105, 109, 112, 111, 114, 116, 97, 110, 116]
def impText : List UInt8 := [105, 109, 112, 111, 114, 116, 97, 110, 116]
theorem imp_valid : ∀ c ∈ impCodes, Valid c := by
 intro c hc
 simp [impCodes] at hc
 rcases hc with rfl | rfl | rfl | rfl | rfl | rfl | rfl | rfl | rfl <;> exact ⟨by decide, by decide, by decide⟩
theorem imp_enc : enc impCodes = impText := by decide
theorem imp_codes : codes impText = impCodes := by rw [← imp_enc]; exact codes_plain imp_valid
theorem imp_name : isName impText = true := by
 unfold isName
 rw [← imp_enc, valid_plainX imp_valid, imp_enc]
 rfl
theorem imp_low : low impText = true := by decide
theorem imp_print (ascii need : Bool) : pIdent 0 ascii need (codes impText) = impCodes := by
 rw [imp_codes]
 cases ascii <;> cases need <;> rfl
theorem bang_reads {w : List Int} (h : isWs w) : ∀ sp, ∃ sp', Reads sp (33 :: (impCodes ++ 59 :: w)) [bang, ⟨29, 0, impText, -1⟩, semi] sp' [] :=
 sign_reads (by simp) bang_matches (by decide) (name_reads (ascii := false) (need := false) (.inl rfl) imp_name (fun h => by cases h) (by have := @core_ident false false impText; rw [imp_print] at this; exact this)
  (by rw [pk_cons_zero]; decide) (.inr (.inl (by rw [pk_cons_zero]; decide))) (.inr (by rw [pk_cons_zero]; decide)) (semi_reads h))
theorem imp_reads {ascii : Bool} {key : List UInt8} {ts : List Tree} {body tail : List Int} (hn : isName key = true) (hl : ascii = true → low key = true) (hw : WL ascii ts) (hp : PL ascii (headBefore ts) ts body)
  (ha : ts = [] ∨ lastAfter (headBefore ts) ts = true) (ht : isWs tail) :
  ∃ sp', Reads false (declText ascii key body (33 :: (impCodes ++ 59 :: tail))) (declItems key (itemsL none ts ++ [bang, ⟨29, 0, impText, -1⟩, semi])) sp' [] :=
 decl_reads hn hl hw hp (by rcases ha with rfl | h; exact trivial; exact followL_after h) (fun _ => .inl (by rw [pk_cons_zero]; decide)) (bang_reads ht) false
def ruleText (ascii : Bool) (gap nl : List Int) (end' : List Int) (key : List UInt8) (body1 body2 : List Int) : List Int :=
 body1 ++ (gap ++ 123 :: (nl ++ declText ascii key body2 end'))
theorem rule_reads {ascii : Bool} {gap nl end' : List Int} {key : List UInt8} {ts1 ts2 : List Tree} {body1 body2 : List Int} {its : List Item} (hn : isName key = true) (hl : ascii = true → low key = true)
  (hw1 : WL ascii ts1) (hp1 : PL ascii (headBefore ts1) ts1 body1) (hw2 : WL ascii ts2) (hp2 : PL ascii (headBefore ts2) ts2 body2)
  (ha : ts1 = [] ∨ lastAfter (headBefore ts1) ts1 = true) (hg : isWs gap) (hnl : isWs nl)
  (hf : FollowL ts2 end') (h32 : pk 0 end' ≠ 32) (hr : ∀ sp, ∃ sp', Reads sp end' its sp' []) :
  ∃ sp', Reads false (ruleText ascii gap nl end' key body1 body2) (itemsL none ts1 ++ (brace :: declItems key (itemsL none ts2 ++ its))) sp' [] := by
 have hd := decl_reads (ts := ts2) hn hl hw2 hp2 hf (fun _ => .inl h32) hr
 have hb := ws_reads hg (sign_reads (by simp) brace_matches (by decide) (ws_reads hnl hd))
 rcases ha with rfl | ha
 ·have hb1 : body1 = [] := by simpa [PL, headBefore] using hp1
  subst hb1
  exact hb false
 ·exact list_reads hw1 hp1 (fun a h => absurd h (by simp)) (followL_after ha) (fun h => by rw [ha] at h; cases h) hb
theorem end_tight {w : List Int} (h : isWs w) : ∀ sp, ∃ sp', Reads sp (125 :: w) [unbrace] sp' [] := sign_reads (by simp) unbrace_matches (by decide) (tail_reads h)
theorem end_loose {w w' : List Int} (h : isWs w) (h' : isWs w') : ∀ sp, ∃ sp', Reads sp (59 :: (w' ++ 125 :: w)) [semi, unbrace] sp' [] :=
 sign_reads (by simp) semi_matches (by decide) (ws_reads h' (end_tight h))
theorem one_codes : codes [107] = [107] := by
 have : codes (enc [107]) = [107] := codes_plain (by intro c hc; simp at hc; subst hc; exact ⟨by decide, by decide, by decide⟩)
 exact this
theorem k_name : isName [107] = true := by
 unfold isName plainX
 rw [one_codes]
 rfl
theorem k_print (ascii need : Bool) : pIdent 0 ascii need (codes [107]) = [107] := by
 rw [one_codes]
 cases ascii <;> cases need <;> rfl
theorem followL_two : ∀ (ts : List Tree) {R : List Int}, FollowL ts (32 :: 32 :: R)
 | [], _ => trivial
 | [_], R => fun _ _ => ⟨fun _ _ => ⟨by rw [pk_cons_zero]; decide, .inr (.inr ⟨by rw [pk_cons_zero], by simp [pk_cons_zero]⟩)⟩, fun _ => by rw [pk_cons_zero]; decide⟩
 | _ :: u :: ts, _ => followL_two (u :: ts)
theorem pieces_reads {ascii : Bool} {tsa tsb : List Tree} {x y : List Int} (hwa : WL ascii tsa) (hpa : PL ascii (headBefore tsa) tsa x) (hwb : WL ascii tsb) (hpb : PL ascii (headBefore tsb) tsb y) :
  ∃ sp', Reads false (107 :: 58 :: (x ++ 32 :: 32 :: (y ++ [59]))) (declItems [107] (itemsL none tsa ++ (itemsL none tsb ++ [semi]))) sp' [] := by
 have hb : ∀ sp, ∃ sp', Reads sp (y ++ [59]) (itemsL none tsb ++ [semi]) sp' [] := fun sp =>
  list_reads hwb hpb (fun a h => absurd h (by simp)) (followL_close (by simp) tsb) (fun _ => .inl (by rw [pk_cons_zero]; decide)) (semi_reads (fun c hc => absurd hc (by simp)))
 have h2 := ws_reads (w := [32, 32]) (by intro c hc; simp at hc; exact .inl hc) hb
 have := decl_reads (ascii := ascii) (key := [107]) (R := 32 :: 32 :: (y ++ [59])) k_name (fun _ => by decide) hwa hpa (followL_two tsa) (fun _ => .inr (by simp [pk_cons_zero]; decide)) h2 false
 unfold declText at this
 rw [k_print] at this
 exact this
def bare (x : Item) : Item := { x with space := -1 }
theorem isIt_bare {q : Tok × Bool} {x : Item} (h : IsIt q x) : IsIt q (bare x) := by
 obtain ⟨X, h1, h2, h3, _⟩ := h
 exact ⟨X, h1, h2, h3, fun h => absurd h (by simp [bare])⟩
theorem areIt_bare : ∀ {l : List (Tok × Bool)} {its : List Item}, AreIt l its → AreIt l (its.map bare)
 | [], [], _ => trivial
 | q :: l, x :: xs, h => ⟨isIt_bare h.1, areIt_bare h.2⟩
theorem opens_item {k c : Int} (h : opens k = some c) : c ≠ 37 := by
 rcases (opens_close h).2.2 with rfl | rfl | rfl <;> decide
theorem node_kind {n : Node} (h : isNode n = true) : n.kind ≠ 37 := by
 intro e
 unfold isNode at h
 rw [e] at h
 simp [isSign] at h
mutual
theorem itemsL_kind {ascii : Bool} : ∀ (prev : Option Bool) (ts : List Tree), WL ascii ts → ∀ x ∈ itemsL prev ts, x.kind ≠ 37
 | _, [], _, x, hx => by simp [itemsL] at hx
 | prev, t :: ts, hw, x, hx => by
  obtain ⟨hw1, _, hw3⟩ := (show WT ascii t ∧ Tight t ts ∧ WL ascii ts from hw)
  simp only [itemsL, List.mem_append] at hx
  rcases hx with hx | hx
  ·exact itemsT_kind _ t hw1 x hx
  ·exact itemsL_kind _ ts hw3 x hx
theorem itemsT_kind {ascii : Bool} : ∀ (sp : Int) (t : Tree), WT ascii t → ∀ x ∈ itemsT sp t, x.kind ≠ 37
 | sp, .mk n kids, hw, x, hx => by
  obtain ⟨hn, _, hk⟩ := (show isNode n = true ∧ (ascii = true → low n.text = true) ∧ WL ascii kids from hw)
  simp only [itemsT, List.mem_cons] at hx
  rcases hx with rfl | hx
  ·exact node_kind hn
  ·cases ho : opens n.kind with
   | none => rw [ho] at hx; simp at hx
   | some k =>
    rw [ho] at hx
    simp only [List.mem_append, List.mem_singleton] at hx
    rcases hx with hx | rfl
    ·exact itemsL_kind _ kids hk x hx
    ·exact opens_item ho
end
mutual
theorem WL_loose : ∀ (ts : List Tree), WL true ts → WL false ts
 | [], _ => trivial
 | t :: ts, hw => by
  obtain ⟨hw1, hw2, hw3⟩ := (show WT true t ∧ Tight t ts ∧ WL true ts from hw)
  exact ⟨WT_loose t hw1, hw2, WL_loose ts hw3⟩
theorem WT_loose : ∀ (t : Tree), WT true t → WT false t
 | .mk n kids, hw => by
  obtain ⟨hn, _, hk⟩ := (show isNode n = true ∧ (true = true → low n.text = true) ∧ WL true kids from hw)
  exact (show isNode n = true ∧ (false = true → low n.text = true) ∧ WL false kids from ⟨hn, fun h => (by cases h), WL_loose kids hk⟩)
end
theorem Parses.append {d : Int} {l r : List Node} {ts : List Tree} (p : Parses d l ts r) {m : Node} {b : List Node} : (r = [] → m.depth < d) → Parses d (l ++ m :: b) ts (r ++ m :: b) := by
 induction p with
 | nil d => exact fun h => .stop (h rfl)
 | stop h => exact fun _ => .stop h
 | leaf h ho p ih => exact fun hr => .leaf h ho (ih hr)
 | @node d k n r r1 r' kids ts h ho p q ih1 ih2 =>
  intro hr
  refine .node h ho (ih1 fun e => ?_) (ih2 hr)
  subst e
  have : r' = [] := by
   have := q.sfx
   simpa using this
  have := hr this
  omega
theorem Parses.both {d : Int} {l r : List Node} {ts : List Tree} (p : Parses d l ts r) {m : Node} {b : List Node} {tsb : List Tree} (hm : m.depth ≤ d) : r = [] → Parses d (m :: b) tsb [] → Parses d (l ++ m :: b) (ts ++ tsb) [] := by
 induction p with
 | nil d => exact fun _ q => q
 | stop h => exact fun h => absurd h (by simp)
 | leaf h ho p ih => exact fun hr q => .leaf h ho (ih hm hr q)
 | @node d k n r r1 r' kids ts h ho p q ih1 ih2 =>
  intro hr q'
  exact .node h ho (p.append fun _ => by omega) (ih2 hm hr q')
def Sim1 (n m : Node) : Prop := n.kind = m.kind ∧ n.unit = m.unit ∧ n.depth = m.depth ∧ n.text = m.text
def Sim : List Node → List Node → Prop
 | [], [] => True
 | n :: r, m :: s => Sim1 n m ∧ Sim r s
 | _, _ => False
theorem Sim1.refl (n : Node) : Sim1 n n := ⟨rfl, rfl, rfl, rfl⟩
theorem Sim.refl : ∀ l, Sim l l
 | [] => trivial
 | n :: r => ⟨Sim1.refl n, Sim.refl r⟩
theorem Sim.append : ∀ {a b c d : List Node}, Sim a b → Sim c d → Sim (a ++ c) (b ++ d)
 | [], [], _, _, _, h => h
 | _ :: _, _ :: _, _, _, h, h' => ⟨h.1, h.2.append h'⟩
theorem Sim.set : ∀ (l : List Node) (k : Nat) (hk : k < l.length) (n : Node), Sim1 l[k] n → Sim l (l.set k n)
 | _ :: r, 0, _, n, h => ⟨h, Sim.refl r⟩
 | m :: r, k + 1, hk, n, h => ⟨Sim1.refl m, Sim.set r k (by simpa using hk) n h⟩
theorem Sim.chain : ∀ {l l' : List Node} {m : Int}, Sim l l' → chain m l = true → chain m l' = true
 | [], [], _, _, _ => rfl
 | n :: r, n' :: s, m, h, hc => by
  obtain ⟨⟨e1, e2, e3, e4⟩, hs⟩ := h
  obtain ⟨c1, c2, c3, c4⟩ := chain_cons hc
  have hn : isNode n' = isNode n := by unfold isNode; rw [e1, e2, e4]
  simp only [Css.chain, Bool.and_eq_true, decide_eq_true_eq]
  refine ⟨⟨⟨by omega, by omega⟩, by rw [hn]; exact c3⟩, ?_⟩
  rw [← e1, ← e3]
  exact hs.chain c4
theorem Sim.low : ∀ {l l' : List Node} {a : Bool}, Sim l l' → (a = true → ∀ n ∈ l, low n.text = true) → (a = true → ∀ n ∈ l', low n.text = true)
 | [], [], _, _, _ => fun _ _ h => absurd h (by simp)
 | n :: r, n' :: s, a, h, hl => fun ha m hm => by
  rcases List.mem_cons.1 hm with rfl | hm
  ·rw [← h.1.2.2.2]; exact hl ha n (by simp)
  ·exact h.2.low (fun ha n hn => hl ha n (by simp [hn])) ha m hm
def bareOf (n : Node) : Item := ⟨n.kind, n.unit, n.text, -1⟩
mutual
def bareL : List Tree → List Item
 | [] => []
 | t :: ts => bareT t ++ bareL ts
def bareT : Tree → List Item
 | .mk n kids => bareOf n :: (match opens n.kind with
   | none => []
   | some k => bareL kids ++ [⟨k, 0, [], -1⟩])
end
mutual
theorem bare_itemsL : ∀ (prev : Option Bool) (ts : List Tree), (itemsL prev ts).map bare = bareL ts
 | _, [] => rfl
 | prev, t :: ts => by
  simp only [itemsL, bareL, List.map_append]
  rw [bare_itemsT, bare_itemsL]
theorem bare_itemsT : ∀ (sp : Int) (t : Tree), (itemsT sp t).map bare = bareT t
 | sp, .mk n kids => by
  simp only [itemsT, bareT, List.map_cons]
  congr 1
  cases ho : opens n.kind with
  | none => rfl
  | some k =>
   simp only [List.map_append, List.map_cons, List.map_nil]
   rw [bare_itemsL]
   rfl
end
theorem bareL_append : ∀ (a b : List Tree), bareL (a ++ b) = bareL a ++ bareL b
 | [], _ => rfl
 | t :: ts, b => by simp only [List.cons_append, bareL, bareL_append ts b, List.append_assoc]
theorem Sim.parses {d : Int} {l r : List Node} {ts : List Tree} (p : Parses d l ts r) : ∀ l', Sim l l' → ∃ ts' r', Parses d l' ts' r' ∧ Sim r r' ∧ bareL ts = bareL ts' := by
 induction p with
 | nil d =>
  intro l' h
  cases l' with
  | nil => exact ⟨[], [], .nil d, trivial, rfl⟩
  | cons m s => exact h.elim
 | @stop d n r h =>
  intro l' hs
  cases l' with
  | nil => exact hs.elim
  | cons m s => exact ⟨[], m :: s, .stop (by have := hs.1.2.2.1; omega), hs, rfl⟩
 | @leaf d n r r' ts h ho p ih =>
  intro l' hs
  cases l' with
  | nil => exact hs.elim
  | cons m s =>
   obtain ⟨⟨e1, e2, e3, e4⟩, hs⟩ := hs
   obtain ⟨ts', r'', p', h1, h2⟩ := ih s hs
   refine ⟨_, r'', .leaf (by omega) (by rw [← e1]; exact ho) p', h1, ?_⟩
   simp only [bareL, bareT, bareOf, ← e1, ← e2, ← e4, ho, h2]
 | @node d k n r r1 r' kids ts h ho p q ih1 ih2 =>
  intro l' hs
  cases l' with
  | nil => exact hs.elim
  | cons m s =>
   obtain ⟨⟨e1, e2, e3, e4⟩, hs⟩ := hs
   obtain ⟨kids', r1', p', h1, h2⟩ := ih1 s hs
   obtain ⟨ts', r'', q', h3, h4⟩ := ih2 r1' h1
   refine ⟨_, r'', .node (by omega) (by rw [← e1]; exact ho) (by rw [← e3]; exact p') q', h3, ?_⟩
   simp only [bareL, bareT, bareOf, ← e1, ← e2, ← e4, ho, h2, h4]
theorem chain_append : ∀ {a b : List Node} {m : Int}, chain m a = true → 0 ≤ m → chain 0 b = true → chain m (a ++ b) = true
 | [], [], _, _, _, _ => rfl
 | [], n :: r, m, _, h0, hb => by
  obtain ⟨c1, c2, c3, c4⟩ := chain_cons hb
  simp only [List.nil_append, chain, Bool.and_eq_true, decide_eq_true_eq]
  exact ⟨⟨⟨c1, by omega⟩, c3⟩, c4⟩
 | n :: r, b, m, h, h0, hb => by
  obtain ⟨c1, c2, c3, c4⟩ := chain_cons h
  simp only [List.cons_append, chain, Bool.and_eq_true, decide_eq_true_eq]
  exact ⟨⟨⟨c1, c2⟩, c3⟩, chain_append c4 (by split <;> omega) hb⟩
theorem chain_depth : ∀ {l : List Node} {m : Int}, chain m l = true → ∀ n ∈ l, 0 ≤ n.depth
 | _ :: _, _, h, n, hn => by
  obtain ⟨c1, _, _, c4⟩ := chain_cons h
  rcases List.mem_cons.1 hn with rfl | hn
  ·exact c1
  ·exact chain_depth c4 n hn
def setAfter (l : List Node) (k : Nat) (b : Bool) : List Node := match l[k]? with | some n => l.set k { n with after := b } | none => l
def setBefore (l : List Node) : List Node := match l with | n :: r => { n with before := false } :: r | [] => []
theorem setAfter_at {l : List Node} {k : Nat} (h : k < l.length) (b : Bool) : setAfter l k b = l.set k { l[k] with after := b } := by
 unfold setAfter
 rw [List.getElem?_eq_getElem h]
theorem setAfter_sim (l : List Node) (k : Nat) (b : Bool) : Sim l (setAfter l k b) := by
 by_cases h : k < l.length
 ·rw [setAfter_at h]
  exact Sim.set l k h _ ⟨rfl, rfl, rfl, rfl⟩
 ·unfold setAfter
  rw [List.getElem?_eq_none (by omega)]
  exact Sim.refl l
theorem setBefore_sim (l : List Node) : Sim l (setBefore l) := by
 cases l with
 | nil => trivial
 | cons n r => exact ⟨⟨rfl, rfl, rfl, rfl⟩, Sim.refl r⟩
theorem setBefore_tight {l : List Node} (h : tightL l) : tightL (setBefore l) := by
 cases l with
 | nil => trivial
 | cons n r => exact ⟨fun m s e ho ha hd => h.1 m s e ho ha hd, h.2⟩
theorem setAfter_tight : ∀ {l : List Node} {k : Nat} {b : Bool}, tightL l → (∀ i (hi : i < l.length), k < i → 0 < (l[i]).depth) → (∀ h : k < l.length, (l[k]).depth = 0) → tightL (setAfter l k b)
 | [], k, b, _, _, _ => by unfold setAfter; simp; trivial
 | n :: r, 0, b, h, h1, h2 => by
  refine ⟨fun m s e ho ha hd => ?_, h.2⟩
  subst e
  have := h1 1 (by simp) (by omega)
  have := h2 (by simp)
  simp at this hd
  simp at *
  omega
 | n :: r, k + 1, b, h, h1, h2 => by
  have e : setAfter (n :: r) (k + 1) b = n :: setAfter r k b := by
   unfold setAfter
   simp only [List.getElem?_cons_succ]
   cases r[k]? <;> rfl
  rw [e]
  refine ⟨fun m s e' ho ha hd => ?_, setAfter_tight h.2 (fun i hi hk => by have := h1 (i + 1) (by simpa using hi) (by omega); simpa using this) (fun hk => by have := h2 (by simpa using hk); simpa using this)⟩
  cases r with
  | nil => simp [setAfter] at e'
  | cons u us =>
   have hu := setAfter_sim (u :: us) k b
   rw [e'] at hu
   obtain ⟨⟨e1, e2, e3, e4⟩, _⟩ := hu
   rw [← e1, ← e4]
   exact h.1 u us rfl ho ha (by rw [e3]; exact hd)
theorem tight_append : ∀ {a b : List Node}, tightL a → tightL b → (∀ m s, b = m :: s → m.depth = 0) → (∀ n p, a = p ++ [n] → n.depth = 0 → n.after = true) → tightL (a ++ b)
 | [], b, _, hb, _, _ => hb
 | [n], b, ha, hb, h0, hl => by
  refine ⟨fun m s e ho haf hd => ?_, hb⟩
  have h1 := h0 m s e
  have := hl n [] rfl (by omega)
  rw [this] at haf
  exact absurd haf (by simp)
 | n :: u :: r, b, ha, hb, h0, hl => ⟨fun m s e ho haf hd => ha.1 m r (by simp at e; rw [e.1]) ho haf hd, tight_append ha.2 hb h0 fun n' p e h => hl n' (n :: p) (by rw [e]; rfl) h⟩
structure IsTrees (ascii : Bool) (l : List Node) (ts : List Tree) : Prop where
 parses : Parses 0 l ts []
 wl : WL ascii ts
 items : itemsGo l [] (fun _ => false) (fun d => d == 0) = itemsL none ts
theorem isTrees_of {ascii : Bool} {l : List Node} (hc : chain 0 l = true) (ht : tightL l) (hl : ascii = true → ∀ n ∈ l, low n.text = true) : ∃ ts, IsTrees ascii l ts := by
 obtain ⟨ts, p, e⟩ := tree_items hc
 exact ⟨ts, p, parses_WL p hc ht hl, e⟩
theorem parses_eq {d : Int} {l r : List Node} {ts : List Tree} (p : Parses d l ts r) : ∀ {ts' : List Tree} {r' : List Node}, Parses d l ts' r' → ts = ts' ∧ r = r' := by
 induction p with
 | nil d => intro ts' r' q; cases q; exact ⟨rfl, rfl⟩
 | stop h =>
  intro ts' r' q
  cases q with
  | stop _ => exact ⟨rfl, rfl⟩
  | leaf h' _ _ => omega
  | node h' _ _ _ => omega
 | leaf h ho p ih =>
  intro ts' r' q
  cases q with
  | stop h' => omega
  | leaf _ _ q => obtain ⟨rfl, rfl⟩ := ih q; exact ⟨rfl, rfl⟩
  | node _ ho' _ _ => rw [ho] at ho'; cases ho'
 | node h ho p q ih1 ih2 =>
  intro ts' r' q'
  cases q' with
  | stop h' => omega
  | leaf _ ho' _ => rw [ho] at ho'; cases ho'
  | node _ ho' p' q' =>
   obtain ⟨rfl, rfl⟩ := ih1 p'
   obtain ⟨rfl, rfl⟩ := ih2 q'
   exact ⟨rfl, rfl⟩
theorem pieces_trees {ascii : Bool} {a b : List Node} {e : Nat} (ca : chain 0 a = true) (ta : tightL a) (la : ascii = true → ∀ n ∈ a, low n.text = true)
  (cb : chain 0 b = true) (tb : tightL b) (lb : ascii = true → ∀ n ∈ b, low n.text = true) (hb : b ≠ []) (he : e < a.length) (hd : (a[e]).depth = 0) (hlast : ∀ i (hi : i < a.length), e < i → 0 < (a[i]).depth) :
  ∃ tsa tsb ts, IsTrees ascii (setAfter a e false) tsa ∧ IsTrees ascii (setBefore b) tsb ∧ IsTrees ascii (setAfter a e true ++ setBefore b) ts ∧ bareL ts = bareL tsa ++ bareL tsb := by
 have sa := setAfter_sim a e false
 have sa2 := setAfter_sim a e true
 have sb := setBefore_sim b
 have ca1 := sa.chain ca
 have ca2 := sa2.chain ca
 have cb1 := sb.chain cb
 have ta1 := setAfter_tight (b := false) ta hlast (fun _ => hd)
 have ta2 := setAfter_tight (b := true) ta hlast (fun _ => hd)
 have tb1 := setBefore_tight tb
 obtain ⟨tsa, A⟩ := isTrees_of ca1 ta1 (sa.low la)
 obtain ⟨tsa2, A2⟩ := isTrees_of ca2 ta2 (sa2.low la)
 obtain ⟨tsb, B⟩ := isTrees_of cb1 tb1 (sb.low lb)
 have hb0 : ∀ m s, setBefore b = m :: s → m.depth = 0 := fun m s e => by
  rw [e] at cb1
  have := chain_cons cb1
  omega
 have hc := chain_append ca2 (Int.le_refl 0) cb1
 have ht : tightL (setAfter a e true ++ setBefore b) := tight_append ta2 tb1 hb0 fun n p h h0 => by
  rw [setAfter_at he] at h
  have hl : a.length = p.length + 1 := by simpa using congrArg List.length h
  have hg : ∀ (i : Nat) (hi : i < a.length), (a.set e { a[e] with after := true })[i]? = (p ++ [n])[i]? := fun i hi => by rw [h]
  have hn := hg p.length (by omega)
  rw [List.getElem?_append_right (Nat.le_refl _), Nat.sub_self, List.getElem?_cons_zero] at hn
  by_cases he' : e = p.length
  ·subst he'
   rw [List.getElem?_set_self he] at hn
   simp at hn
   rw [← hn]
  ·rw [List.getElem?_set_ne he', List.getElem?_eq_getElem (by omega)] at hn
   simp at hn
   have := hlast p.length (by omega) (by omega)
   rw [hn] at this
   omega
 have hl : ascii = true → ∀ n ∈ setAfter a e true ++ setBefore b, low n.text = true := fun ha n hn => by
  rcases List.mem_append.1 hn with hn | hn
  ·exact sa2.low la ha n hn
  ·exact sb.low lb ha n hn
 obtain ⟨ts, C⟩ := isTrees_of hc ht hl
 refine ⟨tsa, tsb, ts, A, B, C, ?_⟩
 have hts : ts = tsa2 ++ tsb := by
  cases hsb : setBefore b with
  | nil =>
   cases b with
   | nil => exact absurd rfl hb
   | cons n r => simp [setBefore] at hsb
  | cons m s =>
   have := hb0 m s hsb
   have p := A2.parses.both (m := m) (b := s) (tsb := tsb) (by omega) rfl (by rw [← hsb]; exact B.parses)
   rw [← hsb] at p
   exact (parses_eq C.parses p).1
 rw [hts, bareL_append]
 obtain ⟨ts', r', p', hr, hbare⟩ := Sim.parses A.parses (setAfter a e true) (by
  have h1 : Sim (setAfter a e false) (setAfter a e true) := by
   rw [setAfter_at he, setAfter_at he]
   have := Sim.set (a.set e { a[e] with after := false }) e (by simpa using he) { a[e] with after := true } (by simp [Sim1])
   rwa [List.set_set] at this
  exact h1)
 have hr' : r' = [] := by cases r' with | nil => rfl | cons _ _ => exact hr.elim
 subst hr'
 rw [hbare, (parses_eq p' A2.parses).1]
theorem spaces_sfx : ∀ U : List Int, spaces U <:+ U
 | [] => List.suffix_refl _
 | c :: U => by
  rw [spaces]
  split
  ·exact (spaces_sfx U).trans (List.suffix_cons c U)
  ·exact List.suffix_refl _
theorem reads_sfx : ∀ (k : Nat) (U : List Int) (sp sp' : Bool) (its : List Item), U.length ≤ k → Reads sp U its sp' [] → ∀ q ∈ rds sp (tokens U).1, q.1.from' <:+ U := by
 intro k
 induction k with
 | zero =>
  intro U sp sp' its hk h
  have : U = [] := List.eq_nil_of_length_eq_zero (by omega)
  subst this
  rw [tokens, comment_none (by simp [pk_nil]), dif_pos (by simp [pk_nil])]
  intro q hq
  simp [rds] at hq
 | succ k ih =>
  intro U sp sp' its hk h
  cases h with
  | done =>
   rw [tokens, comment_none (by simp [pk_nil]), dif_pos (by simp [pk_nil])]
   intro q hq
   simp [rds] at hq
  | @space _ _ c V _ _ hs r =>
   have hf := space_facts hs
   have hr := reads_spaces r
   have hl := spaces_le V
   simp only [List.length_cons] at hk
   have g := ih (spaces V) true sp' its (by omega) hr
   rw [tokens, comment_none (by rw [pk_cons_zero]; exact fun h => hf.1 h.1), dif_neg (by simp only [pk_cons_zero]; exact hf.2), next_space hs]
   dsimp only
   intro q hq
   exact (g q (by simpa [rds] using hq)).trans ((spaces_sfx V).trans (List.suffix_cons c V))
  | @tok _ _ _ U' X _ tk x its' hn hX hm hc hk' h0 hs hsp r =>
   have hlt := next_lt h0
   rw [hn] at hlt
   dsimp only at hlt
   have g := ih U' false sp' its' (by omega) r
   rw [tokens, comment_none hc, dif_neg (by simpa using h0)]
   dsimp only
   rw [hn]
   dsimp only
   rw [rds, if_neg hk']
   intro q hq
   rcases List.mem_cons.1 hq with rfl | hq
   ·exact List.suffix_refl _
   ·exact (g q hq).trans (hX ▸ List.suffix_append X U')
theorem areIt_length : ∀ {l : List (Tok × Bool)} {its : List Item}, AreIt l its → l.length = its.length
 | [], [], _ => rfl
 | q :: l, x :: xs, h => by simp [areIt_length h.2]
theorem areIt_get : ∀ {l : List (Tok × Bool)} {its : List Item}, AreIt l its → ∀ (k : Nat) (h1 : k < l.length) (h2 : k < its.length), IsIt l[k] its[k]
 | q :: l, x :: xs, h, 0, _, _ => h.1
 | q :: l, x :: xs, h, k + 1, h1, h2 => areIt_get h.2 k (by simpa using h1) (by simpa using h2)
structure Told (s : List UInt8) (its : List Item) : Prop where
 plain : plain s = true
 shut : (tokens (codes s)).2.2 = false
 bare : (tokens (codes s)).2.1 = 0
 items : AreIt (rds false (tokens (codes s)).1) its
 sfx : ∀ q ∈ rds false (tokens (codes s)).1, q.1.from' <:+ codes s
theorem told_of {T : List Int} {its : List Item} (hv : ∀ c ∈ T, Valid c) (hb : pk 0 T ≠ 65279) (hr : ∃ sp', Reads false T its sp' []) : Told (enc T) its := by
 obtain ⟨sp', r⟩ := hr
 have hc := codes_plain hv
 obtain ⟨h1, h2, h3⟩ := reads_tokens T.length T false sp' its (Nat.le_refl _) r
 exact ⟨text_plain hv hb, by rw [hc]; exact h2, by rw [hc]; exact h1, by rw [hc]; exact h3, by rw [hc]; exact reads_sfx T.length T false sp' its (Nat.le_refl _) r⟩
theorem Told.bared {s : List UInt8} {its : List Item} (h : Told s its) : Told s (its.map Css.bare) := ⟨h.plain, h.shut, h.bare, areIt_bare h.items, h.sfx⟩
theorem pIdent_name_valid {mode : Nat} {ascii need : Bool} {s : List UInt8} (h : isName s = true) : ∀ c ∈ pIdent mode ascii need (codes s), Valid c := pIdent_valid (name_codes h).2.1
theorem valid_cons {c : Int} {X : List Int} (h : Valid c) (k : ∀ d ∈ X, Valid d) : ∀ d ∈ c :: X, Valid d := fun d hd => by
 rcases List.mem_cons.1 hd with rfl | hd
 ·exact h
 ·exact k d hd
theorem valid_nil : ∀ d ∈ ([] : List Int), Valid d := fun _ h => absurd h (by simp)
theorem v10 : Valid 10 := ⟨by decide, by decide, by decide⟩
theorem v32 : Valid 32 := ⟨by decide, by decide, by decide⟩
theorem v33 : Valid 33 := ⟨by decide, by decide, by decide⟩
theorem v58 : Valid 58 := ⟨by decide, by decide, by decide⟩
theorem v59 : Valid 59 := ⟨by decide, by decide, by decide⟩
theorem v64 : Valid 64 := ⟨by decide, by decide, by decide⟩
theorem v107 : Valid 107 := ⟨by decide, by decide, by decide⟩
theorem v123 : Valid 123 := ⟨by decide, by decide, by decide⟩
theorem v125 : Valid 125 := ⟨by decide, by decide, by decide⟩
def nl (m : Bool) : List Int := if m then [] else [10]
theorem nl_ws (m : Bool) : isWs (nl m) := by cases m <;> simp [nl, isWs]
theorem nl_valid (m : Bool) : ∀ c ∈ nl m, Valid c := ws_valid (nl_ws m)
theorem at_told {ascii m : Bool} {name : List UInt8} {ts : List Tree} {body : List Int} (hn : isName name = true) (hl : ascii = true → low name = true) (hw : WL ascii ts) (hp : PL ascii (headBefore ts) ts body) :
  Told (enc (atText ascii name ts body (nl m))) (atItems name (itemsL none ts)) := by
 refine told_of ?_ ?_ (at_reads hn hl hw hp (nl_ws m))
 ·unfold atText
  refine valid_append (valid_cons v64 (pIdent_name_valid hn)) (valid_append ?_ (valid_append (PL_valid ts _ body hw hp) (valid_cons v59 (nl_valid m))))
  split
  ·exact valid_nil
  ·exact valid_cons v32 valid_nil
 ·unfold atText
  rw [List.cons_append, pk_cons_zero]
  decide
theorem decl_valid {ascii : Bool} {key : List UInt8} {ts : List Tree} {body R : List Int} (hn : isName key = true) (hw : WL ascii ts) (hp : PL ascii (headBefore ts) ts body) (hR : ∀ c ∈ R, Valid c) : ∀ c ∈ declText ascii key body R, Valid c :=
 valid_append (pIdent_name_valid hn) (valid_cons v58 (valid_append (PL_valid ts _ body hw hp) hR))
theorem decl_bom {ascii : Bool} {key : List UInt8} {body R : List Int} (hn : isName key = true) : pk 0 (declText ascii key body R) ≠ 65279 := pIdent_bom (name_codes hn).1 _
theorem decl_told {ascii m : Bool} {key : List UInt8} {ts : List Tree} {body : List Int} (hn : isName key = true) (hl : ascii = true → low key = true) (hw : WL ascii ts) (hp : PL ascii (headBefore ts) ts body) :
  Told (enc (declText ascii key body (59 :: nl m))) (declItems key (itemsL none ts ++ [semi])) :=
 told_of (decl_valid hn hw hp (valid_cons v59 (nl_valid m))) (decl_bom hn) (decl_reads hn hl hw hp (followL_close (by simp) ts) (fun _ => .inl (by rw [pk_cons_zero]; decide)) (semi_reads (nl_ws m)) false)
theorem imp_told {ascii m : Bool} {key : List UInt8} {ts : List Tree} {body : List Int} (hn : isName key = true) (hl : ascii = true → low key = true) (hw : WL ascii ts) (hp : PL ascii (headBefore ts) ts body)
  (ha : ts = [] ∨ lastAfter (headBefore ts) ts = true) :
  Told (enc (declText ascii key body (33 :: (impCodes ++ 59 :: nl m)))) (declItems key (itemsL none ts ++ [bang, ⟨29, 0, impText, -1⟩, semi])) :=
 told_of (decl_valid hn hw hp (valid_cons v33 (valid_append imp_valid (valid_cons v59 (nl_valid m))))) (decl_bom hn) (imp_reads hn hl hw hp ha (nl_ws m))
def endOf (m : Bool) : List Int := if m then [125] else [59, 10, 125, 10]
def endIts (m : Bool) : List Item := if m then [unbrace] else [semi, unbrace]
def gapOf (m : Bool) (ts : List Tree) : List Int := if m || lastAfter (headBefore ts) ts then [] else [32]
def nlOf (m : Bool) : List Int := if m then [] else [10, 32, 32]
theorem rule_told {ascii m : Bool} {key : List UInt8} {ts1 ts2 : List Tree} {body1 body2 : List Int} (hn : isName key = true) (hl : ascii = true → low key = true)
  (hw1 : WL ascii ts1) (hp1 : PL ascii (headBefore ts1) ts1 body1) (hw2 : WL ascii ts2) (hp2 : PL ascii (headBefore ts2) ts2 body2) (ha : ts1 = [] ∨ lastAfter (headBefore ts1) ts1 = true) :
  Told (enc (ruleText ascii (gapOf m ts1) (nlOf m) (endOf m) key body1 body2)) (itemsL none ts1 ++ (brace :: declItems key (itemsL none ts2 ++ endIts m))) := by
 have hg : isWs (gapOf m ts1) := by unfold gapOf; split <;> simp [isWs]
 have hnl : isWs (nlOf m) := by unfold nlOf; split <;> simp [isWs]
 have hend : FollowL ts2 (endOf m) ∧ pk 0 (endOf m) ≠ 32 ∧ (∀ c ∈ endOf m, Valid c) ∧ ∀ sp, ∃ sp', Reads sp (endOf m) (endIts m) sp' [] := by
  cases m with
  | true => exact ⟨followL_close (by simp) ts2, by simp [endOf, pk_cons_zero], valid_cons v125 valid_nil, end_tight (w := []) (by simp [isWs])⟩
  | false => exact ⟨followL_close (by simp) ts2, by simp [endOf, pk_cons_zero], valid_cons v59 (valid_cons v10 (valid_cons v125 (valid_cons v10 valid_nil))), end_loose (w := [10]) (w' := [10]) (by simp [isWs]) (by simp [isWs])⟩
 refine told_of ?_ ?_ (rule_reads hn hl hw1 hp1 hw2 hp2 ha hg hnl hend.1 hend.2.1 hend.2.2.2)
 ·exact valid_append (PL_valid ts1 _ body1 hw1 hp1) (valid_append (ws_valid hg) (valid_cons v123 (valid_append (ws_valid hnl) (decl_valid hn hw2 hp2 hend.2.2.1))))
 ·refine PL_bom hw1 hp1 ?_
  unfold gapOf
  split
  ·rw [List.nil_append, pk_cons_zero]; decide
  ·rw [List.cons_append, pk_cons_zero]; decide
theorem pieces_told {ascii : Bool} {tsa tsb : List Tree} {x y : List Int} (hwa : WL ascii tsa) (hpa : PL ascii (headBefore tsa) tsa x) (hwb : WL ascii tsb) (hpb : PL ascii (headBefore tsb) tsb y) :
  Told (enc (107 :: 58 :: (x ++ 32 :: 32 :: (y ++ [59])))) (declItems [107] (itemsL none tsa ++ (itemsL none tsb ++ [semi]))) :=
 told_of (valid_cons v107 (valid_cons v58 (valid_append (PL_valid tsa _ x hwa hpa) (valid_cons v32 (valid_cons v32 (valid_append (PL_valid tsb _ y hwb hpb) (valid_cons v59 valid_nil))))))) (by rw [pk_cons_zero]; decide) (pieces_reads hwa hpa hwb hpb)
theorem piece_told {ascii : Bool} {ts : List Tree} {x : List Int} (hw : WL ascii ts) (hp : PL ascii (headBefore ts) ts x) : Told (enc (107 :: 58 :: (x ++ [59]))) (declItems [107] (itemsL none ts ++ [semi])) := by
 have := @decl_told ascii true [107] ts x k_name (fun _ => by decide) hw hp
 unfold declText at this
 rw [k_print] at this
 exact this
theorem pieces_same {tsa tsb ts : List Tree} (h : bareL ts = bareL tsa ++ bareL tsb) : (declItems [107] (itemsL none ts ++ [semi])).map bare = (declItems [107] (itemsL none tsa ++ (itemsL none tsb ++ [semi]))).map bare := by
 simp only [declItems, List.map_cons, List.map_append, bare_itemsL, h, List.append_assoc]
theorem decl_kinds {ascii : Bool} {key : List UInt8} {ts : List Tree} {its : List Item} (hw : WL ascii ts) (h : ∀ x ∈ its, x.kind ≠ 37) : ∀ x ∈ declItems key (itemsL none ts ++ its), x.kind ≠ 37 := by
 intro x hx
 simp only [declItems, List.mem_cons, List.mem_append] at hx
 rcases hx with rfl | rfl | hx | hx
 ·simp
 ·simp [colon]
 ·exact itemsL_kind _ ts hw x hx
 ·exact h x hx
theorem semi_kind : ∀ x ∈ [semi], x.kind ≠ 37 := by intro x hx; simp at hx; subst hx; simp [semi]
theorem at_kinds {ascii : Bool} {name : List UInt8} {ts : List Tree} (hw : WL ascii ts) : ∀ x ∈ atItems name (itemsL none ts), x.kind ≠ 37 := by
 intro x hx
 simp only [atItems, List.mem_cons, List.mem_append] at hx
 rcases hx with rfl | hx | hx
 ·simp
 ·exact itemsL_kind _ ts hw x hx
 ·exact semi_kind x (by simpa using hx)
theorem bare_kinds {its : List Item} (h : ∀ x ∈ its, x.kind ≠ 37) : ∀ x ∈ its.map bare, x.kind ≠ 37 := by
 intro x hx
 obtain ⟨y, hy, rfl⟩ := List.mem_map.1 hx
 exact h y hy
end Go.Proofs.YtkfdcbdlcipmfaaGreatFmt.Css
