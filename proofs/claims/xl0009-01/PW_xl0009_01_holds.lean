import PyProof.Rows.All
import PyProof.SliceList
import PyProof.SliceStr
import PyProof.Draws
import PyProof.EnumMake
import Wide.All
import OpenK.AllK
import Wide.FinOn
import Lean
import PySem.Challenge.RW_xl0009_01
set_option Elab.async false
set_option linter.all false
section
set_option genSizeOf false
set_option genSizeOfSpec false
namespace Mine
/- rules that take facts apart -/
theorem nn {α : Type _} {C : Prop} {x : α} (h : (none : Option α) = some x) : C := by cases h
theorem nf {C : Prop} (h : false = true) : C := by cases h
theorem nt {C : Prop} (h : true = false) : C := by cases h
theorem sm1 {α : Type _} {C : α → Prop} {a v : α} (e : some a = some v) (h : C a) : C v := by cases e; exact h
theorem sm2 {α β : Type _} {C : α → β → Prop} {a v : α} {b p : β} (e : some (a, b) = some (v, p)) (h : C a b) : C v p := by cases e; exact h
theorem sm3 {α β γ : Type _} {C : α → β → γ → Prop} {a v : α} {b p : β} {c q : γ} (e : some (a, b, c) = some (v, p, q)) (h : C a b c) : C v p q := by cases e; exact h
theorem pr2 {α β : Type _} {C : α → β → Prop} {a v : α} {b p : β} (e : (a, b) = (v, p)) (h : C a b) : C v p := by cases e; exact h
theorem pr3 {α β γ : Type _} {C : α → β → γ → Prop} {a v : α} {b p : β} {c q : γ} (e : (a, b, c) = (v, p, q)) (h : C a b c) : C v p q := by cases e; exact h
theorem obind {α β : Type _} {m : Option α} {f : α → Option β} {r : β} {C : Prop} (h : m.bind f = some r) (k : ∀ a, m = some a → f a = some r → C) : C := (Option.bind_eq_some_iff.mp h).elim fun a h => k a h.1 h.2
theorem obind2 {α γ β : Type _} {m : Option (α × γ)} {f : α × γ → Option β} {r : β} {C : Prop} (h : m.bind f = some r) (k : ∀ a c, m = some (a, c) → f (a, c) = some r → C) : C := (Option.bind_eq_some_iff.mp h).elim fun a h => k a.1 a.2 h.1 h.2
theorem obind3 {α γ δ β : Type _} {m : Option (α × γ × δ)} {f : α × γ × δ → Option β} {r : β} {C : Prop} (h : m.bind f = some r) (k : ∀ a c d, m = some (a, c, d) → f (a, c, d) = some r → C) : C := (Option.bind_eq_some_iff.mp h).elim fun a h => k a.1 a.2.1 a.2.2 h.1 h.2
theorem omap {α β : Type _} {m : Option α} {f : α → β} {r : β} {C : Prop} (h : m.map f = some r) (k : ∀ a, m = some a → f a = r → C) : C := (Option.map_eq_some_iff.mp h).elim fun a h => k a h.1 h.2
theorem omap2 {α γ β : Type _} {m : Option (α × γ)} {f : α × γ → β} {r : β} {C : Prop} (h : m.map f = some r) (k : ∀ a c, m = some (a, c) → f (a, c) = r → C) : C := (Option.map_eq_some_iff.mp h).elim fun a h => k a.1 a.2 h.1 h.2
theorem omapC {α β : Type _} {m : Option α} {f : α → β} {C : β → Prop} {r : β} (h : m.map f = some r) (k : ∀ a, m = some a → C (f a)) : C r := (Option.map_eq_some_iff.mp h).elim fun a h => h.2 ▸ k a h.1
theorem oif {α : Type _} {c : Prop} [Decidable c] {x : Option α} {r : α} {C : Prop} (h : (if c then x else none) = some r) (k : c → x = some r → C) : C := by
  by_cases hc : c
  · rw [if_pos hc] at h; exact k hc h
  · rw [if_neg hc] at h; cases h
theorem oifn {α : Type _} {c : Prop} [Decidable c] {x : Option α} {r : α} {C : Prop} (h : (if c then none else x) = some r) (k : ¬ c → x = some r → C) : C := by
  by_cases hc : c
  · rw [if_pos hc] at h; cases h
  · rw [if_neg hc] at h; exact k hc h
theorem an2 {p0 p1 C : Prop} (h : p0 ∧ p1) (k : p0 → p1 → C) : C := k h.1 h.2
theorem an3 {p0 p1 p2 C : Prop} (h : p0 ∧ p1 ∧ p2) (k : p0 → p1 → p2 → C) : C := k h.1 h.2.1 h.2.2
theorem an4 {p0 p1 p2 p3 C : Prop} (h : p0 ∧ p1 ∧ p2 ∧ p3) (k : p0 → p1 → p2 → p3 → C) : C := k h.1 h.2.1 h.2.2.1 h.2.2.2
theorem an5 {p0 p1 p2 p3 p4 C : Prop} (h : p0 ∧ p1 ∧ p2 ∧ p3 ∧ p4) (k : p0 → p1 → p2 → p3 → p4 → C) : C := k h.1 h.2.1 h.2.2.1 h.2.2.2.1 h.2.2.2.2
theorem ex1_1 {α : Sort _} {p0 : α → Prop} {C : Prop} (h : ∃ a, p0 a) (k : ∀ a, p0 a → C) : C := h.elim fun a h => k a h
theorem ex1_2 {α : Sort _} {p0 p1 : α → Prop} {C : Prop} (h : ∃ a, p0 a ∧ p1 a) (k : ∀ a, p0 a → p1 a → C) : C := h.elim fun a h => k a h.1 h.2
theorem ex1_3 {α : Sort _} {p0 p1 p2 : α → Prop} {C : Prop} (h : ∃ a, p0 a ∧ p1 a ∧ p2 a) (k : ∀ a, p0 a → p1 a → p2 a → C) : C := h.elim fun a h => k a h.1 h.2.1 h.2.2
theorem ex1_4 {α : Sort _} {p0 p1 p2 p3 : α → Prop} {C : Prop} (h : ∃ a, p0 a ∧ p1 a ∧ p2 a ∧ p3 a) (k : ∀ a, p0 a → p1 a → p2 a → p3 a → C) : C := h.elim fun a h => k a h.1 h.2.1 h.2.2.1 h.2.2.2
theorem ex2_1 {α β : Sort _} {p0 : α → β → Prop} {C : Prop} (h : ∃ a b, p0 a b) (k : ∀ a b, p0 a b → C) : C := h.elim fun a h => h.elim fun b h => k a b h
theorem ex2_2 {α β : Sort _} {p0 p1 : α → β → Prop} {C : Prop} (h : ∃ a b, p0 a b ∧ p1 a b) (k : ∀ a b, p0 a b → p1 a b → C) : C := h.elim fun a h => h.elim fun b h => k a b h.1 h.2
theorem ex2_3 {α β : Sort _} {p0 p1 p2 : α → β → Prop} {C : Prop} (h : ∃ a b, p0 a b ∧ p1 a b ∧ p2 a b) (k : ∀ a b, p0 a b → p1 a b → p2 a b → C) : C := h.elim fun a h => h.elim fun b h => k a b h.1 h.2.1 h.2.2
theorem ex2_4 {α β : Sort _} {p0 p1 p2 p3 : α → β → Prop} {C : Prop} (h : ∃ a b, p0 a b ∧ p1 a b ∧ p2 a b ∧ p3 a b) (k : ∀ a b, p0 a b → p1 a b → p2 a b → p3 a b → C) : C := h.elim fun a h => h.elim fun b h => k a b h.1 h.2.1 h.2.2.1 h.2.2.2
theorem ex2_6 {α β : Sort _} {p0 p1 p2 p3 p4 p5 : α → β → Prop} {C : Prop} (h : ∃ a b, p0 a b ∧ p1 a b ∧ p2 a b ∧ p3 a b ∧ p4 a b ∧ p5 a b) (k : ∀ a b, p0 a b → p1 a b → p2 a b → p3 a b → p4 a b → p5 a b → C) : C := h.elim fun a h => h.elim fun b h => k a b h.1 h.2.1 h.2.2.1 h.2.2.2.1 h.2.2.2.2.1 h.2.2.2.2.2
theorem ex3_2 {α β γ : Sort _} {p0 p1 : α → β → γ → Prop} {C : Prop} (h : ∃ a b c, p0 a b c ∧ p1 a b c) (k : ∀ a b c, p0 a b c → p1 a b c → C) : C := h.elim fun a h => h.elim fun b h => h.elim fun c h => k a b c h.1 h.2
theorem ex3_4 {α β γ : Sort _} {p0 p1 p2 p3 : α → β → γ → Prop} {C : Prop} (h : ∃ a b c, p0 a b c ∧ p1 a b c ∧ p2 a b c ∧ p3 a b c) (k : ∀ a b c, p0 a b c → p1 a b c → p2 a b c → p3 a b c → C) : C := h.elim fun a h => h.elim fun b h => h.elim fun c h => k a b c h.1 h.2.1 h.2.2.1 h.2.2.2
theorem ex3_5 {α β γ : Sort _} {p0 p1 p2 p3 p4 : α → β → γ → Prop} {C : Prop} (h : ∃ a b c, p0 a b c ∧ p1 a b c ∧ p2 a b c ∧ p3 a b c ∧ p4 a b c) (k : ∀ a b c, p0 a b c → p1 a b c → p2 a b c → p3 a b c → p4 a b c → C) : C := h.elim fun a h => h.elim fun b h => h.elim fun c h => k a b c h.1 h.2.1 h.2.2.1 h.2.2.2.1 h.2.2.2.2
theorem ex4_2 {α β γ δ : Sort _} {p0 p1 : α → β → γ → δ → Prop} {C : Prop} (h : ∃ a b c d, p0 a b c d ∧ p1 a b c d) (k : ∀ a b c d, p0 a b c d → p1 a b c d → C) : C := h.elim fun a h => h.elim fun b h => h.elim fun c h => h.elim fun d h => k a b c d h.1 h.2
theorem ex4_4 {α β γ δ : Sort _} {p0 p1 p2 p3 : α → β → γ → δ → Prop} {C : Prop} (h : ∃ a b c d, p0 a b c d ∧ p1 a b c d ∧ p2 a b c d ∧ p3 a b c d) (k : ∀ a b c d, p0 a b c d → p1 a b c d → p2 a b c d → p3 a b c d → C) : C := h.elim fun a h => h.elim fun b h => h.elim fun c h => h.elim fun d h => k a b c d h.1 h.2.1 h.2.2.1 h.2.2.2
theorem ex4_6 {α β γ δ : Sort _} {p0 p1 p2 p3 p4 p5 : α → β → γ → δ → Prop} {C : Prop} (h : ∃ a b c d, p0 a b c d ∧ p1 a b c d ∧ p2 a b c d ∧ p3 a b c d ∧ p4 a b c d ∧ p5 a b c d) (k : ∀ a b c d, p0 a b c d → p1 a b c d → p2 a b c d → p3 a b c d → p4 a b c d → p5 a b c d → C) : C := h.elim fun a h => h.elim fun b h => h.elim fun c h => h.elim fun d h => k a b c d h.1 h.2.1 h.2.2.1 h.2.2.2.1 h.2.2.2.2.1 h.2.2.2.2.2
end Mine
end
section
set_option genSizeOf false
set_option genSizeOfSpec false
namespace Mine
open PySem
inductive V where
  | none
  | bool (b : Bool)
  | int (i : Int)
  | str (s : Str)
  | ustr (s : Str)
  | lst (xs : List V)
  | tup (xs : List V)
  | mat (t : Str) (a b : Nat)
  | pile
  deriving Inhabited
noncomputable abbrev P := Option (List (Str × Str))
structure Bd where
  own : Bool
  v : V
noncomputable abbrev Me := List (Str × Bd)
inductive Fl where
  | next | brk | ret (v : V)
noncomputable def strs? : List V → Option (List Str)
  | [] => some []
  | .str s :: r => (strs? r).map (s :: ·)
  | .ustr s :: r => (strs? r).map (s :: ·)
  | _ :: _ => Option.none
noncomputable def ints? : List V → Option (List Int)
  | [] => some []
  | .int s :: r => (ints? r).map (s :: ·)
  | _ :: _ => Option.none
noncomputable abbrev cap : Nat := 4096
noncomputable def okS (s : Str) : Option Str := if s.cps.size ≤ cap then some s else Option.none
noncomputable def okL {α : Type} (l : List α) : Option (List α) := if l.length ≤ cap then some l else Option.none
noncomputable def okC (x : Str) : Bool := x.cps.all (· < 0x110000)
noncomputable def eqS (a b : List Str) : Option Bool := if a.all okC && b.all okC then some (decide (a = b)) else Option.none
noncomputable def eqV : V → V → Option Bool
  | .str a, .str b => some (decide (a = b))
  | .ustr a, .str b => some (decide (a = b))
  | .int a, .int b => some (decide (a = b))
  | .lst xs, .lst ys => match strs? xs, strs? ys with
    | some a, some b => eqS a b
    | _, _ => match ints? xs, ints? ys with
      | some a, some b => some (decide (a = b))
      | _, _ => Option.none
  | .tup xs, .tup ys => match strs? xs, strs? ys with
    | some a, some b => eqS a b
    | _, _ => Option.none
  | _, _ => Option.none
noncomputable def isV : V → V → Option Bool
  | .none, .none => some true
  | .bool a, .bool b => some (a == b)
  | .none, .bool _ => some false
  | .bool _, .none => some false
  | _, _ => Option.none
noncomputable def hasStr (x : Str) : List V → Option Bool
  | xs => (strs? xs).map fun l => decide (x ∈ l)
noncomputable def leStr (a b : Str) : Bool := !decide (b.cps.toList < a.cps.toList)
noncomputable def cmpV (op : CmpOp) (a b : V) : Option Bool := match op with
  | .Eq => eqV a b
  | .NotEq => (eqV a b).map not
  | .Is => isV a b
  | .IsNot => (isV a b).map not
  | .Gt => match a, b with | .int x, .int y => some (decide (y < x)) | _, _ => Option.none
  | .GtE => match a, b with | .int x, .int y => some (decide (y ≤ x)) | .str x, .str y => some (leStr y x) | _, _ => Option.none
  | .In => match b with | .lst xs => (match a with | .str x => hasStr x xs | _ => Option.none) | _ => Option.none
  | _ => Option.none
noncomputable def binV (op : Operator) (a b : V) : Option V := match op, a, b with
  | .Add, .int x, .int y => some (.int (x + y))
  | .Add, .str x, .str y => (okS (x ++ y)).map .str
  | .Add, .ustr x, .str y => if 0 < x.length ∧ 0 < y.length then (okS (x ++ y)).map .str else Option.none
  | .Add, .lst x, .lst y => (okL (x ++ y)).map .lst
  | .Sub, .int x, .int y => some (.int (x - y))
  | .Mod, .int x, .int y => if 0 < y then some (.int (Int.fmod x y)) else Option.none
  | .FloorDiv, .int x, .int y => if 0 < y then (if y ≤ 1000 then some (.int (Int.fdiv x y)) else Option.none) else Option.none
  | _, _, _ => Option.none
noncomputable def truV : V → Option Bool
  | .none => some false
  | .bool b => some b
  | .mat _ _ _ => some true
  | _ => Option.none
noncomputable def place (n : Nat) (i : Int) : Option Nat :=
  if 0 ≤ i then (if i < n then some i.toNat else Option.none) else if 0 ≤ i + n then some (i + n).toNat else Option.none
noncomputable def chr1 (c : Nat) : V := .str ⟨#[c]⟩
noncomputable def itemV (o i : V) : Option V := match o, i with
  | .lst xs, .int k => (okL xs).bind fun xs => (place xs.length k).bind fun j => xs[j]?
  | .str x, .int k => (okS x).bind fun x => (place x.cps.size k).bind fun j => (x.cps.toList[j]?).map chr1
  | .ustr x, .int k => (okS x).bind fun x => (place x.cps.size k).bind fun j => (x.cps.toList[j]?).map chr1
  | _, _ => Option.none
noncomputable def partV : V → Option (Option Int)
  | .none => some Option.none
  | .int i => some (some i)
  | _ => Option.none
noncomputable def pickL {α : Type} (xs : List α) (lo hi st : Option Int) : List α :=
  (sliceRange (sliceBounds lo hi st xs.length).1 (sliceBounds lo hi st xs.length).2.1 (sliceBounds lo hi st xs.length).2.2).filterMap (xs[·]?)
noncomputable def pickS (x : Str) (lo hi st : Option Int) : Str :=
  if (st.getD 1 == 1 && (Builtin.Str.strSliceIndices lo hi (st.getD 1) x.length).length == x.length) = true then x
  else ⟨((Builtin.Str.strSliceIndices lo hi (st.getD 1) x.length).filterMap (x.cps[·]?)).toArray⟩
noncomputable def cutV (o lo hi st : V) : Option V := (partV lo).bind fun l => (partV hi).bind fun h => (partV st).bind fun t => if t = some 0 then Option.none else match o with
  | .lst xs => (okL xs).map fun xs => .lst (pickL xs l h t)
  | .str x => (okS (pickS x l h t)).map .str
  | _ => Option.none
noncomputable def findIn (x y : Str) (e : Nat) : Int := match Builtin.Str.occurrences x y 0 e 1 with | i :: _ => (i : Int) | [] => -1
noncomputable def rfindIn (x y : Str) (e : Nat) : Int := match Builtin.Str.lastOccurrence x y 0 e with | some i => (i : Int) | Option.none => -1
noncomputable def reCode : Array Nat := #[14, 8, 1, 2, 4294967295, 1, 1, 46, 0, 16, 46, 24, 9, 1, 4294967295, 13, 4, 8, 0, 0, 1, 6, 5, 1]
noncomputable def reDone : Nat → Sre.M → Option Sre.M
  | 0, _ => Option.none
  | n + 1, m => let m := m.runFor 4; if m.outcome.isSome then some m else reDone n m
noncomputable def reFind (x : Str) : Option (Option (Nat × Nat)) := match reDone 400 (Sre.forSearch reCode x.cps 0 0 x.cps.size false) with
  | some m => match m.outcome with
    | some .matched => some (some (m.start, m.handed))
    | some .failed => some Option.none
    | _ => Option.none
  | Option.none => Option.none
noncomputable def pileText (l : List (Str × Str)) : Str := l.foldl (fun a x => a ++ (x.1 ++ x.2)) ⟨#[]⟩
noncomputable def onlyWs : List Nat → Option Bool
  | [] => some true
  | c :: r => if c = 32 then onlyWs r else if 97 ≤ c ∧ c ≤ 100 then (onlyWs r).map fun _ => false else Option.none
noncomputable def one? {α : Type} : List α → Option α
  | [] => Option.none
  | a :: r => match r with | [] => some a | _ :: _ => Option.none
noncomputable def two? {α : Type} : List α → Option (α × α)
  | [] => Option.none
  | a :: r => (one? r).map fun b => (a, b)
noncomputable def three? {α : Type} : List α → Option (α × α × α)
  | [] => Option.none
  | a :: r => (two? r).map fun b => (a, b)
theorem one_eq {α : Type} : ∀ {l : List α} {a : α}, one? l = some a → l = [a]
  | [], _, e => nn e
  | [a], _, e => by rw [Option.some.inj e]
  | _ :: _ :: _, _, e => nn e
theorem two_eq {α : Type} : ∀ {l : List α} {r : α × α}, two? l = some r → l = [r.1, r.2]
  | [], _, e => nn e
  | a :: l, _, e => omap e fun b h q => by subst q; rw [one_eq h]
theorem three_eq {α : Type} : ∀ {l : List α} {r : α × α × α}, three? l = some r → l = [r.1, r.2.1, r.2.2]
  | [], _, e => nn e
  | a :: l, _, e => omap e fun b h q => by subst q; rw [two_eq h]
noncomputable def idxM (x y : Str) (p : P) : Option (V × P) := match findIn x y x.cps.size with
  | .ofNat i => some (.int i, p)
  | .negSucc _ => Option.none
noncomputable def strM1 (x name : Str) (a : V) (p : P) : Option (V × P) := match a with
  | .lst ys => if name = ("join" : Str) then (strs? ys).bind fun l => if 2 ≤ l.length ∧ (l.map (·.length)).sum + l.length * x.length ≤ cap then some (V.str (Builtin.Str.glued x l), p) else Option.none else Option.none
  | .str y => if name = ("find" : Str) then some (.int (findIn x y x.cps.size), p) else if name = ("index" : Str) then idxM x y p else Option.none
  | .ustr y => if name = ("index" : Str) then idxM x y p else Option.none
  | _ => Option.none
noncomputable def strM3e (x name y : Str) (e : Int) (p : P) : Option (V × P) := if 0 ≤ e ∧ e ≤ x.cps.size then
    if name = ("find" : Str) then some (.int (findIn x y e.toNat), p)
    else if name = ("rfind" : Str) then some (.int (rfindIn x y e.toNat), p)
    else Option.none
  else Option.none
noncomputable def strM3 (x name : Str) (a b c : V) (p : P) : Option (V × P) := match a with
  | .str y => (match b with
    | .int z => if z = 0 then (match c with | .int e => strM3e x name y e p | _ => Option.none) else Option.none
    | _ => Option.none)
  | _ => Option.none
noncomputable def strM (x name : Str) (args : List V) (p : P) : Option (V × P) := match one? args with
  | some a => strM1 x name a p
  | Option.none => (three? args).bind fun t => strM3 x name t.1 t.2.1 t.2.2 p
noncomputable def matM1 (t : Str) (a b : Nat) (name : Str) (p : P) : Option (V × P) :=
  if name = ("span" : Str) then some (.tup [.int a, .int b], p)
  else if name = ("group" : Str) then (okS ⟨t.cps.extract a b⟩).map fun z => (V.ustr z, p)
  else Option.none
noncomputable def matM (t : Str) (a b : Nat) (name : Str) (args : List V) (p : P) : Option (V × P) := (one? args).bind fun z => match z with
  | .int i => if i = 0 then matM1 t a b name p else Option.none
  | _ => Option.none
noncomputable def pileP (name : Str) (a b : V) (l : List (Str × Str)) : Option (V × P) := match a with
  | .str a => (match b with
    | .str b => if name = ("push" : Str) ∧ l.length ≤ 8 then some (.none, some (l ++ [(a, b)])) else Option.none
    | _ => Option.none)
  | _ => Option.none
noncomputable def pile0 (name : Str) (l : List (Str × Str)) : Option (V × P) :=
  if name = ("pop" : Str) ∧ l.length ≤ 9 then l.getLast?.map fun e => (V.tup [.str e.1, .str e.2], some l.dropLast)
  else if name = ("part_count" : Str) then some (.int l.length, some l)
  else if name = ("is_onlyws" : Str) then (if l.length ≤ 8 then (okS (pileText l)).bind fun t => (onlyWs t.cps.toList).map fun b => (V.bool b, some l) else Option.none)
  else Option.none
noncomputable def pileM (name : Str) (args : List V) (l : List (Str × Str)) : Option (V × P) := match args with
  | [] => pile0 name l
  | _ :: _ => (two? args).bind fun t => pileP name t.1 t.2 l
noncomputable def methV (o : V) (name : Str) (args : List V) (p : P) : Option (V × P) :=
  match o with
  | .str x => strM x name args p
  | .mat t a b => matM t a b name args p
  | .pile => p.bind fun l => pileM name args l
  | _ => Option.none
theorem oelse {α : Type} {c : Prop} [Decidable c] {x y : Option α} {r : α} {C : Prop} (h : (if c then x else y) = some r) (k1 : c → x = some r → C) (k2 : y = some r → C) : C := by
  by_cases hc : c
  · rw [if_pos hc] at h; exact k1 hc h
  · rw [if_neg hc] at h; exact k2 h
section
variable {x name : Str} {args : List V} {v : V} {p p' : P} {G : Str → List V → V → P → Prop}
theorem idxM_inv {y : Str} {C : V → P → Prop} (h : ∀ i : Nat, findIn x y x.cps.size = .ofNat i → C (.int i) p) (e : idxM x y p = some (v, p')) : C v p' := by
  unfold idxM at e
  cases hf : findIn x y x.cps.size with
  | ofNat i => rw [hf] at e; apply sm2 e; exact h i hf
  | negSucc i => rw [hf] at e; exact nn e
theorem strM_inv (hj : ∀ ys l, strs? ys = some l → 2 ≤ l.length → (l.map (·.length)).sum + l.length * x.length ≤ cap → G "join" [.lst ys] (.str (Builtin.Str.glued x l)) p)
    (hf : ∀ y, G "find" [.str y] (.int (findIn x y x.cps.size)) p) (hi : ∀ y (i : Nat), findIn x y x.cps.size = .ofNat i → G "index" [.str y] (.int i) p) (hu : ∀ y (i : Nat), findIn x y x.cps.size = .ofNat i → G "index" [.ustr y] (.int i) p)
    (hg : ∀ y e, 0 ≤ e ∧ e ≤ (x.cps.size : Int) → G "find" [.str y, .int 0, .int e] (.int (findIn x y e.toNat)) p) (hr : ∀ y e, 0 ≤ e ∧ e ≤ (x.cps.size : Int) → G "rfind" [.str y, .int 0, .int e] (.int (rfindIn x y e.toNat)) p)
    (e0 : strM x name args p = some (v, p')) : G name args v p' := by
  unfold strM at e0
  cases ha : one? args with
  | some a =>
    rw [ha] at e0
    rw [one_eq ha]
    cases a with
    | lst ys =>
      refine oif (show (if name = ("join" : Str) then _ else Option.none) = _ from e0) fun hn e1 => ?_
      refine obind e1 fun l hl e2 => ?_
      refine oif e2 fun hc e3 => ?_
      rw [hn]
      apply sm2 e3
      exact hj ys l hl hc.1 hc.2
    | str y =>
      refine oelse (show (if name = ("find" : Str) then _ else if name = ("index" : Str) then _ else Option.none) = _ from e0) (fun hn e1 => ?_) fun e2 => oif e2 fun hn e1 => ?_
      · rw [hn]; apply sm2 e1; exact hf y
      · rw [hn]; exact idxM_inv (hi y) e1
    | ustr y =>
      refine oif (show (if name = ("index" : Str) then _ else Option.none) = _ from e0) fun hn e1 => ?_
      rw [hn]; exact idxM_inv (hu y) e1
    | _ => exact nn e0
  | none =>
    rw [ha] at e0
    refine obind e0 fun t ht e1 => ?_
    rw [three_eq ht]
    obtain ⟨a, b, c⟩ := t
    cases a with
    | str y =>
      cases b with
      | int z =>
        refine oif (show (if z = 0 then _ else Option.none) = _ from e1) fun hz e2 => ?_
        cases c with
        | int e =>
          refine oif (show (if 0 ≤ e ∧ e ≤ (x.cps.size : Int) then _ else Option.none) = _ from e2) fun hc e3 => ?_
          refine oelse e3 (fun hn e4 => ?_) fun e4 => oif e4 fun hn e5 => ?_
          · rw [hn, hz]; apply sm2 e4; exact hg y e hc
          · rw [hn, hz]; apply sm2 e5; exact hr y e hc
        | _ => exact nn e2
      | _ => exact nn e1
    | _ => exact nn e1
theorem matM_inv {t : Str} {a b : Nat} (hs : G "span" [.int 0] (.tup [.int a, .int b]) p) (hg : ∀ z, okS ⟨t.cps.extract a b⟩ = some z → G "group" [.int 0] (.ustr z) p) (e0 : matM t a b name args p = some (v, p')) : G name args v p' := by
  refine obind e0 fun z hz e1 => ?_
  rw [one_eq hz]
  cases z with
  | int i =>
    refine oif (show (if i = 0 then matM1 t a b name p else Option.none) = _ from e1) fun hi e2 => ?_
    rw [hi]
    refine oelse e2 (fun hn e3 => ?_) fun e3 => oif e3 fun hn e4 => ?_
    · rw [hn]; apply sm2 e3; exact hs
    · rw [hn]
      refine omap e4 fun z hz e5 => ?_
      apply pr2 e5; exact hg z hz
  | _ => exact nn e1
theorem pileM_inv {l : List (Str × Str)} (hp : ∀ a b, l.length ≤ 8 → G "push" [.str a, .str b] .none (some (l ++ [(a, b)]))) (ho : ∀ a b, l.length ≤ 9 → l.getLast? = some (a, b) → G "pop" [] (.tup [.str a, .str b]) (some l.dropLast))
    (hc : G "part_count" [] (.int l.length) (some l)) (hw : ∀ t b, l.length ≤ 8 → okS (pileText l) = some t → onlyWs t.cps.toList = some b → G "is_onlyws" [] (.bool b) (some l)) (e0 : pileM name args l = some (v, p')) : G name args v p' := by
  cases args with
  | nil =>
    refine oelse (show (if name = ("pop" : Str) ∧ l.length ≤ 9 then _ else if name = ("part_count" : Str) then _ else if name = ("is_onlyws" : Str) then _ else Option.none) = _ from e0) (fun hn e1 => ?_) fun e1 => oelse e1 (fun hn e2 => ?_) fun e2 => oif e2 fun hn e3 => ?_
    · rw [hn.1]
      refine omap2 e1 fun a b hl e2 => ?_
      apply pr2 e2; exact ho a b hn.2 hl
    · rw [hn]; apply sm2 e2; exact hc
    · rw [hn]
      refine oif e3 fun h8 e4 => ?_
      refine obind e4 fun t ht e5 => ?_
      refine omap e5 fun b hb e6 => ?_
      apply pr2 e6; exact hw t b h8 ht hb
  | cons x r =>
    refine obind e0 fun t ht e1 => ?_
    rw [two_eq ht]
    obtain ⟨a, b⟩ := t
    cases a with
    | str a =>
      cases b with
      | str b =>
        refine oif (show (if name = ("push" : Str) ∧ l.length ≤ 8 then _ else Option.none) = _ from e1) fun hn e2 => ?_
        rw [hn.1]
        apply sm2 e2; exact hp a b hn.2
      | _ => exact nn e1
    | _ => exact nn e1
end
end Mine
end
section
set_option genSizeOf false
set_option genSizeOfSpec false
namespace Mine
open PySem
noncomputable def insS (x : Str) : List Str → List Str
  | [] => [x]
  | y :: r => if leStr x y then x :: y :: r else y :: insS x r
noncomputable def sortS : List Str → List Str
  | [] => []
  | x :: r => insS x (sortS r)
noncomputable def firstAt (y : Str) : List Str → Nat → Option Nat
  | [], _ => Option.none
  | x :: r, i => if x = y then some i else firstAt y r (i + 1)
noncomputable def charsOf (x : Str) : List Str := x.cps.toList.map fun c => ⟨#[c]⟩
noncomputable def fnLen (a : V) (p : P) : Option (V × P) := match a with
  | .lst xs => (okL xs).map fun xs => (V.int xs.length, p)
  | .str x => (okS x).map fun x => (V.int x.cps.size, p)
  | _ => Option.none
noncomputable def fnSum (a : V) (p : P) : Option (V × P) := match a with
  | .lst xs => (ints? xs).map fun l => (V.int l.sum, p)
  | _ => Option.none
noncomputable def fnList (a : V) (p : P) : Option (V × P) := match a with
  | .str x => (okL (charsOf x)).map fun l => (V.lst (l.map .ustr), p)
  | _ => Option.none
noncomputable def fnSort (a : V) (p : P) : Option (V × P) := match a with
  | .lst xs => (strs? xs).bind fun l => if l.length < 64 then some (.lst ((sortS l).map .ustr), p) else Option.none
  | .str x => if x.cps.size < 64 then some (.lst ((sortS (charsOf x)).map .ustr), p) else Option.none
  | _ => Option.none
noncomputable def fnMax (a b : V) (p : P) : Option (V × P) := match a with
  | .int a => (match b with
    | .int b => some (.int (if a < b then b else a), p)
    | _ => Option.none)
  | _ => Option.none
noncomputable def fnStr (a : V) (p : P) : Option (V × P) := match a with
  | .pile => p.bind fun l => if l.length ≤ 8 then (okS (pileText l)).map fun t => (V.ustr t, p) else Option.none
  | _ => Option.none
noncomputable def fnV (f : Str) (args : List V) (p : P) : Option (V × P) :=
  if f = ("len" : Str) then (one? args).bind fun a => fnLen a p
  else if f = ("sum" : Str) then (one? args).bind fun a => fnSum a p
  else if f = ("list" : Str) then (one? args).bind fun a => fnList a p
  else if f = ("sorted" : Str) then (one? args).bind fun a => fnSort a p
  else if f = ("max" : Str) then (two? args).bind fun t => fnMax t.1 t.2 p
  else if f = ("str" : Str) then (one? args).bind fun a => fnStr a p
  else Option.none
section
variable {f : Str} {args : List V} {v : V} {p p' : P} {G : Str → List V → V → P → Prop}
theorem fnV_inv (h1 : ∀ xs, xs.length ≤ cap → G "len" [.lst xs] (.int xs.length) p) (h2 : ∀ x, x.cps.size ≤ cap → G "len" [.str x] (.int x.cps.size) p) (h3 : ∀ xs l, ints? xs = some l → G "sum" [.lst xs] (.int l.sum) p)
    (h4 : ∀ x, (charsOf x).length ≤ cap → G "list" [.str x] (.lst ((charsOf x).map .ustr)) p) (h5 : ∀ xs l, strs? xs = some l → l.length < 64 → G "sorted" [.lst xs] (.lst ((sortS l).map .ustr)) p)
    (h6 : ∀ x, x.cps.size < 64 → G "sorted" [.str x] (.lst ((sortS (charsOf x)).map .ustr)) p) (h7 : ∀ a b : Int, G "max" [.int a, .int b] (.int (if a < b then b else a)) p)
    (h8 : ∀ l, p = some l → l.length ≤ 8 → (pileText l).cps.size ≤ cap → G "str" [.pile] (.ustr (pileText l)) p) (e0 : fnV f args p = some (v, p')) : G f args v p' := by
  unfold fnV at e0
  refine oelse e0 (fun hn e => ?_) fun e0 => oelse e0 (fun hn e => ?_) fun e0 => oelse e0 (fun hn e => ?_) fun e0 => oelse e0 (fun hn e => ?_) fun e0 => oelse e0 (fun hn e => ?_) fun e0 => oif e0 fun hn e => ?_
  · rw [hn]
    refine obind e fun a ha e1 => ?_
    rw [one_eq ha]
    cases a with
    | lst xs =>
      refine omap (show (okL xs).map _ = _ from e1) fun z hz e2 => ?_
      apply pr2 e2
      unfold okL at hz
      exact oif hz fun hc q => by rw [← Option.some.inj q]; exact h1 xs hc
    | str x =>
      refine omap (show (okS x).map _ = _ from e1) fun z hz e2 => ?_
      apply pr2 e2
      unfold okS at hz
      exact oif hz fun hc q => by rw [← Option.some.inj q]; exact h2 x hc
    | _ => exact nn e1
  · rw [hn]
    refine obind e fun a ha e1 => ?_
    rw [one_eq ha]
    cases a with
    | lst xs =>
      refine omap (show (ints? xs).map _ = _ from e1) fun z hz e2 => ?_
      apply pr2 e2; exact h3 xs z hz
    | _ => exact nn e1
  · rw [hn]
    refine obind e fun a ha e1 => ?_
    rw [one_eq ha]
    cases a with
    | str x =>
      refine omap (show (okL (charsOf x)).map _ = _ from e1) fun z hz e2 => ?_
      apply pr2 e2
      unfold okL at hz
      exact oif hz fun hc q => by rw [← Option.some.inj q]; exact h4 x hc
    | _ => exact nn e1
  · rw [hn]
    refine obind e fun a ha e1 => ?_
    rw [one_eq ha]
    cases a with
    | lst xs =>
      refine obind (show (strs? xs).bind _ = _ from e1) fun l hl e2 => ?_
      refine oif e2 fun hc e3 => ?_
      apply sm2 e3; exact h5 xs l hl hc
    | str x =>
      refine oif (show (if x.cps.size < 64 then _ else Option.none) = _ from e1) fun hc e3 => ?_
      apply sm2 e3; exact h6 x hc
    | _ => exact nn e1
  · rw [hn]
    refine obind e fun a ha e1 => ?_
    rw [two_eq ha]
    obtain ⟨a, b⟩ := a
    cases a with
    | int a =>
      cases b with
      | int b => apply sm2 e1; exact h7 a b
      | _ => exact nn e1
    | _ => exact nn e1
  · rw [hn]
    refine obind e fun a ha e1 => ?_
    rw [one_eq ha]
    cases a with
    | pile =>
      refine obind (show p.bind _ = _ from e1) fun l hl e2 => ?_
      refine oif e2 fun hc e3 => ?_
      refine omap e3 fun z hz e4 => ?_
      apply pr2 e4
      unfold okS at hz
      exact oif hz fun hd q => by rw [← Option.some.inj q]; exact h8 l hl hc hd
    | _ => exact nn e1
end
noncomputable def fnAt : List (Str × Nat) := [("unmatched", 3), ("liberal_is_HDN", 5), ("_strip_exception_details", 7), ("gt", 12), ("add", 13), ("contains", 14), ("countOf", 15), ("indexOf", 16),
  ("_law_row", 18), ("_law_names", 19), ("_law_figures", 20), ("_law_pairings", 21), ("_law_steady", 22), ("_law_taken", 23), ("law", 24)]
structure Df where
  params : List Str
  body : List Stmt
  scope : Scope
noncomputable def dfOf : Stmt → Option Df
  | .FunctionDef _ a b _ _ _ sc _ _ _ => some ⟨a.args.map (·.arg), b, sc⟩
  | _ => Option.none
noncomputable def df? (f : Str) : Option Df := match fnAt.lookup f with
  | some i => match PySem.Challenge.pw_xl0009_01.main.body[i]? with
    | some st => dfOf st
    | Option.none => Option.none
  | Option.none => Option.none
structure I where
  ev : Scope → Me → Expr → P → Option (V × P)
  tr : Scope → Me → Expr → P → Option (Bool × P)
  exs : Scope → Me → List Stmt → P → Option (Fl × Me × P)
  call : Str → List V → P → Option (V × P)
noncomputable def vis (sc : Scope) (x : Str) : Bool := match sc.names.lookup x with
  | some .local => true
  | some .cell => true
  | some .free => true
  | _ => false
noncomputable def glo (sc : Scope) (x : Str) : Bool := match sc.names.lookup x with
  | some .globalImplicit => true
  | _ => false
noncomputable def sto (sc : Scope) (x : Str) : Bool := match sc.names.lookup x with
  | some .local => true
  | some .cell => true
  | _ => false
noncomputable def nameV (sc : Scope) (me : Me) (x : Str) : Option V := if vis sc x then match me.lookup x with
    | some b => if b.own then Option.none else some b.v
    | Option.none => Option.none
  else Option.none
noncomputable def baseV (sc : Scope) (me : Me) (x : Str) : Option V := if vis sc x then (me.lookup x).map (·.v) else Option.none
noncomputable def starred : Expr → Bool
  | .Starred .. => true
  | _ => false
noncomputable def evsWith (ev : Expr → P → Option (V × P)) : List Expr → P → Option (List V × P)
  | [], p => some ([], p)
  | e :: r, p => if starred e then Option.none else (ev e p).bind fun x => (evsWith ev r x.2).bind fun y => some (x.1 :: y.1, y.2)
noncomputable def iterV : V → Option (List V)
  | .lst xs => some xs
  | .str x => some ((charsOf x).map .str)
  | _ => Option.none
noncomputable def rangeV (n : Int) : Option (List V) := if 0 ≤ n ∧ n ≤ cap then some ((List.range n.toNat).map fun (i : Nat) => V.int i) else Option.none
noncomputable def asName : Expr → Option Str
  | .Name x _ => some x
  | _ => Option.none
noncomputable def asAttr : Expr → Option (Expr × Str × Pos)
  | .Attribute o n p => some (o, n, p)
  | _ => Option.none
noncomputable def asCall : Expr → Option (Expr × List Expr × Pos)
  | .Call f args kw p => match kw with | [] => some (f, args, p) | _ :: _ => Option.none
  | _ => Option.none
noncomputable def asSlice : Expr → Option (Option Expr × Option Expr × Option Expr)
  | .Slice lo hi st _ => some (lo, hi, st)
  | _ => Option.none
noncomputable def asCon : Expr → Option Const
  | .Constant c _ _ => some c
  | _ => Option.none
noncomputable def asTup : Expr → Option (List Expr)
  | .Tuple es _ _ => some es
  | _ => Option.none
noncomputable def asCp : Expr → Option (Expr × List CmpOp × List Expr)
  | .Compare l ops rs _ => some (l, ops, rs)
  | _ => Option.none
noncomputable def asLst : Expr → Option (List Expr)
  | .List es _ => some es
  | _ => Option.none
noncomputable def asLC : Expr → Option (Expr × List Comprehension × Scope)
  | .ListComp a b c _ => some (a, b, c)
  | _ => Option.none
noncomputable def asUn : Expr → Option (UnaryOp × Expr)
  | .UnaryOp a b _ => some (a, b)
  | _ => Option.none
noncomputable def asBo : Expr → Option (BoolOp × List Expr)
  | .BoolOp a b _ => some (a, b)
  | _ => Option.none
theorem asName_eq {e : Expr} {x : Str} : asName e = some x → ∃ p, e = .Name x p :=
  Expr.casesOn (motive_1 := fun e => asName e = some x → ∃ p, e = .Name x p) e (fun _ _ _ => nn) (fun _ _ _ => nn) (fun _ _ _ _ => nn) (fun _ _ _ => nn) (fun _ _ _ _ => nn) (fun _ _ _ _ => nn) (fun _ _ _ => nn) (fun _ _ _ => nn) (fun _ _ _ _ => nn) (fun _ _ _ _ => nn) (fun _ _ _ _ _ => nn) (fun _ _ _ _ => nn) (fun _ _ => nn) (fun _ _ => nn) (fun _ _ => nn) (fun _ _ _ _ => nn) (fun _ _ _ _ => nn) (fun _ _ _ _ => nn) (fun _ _ => nn) (fun _ _ _ => nn) (fun _ _ _ => nn) (fun _ _ _ => nn) (fun _ _ => nn) (fun y p => fun h => sm1 (C := fun x => ∃ q, Expr.Name y p = .Name x q) h ⟨p, rfl⟩) (fun _ _ => nn) (fun _ _ _ => nn) (fun _ _ _ _ => nn)
theorem asAttr_eq {e : Expr} {r : Expr × Str × Pos} : asAttr e = some r → e = .Attribute r.1 r.2.1 r.2.2 :=
  Expr.casesOn (motive_1 := fun e => asAttr e = some r → e = .Attribute r.1 r.2.1 r.2.2) e (fun _ _ _ => nn) (fun _ _ _ => nn) (fun _ _ _ _ => nn) (fun _ _ _ => nn) (fun _ _ _ _ => nn) (fun _ _ _ _ => nn) (fun _ _ _ => nn) (fun _ _ _ => nn) (fun _ _ _ _ => nn) (fun _ _ _ _ => nn) (fun _ _ _ _ _ => nn) (fun _ _ _ _ => nn) (fun _ _ => nn) (fun _ _ => nn) (fun _ _ => nn) (fun _ _ _ _ => nn) (fun _ _ _ _ => nn) (fun _ _ _ _ => nn) (fun _ _ => nn) (fun _ _ _ => nn) (fun o n p => fun h => sm1 (C := fun r : Expr × Str × Pos => Expr.Attribute o n p = .Attribute r.1 r.2.1 r.2.2) h rfl) (fun _ _ _ => nn) (fun _ _ => nn) (fun _ _ => nn) (fun _ _ => nn) (fun _ _ _ => nn) (fun _ _ _ _ => nn)
theorem asCall_eq {e : Expr} {r : Expr × List Expr × Pos} : asCall e = some r → e = .Call r.1 r.2.1 [] r.2.2 :=
  Expr.casesOn (motive_1 := fun e => asCall e = some r → e = .Call r.1 r.2.1 [] r.2.2) e (fun _ _ _ => nn) (fun _ _ _ => nn) (fun _ _ _ _ => nn) (fun _ _ _ => nn) (fun _ _ _ _ => nn) (fun _ _ _ _ => nn) (fun _ _ _ => nn) (fun _ _ _ => nn) (fun _ _ _ _ => nn) (fun _ _ _ _ => nn) (fun _ _ _ _ _ => nn) (fun _ _ _ _ => nn) (fun _ _ => nn) (fun _ _ => nn) (fun _ _ => nn) (fun _ _ _ _ => nn) (fun f a k p => match k with | [] => (fun h => sm1 (C := fun r : Expr × List Expr × Pos => Expr.Call f a [] p = .Call r.1 r.2.1 [] r.2.2) h rfl) | _ :: _ => nn) (fun _ _ _ _ => nn) (fun _ _ => nn) (fun _ _ _ => nn) (fun _ _ _ => nn) (fun _ _ _ => nn) (fun _ _ => nn) (fun _ _ => nn) (fun _ _ => nn) (fun _ _ _ => nn) (fun _ _ _ _ => nn)
theorem asSlice_eq {e : Expr} {r : Option Expr × Option Expr × Option Expr} : asSlice e = some r → ∃ p, e = .Slice r.1 r.2.1 r.2.2 p :=
  Expr.casesOn (motive_1 := fun e => asSlice e = some r → ∃ p, e = .Slice r.1 r.2.1 r.2.2 p) e (fun _ _ _ => nn) (fun _ _ _ => nn) (fun _ _ _ _ => nn) (fun _ _ _ => nn) (fun _ _ _ _ => nn) (fun _ _ _ _ => nn) (fun _ _ _ => nn) (fun _ _ _ => nn) (fun _ _ _ _ => nn) (fun _ _ _ _ => nn) (fun _ _ _ _ _ => nn) (fun _ _ _ _ => nn) (fun _ _ => nn) (fun _ _ => nn) (fun _ _ => nn) (fun _ _ _ _ => nn) (fun _ _ _ _ => nn) (fun _ _ _ _ => nn) (fun _ _ => nn) (fun _ _ _ => nn) (fun _ _ _ => nn) (fun _ _ _ => nn) (fun _ _ => nn) (fun _ _ => nn) (fun _ _ => nn) (fun _ _ _ => nn) (fun a b c p => fun h => sm1 (C := fun r : Option Expr × Option Expr × Option Expr => ∃ q, Expr.Slice a b c p = .Slice r.1 r.2.1 r.2.2 q) h ⟨p, rfl⟩)
theorem asCon_eq {e : Expr} {c : Const} : asCon e = some c → ∃ k p, e = .Constant c k p :=
  Expr.casesOn (motive_1 := fun e => asCon e = some c → ∃ k p, e = .Constant c k p) e (fun _ _ _ => nn) (fun _ _ _ => nn) (fun _ _ _ _ => nn) (fun _ _ _ => nn) (fun _ _ _ _ => nn) (fun _ _ _ _ => nn) (fun _ _ _ => nn) (fun _ _ _ => nn) (fun _ _ _ _ => nn) (fun _ _ _ _ => nn) (fun _ _ _ _ _ => nn) (fun _ _ _ _ => nn) (fun _ _ => nn) (fun _ _ => nn) (fun _ _ => nn) (fun _ _ _ _ => nn) (fun _ _ _ _ => nn) (fun _ _ _ _ => nn) (fun _ _ => nn) (fun c k p => fun h => sm1 (C := fun d => ∃ j q, Expr.Constant c k p = .Constant d j q) h ⟨k, p, rfl⟩) (fun _ _ _ => nn) (fun _ _ _ => nn) (fun _ _ => nn) (fun _ _ => nn) (fun _ _ => nn) (fun _ _ _ => nn) (fun _ _ _ _ => nn)
theorem asTup_eq {e : Expr} {r : List Expr} : asTup e = some r → ∃ k p, e = .Tuple r k p :=
  Expr.casesOn (motive_1 := fun e => asTup e = some r → ∃ k p, e = .Tuple r k p) e (fun _ _ _ => nn) (fun _ _ _ => nn) (fun _ _ _ _ => nn) (fun _ _ _ => nn) (fun _ _ _ _ => nn) (fun _ _ _ _ => nn) (fun _ _ _ => nn) (fun _ _ _ => nn) (fun _ _ _ _ => nn) (fun _ _ _ _ => nn) (fun _ _ _ _ _ => nn) (fun _ _ _ _ => nn) (fun _ _ => nn) (fun _ _ => nn) (fun _ _ => nn) (fun _ _ _ _ => nn) (fun _ _ _ _ => nn) (fun _ _ _ _ => nn) (fun _ _ => nn) (fun _ _ _ => nn) (fun _ _ _ => nn) (fun _ _ _ => nn) (fun _ _ => nn) (fun _ _ => nn) (fun _ _ => nn) (fun l k p => fun h => sm1 (C := fun r => ∃ j q, Expr.Tuple l k p = .Tuple r j q) h ⟨k, p, rfl⟩) (fun _ _ _ _ => nn)
theorem asCp_eq {e : Expr} {r : Expr × List CmpOp × List Expr} : asCp e = some r → ∃ p, e = .Compare r.1 r.2.1 r.2.2 p :=
  Expr.casesOn (motive_1 := fun e => asCp e = some r → ∃ p, e = .Compare r.1 r.2.1 r.2.2 p) e (fun _ _ _ => nn) (fun _ _ _ => nn) (fun _ _ _ _ => nn) (fun _ _ _ => nn) (fun _ _ _ _ => nn) (fun _ _ _ _ => nn) (fun _ _ _ => nn) (fun _ _ _ => nn) (fun _ _ _ _ => nn) (fun _ _ _ _ => nn) (fun _ _ _ _ _ => nn) (fun _ _ _ _ => nn) (fun _ _ => nn) (fun _ _ => nn) (fun _ _ => nn) (fun l o s p => fun h => sm1 (C := fun r : Expr × List CmpOp × List Expr => ∃ q, Expr.Compare l o s p = .Compare r.1 r.2.1 r.2.2 q) h ⟨p, rfl⟩) (fun _ _ _ _ => nn) (fun _ _ _ _ => nn) (fun _ _ => nn) (fun _ _ _ => nn) (fun _ _ _ => nn) (fun _ _ _ => nn) (fun _ _ => nn) (fun _ _ => nn) (fun _ _ => nn) (fun _ _ _ => nn) (fun _ _ _ _ => nn)
theorem asLst_eq {e : Expr} {r : List Expr} : asLst e = some r → ∃ p, e = .List r p :=
  Expr.casesOn (motive_1 := fun e => asLst e = some r → ∃ p, e = .List r p) e (fun _ _ _ => nn) (fun _ _ _ => nn) (fun _ _ _ _ => nn) (fun _ _ _ => nn) (fun _ _ _ _ => nn) (fun _ _ _ _ => nn) (fun _ _ _ => nn) (fun _ _ _ => nn) (fun _ _ _ _ => nn) (fun _ _ _ _ => nn) (fun _ _ _ _ _ => nn) (fun _ _ _ _ => nn) (fun _ _ => nn) (fun _ _ => nn) (fun _ _ => nn) (fun _ _ _ _ => nn) (fun _ _ _ _ => nn) (fun _ _ _ _ => nn) (fun _ _ => nn) (fun _ _ _ => nn) (fun _ _ _ => nn) (fun _ _ _ => nn) (fun _ _ => nn) (fun _ _ => nn) (fun l p => fun h => sm1 (C := fun r => ∃ q, Expr.List l p = .List r q) h ⟨p, rfl⟩) (fun _ _ _ => nn) (fun _ _ _ _ => nn)
theorem asLC_eq {e : Expr} {r : Expr × List Comprehension × Scope} : asLC e = some r → ∃ p, e = .ListComp r.1 r.2.1 r.2.2 p :=
  Expr.casesOn (motive_1 := fun e => asLC e = some r → ∃ p, e = .ListComp r.1 r.2.1 r.2.2 p) e (fun _ _ _ => nn) (fun _ _ _ => nn) (fun _ _ _ _ => nn) (fun _ _ _ => nn) (fun _ _ _ _ => nn) (fun _ _ _ _ => nn) (fun _ _ _ => nn) (fun _ _ _ => nn) (fun a b c p => fun h => sm1 (C := fun r : Expr × List Comprehension × Scope => ∃ q, Expr.ListComp a b c p = .ListComp r.1 r.2.1 r.2.2 q) h ⟨p, rfl⟩) (fun _ _ _ _ => nn) (fun _ _ _ _ _ => nn) (fun _ _ _ _ => nn) (fun _ _ => nn) (fun _ _ => nn) (fun _ _ => nn) (fun _ _ _ _ => nn) (fun _ _ _ _ => nn) (fun _ _ _ _ => nn) (fun _ _ => nn) (fun _ _ _ => nn) (fun _ _ _ => nn) (fun _ _ _ => nn) (fun _ _ => nn) (fun _ _ => nn) (fun _ _ => nn) (fun _ _ _ => nn) (fun _ _ _ _ => nn)
theorem asUn_eq {e : Expr} {r : UnaryOp × Expr} : asUn e = some r → ∃ p, e = .UnaryOp r.1 r.2 p :=
  Expr.casesOn (motive_1 := fun e => asUn e = some r → ∃ p, e = .UnaryOp r.1 r.2 p) e (fun _ _ _ => nn) (fun _ _ _ => nn) (fun _ _ _ _ => nn) (fun a b p => fun h => sm1 (C := fun r : UnaryOp × Expr => ∃ q, Expr.UnaryOp a b p = .UnaryOp r.1 r.2 q) h ⟨p, rfl⟩) (fun _ _ _ _ => nn) (fun _ _ _ _ => nn) (fun _ _ _ => nn) (fun _ _ _ => nn) (fun _ _ _ _ => nn) (fun _ _ _ _ => nn) (fun _ _ _ _ _ => nn) (fun _ _ _ _ => nn) (fun _ _ => nn) (fun _ _ => nn) (fun _ _ => nn) (fun _ _ _ _ => nn) (fun _ _ _ _ => nn) (fun _ _ _ _ => nn) (fun _ _ => nn) (fun _ _ _ => nn) (fun _ _ _ => nn) (fun _ _ _ => nn) (fun _ _ => nn) (fun _ _ => nn) (fun _ _ => nn) (fun _ _ _ => nn) (fun _ _ _ _ => nn)
theorem asBo_eq {e : Expr} {r : BoolOp × List Expr} : asBo e = some r → ∃ p, e = .BoolOp r.1 r.2 p :=
  Expr.casesOn (motive_1 := fun e => asBo e = some r → ∃ p, e = .BoolOp r.1 r.2 p) e (fun a b p => fun h => sm1 (C := fun r : BoolOp × List Expr => ∃ q, Expr.BoolOp a b p = .BoolOp r.1 r.2 q) h ⟨p, rfl⟩) (fun _ _ _ => nn) (fun _ _ _ _ => nn) (fun _ _ _ => nn) (fun _ _ _ _ => nn) (fun _ _ _ _ => nn) (fun _ _ _ => nn) (fun _ _ _ => nn) (fun _ _ _ _ => nn) (fun _ _ _ _ => nn) (fun _ _ _ _ _ => nn) (fun _ _ _ _ => nn) (fun _ _ => nn) (fun _ _ => nn) (fun _ _ => nn) (fun _ _ _ _ => nn) (fun _ _ _ _ => nn) (fun _ _ _ _ => nn) (fun _ _ => nn) (fun _ _ _ => nn) (fun _ _ _ => nn) (fun _ _ _ => nn) (fun _ _ => nn) (fun _ _ => nn) (fun _ _ => nn) (fun _ _ _ => nn) (fun _ _ _ _ => nn)
theorem asSlice_none {e : Expr} (h : asSlice e = none) : ∀ lo hi st p, e ≠ .Slice lo hi st p := by
  rintro lo hi st p rfl; exact nn h.symm
noncomputable def intOf : Const → Option Int
  | .int i => some i
  | _ => Option.none
noncomputable def asInt (e : Expr) : Option Int := (asCon e).bind intOf
theorem asInt_eq {e : Expr} {i : Int} (h : asInt e = some i) : ∃ k p, e = .Constant (.int i) k p := by
  refine obind h fun c hc h1 => ?_
  obtain ⟨k, p, rfl⟩ := asCon_eq hc
  cases c with
  | int j => apply sm1 h1; exact ⟨k, p, rfl⟩
  | _ => exact nn h1
noncomputable def asPair (e : Expr) : Option (Expr × Expr) := (asTup e).bind two?
theorem asPair_eq {e : Expr} {r : Expr × Expr} (h : asPair e = some r) : ∃ k p, e = .Tuple [r.1, r.2] k p := by
  refine obind h fun c hc h1 => ?_
  rw [← two_eq h1]; exact asTup_eq hc
noncomputable def asCmp (e : Expr) : Option (Expr × CmpOp × Expr) := (asCp e).bind fun c => (one? c.2.1).bind fun op => (one? c.2.2).map fun r => (c.1, op, r)
theorem asCmp_eq {e : Expr} {r : Expr × CmpOp × Expr} (h : asCmp e = some r) : ∃ p, e = .Compare r.1 [r.2.1] [r.2.2] p := by
  refine obind h fun c hc h1 => ?_
  refine obind h1 fun op ho h2 => ?_
  apply omapC h2
  intro s hs
  obtain ⟨p, hp⟩ := asCp_eq hc
  exact ⟨p, by rw [hp, one_eq ho, one_eq hs]⟩
noncomputable def asMeth (e : Expr) : Option (Str × Str × Pos × Expr × Pos) :=
  (asCall e).bind fun c => (asAttr c.1).bind fun f => (asName f.1).bind fun x => (one? c.2.1).map fun a => (x, f.2.1, f.2.2, a, c.2.2)
theorem asMeth_eq {e : Expr} {r : Str × Str × Pos × Expr × Pos} (h : asMeth e = some r) : ∃ xp, e = .Call (.Attribute (.Name r.1 xp) r.2.1 r.2.2.1) [r.2.2.2.1] [] r.2.2.2.2 := by
  refine obind h fun c h1 h => ?_
  refine obind h fun f h2 h => ?_
  refine obind h fun x h3 h => ?_
  apply omapC h
  intro a h4
  obtain ⟨xp, h5⟩ := asName_eq h3
  exact ⟨xp, by rw [asCall_eq h1, asAttr_eq h2, h5, one_eq h4]⟩
noncomputable def isRange (sc : Scope) (e : Expr) : Option Expr := (asCall e).bind fun c => (asName c.1).bind fun f => (one? c.2.1).bind fun a => if f = ("range" : Str) ∧ glo sc f then some a else Option.none
noncomputable def isSet (e : Expr) : Bool := e.ctorIdx == 7
noncomputable def intV : V → Option Int
  | .int i => some i
  | _ => Option.none
noncomputable def srcWith (ev : Expr → P → Option (V × P)) (sc : Scope) (e : Expr) (p : P) : Option (List V × P) := match isRange sc e with
  | some a => if starred a then Option.none else (ev a p).bind fun x => (intV x.1).bind fun n => (rangeV n).map fun l => (l, x.2)
  | Option.none => if isSet e then Option.none else (ev e p).bind fun x => (iterV x.1).bind fun l => (okL l).map fun l => (l, x.2)
noncomputable def put (me : Me) (x : Str) (own : Bool) (v : V) : Me := (x, ⟨own, v⟩) :: me
noncomputable def compWith (elt : Me → P → Option (V × P)) (test : Me → P → Option (Bool × P)) (x : Str) (me : Me) : List V → P → Option (List V × P)
  | [], p => some ([], p)
  | v :: r, p => (test (put me x false v) p).bind fun t => match t.1 with
    | true => (elt (put me x false v) t.2).bind fun y => (compWith elt test x me r y.2).bind fun z => some (y.1 :: z.1, z.2)
    | false => compWith elt test x me r t.2
noncomputable def loopWith (body : Me → P → Option (Fl × Me × P)) (x : Str) : List V → Me → P → Option (Fl × Me × P)
  | [], me, p => some (.next, me, p)
  | v :: r, me, p => (body (put me x false v) p).bind fun y => match y.1 with
    | .next => loopWith body x r y.2.1 y.2.2
    | .brk => some (.next, y.2.1, y.2.2)
    | .ret w => some (.ret w, y.2.1, y.2.2)
noncomputable def enumWith (body : Me → P → Option (Fl × Me × P)) (x y : Str) : List V → Nat → Me → P → Option (Fl × Me × P)
  | [], _, _, _ => Option.none
  | v :: r, k, me, p => (body (put (put me x false (.int k)) y false v) p).bind fun z => match z.1 with
    | .next => enumWith body x y r (k + 1) z.2.1 z.2.2
    | .brk => Option.none
    | .ret w => some (.ret w, z.2.1, z.2.2)
noncomputable def testsWith (tr : Expr → P → Option (Bool × P)) : List Expr → P → Option (Bool × P)
  | [], p => some (true, p)
  | e :: r, p => match r with
    | [] => tr e p
    | _ :: _ => Option.none
noncomputable def freeOk (sc : Scope) (me : Me) (inner : Scope) : Bool := inner.names.all fun x => match x.2 with
  | .free => (match sc.names.lookup x.1 with | some .cell => true | some .free => true | _ => false) && (match me.lookup x.1 with | some b => !b.own | Option.none => false)
  | _ => true
noncomputable def clos (inner : Scope) (me : Me) : Me := me.filter fun e => inner.names.lookup e.1 == some .free
noncomputable def localsOk (inner : Scope) : Bool := inner.kind == .function && inner.names.all fun x => match x.2 with
  | k => inner.names.lookup x.1 == some k
noncomputable def plainBase : Expr → Bool
  | .Call .. => false
  | _ => true
noncomputable def reArgs (sc : Scope) (o : Expr) (name : Str) (args : List Expr) : Option (List Expr) := match asName o with
  | some x => if x = ("IPV4_RE" : Str) ∧ glo sc x ∧ name = ("search" : Str) then some args else Option.none
  | Option.none => Option.none
noncomputable def listRange (sc : Scope) (f : Str) (args : List Expr) : Option Expr := if f = ("list" : Str) then (one? args).bind (isRange sc) else Option.none
noncomputable def evPart (J : I) (sc : Scope) (me : Me) (e : Option Expr) (p : P) : Option (V × P) := match e with
  | some e => J.ev sc me e p
  | Option.none => some (.none, p)
noncomputable def evSub (J : I) (sc : Scope) (me : Me) (o i : Expr) (p : P) : Option (V × P) := match asSlice i with
  | some r => (J.ev sc me o p).bind fun a => (evPart J sc me r.1 a.2).bind fun l => (evPart J sc me r.2.1 l.2).bind fun u => (evPart J sc me r.2.2 u.2).bind fun t => (cutV a.1 l.1 u.1 t.1).map fun v => (v, t.2)
  | Option.none => match asName o with
    | some x => if x = ("__debug__" : Str) then Option.none else (baseV sc me x).bind fun o => (J.ev sc me i p).bind fun k => (itemV o k.1).map fun v => (v, k.2)
    | Option.none => (J.ev sc me o p).bind fun a => (J.ev sc me i a.2).bind fun k => (itemV a.1 k.1).map fun v => (v, k.2)
noncomputable def evOwn (J : I) (f : Str) (l : List V) (p : P) : Option (V × P) := match df? f with
  | some _ => (J.call f l p).bind fun y => if y.2.isSome = p.isSome then some y else Option.none
  | Option.none => fnV f l p
noncomputable def evFn (J : I) (sc : Scope) (me : Me) (f : Str) (args : List Expr) (p : P) : Option (V × P) :=
  if glo sc f && f != ("__debug__" : Str) then
    match listRange sc f args with
    | some a => if starred a then Option.none else (J.ev sc me a p).bind fun x => (intV x.1).bind fun n => (rangeV n).map fun l => (V.lst l, x.2)
    | Option.none => (evsWith (J.ev sc me) args p).bind fun x => evOwn J f x.1 x.2
  else Option.none
noncomputable def strOf : V → Option Str
  | .str t => some t
  | _ => Option.none
noncomputable def matOf (t : Str) (m : Option (Nat × Nat)) : V := match m with
  | some (a, b) => V.mat t a b
  | Option.none => V.none
noncomputable def evMeth (J : I) (sc : Scope) (me : Me) (o : Expr) (name : Str) (apos : Pos) (args : List Expr) (pos : Pos) (p : P) : Option (V × P) :=
  match reArgs sc o name args with
  | some args => (one? args).bind fun a => if starred a || !(apos.endLine == pos.line) then Option.none else (J.ev sc me a p).bind fun x => (strOf x.1).bind fun t => (okS t).bind fun t => (reFind t).map fun m => (matOf t m, x.2)
  | Option.none => if plainBase o && apos.endLine == pos.line && decide (args.length ≤ 8) then (J.ev sc me o p).bind fun a => (evsWith (J.ev sc me) args a.2).bind fun x => methV a.1 name x.1 x.2 else Option.none
noncomputable def evComp (J : I) (sc : Scope) (me : Me) (elt : Expr) (g : Comprehension) (inner : Scope) (p : P) : Option (V × P) :=
  (asName g.target).bind fun x =>
  if g.is_async = 0 then
    (if freeOk sc me inner && localsOk inner && sto inner x then
      (srcWith (J.ev sc me) sc g.iter p).bind fun s =>
      (compWith (fun m q => J.ev inner m elt q) (fun m q => testsWith (fun e q => J.tr inner m e q) g.ifs q) x (clos inner me) s.1 s.2).bind fun y => (okL y.1).map fun l => (V.lst l, y.2)
    else Option.none)
  else Option.none
noncomputable def evConst (c : Const) (p : P) : Option (V × P) := match c with
  | .none => some (.none, p)
  | .bool b => some (.bool b, p)
  | .int i => some (.int i, p)
  | .str s => (okS s).map fun s => (V.str s, p)
  | _ => Option.none
noncomputable def evCmp (J : I) (sc : Scope) (me : Me) (l : Expr) (op : CmpOp) (r : Expr) (p : P) : Option (Bool × P) :=
  if behindInMarks op r then Option.none else (J.ev sc me l p).bind fun a => (J.ev sc me r a.2).bind fun b => (cmpV op a.1 b.1).map fun v => (v, b.2)
noncomputable def evStep (J : I) (sc : Scope) (me : Me) (e : Expr) (p : P) : Option (V × P) := match e with
  | .Constant c _ _ => evConst c p
  | .Name x _ => if x = ("__debug__" : Str) then Option.none else (nameV sc me x).map fun v => (v, p)
  | .BinOp l op r _ => (J.ev sc me l p).bind fun a => (J.ev sc me r a.2).bind fun b => (binV op a.1 b.1).map fun v => (v, b.2)
  | .UnaryOp op a _ => (match op with | .USub => (asInt a).map fun i => (.int (-i), p) | _ => Option.none)
  | .Compare l ops rs _ => (one? ops).bind fun op => (one? rs).bind fun r => (evCmp J sc me l op r p).map fun x => (V.bool x.1, x.2)
  | .List es _ => (evsWith (J.ev sc me) es p).bind fun x => (okL x.1).map fun l => (V.lst l, x.2)
  | .Tuple es _ _ => (evsWith (J.ev sc me) es p).bind fun x => (okL x.1).map fun l => (V.tup l, x.2)
  | .Subscript o i _ => evSub J sc me o i p
  | .Attribute o n _ => if n = ("string" : Str) ∧ plainBase o = true then (J.ev sc me o p).bind fun a => match a.1 with | .mat t _ _ => some (V.str t, a.2) | _ => Option.none else Option.none
  | .Call f args kw pos => (match kw with
    | [] => (match asName f with
      | some g => evFn J sc me g args p
      | Option.none => (asAttr f).bind fun a => evMeth J sc me a.1 a.2.1 a.2.2 args pos p)
    | _ => Option.none)
  | .ListComp elt gens inner _ => (one? gens).bind fun g => evComp J sc me elt g inner p
  | _ => Option.none
noncomputable def isOrEq (vs : List Expr) : Option (Str × Str) := (two? vs).bind fun uv => (asCmp uv.1).bind fun c => (asCmp uv.2).bind fun d => (asName c.1).bind fun a => (asName c.2.2).bind fun b => (asName d.1).bind fun a' => (asName d.2.2).bind fun b' =>
    if c.2.1 = .Is ∧ d.2.1 = .Eq ∧ a = a' ∧ b = b' ∧ a ≠ ("__debug__" : Str) ∧ b ≠ ("__debug__" : Str) then some (a, b) else Option.none
noncomputable def orWith (tr : Expr → P → Option (Bool × P)) : List Expr → P → Option (Bool × P)
  | [], p => some (false, p)
  | e :: r, p => (tr e p).bind fun x => match x.1 with | true => some (true, x.2) | false => orWith tr r x.2
noncomputable def trOr (J : I) (sc : Scope) (me : Me) (vs : List Expr) (p : P) : Option (Bool × P) := match isOrEq vs with
  | some ab => (nameV sc me ab.1).bind fun x => (nameV sc me ab.2).bind fun y => (strOf x).bind fun s => (strOf y).map fun t => (decide (s = t), p)
  | Option.none => orWith (J.tr sc me) vs p
noncomputable def isIf (e : Expr) : Bool := e.ctorIdx == 5
noncomputable def trUn (J : I) (sc : Scope) (me : Me) (op : UnaryOp) (x : Expr) (p : P) : Option (Bool × P) := match op with
  | .Not => (J.tr sc me x p).map fun y => (!y.1, y.2)
  | _ => Option.none
noncomputable def trBo (J : I) (sc : Scope) (me : Me) (op : BoolOp) (vs : List Expr) (p : P) : Option (Bool × P) := match op with
  | .Or => trOr J sc me vs p
  | .And => Option.none
noncomputable def trStep (J : I) (sc : Scope) (me : Me) (e : Expr) (p : P) : Option (Bool × P) := match asUn e with
  | some u => trUn J sc me u.1 u.2 p
  | Option.none => match asBo e with
    | some b => trBo J sc me b.1 b.2 p
    | Option.none => match asCp e with
      | some c => (one? c.2.1).bind fun op => (one? c.2.2).bind fun r => evCmp J sc me c.1 op r p
      | Option.none => if isIf e then Option.none else (J.ev sc me e p).bind fun a => (truV a.1).map fun b => (b, a.2)
noncomputable def outAt : List (Nat × Str) := [(86, "row"), (93, "told"), (105, "told"), (117, "found"), (160, "behind"), (161, "front"), (169, "rounds"), (181, "middles")]
noncomputable def letGo (x : Str) (me : Me) : Me := me.map fun e => if e.1 = x then (e.1, ⟨false, e.2.v⟩) else e
noncomputable def letOut (line : Nat) (me : Me) : Me := match outAt.lookup line with
  | some x => letGo x me
  | Option.none => me
noncomputable def ownL (sc : Scope) (me : Me) (x : Str) : Option (List V) := if vis sc x then match me.lookup x with
    | some ⟨true, .lst xs⟩ => some xs
    | _ => Option.none
  else Option.none
noncomputable def isComp (e : Expr) : Bool := e.ctorIdx == 8 || e.ctorIdx == 9 || e.ctorIdx == 10
noncomputable def isLoc (sc : Scope) (x : Str) : Bool := sc.names.lookup x == some .local
noncomputable def turned (e : Expr) : Bool := match asPair e with
  | some ab => !starred ab.1 && !starred ab.2 && !([ab.1, ab.2].all (foldedForSure 8)) && !([ab.1, ab.2].all (constantsAlone 8))
  | Option.none => false
noncomputable def isTup (e : Expr) : Bool := e.ctorIdx == 25
noncomputable def compV (J : I) (sc : Scope) (me : Me) (elt : Expr) (x : Str) (it : Expr) (ifs : List Expr) (inner : Scope) (p : P) : Option (List V × P) :=
  if freeOk sc me inner && localsOk inner && sto inner x then
    (srcWith (J.ev sc me) sc it p).bind fun s =>
    (compWith (fun m q => J.ev inner m elt q) (fun m q => testsWith (fun e q => J.tr inner m e q) ifs q) x (clos inner me) s.1 s.2).bind fun y => (okL y.1).map fun l => (l, y.2)
  else Option.none
noncomputable def exEnum (J : I) (sc : Scope) (me : Me) (x y : Str) (it : Expr) (b : List Stmt) (p : P) : Option (Fl × Me × P) :=
  (asCall it).bind fun c => (asName c.1).bind fun f => (one? c.2.1).bind fun a => if f = ("enumerate" : Str) ∧ glo sc f = true ∧ sto sc x = true ∧ sto sc y = true ∧ starred a = false then
      (J.ev sc me a p).bind fun v => (iterV v.1).bind fun l => (okL l).bind fun l => enumWith (fun m q => J.exs sc m b q) x y l 0 me v.2
    else Option.none
noncomputable def exFor (J : I) (sc : Scope) (me : Me) (t it : Expr) (b o : List Stmt) (p : P) : Option (Fl × Me × P) := match asName t with
  | some x => if o.isEmpty && sto sc x then (srcWith (J.ev sc me) sc it p).bind fun s => loopWith (fun m q => J.exs sc m b q) x s.1 me s.2 else Option.none
  | Option.none => (asPair t).bind fun xy => (asName xy.1).bind fun x => (asName xy.2).bind fun y => exEnum J sc me x y it b p
noncomputable def exAug (J : I) (sc : Scope) (me : Me) (t : Expr) (op : Operator) (e : Expr) (p : P) : Option (Fl × Me × P) :=
  if op = .Add then (asName t).bind fun x => if sto sc x && x != ("__debug__" : Str) then (nameV sc me x).bind fun a => (J.ev sc me e p).bind fun b => (intV a).bind fun i => (intV b.1).map fun j => (.next, put me x false (.int (i + j)), b.2)
    else Option.none
  else Option.none
noncomputable def exPlain (J : I) (sc : Scope) (me : Me) (x : Str) (e : Expr) (p : P) : Option (Fl × Me × P) :=
  if isComp e then Option.none else (J.ev sc me e p).map fun v => (.next, put me x false v.1, v.2)
noncomputable def exMade (sc : Scope) (me : Me) (x f : Str) (p : P) : Option (Fl × Me × P) :=
  if f = ("_Accumulator" : Str) ∧ glo sc f then (match p with | Option.none => some (.next, put me x false .pile, some []) | some _ => Option.none) else Option.none
noncomputable def exCopy (sc : Scope) (me : Me) (x f y : Str) (p : P) : Option (Fl × Me × P) :=
  if glo sc f && y != ("__debug__" : Str) then (nameV sc me y).bind fun v => (strOf v).bind fun z => (okL (charsOf z)).map fun l => (.next, put me x true (.lst (l.map .ustr)), p) else Option.none
noncomputable def exAsgC (J : I) (sc : Scope) (me : Me) (x f : Str) (args : List Expr) (e : Expr) (p : P) : Option (Fl × Me × P) :=
  if args.isEmpty then exMade sc me x f p else match (one? args).bind asName with
    | some y => if f = ("list" : Str) then exCopy sc me x f y p else exPlain J sc me x e p
    | Option.none => exPlain J sc me x e p
noncomputable def exAsgL (J : I) (sc : Scope) (me : Me) (x : Str) (elt : Expr) (g : Comprehension) (inner : Scope) (p : P) : Option (Fl × Me × P) :=
  (asName g.target).bind fun y => if g.is_async = 0 then (compV J sc me elt y g.iter g.ifs inner p).map fun v => (.next, put me x false (.lst v.1), v.2) else Option.none
noncomputable def exAsg (J : I) (sc : Scope) (me : Me) (x : Str) (e : Expr) (p : P) : Option (Fl × Me × P) := match asLst e with
  | some es => (evsWith (J.ev sc me) es p).bind fun v => (okL v.1).map fun l => (.next, put me x true (.lst l), v.2)
  | Option.none => match asLC e with
    | some c => (one? c.2.1).bind fun g => exAsgL J sc me x c.1 g c.2.2 p
    | Option.none => match asCall e with
      | some c => (match asName c.1 with
        | some f => exAsgC J sc me x f c.2.1 e p
        | Option.none => exPlain J sc me x e p)
      | Option.none => exPlain J sc me x e p
noncomputable def tupV : V → Option (List V)
  | .tup l => some l
  | _ => Option.none
noncomputable def exTwo (J : I) (sc : Scope) (me : Me) (a b e : Expr) (p : P) : Option (Fl × Me × P) :=
  (asName a).bind fun x => (asName b).bind fun y =>
  if isLoc sc x && isLoc sc y && x != y && !isComp e && (!isTup e || (turned e && a.pos.line == b.pos.line)) then (J.ev sc me e p).bind fun v => (tupV v.1).bind fun l => (two? l).map fun ab => (.next, put (put me x false ab.1) y false ab.2, v.2)
  else Option.none
noncomputable def exPush (J : I) (sc : Scope) (me : Me) (x : Str) (e : Expr) (p : P) : Option (Fl × Me × P) :=
  if starred e then Option.none else (ownL sc me x).bind fun xs => (J.ev sc me e p).bind fun v => (okL (xs ++ [v.1])).map fun zs => (.next, put me x true (.lst zs), v.2)
noncomputable def exMove (J : I) (sc : Scope) (me : Me) (x y : Str) (i : Expr) (p : P) : Option (Fl × Me × P) :=
  (ownL sc me x).bind fun xs => (ownL sc me y).bind fun ys => if starred i then Option.none else (J.ev sc me i p).bind fun k => (intV k.1).bind fun k' =>
    if 0 ≤ k' ∧ ys.length ≤ cap then (ys[k'.toNat]?).bind fun v => (okL (xs ++ [v])).map fun zs => (.next, put (put me y true (.lst (ys.eraseIdx k'.toNat))) x true (.lst zs), k.2) else Option.none
noncomputable def lstV : V → Option (List V)
  | .lst l => some l
  | _ => Option.none
noncomputable def exMore (J : I) (sc : Scope) (me : Me) (x : Str) (e : Expr) (p : P) : Option (Fl × Me × P) :=
  if starred e then Option.none else (ownL sc me x).bind fun xs => (J.ev sc me e p).bind fun v => (lstV v.1).bind fun ys => (okL (xs ++ ys)).map fun zs => (.next, put me x true (.lst zs), v.2)
noncomputable def exApp (J : I) (sc : Scope) (me : Me) (x : Str) (e : Expr) (p : P) : Option (Fl × Me × P) := match asMeth e with
  | some c => if c.2.1 = ("pop" : Str) ∧ c.1 ≠ x ∧ c.1 ≠ ("__debug__" : Str) ∧ c.2.2.1.endLine = c.2.2.2.2.line then exMove J sc me x c.1 c.2.2.2.1 p else exPush J sc me x e p
  | Option.none => exPush J sc me x e p
noncomputable def exExpr (J : I) (sc : Scope) (me : Me) (e : Expr) (p : P) : Option (Fl × Me × P) :=
  (asMeth e).bind fun c =>
  if c.1 = ("__debug__" : Str) ∨ c.2.2.1.endLine ≠ c.2.2.2.2.line then Option.none
  else if c.2.1 = ("append" : Str) then exApp J sc me c.1 c.2.2.2.1 p
  else if c.2.1 = ("extend" : Str) then exMore J sc me c.1 c.2.2.2.1 p
  else Option.none
noncomputable def exStep (J : I) (sc : Scope) (me : Me) (st : Stmt) (p : P) : Option (Fl × Me × P) := match st with
  | .Return e _ => e.bind fun e => (J.ev sc me e p).map fun x => (.ret x.1, me, x.2)
  | .Break _ => some (.brk, me, p)
  | .If t b o _ => (J.tr sc me t p).bind fun x => J.exs sc me (match x.1 with | true => b | false => o) x.2
  | .For t it b o _ => exFor J sc me t it b o p
  | .AugAssign t op e _ => exAug J sc me t op e p
  | .Assign ts e _ => (one? ts).bind fun t => (match asName t with
      | some x => if sto sc x then exAsg J sc me x e p else Option.none
      | Option.none => (asPair t).bind fun ab => exTwo J sc me ab.1 ab.2 e p)
  | .Expr e _ => exExpr J sc me e p
  | _ => Option.none
noncomputable def exsWith (ex : Me → Stmt → P → Option (Fl × Me × P)) : Me → List Stmt → P → Option (Fl × Me × P)
  | me, [], p => some (.next, me, p)
  | me, st :: r, p => (ex (letOut st.pos.line me) st p).bind fun y => match y.1 with
    | .next => exsWith ex y.2.1 r y.2.2
    | f => some (f, y.2.1, y.2.2)
noncomputable def callStep (J : I) (f : Str) (args : List V) (p : P) : Option (V × P) := match df? f with
  | some d => if d.params.length = args.length then
      (J.exs d.scope ((d.params.zip args).map fun x => (x.1, ⟨false, x.2⟩)) d.body p).bind fun y => match y.1 with
      | .ret v => some (v, y.2.2)
      | _ => Option.none
    else Option.none
  | Option.none => Option.none
noncomputable def dead : I := ⟨fun _ _ _ _ => Option.none, fun _ _ _ _ => Option.none, fun _ _ _ _ => Option.none, fun _ _ _ => Option.none⟩
noncomputable def next (J : I) : I := ⟨evStep J, trStep J, fun sc me l p => exsWith (fun me st p => exStep J sc me st p) me l p, callStep J⟩
noncomputable def runM : Nat → I
  | 0 => dead
  | n + 1 => next (runM n)
end Mine
end
section
set_option genSizeOf false
set_option genSizeOfSpec false
set_option autoImplicit true
namespace Mine
open PySem PyProof.Rows
structure Ms where
  m : Addr → Prop
  G : Tok → Option Str
noncomputable def tabs : List Addr := [113, 106]
inductive VR (Mt : Ms) (pw : List Addr) (h : Heap) : V → Value → Prop
  | none : VR Mt pw h .none .none
  | bool (b : Bool) : VR Mt pw h (.bool b) (.bool b)
  | int (i : Int) (t : Tok) : VR Mt pw h (.int i) (.int i t)
  | str (s : Str) (t : Tok) : Mt.G t = some s → VR Mt pw h (.str s) (.str s t)
  | ustr (s : Str) (t : Tok) : VR Mt pw h (.ustr s) (.str s t)
  | lst {xs : List V} {a : Addr} {vs : Array Value} {n : Nat} : ¬ Mt.m a → h.get? a = some { cls := .type "list", data := .seq vs n } → vs.size = xs.length →
      (∀ (i : Nat) x v, xs[i]? = some x → vs[i]? = some v → VR Mt pw h x v) → VR Mt pw h (.lst xs) (.ref a)
  | tup {xs : List V} {a : Addr} {vs : Array Value} {n : Nat} : ¬ Mt.m a → h.get? a = some { cls := .type "tuple", data := .seq vs n } → vs.size = xs.length →
      (∀ (i : Nat) x v, xs[i]? = some x → vs[i]? = some v → VR Mt pw h x v) → VR Mt pw h (.tup xs) (.ref a)
  | mat {t : Str} {b e : Nat} {a r pa : Addr} {tk : Tok} {lim : Int} {li : Int} : ¬ Mt.m a → ¬ Mt.m r → Mt.G tk = some t →
      h.get? a = some { cls := .type "re.Match", data := .fields #[.str t tk, .ref pa, rawInt 0, rawInt lim, rawInt li, .ref r] } →
      h.get? r = some { cls := .type "tuple", data := .seq #[rawInt b, rawInt e] } → VR Mt pw h (.mat t b e) (.ref a)
  | pile {x : Addr} : pw = x :: tabs → VR Mt pw h .pile (.ref x)
structure Kp (W : List Addr) (Mt Mt' : Ms) (h h' : Heap) : Prop where
  keep : ∀ b o, b ∉ W → h.get? b = some o → h'.get? b = some o
  m : Mt'.m = Mt.m
  G : ∀ t z, Mt.G t = some z → Mt'.G t = some z
theorem Kp.refl {Mt : Ms} (W : List Addr) (h : Heap) : Kp W Mt Mt h h := ⟨fun _ _ _ e => e, rfl, fun _ _ e => e⟩
theorem Kp.trans {W : List Addr} {h h' h'' : Heap} {Mt Mt' Mt'' : Ms} (x : Kp W Mt Mt' h h') (y : Kp W Mt' Mt'' h' h'') : Kp W Mt Mt'' h h'' :=
  ⟨fun b o hb e => y.keep b o hb (x.keep b o hb e), y.m.trans x.m, fun t z e => y.G t z (x.G t z e)⟩
theorem Kp.of_keeps {W : List Addr} {h h' : Heap} {Mt : Ms} (x : ∀ b o, h.get? b = some o → h'.get? b = some o) : Kp W Mt Mt h h' := ⟨fun b o _ e => x b o e, rfl, fun _ _ e => e⟩
theorem Kp.push {Mt : Ms} (W : List Addr) (h : Heap) (o : Obj) : Kp W Mt Mt h (h.push o) := .of_keeps fun b o' e => Heap.get?_push_of_some o e
noncomputable def Ms.tok (Mt : Ms) (t : Tok) (z : Str) : Ms := { Mt with G := fun u => if u = t then some z else Mt.G u }
theorem Ms.tok_self {Mt : Ms} {t : Tok} {z : Str} : (Mt.tok t z).G t = some z := if_pos rfl
theorem Ms.tok_old {Mt : Ms} {t : Tok} {z : Str} (h : Mt.G t = none) : ∀ u y, Mt.G u = some y → (Mt.tok t z).G u = some y := fun u y e => by
  show (if u = t then some z else Mt.G u) = some y
  rw [if_neg (fun q => by subst q; rw [h] at e; cases e)]; exact e
noncomputable def dat (o : Obj) : Prop := o.cls = .type "list" ∨ o.cls = .type "tuple" ∨ o.cls = .type "re.Match" ∨ o.cls = .type "dict"
theorem VR.mono' {Mt Mt' : Ms} {pw : List Addr} {h h' : Heap} (hk : ∀ b o, dat o → ¬ Mt.m b → h.get? b = some o → ¬ Mt'.m b ∧ h'.get? b = some o) (hG : ∀ t z, Mt.G t = some z → Mt'.G t = some z := by exact fun _ _ e => e) :
    ∀ {x : V} {v : Value}, VR Mt pw h x v → VR Mt' pw h' x v := by
  intro x v H
  induction H with
  | none => exact .none
  | bool b => exact .bool b
  | int i t => exact .int i t
  | str s t e => exact .str s t (hG _ _ e)
  | ustr s t => exact .ustr s t
  | lst hm ha hl _ ih => exact .lst (hk _ _ (.inl rfl) hm ha).1 (hk _ _ (.inl rfl) hm ha).2 hl fun i x v hx hv => ih i x v hx hv
  | tup hm ha hl _ ih => exact .tup (hk _ _ (.inr (.inl rfl)) hm ha).1 (hk _ _ (.inr (.inl rfl)) hm ha).2 hl fun i x v hx hv => ih i x v hx hv
  | mat h1 h2 h5 h3 h4 => exact .mat (hk _ _ (.inr (.inr (.inl rfl))) h1 h3).1 (hk _ _ (.inr (.inl rfl)) h2 h4).1 (hG _ _ h5) (hk _ _ (.inr (.inr (.inl rfl))) h1 h3).2 (hk _ _ (.inr (.inl rfl)) h2 h4).2
  | pile e => exact .pile e
theorem VR.mono {Mt Mt' : Ms} {pw : List Addr} {h h' : Heap} (hk : ∀ b o, ¬ Mt.m b → h.get? b = some o → ¬ Mt'.m b ∧ h'.get? b = some o)
    {x : V} {v : Value} (H : VR Mt pw h x v) (hG : ∀ t z, Mt.G t = some z → Mt'.G t = some z := by exact fun _ _ e => e) : VR Mt' pw h' x v := H.mono' (fun b o _ => hk b o) hG
theorem VR.none' {Mt pw h v} (x : VR Mt pw h .none v) : v = .none := by cases x; rfl
theorem VR.bool' {Mt pw h b v} (x : VR Mt pw h (.bool b) v) : v = .bool b := by cases x; rfl
theorem VR.int' {Mt pw h i v} (x : VR Mt pw h (.int i) v) : ∃ t, v = .int i t := by cases x; exact ⟨_, rfl⟩
theorem VR.str' {Mt pw h s v} (x : VR Mt pw h (.str s) v) : ∃ t, v = .str s t ∧ Mt.G t = some s := by cases x; exact ⟨_, rfl, by assumption⟩
theorem VR.ustr' {Mt pw h s v} (x : VR Mt pw h (.ustr s) v) : ∃ t, v = .str s t := by cases x; exact ⟨_, rfl⟩
theorem VR.lst' {Mt pw h xs v} (x : VR Mt pw h (.lst xs) v) : ∃ a vs n, v = .ref a ∧ ¬ Mt.m a ∧ h.get? a = some { cls := .type "list", data := .seq vs n } ∧ vs.size = xs.length ∧
    (∀ (i : Nat) x v, xs[i]? = some x → vs[i]? = some v → VR Mt pw h x v) := by
  cases x with
  | lst a b c d => exact ⟨_, _, _, rfl, a, b, c, d⟩
theorem VR.tup' {Mt pw h xs v} (x : VR Mt pw h (.tup xs) v) : ∃ a vs n, v = .ref a ∧ ¬ Mt.m a ∧ h.get? a = some { cls := .type "tuple", data := .seq vs n } ∧ vs.size = xs.length ∧
    (∀ (i : Nat) x v, xs[i]? = some x → vs[i]? = some v → VR Mt pw h x v) := by
  cases x with
  | tup a b c d => exact ⟨_, _, _, rfl, a, b, c, d⟩
noncomputable def VRs (Mt : Ms) (pw : List Addr) (h : Heap) (xs : List V) (vs : List Value) : Prop := vs.length = xs.length ∧ ∀ (i : Nat) x v, xs[i]? = some x → vs[i]? = some v → VR Mt pw h x v
theorem len_1 {α : Type} : ∀ {l : List α}, l.length = 1 → ∃ a, l = [a]
  | [a], _ => ⟨a, rfl⟩
theorem len_2 {α : Type} : ∀ {l : List α}, l.length = 2 → ∃ a b, l = [a, b]
  | [a, b], _ => ⟨a, b, rfl⟩
theorem len_3 {α : Type} : ∀ {l : List α}, l.length = 3 → ∃ a b c, l = [a, b, c]
  | [a, b, c], _ => ⟨a, b, c, rfl⟩
theorem VRs.nil {Mt pw h} : VRs Mt pw h [] [] := ⟨rfl, fun i x v hx _ => by simp at hx⟩
theorem VRs.cons {Mt pw h x v xs vs} (h1 : VR Mt pw h x v) (h2 : VRs Mt pw h xs vs) : VRs Mt pw h (x :: xs) (v :: vs) := by
  refine ⟨by simp [h2.1], fun i y u hy hu => ?_⟩
  cases i with
  | zero => simp at hy hu; subst hy hu; exact h1
  | succ i => simp at hy hu; exact h2.2 i y u hy hu
theorem VRs.mono {Mt Mt' pw h h' xs vs} (x : VRs Mt pw h xs vs) (hk : ∀ b o, ¬ Mt.m b → h.get? b = some o → ¬ Mt'.m b ∧ h'.get? b = some o) (hG : ∀ t z, Mt.G t = some z → Mt'.G t = some z := by exact fun _ _ e => e) : VRs Mt' pw h' xs vs :=
  ⟨x.1, fun i y u hy hu => (x.2 i y u hy hu).mono hk hG⟩
theorem VRs.mono' {Mt Mt' pw h h' xs vs} (x : VRs Mt pw h xs vs) (hk : ∀ b o, dat o → ¬ Mt.m b → h.get? b = some o → ¬ Mt'.m b ∧ h'.get? b = some o) (hG : ∀ t z, Mt.G t = some z → Mt'.G t = some z := by exact fun _ _ e => e) : VRs Mt' pw h' xs vs :=
  ⟨x.1, fun i y u hy hu => (x.2 i y u hy hu).mono' hk hG⟩
theorem VRs.snoc {Mt pw h x v xs vs} (h2 : VRs Mt pw h xs vs) (h1 : VR Mt pw h x v) : VRs Mt pw h (xs ++ [x]) (vs ++ [v]) := by
  refine ⟨by simp [h2.1], fun i y u hy hu => ?_⟩
  rcases Nat.lt_trichotomy i xs.length with hi | hi | hi
  · rw [List.getElem?_append_left hi] at hy
    rw [List.getElem?_append_left (by rw [h2.1]; exact hi)] at hu
    exact h2.2 i y u hy hu
  · subst hi
    rw [List.getElem?_append_right (Nat.le_refl _)] at hy
    rw [List.getElem?_append_right (by rw [h2.1]; exact Nat.le_refl _)] at hu
    rw [h2.1] at hu
    simp at hy hu; subst hy hu; exact h1
  · rw [List.getElem?_eq_none (by rw [List.length_append, List.length_singleton]; lia)] at hy; exact nn hy
theorem VRs.append {Mt pw h xs vs ys us} (h1 : VRs Mt pw h xs vs) (h2 : VRs Mt pw h ys us) : VRs Mt pw h (xs ++ ys) (vs ++ us) := by
  refine ⟨by simp [h1.1, h2.1], fun i y u hy hu => ?_⟩
  by_cases hi : i < xs.length
  · rw [List.getElem?_append_left hi] at hy
    rw [List.getElem?_append_left (by rw [h1.1]; exact hi)] at hu
    exact h1.2 i y u hy hu
  · rw [List.getElem?_append_right (by omega)] at hy
    rw [List.getElem?_append_right (by rw [h1.1]; omega)] at hu
    rw [h1.1] at hu
    exact h2.2 _ y u hy hu
theorem VRs.get {Mt pw h xs vs} (x : VRs Mt pw h xs vs) {i : Nat} {y : V} (hy : xs[i]? = some y) : ∃ u, vs[i]? = some u ∧ VR Mt pw h y u := by
  have hl : i < vs.length := by
    rw [x.1]; exact (List.getElem?_eq_some_iff.mp hy).1
  exact ⟨vs[i], by simp [hl], x.2 i y _ hy (by simp [hl])⟩
theorem VRs.lst {Mt pw h xs} {vs : List Value} {a : Addr} {n : Nat} (x : VRs Mt pw h xs vs) (hm : ¬ Mt.m a) (ha : h.get? a = some { cls := .type "list", data := .seq vs.toArray n }) : VR Mt pw h (.lst xs) (.ref a) :=
  .lst hm ha (by simp [x.1]) fun i y u hy hu => x.2 i y u hy (by simpa using hu)
theorem VRs.tup {Mt pw h xs} {vs : List Value} {a : Addr} {n : Nat} (x : VRs Mt pw h xs vs) (hm : ¬ Mt.m a) (ha : h.get? a = some { cls := .type "tuple", data := .seq vs.toArray n }) : VR Mt pw h (.tup xs) (.ref a) :=
  .tup hm ha (by simp [x.1]) fun i y u hy hu => x.2 i y u hy (by simpa using hu)
theorem VRs.of_lst {Mt pw h xs} {vs : Array Value} (hl : vs.size = xs.length) (hi : ∀ (i : Nat) x v, xs[i]? = some x → vs[i]? = some v → VR Mt pw h x v) : VRs Mt pw h xs vs.toList :=
  ⟨by simp [hl], fun i x v hx hv => hi i x v hx (by simpa using hv)⟩
theorem VRs.tail {Mt pw h x v xs vs} (y : VRs Mt pw h (x :: xs) (v :: vs)) : VRs Mt pw h xs vs := ⟨by simpa using y.1, fun i a b ha hb => y.2 (i + 1) a b (by simpa using ha) (by simpa using hb)⟩
theorem VRs.head {Mt pw h x v xs vs} (y : VRs Mt pw h (x :: xs) (v :: vs)) : VR Mt pw h x v := y.2 0 x v (by simp) (by simp)
theorem VRs.strs {Mt pw h} : ∀ {xs : List V} {vs : List Value} {l : List Str}, VRs Mt pw h xs vs → strs? xs = some l → StrsAre vs l
  | [], [], _, _, e => by apply sm1 e; exact .nil
  | [], _ :: _, _, x, _ => by have := x.1; simp at this
  | _ :: _, [], _, x, _ => by have := x.1; simp at this
  | x :: xs, v :: vs, l, y, e => by
    cases x with
    | str s =>
      simp only [strs?, Option.map_eq_some_iff] at e
      obtain ⟨r, hr, rfl⟩ := e
      refine ex1_2 (y.head.str') fun t q_101 _ => ?_
      subst q_101
      exact .cons _ _ (VRs.strs y.tail hr)
    | ustr s =>
      simp only [strs?, Option.map_eq_some_iff] at e
      obtain ⟨r, hr, rfl⟩ := e
      refine ex1_1 (y.head.ustr') fun t q_151 => ?_
      subst q_151
      exact .cons _ _ (VRs.strs y.tail hr)
    | _ => simp [strs?] at e
theorem VRs.ints {Mt pw h} : ∀ {xs : List V} {vs : List Value} {l : List Int}, VRs Mt pw h xs vs → ints? xs = some l → IntsAre vs l
  | [], [], _, _, e => by apply sm1 e; exact .nil
  | [], _ :: _, _, x, _ => by have := x.1; simp at this
  | _ :: _, [], _, x, _ => by have := x.1; simp at this
  | x :: xs, v :: vs, l, y, e => by
    cases x with
    | int s =>
      simp only [ints?, Option.map_eq_some_iff] at e
      obtain ⟨r, hr, rfl⟩ := e
      obtain ⟨t, rfl⟩ := y.head.int'
      exact .cons _ _ (VRs.ints y.tail hr)
    | _ => simp [ints?] at e
theorem VRs.of_strs {Mt pw h} : ∀ {vs : List Value} {l : List Str}, StrsAre vs l → VRs Mt pw h (l.map .ustr) vs
  | _, _, .nil => .nil
  | _, _, .cons _ _ r => .cons (.ustr _ _) (VRs.of_strs r)
theorem VRs.of_ints {Mt pw h} : ∀ {vs : List Value} {l : List Int}, IntsAre vs l → VRs Mt pw h (l.map .int) vs
  | _, _, .nil => .nil
  | _, _, .cons _ _ r => .cons (.int _ _) (VRs.of_ints r)
end Mine
end
section
set_option genSizeOf false
set_option genSizeOfSpec false
namespace Mine
open PySem PyProof.Rows
noncomputable abbrev prog : Program := PySem.Challenge.rw_xl0009_01.row.prog
noncomputable abbrev accC : Addr := 144
noncomputable def TabsAt (h : Heap) : Prop := ∀ P ∈ tabs, ∃ ps : Array Value, h.get? P = some { cls := .none, data := .fields ps } ∧ TriplesOk ps.toList
noncomputable def PileAt₀ (Mt : Ms) (pw : List Addr) (p : P) (h : Heap) : Prop := match p with
  | Option.none => pw = tabs
  | some l => ∃ x d vs n od, pw = x :: tabs ∧ h.get? x = some { cls := .ref accC, dict := some d, data := .seq vs n } ∧ d ≠ x ∧ ¬ Mt.m d ∧ h.get? d = some od ∧ od.cls = .type "dict" ∧ od.slots = #[] ∧
      (∃ hs tk tk' ep, od.data = .dict #[⟨hs, .str "_initial_size" tk, .int 0 tk'⟩] ep) ∧
      VRs Mt pw h (l.map fun e => .tup [.str e.1, .str e.2]) vs.toList
noncomputable def PileAt (Mt : Ms) (pw : List Addr) (p : P) (h : Heap) : Prop := TabsAt h ∧ PileAt₀ Mt pw p h
theorem PileAt₀.tabs {Mt : Ms} {pw : List Addr} {p : P} {h : Heap} (H : PileAt₀ Mt pw p h) : ∀ P ∈ tabs, P ∈ pw := by
  unfold PileAt₀ at H
  split at H
  · subst H; exact fun _ h => h
  · obtain ⟨x, d, vs, n, od, e, _⟩ := H
    subst e; exact fun _ h => List.mem_cons_of_mem _ h
structure Inv (h₀ : Heap) (os₀ : OsState) (Mt : Ms) (pw : List Addr) (p : P) (s : Shared) : Prop where
  base : ∀ b o, h₀.get? b = some o → s.heap.get? b = some o
  mt : ∀ a, Mt.m a → h₀.get? a = none ∧ ∃ o, s.heap.get? a = some o
  pws : ∀ a ∈ pw, Mt.m a
  pile : PileAt Mt pw p s.heap
  os : s.os = os₀
  gens : AllBare s.gens
  tk : ∀ t z, Mt.G t = some z → 0 < t ∧ t < s.toks
  pos : 0 < s.toks
noncomputable def At (env : Env) (h : Heap) (x : Str) (v : Value) : Prop := match env.kindOf x with
  | some .local => ∃ m, h.Ns env.locals m ∧ m x = some v
  | some .cell => ∃ c, env.cells.lookup x = some c ∧ h.IsCell c (some v)
  | _ => False
noncomputable def BdR (Mt : Ms) (pw : List Addr) (h : Heap) (b : Bd) (v : Value) : Prop := match b.own with
  | true => ∃ xs a vs n, b.v = .lst xs ∧ v = .ref a ∧ Mt.m a ∧ a ∉ pw ∧ h.get? a = some { cls := .type "list", data := .seq vs n } ∧ VRs Mt pw h xs vs.toList
  | false => VR Mt pw h b.v v
structure Fm (env : Env) (sc : Scope) (me : Me) (Mt : Ms) (pw : List Addr) (h : Heap) : Prop where
  kind : env.scope.kind = .function
  glob : env.globals = mainGlobals
  blt : env.builtins = builtinsNs
  names : ∀ x k, sc.names.lookup x = some k → env.kindOf x = some (if k = .free then .cell else k)
  ns : ∃ m, h.Ns env.locals m
  nsMt : Mt.m env.locals
  nsPw : env.locals ∉ pw
  cellIs : ∀ x, env.kindOf x = some .cell → sc.names.lookup x ≠ none → ∃ c, env.cells.lookup x = some c
  cellAll : ∀ x c, env.cells.lookup x = some c → Mt.m c ∧ c ∉ pw ∧ ∃ v, h.IsCell c v
  inj : ∀ x y c, env.cells.lookup x = some c → env.cells.lookup y = some c → x = y
  vars : ∀ x b, vis sc x = true → me.lookup x = some b → ∃ v, At env h x v ∧ BdR Mt pw h b v
  sep : ∀ x y bx by' a, vis sc x = true → vis sc y = true → me.lookup x = some bx → me.lookup y = some by' → bx.own = true → by'.own = true → At env h x (.ref a) → At env h y (.ref a) → x = y
section
variable {h₀ : Heap} {os₀ : OsState} {Mt : Ms} {pw : List Addr} {p : P} {s : Shared} {env : Env} {sc : Scope} {me : Me} {h h' : Heap}
theorem At.kp {x : Str} {v : Value} (H : At env h x v) (hk : ∀ b o, b = env.locals ∨ (∃ y, env.cells.lookup y = some b) → h.get? b = some o → h'.get? b = some o) : At env h' x v := by
  unfold At at H ⊢
  split at H
  · refine ex1_2 (H) fun m hn hm => ?_
    exact ⟨m, hn.at' fun o e => hk _ o (.inl rfl) e, hm⟩
  · obtain ⟨c, hc, o, ho, hd⟩ := H
    exact ⟨c, hc, o, hk c o (.inr ⟨x, hc⟩) ho, hd⟩
  · exact H.elim
theorem BdR.mono' {Mt' : Ms} {b : Bd} {v : Value} (H : BdR Mt pw h b v) (hk : ∀ b o, dat o → ¬ Mt.m b → h.get? b = some o → ¬ Mt'.m b ∧ h'.get? b = some o)
    (ho : ∀ a o, v = .ref a → b.own = true → Mt.m a → a ∉ pw → h.get? a = some o → Mt'.m a ∧ h'.get? a = some o) (hG : ∀ t z, Mt.G t = some z → Mt'.G t = some z := by exact fun _ _ e => e) : BdR Mt' pw h' b v := by
  unfold BdR at H ⊢
  split at H
  · rename_i hb
    refine ex4_6 (H) fun xs a vs n e1 e2 e3 e4 e5 e6 => ?_
    refine an2 (ho a _ e2 hb e3 e4 e5) fun q1 q2 => ?_
    exact ⟨xs, a, vs, n, e1, e2, q1, e4, q2, e6.mono' hk hG⟩
  · exact H.mono' hk hG
theorem BdR.mono {Mt' : Ms} {b : Bd} {v : Value} (H : BdR Mt pw h b v) (hk : ∀ b o, ¬ Mt.m b → h.get? b = some o → ¬ Mt'.m b ∧ h'.get? b = some o)
    (ho : ∀ a o, v = .ref a → b.own = true → Mt.m a → a ∉ pw → h.get? a = some o → Mt'.m a ∧ h'.get? a = some o) (hG : ∀ t z, Mt.G t = some z → Mt'.G t = some z := by exact fun _ _ e => e) : BdR Mt' pw h' b v := H.mono' (fun b o _ => hk b o) ho hG
theorem At.det {x : Str} {v v' : Value} (H : At env h x v) (H' : At env h x v') : v = v' := by
  unfold At at H H'
  split at H
  · rename_i hk
    rw [hk] at H'
    obtain ⟨m, ⟨o, es, ep, ho, hd, hs, hf⟩, hm⟩ := H
    obtain ⟨m', ⟨o', es', ep', ho', hd', hs', hf'⟩, hm'⟩ := H'
    rw [ho] at ho'; cases ho'
    rw [hd] at hd'; cases hd'
    rw [← hf x] at hm
    rw [← hf' x] at hm'
    rw [hm] at hm'; apply sm1 hm'; rfl
  · rename_i hk
    rw [hk] at H'
    obtain ⟨c, hc, o, ho, hd⟩ := H
    obtain ⟨c', hc', o', ho', hd'⟩ := H'
    rw [hc] at hc'; cases hc'
    rw [ho] at ho'; cases ho'
    rw [hd] at hd'; cases hd'; rfl
  · exact H.elim
theorem PileAt.mono' {Mt' : Ms} (H : PileAt Mt pw p h) (hk : ∀ b o, dat o → ¬ Mt.m b → h.get? b = some o → ¬ Mt'.m b ∧ h'.get? b = some o) (hx : ∀ x o, x ∈ pw → h.get? x = some o → h'.get? x = some o) (hG : ∀ t z, Mt.G t = some z → Mt'.G t = some z := by exact fun _ _ e => e) : PileAt Mt' pw p h' := by
  refine ⟨fun P hP => let ⟨ps, e, r⟩ := H.1 P hP; ⟨ps, hx P _ (H.2.tabs P hP) e, r⟩, ?_⟩
  replace H := H.2
  unfold PileAt₀ at H ⊢
  split at H
  · exact H
  · obtain ⟨x, d, vs, n, od, e1, e2, e3, e4, e5, e6, e7, e8, e9⟩ := H
    have hd := hk d _ (.inr (.inr (.inr e6))) e4 e5
    exact ⟨x, d, vs, n, od, e1, hx x _ (by rw [e1]; simp) e2, e3, hd.1, hd.2, e6, e7, e8, e9.mono' hk hG⟩
theorem PileAt.mono {Mt' : Ms} (H : PileAt Mt pw p h) (hk : ∀ b o, ¬ Mt.m b → h.get? b = some o → ¬ Mt'.m b ∧ h'.get? b = some o) (hx : ∀ x o, x ∈ pw → h.get? x = some o → h'.get? x = some o) (hG : ∀ t z, Mt.G t = some z → Mt'.G t = some z := by exact fun _ _ e => e) : PileAt Mt' pw p h' :=
  H.mono' (fun b o _ => hk b o) hx hG
theorem Inv.keeps (I : Inv h₀ os₀ Mt pw p s) {t : Nat} (hk : ∀ b o, s.heap.get? b = some o → h'.get? b = some o) (hle : s.toks ≤ t := by first | exact Nat.le_refl _ | exact Nat.le_succ _ | assumption | omega) : Inv h₀ os₀ Mt pw p { s with heap := h', toks := t } where
  base := fun b o e => hk b o (I.base b o e)
  mt := fun a ha => ⟨(I.mt a ha).1, let ⟨o, ho⟩ := (I.mt a ha).2; ⟨o, hk a o ho⟩⟩
  pws := I.pws
  pile := I.pile.mono (fun b o hb e => ⟨hb, hk b o e⟩) fun x o _ e => hk x o e
  os := I.os
  gens := I.gens
  tk := fun u z e => ⟨(I.tk u z e).1, Nat.lt_of_lt_of_le (I.tk u z e).2 hle⟩
  pos := Nat.lt_of_lt_of_le I.pos hle
theorem Inv.tok (I : Inv h₀ os₀ Mt pw p s) {t : Nat} (hle : s.toks ≤ t := by first | exact Nat.le_refl _ | exact Nat.le_succ _ | assumption | omega) : Inv h₀ os₀ Mt pw p { s with toks := t } := I.keeps (h' := s.heap) (fun _ _ e => e) hle
theorem Inv.mark_none (I : Inv h₀ os₀ Mt pw p s) {t : Nat} (h : s.toks ≤ t) : Mt.G t = none := by
  cases e : Mt.G t with
  | none => rfl
  | some z => exact absurd (I.tk t z e).2 (Nat.not_lt.mpr h)
theorem Inv.mark (I : Inv h₀ os₀ Mt pw p s) {t k : Nat} {z : Str} (hk : ∀ b o, s.heap.get? b = some o → h'.get? b = some o) (h1 : s.toks ≤ t) (h2 : t < k) : Inv h₀ os₀ (Mt.tok t z) pw p { s with heap := h', toks := k } where
  base := fun b o e => hk b o (I.base b o e)
  mt := fun a ha => ⟨(I.mt a ha).1, let ⟨o, ho⟩ := (I.mt a ha).2; ⟨o, hk a o ho⟩⟩
  pws := I.pws
  pile := I.pile.mono (fun b o hb e => ⟨hb, hk b o e⟩) (fun x o _ e => hk x o e) (Ms.tok_old (I.mark_none h1))
  os := I.os
  gens := I.gens
  tk := fun u y e => by
    unfold Ms.tok at e
    dsimp only at e
    split at e
    · subst_vars; exact ⟨Nat.lt_of_lt_of_le I.pos h1, h2⟩
    · have := I.tk u y e; exact ⟨this.1, Nat.lt_trans this.2 (Nat.lt_of_le_of_lt h1 h2)⟩
  pos := Nat.lt_of_le_of_lt (Nat.zero_le _) h2
theorem Kp.mark (I : Inv h₀ os₀ Mt pw p s) {t : Nat} {z : Str} (hk : ∀ b o, s.heap.get? b = some o → h'.get? b = some o) (h1 : s.toks ≤ t) : Kp pw Mt (Mt.tok t z) s.heap h' :=
  ⟨fun b o _ e => hk b o e, rfl, Ms.tok_old (I.mark_none h1)⟩
theorem Inv.fresh (I : Inv h₀ os₀ Mt pw p s) {a : Addr} (h : s.heap.get? a = none) : ¬ Mt.m a := fun m => by
  obtain ⟨_, o, ho⟩ := I.mt a m
  rw [h] at ho; cases ho
theorem fresh_size (h : Heap) : h.get? h.objs.size = none := by
  cases e : h.get? h.objs.size with
  | none => rfl
  | some o => exact absurd (Heap.lt_size e) (Nat.lt_irrefl _)
theorem Fm.cell (F : Fm env sc me Mt pw h) : ∀ x, env.kindOf x = some .cell → sc.names.lookup x ≠ none → ∃ c v, env.cells.lookup x = some c ∧ h.IsCell c v ∧ Mt.m c ∧ c ∉ pw := fun x h1 h2 =>
  let ⟨c, hc⟩ := F.cellIs x h1 h2; let ⟨a, b, v, hv⟩ := F.cellAll x c hc; ⟨c, v, hc, hv, a, b⟩
theorem Fm.cellPw (F : Fm env sc me Mt pw h) : ∀ x c, env.cells.lookup x = some c → c ∉ pw := fun x c hc => (F.cellAll x c hc).2.1
theorem Fm.cellMt (F : Fm env sc me Mt pw h) : ∀ x c, env.cells.lookup x = some c → Mt.m c := fun x c hc => (F.cellAll x c hc).1
theorem Fm.kp (F : Fm env sc me Mt pw h) (hp : ∀ a ∈ pw, Mt.m a) (hk : Kp pw Mt Mt' h h') : Fm env sc me Mt' pw h' where
  kind := F.kind
  glob := F.glob
  blt := F.blt
  names := F.names
  ns := let ⟨m, hm⟩ := F.ns; ⟨m, hm.at' fun o e => hk.keep _ o F.nsPw e⟩
  nsMt := hk.m ▸ F.nsMt
  nsPw := F.nsPw
  cellIs := F.cellIs
  cellAll := fun x c hc => let ⟨a, b, v, o, ho, hd⟩ := F.cellAll x c hc; ⟨hk.m ▸ a, b, v, o, hk.keep c o b ho, hd⟩
  inj := F.inj
  vars := fun x b hx hb => by
    refine ex1_2 (F.vars x b hx hb) fun v hv hr => ?_
    refine ⟨v, hv.kp fun b o hb e => hk.keep b o ?_ e, hr.mono (fun b o hb e => ⟨hk.m ▸ hb, hk.keep b o (fun q => hb (hp b q)) e⟩) (fun a o _ _ ha hq e => ⟨hk.m ▸ ha, hk.keep a o hq e⟩) hk.G⟩
    rcases hb with rfl | ⟨y, hy⟩
    · exact F.nsPw
    · exact F.cellPw y b hy
  sep := fun x y bx by' a hx hy ex ey ox oy ax ay => by
    refine ex1_2 (F.vars x bx hx ex) fun v hv _ => ?_
    refine ex1_2 (F.vars y by' hy ey) fun u hu _ => ?_
    have q : ∀ b o, b = env.locals ∨ (∃ y, env.cells.lookup y = some b) → h.get? b = some o → h'.get? b = some o := fun b o hb e => hk.keep b o (by
      rcases hb with rfl | ⟨y, hy⟩
      · exact F.nsPw
      · exact F.cellPw y b hy) e
    have e1 := (hv.kp q).det ax
    have e2 := (hu.kp q).det ay
    subst e1 e2
    exact F.sep x y bx by' a hx hy ex ey ox oy hv hu
end
end Mine
end
section
set_option genSizeOf false
set_option genSizeOfSpec false
namespace Mine
open PySem PyProof.Rows PyProof.V
noncomputable def Rm (A : Around) (n : Nat) : Prop := A.handled = none ∧ A.depth + n + 20 < recursionLimit ∧ A.units + 8 * n + 80 < cLine
section
variable (w : World) (h₀ : Heap) (os₀ : OsState)
noncomputable def OkV (A : Around) (Mt : Ms) (pw : List Addr) (t : Sem Value) (s : Shared) (v : V) (p' : P) : Prop :=
  ∀ (E : Value → Shared → Prop) (Q : Value → Shared → Prop), (∀ {Mt' : Ms} val s', Inv h₀ os₀ Mt' pw p' s' → Kp pw Mt Mt' s.heap s'.heap → VR Mt' pw s'.heap v val → Q val s') → wpAny (model prog w) A t Q E s
noncomputable def OkB (A : Around) (Mt : Ms) (pw : List Addr) (t : Sem Bool) (s : Shared) (b : Bool) (p' : P) : Prop :=
  ∀ (E : Value → Shared → Prop) (Q : Bool → Shared → Prop), (∀ {Mt' : Ms} s', Inv h₀ os₀ Mt' pw p' s' → Kp pw Mt Mt' s.heap s'.heap → Q b s') → wpAny (model prog w) A t Q E s
noncomputable def OkL (A : Around) (Mt : Ms) (pw : List Addr) (t : Sem (List Value)) (s : Shared) (l : List V) (p' : P) : Prop :=
  ∀ (E : Value → Shared → Prop) (Q : List Value → Shared → Prop), (∀ {Mt' : Ms} vs s', Inv h₀ os₀ Mt' pw p' s' → Kp pw Mt Mt' s.heap s'.heap → VRs Mt' pw s'.heap l vs → Q vs s') → wpAny (model prog w) A t Q E s
end
section
variable {w : World} {h₀ : Heap} {os₀ : OsState} {A : Around} {Mt Mt' : Ms} {pw : List Addr} {p p' : P} {s s' : Shared} {x y v : V} {a b : Value} {h h' : Heap}
theorem kp_ok (hp : ∀ a ∈ pw, Mt.m a) (hk : Kp pw Mt Mt' h h') : ∀ b o, ¬ Mt.m b → h.get? b = some o → ¬ Mt'.m b ∧ h'.get? b = some o := fun b o hb e => ⟨hk.m ▸ hb, hk.keep b o (fun q => hb (hp b q)) e⟩
theorem VR.kp (H : VR Mt pw h x a) (hp : ∀ a ∈ pw, Mt.m a) (hk : Kp pw Mt Mt' h h') : VR Mt' pw h' x a := H.mono (kp_ok hp hk) hk.G
theorem VRs.kp {xs : List V} {vs : List Value} (H : VRs Mt pw h xs vs) (hp : ∀ a ∈ pw, Mt.m a) (hk : Kp pw Mt Mt' h h') : VRs Mt' pw h' xs vs := H.mono (kp_ok hp hk) hk.G
theorem end_tok (I : Inv h₀ os₀ Mt pw p s) {Q : Value → Shared → Prop} {val : Value} {t : Nat} (hQ : ∀ {Mt' : Ms} val s', Inv h₀ os₀ Mt' pw p s' → Kp pw Mt Mt' s.heap s'.heap → VR Mt' pw s'.heap v val → Q val s')
    (hv : VR Mt pw s.heap v val) (hle : s.toks ≤ t := by first | exact Nat.le_refl _ | exact Nat.le_succ _ | assumption | omega) : Q val { s with toks := t } := hQ _ _ (I.tok hle) (Kp.refl _ _) hv
theorem end_str (I : Inv h₀ os₀ Mt pw p s) {Q : Value → Shared → Prop} {t k : Nat} {z : Str} (hQ : ∀ {Mt' : Ms} val s', Inv h₀ os₀ Mt' pw p s' → Kp pw Mt Mt' s.heap s'.heap → VR Mt' pw s'.heap (.str z) val → Q val s')
    (h1 : s.toks ≤ t := by first | exact Nat.le_refl _ | assumption) (h2 : t < k := by first | exact Nat.lt_succ_self _ | assumption) : Q (.str z t) { s with toks := k } :=
  hQ _ _ (I.mark (h' := s.heap) (fun _ _ e => e) h1 h2) (Kp.mark I (fun _ _ e => e) h1) (.str _ _ Ms.tok_self)
theorem end_now (I : Inv h₀ os₀ Mt pw p s) {Q : Value → Shared → Prop} {val : Value} (hQ : ∀ {Mt' : Ms} val s', Inv h₀ os₀ Mt' pw p s' → Kp pw Mt Mt' s.heap s'.heap → VR Mt' pw s'.heap v val → Q val s')
    (hv : VR Mt pw s.heap v val) : Q val s := hQ _ _ I (Kp.refl _ _) hv
theorem end_keeps (I : Inv h₀ os₀ Mt pw p s) {Q : Value → Shared → Prop} {val : Value} {t : Nat} {h' : Heap} (hQ : ∀ {Mt' : Ms} val s', Inv h₀ os₀ Mt' pw p s' → Kp pw Mt Mt' s.heap s'.heap → VR Mt' pw s'.heap v val → Q val s')
    (hk : ∀ b o, s.heap.get? b = some o → h'.get? b = some o) (hv : VR Mt pw h' v val) (hle : s.toks ≤ t := by first | exact Nat.le_refl _ | exact Nat.le_succ _ | assumption | omega) : Q val { s with heap := h', toks := t } := hQ _ _ (I.keeps hk hle) (Kp.of_keeps hk) hv
theorem cap_line {n : Nat} (h : n ≤ cap) : n ≤ sizeLine := Nat.le_trans h (by decide)
theorem okL_eq {α : Type} {l r : List α} (h : okL l = some r) : r = l ∧ l.length ≤ cap := by
  unfold okL at h
  split at h
  · cases h; exact ⟨rfl, by assumption⟩
  · cases h
theorem okS_eq {l r : Str} (h : okS l = some r) : r = l ∧ l.cps.size ≤ cap := by
  unfold okS at h
  split at h
  · cases h; exact ⟨rfl, by assumption⟩
  · cases h
theorem okSm {f : Str → V} {l : Str} {r : V} {C : V → Prop} (h : (okS l).map f = some r) (k : l.cps.size ≤ cap → C (f l)) : C r := by
  apply omapC h
  intro a ha
  rw [(okS_eq ha).1]; exact k (okS_eq ha).2
theorem okLm {l : List V} {f : List V → V} {r : V} {C : V → Prop} (h : (okL l).map f = some r) (k : l.length ≤ cap → C (f l)) : C r := by
  apply omapC h
  intro a ha
  rw [(okL_eq ha).1]; exact k (okL_eq ha).2
theorem new_list (I : Inv h₀ os₀ Mt pw p s) {xs : List V} {vs : List Value} (R : VRs Mt pw s.heap xs vs) {Q : Value → Shared → Prop} (hQ : ∀ {Mt' : Ms} val s', Inv h₀ os₀ Mt' pw p s' → Kp pw Mt Mt' s.heap s'.heap → VR Mt' pw s'.heap (.lst xs) val → Q val s') {arr : Array Value} (ha : arr = vs.toArray) :
    Q (.ref s.heap.objs.size) { s with heap := s.heap.push { cls := .type "list", data := .seq arr } } := by
  subst ha
  have hf := I.fresh (fresh_size s.heap)
  refine hQ _ _ (I.keeps (t := s.toks) fun b o e => Heap.get?_push_of_some _ e) (Kp.push _ _ _) (VRs.lst (n := 0) ?_ hf (Heap.get?_push_size _ rfl))
  exact R.mono fun b o hb e => ⟨hb, Heap.get?_push_of_some _ e⟩
theorem new_tup (I : Inv h₀ os₀ Mt pw p s) {xs : List V} {vs : List Value} (R : VRs Mt pw s.heap xs vs) {Q : Value → Shared → Prop} (hQ : ∀ {Mt' : Ms} val s', Inv h₀ os₀ Mt' pw p s' → Kp pw Mt Mt' s.heap s'.heap → VR Mt' pw s'.heap (.tup xs) val → Q val s') {arr : Array Value} (ha : arr = vs.toArray) :
    Q (.ref s.heap.objs.size) { s with heap := s.heap.push { cls := .type "tuple", data := .seq arr } } := by
  subst ha
  have hf := I.fresh (fresh_size s.heap)
  refine hQ _ _ (I.keeps (t := s.toks) fun b o e => Heap.get?_push_of_some _ e) (Kp.push _ _ _) (VRs.tup (n := 0) ?_ hf (Heap.get?_push_size _ rfl))
  exact R.mono fun b o hb e => ⟨hb, Heap.get?_push_of_some _ e⟩
theorem noPylong (a : Int) {b : Int} (h1 : 0 < b) (h2 : b ≤ 1000) : Builtin.divisionGoesByPylong a b = false := by
  have q : b.natAbs.log2 < 10 := (Nat.log2_lt (by omega)).mpr (by omega)
  have hb : (b == 0) = false := by simp; lia
  have q3 : ¬ (b.natAbs.log2 / 30 + 1 > 300) := by lia
  unfold Builtin.divisionGoesByPylong
  simp only [hb, Bool.false_eq_true, if_false, decide_eq_false q3, Bool.false_and]
theorem str_len (a b : Str) : a.length + b.length = (a ++ b).cps.size := by
  show a.cps.size + b.cps.size = (a.cps ++ b.cps).size
  rw [Array.size_append]
theorem empty_left {a b : Str} (h : a.length = 0) : a ++ b = b := by
  have h0 : a.cps = #[] := Array.eq_empty_of_size_eq_zero h
  show Str.append a b = b
  cases b; simp [Str.append, h0]
theorem empty_right {a b : Str} (h : b.length = 0) : a ++ b = a := by
  have h0 : b.cps = #[] := Array.eq_empty_of_size_eq_zero h
  show Str.append a b = a
  cases a; simp [Str.append, h0]
theorem add_marked {x y : Str} {t u : Tok} {E : Value → Shared → Prop} {Q : Value → Shared → Prop} (h1 : x.length = 0 → Q (.str y u) s) (h2 : y.length = 0 → Q (.str x t) s) (h3 : 0 < x.length → 0 < y.length → Q (.str (x ++ y) s.toks) { s with toks := s.toks + 1 })
    (hsz : x.length + y.length ≤ sizeLine) : wpAny (model prog w) A (binaryOp .Add (.str x t) (.str y u)) Q E s := by
  refine binaryOp_concat (typeIs_str s x t) (typeIs_str s y u) PyProof.Rows.noFill_str_add PyProof.Rows.seq_str_add ?_
  refine wpAny_call_entry slot_str_add (typeIs_str s x t) entry_str_add ?_ (args_str_add _ _)
  show wpAny _ _ (do
    if (true && x.length == 0) = true then (do rule "str.__add__.left-empty"; ret (.str y u)) else
    if (true && y.length == 0) = true then (do rule "str.__add__.right-empty"; ret (.str x t)) else
    retStr (x ++ y)) _ _ s
  by_cases hx : x.length = 0
  · rw [if_pos (by simpa using hx)]
    exact wpAny_bind (wpAny_rule (wpAny_pure ⟨_, rfl, h1 hx⟩))
  · rw [if_neg (by simpa using hx)]
    by_cases hy : y.length = 0
    · rw [if_pos (by simpa using hy)]
      exact wpAny_bind (wpAny_rule (wpAny_pure ⟨_, rfl, h2 hy⟩))
    · rw [if_neg (by simpa using hy)]
      exact wpAny_bind (wpAny_mkStr (wpAny_pure ⟨_, rfl, h3 (Nat.pos_of_ne_zero hx) (Nat.pos_of_ne_zero hy)⟩) (by rw [strLen_append]; exact hsz))
theorem bin_ok {op : Operator} (I : Inv h₀ os₀ Mt pw p s) (e : binV op x y = some v) (ha : VR Mt pw s.heap x a) (hb : VR Mt pw s.heap y b) : OkV w h₀ os₀ A Mt pw (binaryOp op a b) s v p := by
  cases op with
  | Add =>
    cases x with
    | int i =>
      cases y with
      | int j =>
        obtain ⟨t, rfl⟩ := ha.int'; obtain ⟨u, rfl⟩ := hb.int'
        apply sm1 e
        exact fun E Q hQ => add_int (end_tok I hQ (.int _ _))
      | _ => exact nn e
    | str x =>
      cases y with
      | str y =>
        obtain ⟨t, rfl, ht⟩ := ha.str'; obtain ⟨u, rfl, hu⟩ := hb.str'
        apply okSm (show (okS (x ++ y)).map V.str = some v from e)
        intro hc E Q hQ
        refine add_marked (fun h0 => ?_) (fun h0 => ?_) (fun _ _ => end_str I hQ) (by rw [str_len]; exact cap_line hc)
        · exact end_now I hQ (by rw [empty_left h0]; exact .str _ _ hu)
        · exact end_now I hQ (by rw [empty_right h0]; exact .str _ _ ht)
      | _ => exact nn e
    | ustr x =>
      cases y with
      | str y =>
        obtain ⟨t, rfl⟩ := ha.ustr'; obtain ⟨u, rfl, hu⟩ := hb.str'
        refine oif (show (if 0 < x.length ∧ 0 < y.length then (okS (x ++ y)).map V.str else Option.none) = some v from e) fun hp e => ?_
        apply okSm e
        intro hc E Q hQ
        exact add_marked (fun h0 => absurd hp.1 (by rw [h0]; exact Nat.lt_irrefl _)) (fun h0 => absurd hp.2 (by rw [h0]; exact Nat.lt_irrefl _)) (fun _ _ => end_str I hQ) (by rw [str_len]; exact cap_line hc)
      | _ => exact nn e
    | lst x =>
      cases y with
      | lst y =>
        refine ex3_5 (ha.lst') fun a₁ vs n q_333 h1 h2 h3 h4 => ?_
        subst q_333
        refine ex3_5 (hb.lst') fun b₁ us m q_343 k1 k2 k3 k4 => ?_
        subst q_343
        apply okLm (show (okL (x ++ y)).map V.lst = some v from e)
        intro hc E Q hQ
        refine P.add_list h2 k2 ?_ ?_
        · exact new_list I ((VRs.of_lst h3 h4).append (VRs.of_lst k3 k4)) hQ (by simp)
        · have := cap_line hc
          rw [List.length_append] at this
          rw [h3, k3]; exact this
      | _ => exact nn e
    | _ => exact nn e
  | Sub =>
    cases x with
    | int i =>
      cases y with
      | int j =>
        obtain ⟨t, rfl⟩ := ha.int'; obtain ⟨u, rfl⟩ := hb.int'
        apply sm1 e
        exact fun E Q hQ => sub_int (end_tok I hQ (.int _ _))
      | _ => exact nn e
    | _ => exact nn e
  | Mod =>
    cases x with
    | int i =>
      cases y with
      | int j =>
        obtain ⟨t, rfl⟩ := ha.int'; obtain ⟨u, rfl⟩ := hb.int'
        refine oif (show (if 0 < j then some (V.int (Int.fmod i j)) else Option.none) = some v from e) fun hp e => ?_
        apply sm1 e
        exact fun E Q hQ => mod_int' (Int.ne_of_gt hp) (end_tok I hQ (.int _ _))
      | _ => exact nn e
    | _ => exact nn e
  | FloorDiv =>
    cases x with
    | int i =>
      cases y with
      | int j =>
        obtain ⟨t, rfl⟩ := ha.int'; obtain ⟨u, rfl⟩ := hb.int'
        refine oif (show (if 0 < j then (if j ≤ 1000 then some (V.int (Int.fdiv i j)) else Option.none) else Option.none) = some v from e) fun hp e => ?_
        refine oif e fun hsm e => ?_
        apply sm1 e
        exact fun E Q hQ => floordiv_int (Int.ne_of_gt hp) (end_tok I hQ (.int _ _)) (.inl (noPylong _ hp hsm))
      | _ => exact nn e
    | _ => exact nn e
  | _ => exact nn e
end
end Mine
end
section
set_option genSizeOf false
set_option genSizeOfSpec false
namespace Mine
open PySem PyProof.Rows PyProof.V PySem.SeqAt PySem.Spec
section
variable {w : World} {h₀ : Heap} {os₀ : OsState} {A : Around} {Mt Mt' : Ms} {pw : List Addr} {p p' : P} {s s' : Shared} {x y v : V} {a b : Value} {h h' : Heap}
theorem shaped_strs {l : List Str} (h : l.all okC = true) (tup : Bool) : shaped (if tup then .tuple (l.map .str) else .list (l.map .str)) = true := by
  have h1 := depthAll_strs' l
  have h2 : PyData.canLayAll0 (l.map .str) = true := by rw [canLayAll_strs']; exact h
  cases tup with
  | true =>
    show (PyData.canLay0 (.tuple (l.map .str)) && decide (PyData.depth (.tuple (l.map .str)) ≤ 64)) = true
    rw [Bool.and_eq_true]
    refine ⟨by simp only [PyData.canLay0]; exact h2, decide_eq_true ?_⟩
    simp only [PyData.depth]; omega
  | false =>
    show (PyData.canLay0 (.list (l.map .str)) && decide (PyData.depth (.list (l.map .str)) ≤ 64)) = true
    rw [Bool.and_eq_true]
    refine ⟨by simp only [PyData.canLay0]; exact h2, decide_eq_true ?_⟩
    simp only [PyData.depth]; omega
theorem noMix_strs : ∀ l r : List Str, noMixAll (l.map PyData.str) (r.map PyData.str) = true
  | [], [] => by simp [noMixAll]
  | [], _ :: _ => by simp [noMixAll]
  | _ :: _, [] => by simp [noMixAll]
  | _ :: r, _ :: q => by simp [noMixAll, noMix, noMix_strs r q]
theorem same_strs : ∀ l r : List Str, PySem.Spec.sameAll (l.map PyData.str) (r.map PyData.str) = decide (l = r)
  | [], [] => by simp [PySem.Spec.sameAll]
  | [], _ :: _ => by simp [PySem.Spec.sameAll]
  | _ :: _, [] => by simp [PySem.Spec.sameAll]
  | n :: r, k :: q => by
    simp only [List.map_cons, PySem.Spec.sameAll, PySem.Spec.same, same_strs r q]
    by_cases h : n = k <;> simp [h]
theorem strs_list {xs : List V} {l : List Str} (H : VR Mt pw h (.lst xs) a) (e : strs? xs = some l) : Reads h a (.list (l.map .str)) (match a with | .ref q => [q] | _ => []) := by
  refine ex3_5 (H.lst') fun a₁ vs n q_13 h1 h2 h3 h4 => ?_
  subst q_13
  have := VRs.strs (VRs.of_lst h3 h4) e
  exact Reads.list h2 rfl rfl (by simpa using this.reads h)
theorem ints_list {xs : List V} {l : List Int} (H : VR Mt pw h (.lst xs) a) (e : ints? xs = some l) : Reads h a (.list (l.map .int)) (match a with | .ref q => [q] | _ => []) := by
  refine ex3_5 (H.lst') fun a₁ vs n q_13 h1 h2 h3 h4 => ?_
  subst q_13
  have := VRs.ints (VRs.of_lst h3 h4) e
  exact Reads.list h2 rfl rfl (by simpa using PySem.W.readsAll_of_ints this)
theorem strs_tup {xs : List V} {l : List Str} (H : VR Mt pw h (.tup xs) a) (e : strs? xs = some l) : Reads h a (.tuple (l.map .str)) [] := by
  obtain ⟨a₁, vs, n, rfl, h1, h2, h3, h4⟩ := H.tup'
  have := VRs.strs (VRs.of_lst h3 h4) e
  exact Reads.tuple h2 rfl rfl (by simpa using this.reads h)
theorem eqS_eq {l r : List Str} {b : Bool} (e : eqS l r = some b) : l.all okC = true ∧ r.all okC = true ∧ b = decide (l = r) := by
  unfold eqS at e
  split at e
  · rename_i h
    rw [Bool.and_eq_true] at h
    cases e; exact ⟨h.1, h.2, rfl⟩
  · cases e
noncomputable def eqLst (a b : Option (List Str)) (c d : Option (List Int)) : Option Bool := match a, b with
  | some a, some b => eqS a b
  | _, _ => match c, d with
    | some a, some b => some (decide (a = b))
    | _, _ => Option.none
noncomputable def eqTup (a b : Option (List Str)) : Option Bool := match a, b with
  | some a, some b => eqS a b
  | _, _ => Option.none
theorem eqLst_inv : ∀ {a b : Option (List Str)} {c d : Option (List Int)} {r : Bool}, eqLst a b c d = some r → (∃ l m, a = some l ∧ b = some m ∧ eqS l m = some r) ∨ ∃ l m, c = some l ∧ d = some m ∧ r = decide (l = m)
  | some l, some m, _, _, _, e => .inl ⟨l, m, rfl, rfl, e⟩
  | none, _, some l, some m, _, e => .inr ⟨l, m, rfl, rfl, (Option.some.inj e).symm⟩
  | some _, none, some l, some m, _, e => .inr ⟨l, m, rfl, rfl, (Option.some.inj e).symm⟩
  | none, _, none, _, _, e => nn e
  | none, _, some _, none, _, e => nn e
  | some _, none, none, _, _, e => nn e
  | some _, none, some _, none, _, e => nn e
theorem eqTup_inv : ∀ {a b : Option (List Str)} {r : Bool}, eqTup a b = some r → ∃ l m, a = some l ∧ b = some m ∧ eqS l m = some r
  | some l, some m, _, e => ⟨l, m, rfl, rfl, e⟩
  | none, _, _, e => nn e
  | some _, none, _, e => nn e
theorem eq_ok {r : Bool} (e : eqV x y = some r) (ha : VR Mt pw s.heap x a) (hb : VR Mt pw s.heap y b) (hu : A.units + 64 < cLine) :
    (∀ (E : Value → Shared → Prop) (Q : Value → Shared → Prop), Q (.bool r) s → wpAny (model prog w) A (compareOp .Eq a b) Q E s) ∧
    (∀ (E : Value → Shared → Prop) (Q : Value → Shared → Prop), Q (.bool (!r)) s → wpAny (model prog w) A (compareOp .NotEq a b) Q E s) := by
  cases x with
  | str x =>
    cases y with
    | str y =>
      obtain ⟨t, rfl, _⟩ := ha.str'; obtain ⟨u, rfl, _⟩ := hb.str'
      have e : some (decide (x = y)) = some r := e
      apply sm1 e
      exact ⟨fun E Q h => eq_str h, fun E Q h => ne_str h⟩
    | _ => exact nn e
  | ustr x =>
    cases y with
    | str y =>
      obtain ⟨t, rfl⟩ := ha.ustr'; obtain ⟨u, rfl, _⟩ := hb.str'
      have e : some (decide (x = y)) = some r := e
      apply sm1 e
      exact ⟨fun E Q h => eq_str h, fun E Q h => ne_str h⟩
    | _ => exact nn e
  | int x =>
    cases y with
    | int y =>
      obtain ⟨t, rfl⟩ := ha.int'; obtain ⟨u, rfl⟩ := hb.int'
      have e : some (decide (x = y)) = some r := e
      apply sm1 e
      exact ⟨fun E Q h => eq_int h, fun E Q h => ne_int h⟩
    | _ => exact nn e
  | lst xs =>
    cases y with
    | lst ys =>
      have e : eqLst (strs? xs) (strs? ys) (ints? xs) (ints? ys) = some r := e
      rcases eqLst_inv e with ⟨l, m, hl, hm, e⟩ | ⟨l, m, hl, hm, e⟩
      · refine an3 (eqS_eq e) fun c1 c2 q_332 => ?_
        subst q_332
        have q1 := strs_list ha hl
        have q2 := strs_list hb hm
        have q3 : PySem.Spec.same (.list (l.map .str)) (.list (m.map .str)) = decide (l = m) := by simp only [PySem.Spec.same]; exact same_strs l m
        have q4 : noMix (.list (l.map .str)) (.list (m.map .str)) = true := by simp only [noMix]; exact noMix_strs l m
        rw [← q3]
        exact ⟨fun E Q h => eq_dataH_same q1 q2 (shaped_strs c1 false) (shaped_strs c2 false) hu q4 h, fun E Q h => ne_dataH_same q1 q2 (shaped_strs c1 false) (shaped_strs c2 false) hu q4 h⟩
      · have q1 := ints_list ha hl
        have q2 := ints_list hb hm
        have q3 : PySem.Spec.same (.list (l.map .int)) (.list (m.map .int)) = decide (l = m) := by simp only [PySem.Spec.same]; exact PySem.W.same_ints l m
        have q4 : noMix (.list (l.map .int)) (.list (m.map .int)) = true := by simp only [noMix]; exact PySem.W.noMix_ints l m
        rw [e, ← q3]
        exact ⟨fun E Q h => eq_dataH_same q1 q2 (PySem.W.shaped_ints l) (PySem.W.shaped_ints m) hu q4 h, fun E Q h => ne_dataH_same q1 q2 (PySem.W.shaped_ints l) (PySem.W.shaped_ints m) hu q4 h⟩
    | _ => exact nn e
  | tup xs =>
    cases y with
    | tup ys =>
      refine ex2_3 (eqTup_inv (show eqTup (strs? xs) (strs? ys) = some r from e)) fun l m hl hm e => ?_
      refine an3 (eqS_eq e) fun c1 c2 q_512 => ?_
      subst q_512
      have q1 := strs_tup ha hl
      have q2 := strs_tup hb hm
      have q3 : PySem.Spec.same (.tuple (l.map .str)) (.tuple (m.map .str)) = decide (l = m) := by simp only [PySem.Spec.same]; exact same_strs l m
      have q4 : noMix (.tuple (l.map .str)) (.tuple (m.map .str)) = true := by simp only [noMix]; exact noMix_strs l m
      rw [← q3]
      exact ⟨fun E Q h => eq_dataH_same q1 q2 (shaped_strs c1 true) (shaped_strs c2 true) hu q4 h, fun E Q h => ne_dataH_same q1 q2 (shaped_strs c1 true) (shaped_strs c2 true) hu q4 h⟩
    | _ => exact nn e
  | _ => exact nn e
theorem is_ok {r : Bool} (e : isV x y = some r) (ha : VR Mt pw s.heap x a) (hb : VR Mt pw s.heap y b) :
    (∀ (E : Value → Shared → Prop) (Q : Value → Shared → Prop), Q (.bool r) s → wpAny (model prog w) A (compareOp .Is a b) Q E s) ∧
    (∀ (E : Value → Shared → Prop) (Q : Value → Shared → Prop), Q (.bool (!r)) s → wpAny (model prog w) A (compareOp .IsNot a b) Q E s) := by
  cases x with
  | none =>
    have := ha.none'; subst this
    cases y with
    | none =>
      have := hb.none'; subst this
      apply sm1 e
      exact ⟨fun E Q h => is_none_none h, fun E Q h => isnot_none_none h⟩
    | bool b =>
      have := hb.bool'; subst this
      apply sm1 e
      exact ⟨fun E Q h => wpAny_pure h, fun E Q h => wpAny_pure h⟩
    | _ => exact nn e
  | bool a =>
    have := ha.bool'; subst this
    cases y with
    | bool b =>
      have := hb.bool'; subst this
      apply sm1 e
      exact ⟨fun E Q h => is_bool h, fun E Q h => isnot_bool h⟩
    | none =>
      have := hb.none'; subst this
      apply sm1 e
      exact ⟨fun E Q h => is_none_ne (by simp) h, fun E Q h => isnot_none_ne (by simp) h⟩
    | _ => exact nn e
  | _ => exact nn e
theorem anyStr {x : Str} : ∀ {vs : List Value} {l : List Str}, StrsAre vs l → vs.any (fun y => match y with | .str z _ => z.cps.toList == x.cps.toList | _ => false) = decide (x ∈ l)
  | _, _, .nil => by simp
  | _, _, .cons z t r => by
    rw [List.any_cons, anyStr r]
    by_cases h : x = z
    · subst h; simp
    · have : ¬ z.cps = x.cps := fun e => h (by
        obtain ⟨a⟩ := x; obtain ⟨b⟩ := z
        exact congrArg Str.mk e.symm)
      simp [this, h]
theorem cmp_ok {op : CmpOp} {r : Bool} (e : cmpV op x y = some r) (ha : VR Mt pw s.heap x a) (hb : VR Mt pw s.heap y b) (hu : A.units + 64 < cLine)
    (E : Value → Shared → Prop) (Q : Value → Shared → Prop) (hQ : Q (.bool r) s) : wpAny (model prog w) A (compareOp op a b) Q E s := by
  cases op with
  | Eq => exact (eq_ok e ha hb hu).1 E Q hQ
  | NotEq =>
    refine omap (show (eqV x y).map not = some r from e) fun z hz q => ?_
    subst q
    exact (eq_ok hz ha hb hu).2 E Q hQ
  | Is => exact (is_ok e ha hb).1 E Q hQ
  | IsNot =>
    refine omap (show (isV x y).map not = some r from e) fun z hz q => ?_
    subst q
    exact (is_ok hz ha hb).2 E Q hQ
  | Gt =>
    cases x with
    | int x =>
      cases y with
      | int y =>
        obtain ⟨t, rfl⟩ := ha.int'; obtain ⟨u, rfl⟩ := hb.int'
        have e : some (decide (y < x)) = some r := e
        exact gt_int (by rw [Option.some.inj e]; exact hQ)
      | _ => exact nn e
    | _ => exact nn e
  | GtE =>
    cases x with
    | int x =>
      cases y with
      | int y =>
        obtain ⟨t, rfl⟩ := ha.int'; obtain ⟨u, rfl⟩ := hb.int'
        have e : some (decide (y ≤ x)) = some r := e
        exact ge_int (by rw [Option.some.inj e]; exact hQ)
      | _ => exact nn e
    | str x =>
      cases y with
      | str y =>
        obtain ⟨t, rfl, _⟩ := ha.str'; obtain ⟨u, rfl, _⟩ := hb.str'
        have e : some (leStr y x) = some r := e
        rw [← Option.some.inj e] at hQ
        exact P.ge_str hQ
      | _ => exact nn e
    | _ => exact nn e
  | In =>
    cases y with
    | lst xs =>
      cases x with
      | str z =>
        obtain ⟨t, rfl, _⟩ := ha.str'
        obtain ⟨b₁, vs, n, rfl, k1, k2, k3, k4⟩ := hb.lst'
        refine omap (show (strs? xs).map (fun l => decide (z ∈ l)) = some r from e) fun l hl q => ?_
        have hS := VRs.strs (VRs.of_lst k3 k4) hl
        refine SeqRoads2.in_list (fun y => match y with | .str q _ => q.cps.toList == z.cps.toList | _ => false) (fun y hy => ?_) k2 ?_
        · obtain ⟨q, u, rfl⟩ := hS.all y (by simpa using hy)
          exact SeqRoads2.EqGives.str q z u t
        · have : vs.any (fun y => match y with | .str q _ => q.cps.toList == z.cps.toList | _ => false) = decide (z ∈ l) := by
            rw [← anyStr hS, Array.any_toList]
          rw [this, q]; exact hQ
      | _ => exact nn e
    | _ => exact nn e
  | _ => exact nn e
end
end Mine
end
section
set_option genSizeOf false
set_option genSizeOfSpec false
namespace Mine
open PySem PyProof.Rows PyProof.V PySem.SeqAt PySem.Spec
section
variable {w : World} {h₀ : Heap} {os₀ : OsState} {A : Around} {Mt Mt' : Ms} {pw : List Addr} {p p' : P} {s s' : Shared} {x y v : V} {a b : Value} {h h' : Heap}
noncomputable def notSlice : Expr → Bool
  | .Slice .. => false
  | _ => true
theorem subscripted_idx {slice : Expr} (h : notSlice slice = true) (o i : Value) : subscripted slice false o i = operate [o, i] (getItem o i) := by
  cases slice with
  | Slice => exact nf h
  | _ => rfl
theorem subscripted_cut {lo hi : Option Expr} {p : Pos} (o i : Value) : subscripted (.Slice lo hi none p) false o i = operate [i, o] (getItem o i) := rfl
theorem subscripted_step {lo hi : Option Expr} {st : Expr} {p : Pos} (o i : Value) : subscripted (.Slice lo hi (some st) p) false o i = operate [o, i] (getItem o i) := rfl
theorem lookup_list_getitem : typeLookup (.type "list") "__getitem__" = pure (some (.builtin "list.__getitem__")) := slot_list_getitem.lookup
theorem lookup_str_getitem : typeLookup (.type "str") "__getitem__" = pure (some (.builtin "str.__getitem__")) := by rw [typeLookup_type, builtinLookup_eq_fast]; kernel_rfl
theorem place_idx {n : Nat} {i : Int} {j : Nat} (e : place n i = some j) : seqIndex? i n = some j ∧ j < n ∧ ((0 ≤ i ∧ i < n ∧ i.toNat = j) ∨ (i < 0 ∧ -(n : Int) ≤ i ∧ (i + n).toNat = j)) := by
  unfold place at e
  unfold seqIndex?
  split at e
  · rename_i h0
    split at e
    · apply sm1 e
      rename_i h1
      have : ¬ i < 0 := by lia
      refine ⟨?_, by lia, .inl ⟨h0, h1, rfl⟩⟩
      simp only [this, if_false]
      rw [if_pos (by simp; lia)]
    · exact nn e
  · rename_i h0
    split at e
    · apply sm1 e
      have : i < 0 := by lia
      refine ⟨?_, by lia, .inr ⟨this, by lia, rfl⟩⟩
      simp only [this, if_true]
      rw [if_pos (by simp; lia)]
    · exact nn e
theorem typeIs_str (s : Shared) (x : Str) (t : Tok) : s.TypeIs (.str x t) "str" := rfl
theorem place_idx' {n : Nat} {i : Int} {j : Nat} (e : place n i = some j) : j < n ∧ ((0 ≤ i ∧ i < n ∧ i.toNat = j) ∨ (i < 0 ∧ -(n : Int) ≤ i ∧ (i + n).toNat = j)) := (place_idx e).2
theorem lt_line {k : Int} {n : Nat} (h : k < n) (hc : n ≤ cap) : k < 2 ^ 63 := Int.lt_of_lt_of_le h (Int.le_trans (Int.ofNat_le.mpr hc) (by decide))
theorem neg_line {k : Int} {n : Nat} (h : -(n : Int) ≤ k) (hc : n ≤ cap) : -2 ^ 63 ≤ k := Int.le_trans (Int.neg_le_neg (Int.le_trans (Int.ofNat_le.mpr hc) (by decide))) h
theorem text_item {value slice : Expr} {z : Str} {t : Tok} {k : Int} (I : Inv h₀ os₀ Mt pw p s) (e : ((okS z).bind fun x => (place x.cps.size k).bind fun j => (x.cps.toList[j]?).map chr1) = some v) (hb : VR Mt pw s.heap (.int k) b) (hs : notSlice slice = true) :
    OkV w h₀ os₀ A Mt pw (subscriptTail value slice (.str z t) b) s v p := by
  refine ex1_1 (hb.int') fun u q_31 => ?_
  subst q_31
  refine obind e fun z' hz e1 => ?_
  refine an2 (okS_eq hz) fun q_50 hc => ?_
  subst q_50
  refine obind e1 fun j hj e2 => ?_
  refine an3 (place_idx hj) fun q1 q2 q3 => ?_
  refine omap e2 fun c hc' q => ?_
  subst q
  intro E Q hQ
  have hcap : z'.cps.size ≤ 4096 := hc
  refine tail_any (typeIs_str _ _ _) lookup_str_getitem ?_ (subscripted_idx hs _ _)
  refine P.getItem_str (c := c) ?_ ?_ (end_str I hQ)
  · rw [Bool.or_eq_false_iff]
    exact ⟨decide_eq_false (by clear hQ I e e1 e2 hj hc'; omega), decide_eq_false (by clear hQ I e e1 e2 hj hc'; omega)⟩
  · show (seqIndex? k z'.cps.size).bind _ = _
    rw [q1]; simpa using hc'
theorem item_ok {value slice : Expr} (I : Inv h₀ os₀ Mt pw p s) (e : itemV x y = some v) (ha : (∃ vs n a', a = .ref a' ∧ ∃ xs, x = .lst xs ∧ s.heap.get? a' = some { cls := .type "list", data := .seq vs n } ∧ VRs Mt pw s.heap xs vs.toList) ∨ VR Mt pw s.heap x a)
    (hb : VR Mt pw s.heap y b) (hs : notSlice slice = true) : OkV w h₀ os₀ A Mt pw (subscriptTail value slice a b) s v p := by
  cases x with
  | lst xs =>
    cases y with
    | int k =>
      have ha' : ∃ vs n a', a = .ref a' ∧ s.heap.get? a' = some { cls := .type "list", data := .seq vs n } ∧ VRs Mt pw s.heap xs vs.toList := by
        rcases ha with ⟨vs, n, a', rfl, xs', hx, h1, h2⟩ | ha
        · cases hx; exact ⟨vs, n, a', rfl, h1, h2⟩
        · refine ex3_5 (ha.lst') fun a₁ vs n q_93 h1 h2 h3 h4 => ?_
          subst q_93
          exact ⟨vs, n, a₁, rfl, h2, VRs.of_lst h3 h4⟩
      obtain ⟨vs, n, a', rfl, h2, R⟩ := ha'
      obtain ⟨t, rfl⟩ := hb.int'
      refine obind (show (okL xs).bind (fun xs => (place xs.length k).bind fun j => xs[j]?) = some v from e) fun z hz e1 => ?_
      obtain ⟨rfl, hc⟩ := okL_eq hz
      refine obind e1 fun j hj e2 => ?_
      refine an2 (place_idx' hj) fun q2 q3 => ?_
      refine ex1_2 (R.get e2) fun u hu hv => ?_
      have hl : s.heap.IsList a' vs := ⟨_, h2, rfl, n, rfl⟩
      have hsz : vs.size = z.length := R.1
      have hu' : vs[j]? = some u := by simpa using hu
      intro E Q hQ
      refine tail_any hl.typeIs lookup_list_getitem ?_ (subscripted_idx hs _ _)
      rcases q3 with ⟨k0, k1, k2⟩ | ⟨k0, k1, k2⟩
      · exact wpAny_getItem_list hl k0 (lt_line k1 hc) (by rw [k2]; exact hu') (end_now I hQ hv)
      · exact wpAny_getItem_list_neg hl k0 (by rw [hsz]; exact k1) (neg_line k1 hc) (by rw [hsz, k2]; exact hu') (end_now I hQ hv)
    | _ => exact nn e
  | str z =>
    cases y with
    | int k =>
      have ha' : VR Mt pw s.heap (.str z) a := by
        rcases ha with ⟨vs, n, a', rfl, xs', hx, _⟩ | ha
        · cases hx
        · exact ha
      refine ex1_2 (ha'.str') fun t q_341 _ => ?_
      subst q_341
      exact text_item I e hb hs
    | _ => exact nn e
  | ustr z =>
    cases y with
    | int k =>
      have ha' : VR Mt pw s.heap (.ustr z) a := by
        rcases ha with ⟨vs, n, a', rfl, xs', hx, _⟩ | ha
        · cases hx
        · exact ha
      refine ex1_1 (ha'.ustr') fun t q_441 => ?_
      subst q_441
      exact text_item I e hb hs
    | _ => exact nn e
  | _ => exact nn e
theorem VRs.pick {xs : List V} {vs : List Value} (R : VRs Mt pw h xs vs) : ∀ (l : List Nat), VRs Mt pw h (l.filterMap (xs[·]?)) (l.filterMap (vs[·]?))
  | [] => .nil
  | i :: l => by
    have ih := VRs.pick R l
    by_cases hi : i < xs.length
    · have hi' : i < vs.length := by rw [R.1]; exact hi
      refine ex1_2 (R.get (i := i) (y := xs[i]) (by simp [hi])) fun u hu hv => ?_
      rw [List.filterMap_cons_some (f := (xs[·]?)) (b := xs[i]) (by simp [hi]), List.filterMap_cons_some (f := (vs[·]?)) hu]
      exact .cons hv ih
    · have hi' : ¬ i < vs.length := by rw [R.1]; exact hi
      rw [List.filterMap_cons_none (by simp; lia), List.filterMap_cons_none (by simp; lia)]
      exact ih
theorem part_ok {lo : V} {l : Option Int} (e : partV lo = some l) {vl : Value} (H : VR Mt pw h lo vl) : IsPart vl l ∧ ∃ t, vl = partValue (l.map fun i => (i, t)) := by
  cases lo with
  | none => have := H.none'; subst this; cases e; exact ⟨.none, 0, rfl⟩
  | int i => obtain ⟨t, rfl⟩ := H.int'; cases e; exact ⟨.int _ _, t, rfl⟩
  | _ => exact nn e
theorem cut_ok {lo hi st : V} {vl vu vt : Value} (I : Inv h₀ os₀ Mt pw p s) (e : cutV x lo hi st = some v) (ha : VR Mt pw s.heap x a) (hl : VR Mt pw s.heap lo vl) (hu : VR Mt pw s.heap hi vu) (ht : VR Mt pw s.heap st vt)
    {sl : Addr} (hsl : s.heap.get? sl = some { cls := .type "slice", data := .fields #[vl, vu, vt] }) : OkV w h₀ os₀ A Mt pw (getItem a (.ref sl)) s v p := by
  unfold cutV at e
  refine obind e fun l el e => ?_
  refine obind e fun u eu e => ?_
  refine obind e fun t et e => ?_
  refine oifn e fun h0 e => ?_
  obtain ⟨p1, t1, q1⟩ := part_ok el hl
  obtain ⟨p2, t2, q2⟩ := part_ok eu hu
  obtain ⟨p3, t3, q3⟩ := part_ok et ht
  cases x with
  | lst xs =>
    apply okLm (f := fun xs => .lst (pickL xs l u t)) e
    intro hc E Q hQ
    refine ex3_5 (ha.lst') fun a₁ vs n q_153 h1 h2 h3 h4 => ?_
    subst q_153
    have R := VRs.of_lst h3 h4
    have hL : s.heap.IsList a₁ vs := ⟨_, h2, rfl, n, rfl⟩
    refine wpAny_getItem_list_slice hL ⟨_, hsl, rfl, rfl⟩ p1 p2 p3 h0 ?_ (by rw [h3]; exact cap_line hc)
    refine new_list I (R.pick _) hQ ?_
    unfold slicePick
    rw [h3]
    simp
  | str z =>
    apply okSm (f := .str) e
    intro hc E Q hQ
    refine ex1_2 (ha.str') fun tk q_261 htk => ?_
    subst q_261
    have hc := cap_line hc
    subst q1 q2 q3
    refine wpAny_getItem_str_slice (l := l.map fun i => (i, t1)) (u := u.map fun i => (i, t2)) (st := t.map fun i => (i, t3)) ⟨_, hsl, rfl, rfl⟩ ?_ ?_
    · cases t with
      | none => rfl
      | some i => simp only [Option.map_some, Option.getD_some, beq_eq_false_iff_ne]; rintro rfl; exact h0 rfl
    · have m1 : ∀ (o : Option Int) (k : Tok), (o.map fun i => (i, k)).map (·.1) = o := fun o k => by cases o <;> rfl
      unfold sliceMade slicePicked
      rw [m1, m1, m1]
      unfold pickS at hQ hc
      split
      · rename_i hh
        rw [if_pos hh] at hQ
        exact end_now I hQ (.str _ _ htk)
      · rename_i hh
        rw [if_neg hh] at hQ hc
        exact ⟨hc, end_str I hQ⟩
  | _ => exact nn e
end
end Mine
end
section
set_option genSizeOf false
set_option genSizeOfSpec false
namespace Mine
open PySem PyProof.Rows PyProof.V PySem.SeqAt PySem.Spec
section
variable {w : World} {h₀ : Heap} {os₀ : OsState} {A : Around} {Mt Mt' : Ms} {pw : List Addr} {p p' : P} {s s' : Shared} {x y v : V} {a b : Value} {h h' : Heap} {env : Env} {sc : Scope} {me : Me}
theorem at_name {n : Str} {pos : Pos} {val : Value} {E : Value → Shared → Prop} {Q : Value → Shared → Prop} (F : Fm env sc me Mt pw s.heap) (ha : At env s.heap n val) (hd : n ≠ ("__debug__" : Str)) (hQ : Q val s) :
    wpAny (model prog w) A (eval (.Name n pos) env) Q E s := by
  refine wpAny_Name ?_ (by simpa using hd)
  unfold At at ha
  split at ha
  · rename_i hk
    refine ex1_2 (ha) fun m hn hm => ?_
    exact wpAny_loadName_local F.kind hk hn hm hQ
  · rename_i hk
    refine ex1_2 (ha) fun c hc hv => ?_
    exact wpAny_loadName_cell F.kind hk hc hv hQ
  · exact ha.elim
theorem name_ok {n : Str} {pos : Pos} (I : Inv h₀ os₀ Mt pw p s) (F : Fm env sc me Mt pw s.heap) (e : nameV sc me n = some v) (hd : n ≠ ("__debug__" : Str)) : OkV w h₀ os₀ A Mt pw (eval (.Name n pos) env) s v p := by
  intro E Q hQ
  unfold nameV at e
  split at e
  · rename_i hv
    split at e
    · rename_i bd hb
      split at e
      · exact nn e
      · cases e
        rename_i ho
        refine ex1_2 (F.vars n bd hv hb) fun val hat hr => ?_
        unfold BdR at hr
        simp only [ho] at hr
        exact at_name F hat hd (end_now I hQ hr)
    · exact nn e
  · exact nn e
theorem const_ok {c : Const} {k : Nat} {pos : Pos} (I : Inv h₀ os₀ Mt pw p s) (e : evConst c p = some (v, p')) : OkV w h₀ os₀ A Mt pw (eval (.Constant c k pos) env) s v p' := by
  cases c with
  | none => apply sm2 e; exact fun E Q hQ => wpAny_Constant_none (end_now I hQ .none)
  | bool b => apply sm2 e; exact fun E Q hQ => wpAny_Constant_bool (end_now I hQ (.bool _))
  | int i => apply sm2 e; exact fun E Q hQ => wpAny_Constant_int (end_tok I hQ (.int _ _))
  | str x =>
    refine omap (show (okS x).map _ = _ from e) fun z hz hh => ?_
    obtain ⟨rfl, _⟩ := okS_eq hz
    apply pr2 hh
    exact fun E Q hQ => Calls.Constant_str (end_str I hQ)
  | _ => exact nn e
noncomputable def EvOk (w : World) (h₀ : Heap) (os₀ : OsState) (A : Around) (pw : List Addr) (env : Env) (sc : Scope) (me : Me) (ev : Expr → P → Option (V × P)) : Prop :=
  ∀ {Mt : Ms} e p v p', ev e p = some (v, p') → ∀ s, Inv h₀ os₀ Mt pw p s → Fm env sc me Mt pw s.heap → OkV w h₀ os₀ A Mt pw (eval e env) s v p'
theorem not_starred {e : Expr} {rest : List Expr} (h : starred e = false) : starEach (e :: rest) env = (false, eval e env) :: starEach rest env := by
  cases e <;> first | rfl | (cases h)
theorem evs_ok {ev : Expr → P → Option (V × P)} (H : EvOk w h₀ os₀ A pw env sc me ev) {pos : Pos} : ∀ (es : List Expr) (p : P) (l : List V) (p' : P), evsWith ev es p = some (l, p') →
    ∀ {Mt : Ms} s, Inv h₀ os₀ Mt pw p s → Fm env sc me Mt pw s.heap → OkL w h₀ os₀ A Mt pw (spliced (backTo pos (starEach es env))) s l p'
  | [], p, l, p', e => by
    intro s I F E Q hQ
    cases e
    exact wpAny_items_nil (hQ _ _ I (Kp.refl _ _) .nil)
  | e₁ :: r, p, l, p', e => by
    intro s I F E Q hQ
    unfold evsWith at e
    split at e
    · exact nn e
    rename_i hs
    refine obind2 e fun v₁ p₁ h1 e1 => ?_
    refine obind2 e1 fun l₂ p₂ h2 e2 => ?_
    cases e2
    refine wpAny_items_cons ?_ (not_starred (by simpa using hs))
    refine H e₁ p v₁ p₁ h1 s I F E _ fun val s1 I1 K1 R1 => ?_
    exact evs_ok H r p₁ l₂ p₂ h2 s1 I1 (F.kp I.pws K1) E _ fun vs s2 I2 K2 R2 => hQ _ _ I2 (K1.trans K2) (.cons (R1.kp I1.pws K2) R2)
theorem evs_plain {ev : Expr → P → Option (V × P)} {pos : Pos} : ∀ {es : List Expr} {p : P} {l : List V} {p' : P}, evsWith ev es p = some (l, p') → (backTo pos (starEach es env)).any (·.1) = false
  | [], _, _, _, e => rfl
  | e₁ :: r, p, l, p', e => by
    unfold evsWith at e
    split at e
    · exact nn e
    rename_i hs
    refine obind2 e fun v₁ p₁ h1 e1 => ?_
    refine obind2 e1 fun l₂ p₂ h2 e2 => ?_
    rw [not_starred (by simpa using hs)]
    show (false || (backTo pos (starEach r env)).any (·.1)) = false
    rw [evs_plain h2]; rfl
theorem list_ok {ev : Expr → P → Option (V × P)} (H : EvOk w h₀ os₀ A pw env sc me ev) {es : List Expr} {pos : Pos} {xs l : List V} (e : evsWith ev es p = some (xs, p')) (hl : okL xs = some l)
    (I : Inv h₀ os₀ Mt pw p s) (F : Fm env sc me Mt pw s.heap) : OkV w h₀ os₀ A Mt pw (eval (.List es pos) env) s (.lst l) p' := by
  intro E Q hQ
  obtain ⟨rfl, hc⟩ := okL_eq hl
  refine wpAny_List (evs_ok H es p _ p' e s I F E _ fun vs s1 I1 K1 R1 => ⟨by rw [R1.1]; exact cap_line hc, ?_⟩)
  exact new_list I1 R1 (fun val s2 I2 K2 R2 => hQ val s2 I2 (K1.trans K2) R2) rfl
theorem tuple_ok {ev : Expr → P → Option (V × P)} (H : EvOk w h₀ os₀ A pw env sc me ev) {es : List Expr} {k : Nat} {pos : Pos} {xs l : List V} (e : evsWith ev es p = some (xs, p')) (hl : okL xs = some l)
    (I : Inv h₀ os₀ Mt pw p s) (F : Fm env sc me Mt pw s.heap) : OkV w h₀ os₀ A Mt pw (eval (.Tuple es k pos) env) s (.tup l) p' := by
  intro E Q hQ
  obtain ⟨rfl, hc⟩ := okL_eq hl
  refine wpAny_Tuple (evs_ok H es p _ p' e s I F E _ fun vs s1 I1 K1 R1 => ⟨by rw [R1.1]; exact cap_line hc, ?_⟩)
  exact new_tup I1 R1 (fun val s2 I2 K2 R2 => hQ val s2 I2 (K1.trans K2) R2) rfl
theorem args_ok {f : Value} {l : List (Bool × Sem Value)} {E : Value → Shared → Prop} {Q : Args → Shared → Prop} (hp : l.any (·.1) = false) (h : wpAny (model prog w) A (spliced l) (fun vs s' => Q ⟨vs, []⟩ s') E s) :
    wpAny (model prog w) A (evalArgs f true l []) Q E s := by
  cases l with
  | nil =>
    unfold evalArgs
    show wpAny (model prog w) A (spliced [] >>= _) Q E s
    refine wpAny_bind (wpAny_mono h (fun vs s' h' => ?_) fun _ _ x => x)
    refine wpAny_holding ?_
    exact wpAny_bind (wpAny_pure (wpAny_bind (wpAny_pure (wpAny_pure h'))))
  | cons x r =>
    obtain ⟨b, t⟩ := x
    have : b = false := by
      rw [List.any_cons, Bool.or_eq_false_iff] at hp
      exact hp.1
    subst this
    exact Calls.evalArgs_plain h
theorem callWith_machine {pos : Pos} {f : Value} {first : List Value} {l : List (Bool × Sem Value)} {E : Value → Shared → Prop} {Q : Value → Shared → Prop} (hf : ∀ a, f ≠ .ref a) (hp : l.any (·.1) = false)
    (h : wpAny (model prog w) A (spliced l) (fun vs s₁ => wpAny (model prog w) A (call f (first ++ vs)) Q E s₁) E s) : wpAny (model prog w) A (callWith pos f first l []) Q E s := by
  unfold callWith
  refine wpAny_bind (wpAny_holding (wpAny_mono (args_ok (Q := fun a s₁ => wpAny (model prog w) A (call f (first ++ a.pos) a.kw) Q E s₁) hp h) (fun a s₁ h₁ => wpAny_bind (wpAny_standAt ?_)) fun _ _ x => x))
  simp only [hp, List.any_nil, Bool.or_false]
  have hk : keeperOf f = pure Keeper.machine := by
    unfold keeperOf
    cases f <;> first | rfl | exact absurd rfl (hf _)
  refine wpAny_bind (wpAny_of_eq hk ?_)
  exact wpAny_bind (wpAny_mono h₁ (fun r s₂ hr => wpAny_bind (wpAny_holding (wpAny_point (wpAny_pure hr)))) fun _ _ x => x)
end
end Mine
end
section
set_option genSizeOf false
set_option genSizeOfSpec false
namespace Mine
open PySem PyProof.Rows PyProof.V PySem.SeqAt PySem.Spec
theorem leStr_iff (a b : Str) : leStr a b = true ↔ a.cps.toList ≤ b.cps.toList := by
  unfold leStr
  rw [Bool.not_eq_true', decide_eq_false_iff_not, List.not_lt]
theorem str_ext {a b : Str} (h : a.cps.toList = b.cps.toList) : a = b := by
  obtain ⟨a⟩ := a; obtain ⟨b⟩ := b
  exact congrArg Str.mk (Array.ext' h)
theorem insS_perm (x : Str) : ∀ l : List Str, (insS x l).Perm (x :: l)
  | [] => .refl _
  | y :: r => by
    unfold insS
    split
    · exact .refl _
    · exact ((insS_perm x r).cons y).trans (.swap x y r)
theorem sortS_perm : ∀ l : List Str, (sortS l).Perm l
  | [] => .refl _
  | x :: r => (insS_perm x (sortS r)).trans ((sortS_perm r).cons x)
noncomputable abbrev LeS (a b : Str) : Prop := a.cps.toList ≤ b.cps.toList
theorem insS_sorted (x : Str) : ∀ l : List Str, l.Pairwise LeS → (insS x l).Pairwise LeS
  | [], _ => by simp [insS]
  | y :: r, h => by
    unfold insS
    split
    · rename_i hle
      rw [leStr_iff] at hle
      refine List.pairwise_cons.mpr ⟨fun z hz => ?_, h⟩
      rcases List.mem_cons.mp hz with rfl | hz
      · exact hle
      · exact List.le_trans hle ((List.pairwise_cons.mp h).1 z hz)
    · rename_i hle
      have hyx : LeS y x := by
        rcases List.le_total x.cps.toList y.cps.toList with q | q
        · exact absurd ((leStr_iff x y).mpr q) hle
        · exact q
      obtain ⟨h1, h2⟩ := List.pairwise_cons.mp h
      refine List.pairwise_cons.mpr ⟨fun z hz => ?_, insS_sorted x r h2⟩
      rcases List.mem_cons.mp ((insS_perm x r).mem_iff.mp hz) with rfl | hz
      · exact hyx
      · exact h1 z hz
theorem sortS_sorted : ∀ l : List Str, (sortS l).Pairwise LeS
  | [] => .nil
  | x :: r => insS_sorted x _ (sortS_sorted r)
theorem rising_pw : ∀ (p : Str) (l : List Str), risingS p l = true → (p :: l).Pairwise LeS
  | p, [], _ => by simp
  | p, x :: r, h => by
    unfold risingS at h
    rw [Bool.and_eq_true, Bool.not_eq_true', ltCps_eq, decide_eq_false_iff_not, List.not_lt] at h
    have ih := rising_pw x r h.2
    refine List.pairwise_cons.mpr ⟨fun z hz => ?_, ih⟩
    rcases List.mem_cons.mp hz with rfl | hz
    · exact h.1
    · exact List.le_trans h.1 ((List.pairwise_cons.mp ih).1 z hz)
theorem sorted_pw : ∀ (l : List Str), sortedS l = true → l.Pairwise LeS
  | [], _ => .nil
  | x :: r, h => rising_pw x r h
theorem sorted_unique {l r : List Str} (h : sortedS l = true) (hp : l.Perm r) : l = sortS r :=
  List.Perm.eq_of_pairwise (fun a b _ _ h1 h2 => str_ext (List.le_antisymm h1 h2)) (sorted_pw l h) (sortS_sorted r) (hp.trans (sortS_perm r).symm)
theorem signs_are {x : Str} {acc : List Value} (h : ItemsOf (SignAt x) acc.toArray x.cps.size) : StrsAre acc (charsOf x) := by
  refine an2 (h) fun h1 h2 => ?_
  have key : ∀ (l : List Nat) (vs : List Value), vs.length = l.length → (∀ (j : Nat) v, vs[j]? = some v → ∃ c u, l[j]? = some c ∧ v = .str ⟨#[c]⟩ u) → StrsAre vs (l.map fun c => (⟨#[c]⟩ : Str)) := by
    intro l
    induction l with
    | nil => intro vs hl _; cases vs with
      | nil => exact .nil
      | cons => simp at hl
    | cons c l ih =>
      intro vs hl hv
      cases vs with
      | nil => simp at hl
      | cons v vs =>
        refine ex2_2 (hv 0 v (by simp)) fun c' u hc q_133 => ?_
        subst q_133
        simp at hc; subst hc
        exact .cons _ _ (ih vs (by simpa using hl) fun j y hj => by simpa using hv (j + 1) y (by simpa using hj))
  refine key _ _ (by simpa using h1) fun j v hj => ?_
  refine ex2_2 (h2 j v (by simpa using hj)) fun c u hc q_173 => ?_
  subst q_173
  exact ⟨c, u, by simpa using hc, rfl⟩
section
variable {w : World} {h₀ : Heap} {os₀ : OsState} {A : Around} {Mt Mt' : Ms} {pw : List Addr} {p p' : P} {s s' : Shared} {x y v : V} {a b : Value} {h h' : Heap}
theorem Inv.same (I : Inv h₀ os₀ Mt pw p s) (hk : ∀ b o, s.heap.get? b = some o → s'.heap.get? b = some o) (hg : s'.gens = s.gens) (ho : s'.os = s.os) (hle : s.toks ≤ s'.toks) : Inv h₀ os₀ Mt pw p s' where
  base := fun b o e => hk b o (I.base b o e)
  mt := fun a ha => ⟨(I.mt a ha).1, let ⟨o, ho⟩ := (I.mt a ha).2; ⟨o, hk a o ho⟩⟩
  pws := I.pws
  pile := I.pile.mono (fun b o hb e => ⟨hb, hk b o e⟩) fun x o _ e => hk x o e
  os := ho.trans I.os
  gens := hg ▸ I.gens
  tk := fun u z e => ⟨(I.tk u z e).1, Nat.lt_of_lt_of_le (I.tk u z e).2 hle⟩
  pos := Nat.lt_of_lt_of_le I.pos hle
theorem end_strs (I : Inv h₀ os₀ Mt pw p s) {Q : Value → Shared → Prop} {t : Nat} {h' : Heap} {a : Addr} {vs : List Value} {l : List Str} {n : Nat} (hQ : ∀ {Mt' : Ms} val s', Inv h₀ os₀ Mt' pw p s' → Kp pw Mt Mt' s.heap s'.heap → VR Mt' pw s'.heap (.lst (l.map .ustr)) val → Q val s')
    (hk : ∀ b o, s.heap.get? b = some o → h'.get? b = some o) (hf : s.heap.get? a = none) (ha : h'.get? a = some { cls := .type "list", data := .seq vs.toArray n }) (hS : StrsAre vs l) (hle : s.toks ≤ t := by first | exact Nat.le_refl _ | exact Nat.le_succ _ | assumption | omega) : Q (.ref a) { s with heap := h', toks := t } :=
  end_keeps I hQ hk ((VRs.of_strs hS).lst (I.fresh hf) ha) hle
theorem sorted_text {x : Str} {t : Tok} (I : Inv h₀ os₀ Mt pw p s) (hh : A.handled = none) (h64 : x.cps.size < 64) : OkV w h₀ os₀ A Mt pw (call (.builtin "sorted") [.str x t]) s (.lst ((sortS (charsOf x)).map .ustr)) p := by
  intro E Q hQ
  refine Calls.call_function_entry kind_sorted plain_sorted entry_sorted (args_sorted1 _) ?_
  unfold Builtin.«sorted»
  refine wpAny_bind (m := checkCount "sorted" 1 1 _) (wpAny_pure ?_)
  refine wpAny_bind (wpAny_with_toks (n := s.toks) (Nat.le_refl _) (wpAny_collect_str (A := A.in1) hh x t (fun s₁ acc hk hg hd ho hI hle => ?_) (Nat.le_trans (Nat.le_of_lt h64) (by decide))))
  have hS : StrsAre acc.toList (charsOf x) := signs_are (by simpa using hI)
  have hlen : acc.toList.length < 64 := by have := hI.1; simpa [this] using h64
  have I₁ := I.same hk hg ho hle
  refine wpAny_bind (wpAny_newList ?_ (Nat.le_trans (Nat.le_of_lt hlen) (by decide)))
  have hoL : (s₁.heap.push (seqObj "list" acc.toList.toArray 0)).get? s₁.heap.objs.size = some (seqObj "list" acc.toList.toArray 0) := Heap.get?_push_size _ rfl
  refine wpAny_bind (wpAny_holding (wpAny_call_entry slot_list_sort ⟨_, hoL, rfl⟩ entry_list_sort (list_sort_treeK strKind_oneLt hoL hS.keysOf (fun v₁ v₂ rest e => keyKind_strs (by rw [← e]; exact hS)) hlen fun st' a1 a2 => ⟨_, rfl, ?_⟩) (args_list_sort _)))
  refine wpAny_pure ⟨_, rfl, ?_⟩
  refine ex1_3 (sorted_out_str hS a1 a2) fun ss' q1 q2 q3 => ?_
  have e := sorted_unique q3 q2
  subst e
  refine ex1_1 (sortedHeap_at hoL (out := (arrOf st').map (·.2))) fun n hn => ?_
  have hk2 : ∀ b o, s₁.heap.get? b = some o → (sortedHeap (s₁.heap.push (seqObj "list" acc.toList.toArray 0)) s₁.heap.objs.size acc.toList ((arrOf st').map (·.2))).get? b = some o := fun b o e => by
    have hlt := Heap.lt_size e
    rw [sortedHeap_old (Nat.ne_of_lt hlt) (by rw [size_push']; exact Nat.lt_succ_of_lt hlt)]
    exact Heap.get?_push_of_some _ e
  refine end_strs I₁ (fun val s2 I2 K2 R2 => hQ val s2 I2 ((Kp.of_keeps hk).trans K2) R2) hk2 (fresh_size _) (vs := ((arrOf st').map (·.2)).toList) (n := n) ?_ q1
  rw [hn]
end
end Mine
end
section
set_option genSizeOf false
set_option genSizeOfSpec false
namespace Mine
open PySem PyProof.Rows PyProof.V PySem.SeqAt PySem.Spec
section
variable {w : World} {h₀ : Heap} {os₀ : OsState} {A : Around} {Mt Mt' : Ms} {pw : List Addr} {p p' : P} {s s' : Shared} {x y v : V} {a b : Value} {h h' : Heap}
theorem upto_nat {n : Nat} {len : Nat} (h : n ≤ len) : min (max 0 (if ((n : Int)) < 0 then (n : Int) + len else (n : Int))).toNat len = n := by
  rw [if_neg (by omega)]
  omega
theorem gives_find4 (x y : Str) (t u a b : Tok) (n : Nat) (h : n ≤ x.length) : Gives (Builtin.«str.find» ⟨[.str x t, .str y u, .int 0 a, .int (n : Int) b], []⟩) (.int (findIn x y n)) := by
  show Gives (match Builtin.Str.occurrences x y 0 (min (max 0 (if ((n : Int)) < 0 then (n : Int) + x.length else (n : Int))).toNat x.length) 1 with | i :: _ => retInt i | [] => (do rule "str.find.not-found"; retInt (-1))) _
  rw [upto_nat h]
  unfold findIn
  cases Builtin.Str.occurrences x y 0 n 1 with
  | nil => exact .rule (.of_eq rfl)
  | cons i _ => exact .of_eq rfl
theorem gives_rfind4 (x y : Str) (t u a b : Tok) (n : Nat) (h : n ≤ x.length) : Gives (Builtin.«str.rfind» ⟨[.str x t, .str y u, .int 0 a, .int (n : Int) b], []⟩) (.int (rfindIn x y n)) := by
  show Gives (match Builtin.Str.lastOccurrence x y 0 (min (max 0 (if ((n : Int)) < 0 then (n : Int) + x.length else (n : Int))).toNat x.length) with | some i => retInt i | none => (do rule "str.rfind.not-found"; retInt (-1))) _
  rw [upto_nat h]
  unfold rfindIn
  cases Builtin.Str.lastOccurrence x y 0 n with
  | none => exact .rule (.of_eq rfl)
  | some i => exact .of_eq rfl
theorem find_is (x y : Str) : Txt.find x y = findIn x y x.cps.size := rfl
noncomputable def strMeth (name : Str) : Option String :=
  if name = ("join" : Str) then some "str.join" else if name = ("find" : Str) then some "str.find" else if name = ("index" : Str) then some "str.index" else if name = ("rfind" : Str) then some "str.rfind" else Option.none
theorem post_two {sep : Str} {Q : Value → Shared → Prop} : ∀ (l : List (Str × Tok)), 2 ≤ (l.map (·.1)).length → ((Txt.join sep (l.map (·.1))).length ≤ sizeLine ∧ Q (.str (Txt.join sep (l.map (·.1))) s.toks) { s with toks := s.toks + 1 }) → (joinMade sep l).post Q s
  | [], h, _ => absurd h (by simp)
  | [p], h, _ => absurd h (by simp)
  | _ :: _ :: _, _, h => ⟨h.1, h.2⟩
theorem join_marked {x : Str} {t : Tok} {D : Addr} {items : Array Value} {ys : List Str} {E : Value → Shared → Prop} {Q : Value → Shared → Prop} (hl : s.heap.IsList D items) (hi : StrsAre items.toList ys) (h2 : 2 ≤ ys.length)
    (hok : (ys.map (·.length)).sum + ys.length * x.length ≤ 16777216) (h : Q (.str (Txt.join x ys) s.toks) { s with toks := s.toks + 1 }) : wpAny (model prog w) A (call (.builtin "str.join") [.str x t, .ref D]) Q E s := by
  obtain ⟨l, hv, ht⟩ := strsAre_values hi
  have e : items = (strValues l).toArray := by rw [← hv]
  subst e
  subst ht
  have hok' := joinOk_of hok
  unfold JoinOk at hok'
  rw [Bool.not_eq_true'] at hok'
  refine call_meets PySem.F.slot_str_join (typeIs_str _ _ _) PySem.F.entry_str_join (PySem.F.args_str_join_2 _ _) (meets_str_join_list x t D l hok') ⟨hl, ?_⟩
  have hfit := joinFit_length hok'
  exact post_two l h2 ⟨hfit, h⟩
theorem index_ok {x z : Str} {tk u : Tok} (I : Inv h₀ os₀ Mt pw p s) (hh : A.handled = none) {i : Nat} (hi : findIn x z x.cps.size = .ofNat i) : OkV w h₀ os₀ A Mt pw (call (.builtin "str.index") [.str x tk, .str z u]) s (.int i) p := fun E Q hQ => by
  refine index_or hh (fun h0 _ => ?_) fun h0 _ => ?_
  · rw [find_is, hi] at h0
    cases h0
  · rw [find_is, hi]
    exact end_tok I hQ (.int _ _)
theorem VRs.one {x : V} {vs : List Value} (R : VRs Mt pw h [x] vs) : ∃ v, vs = [v] ∧ VR Mt pw h x v := by
  obtain ⟨z, hz, hzr⟩ := R.get (i := 0) (y := x) rfl
  have hl1 := R.1
  obtain ⟨q, rfl⟩ := len_1 hl1
  rw [← Option.some.inj hz] at hzr; exact ⟨_, rfl, hzr⟩
theorem VRs.two {x y : V} {vs : List Value} (R : VRs Mt pw h [x, y] vs) : ∃ v u, vs = [v, u] ∧ VR Mt pw h x v ∧ VR Mt pw h y u := by
  obtain ⟨z, hz, hzr⟩ := R.get (i := 0) (y := x) rfl
  obtain ⟨z1, hz1, hzr1⟩ := R.get (i := 1) (y := y) rfl
  have hl1 := R.1
  obtain ⟨q, r, rfl⟩ := len_2 hl1
  rw [← Option.some.inj hz] at hzr; rw [← Option.some.inj hz1] at hzr1; exact ⟨_, _, rfl, hzr, hzr1⟩
theorem VRs.three {x y z : V} {vs : List Value} (R : VRs Mt pw h [x, y, z] vs) : ∃ a b c, vs = [a, b, c] ∧ VR Mt pw h x a ∧ VR Mt pw h y b ∧ VR Mt pw h z c := by
  obtain ⟨z0, hz, hzr⟩ := R.get (i := 0) (y := x) rfl
  obtain ⟨z1, hz1, hzr1⟩ := R.get (i := 1) (y := y) rfl
  obtain ⟨z2, hz2, hzr2⟩ := R.get (i := 2) (y := z) rfl
  obtain ⟨a, b, c, rfl⟩ := len_3 R.1
  rw [← Option.some.inj hz] at hzr; rw [← Option.some.inj hz1] at hzr1; rw [← Option.some.inj hz2] at hzr2
  exact ⟨_, _, _, rfl, hzr, hzr1, hzr2⟩
theorem ends_in {x : Str} {e : Int} (h : 0 ≤ e ∧ e ≤ (x.cps.size : Int)) : ∃ m : Nat, e = (m : Int) ∧ m ≤ x.length := by
  obtain ⟨m, rfl⟩ := Int.eq_ofNat_of_zero_le h.1
  exact ⟨m, rfl, Int.ofNat_le.mp h.2⟩
theorem strMeth_ok {x : Str} {tk : Tok} {name : Str} {args : List V} {vals : List Value} (I : Inv h₀ os₀ Mt pw p s) (e : methV (.str x) name args p = some (v, p')) (R : VRs Mt pw s.heap args vals) (hh : A.handled = none) :
    ∃ id, strMeth name = some id ∧ OkV w h₀ os₀ A Mt pw (call (.builtin id) (.str x tk :: vals)) s v p' := by
  refine strM_inv (G := fun name args v p' => ∀ vals, VRs Mt pw s.heap args vals → ∃ id, strMeth name = some id ∧ OkV w h₀ os₀ A Mt pw (call (.builtin id) (.str x tk :: vals)) s v p') ?_ ?_ ?_ ?_ ?_ ?_ e vals R
  · intro ys l hl h2 hc vals R
    refine ⟨"str.join", by decide +kernel, fun E Q hQ => ?_⟩
    refine ex1_2 (R.one) fun z q_51 hzr => ?_
    subst q_51
    refine ex3_5 (hzr.lst') fun a₁ vs n q_63 h1 h2' h3 h4 => ?_
    subst q_63
    exact join_marked ⟨_, h2', rfl, n, rfl⟩ (VRs.strs (VRs.of_lst h3 h4) hl) h2 (Nat.le_trans hc (by decide)) (end_str I hQ)
  · intro z vals R
    refine ex1_2 (R.one) fun q q_91 hqr => ?_
    subst q_91
    refine ex1_2 (hqr.str') fun u q_101 _ => ?_
    subst q_101
    exact ⟨"str.find", by decide +kernel, fun E Q hQ => SC.find (end_tok I hQ (.int _ _))⟩
  · intro z i hi vals R
    refine ex1_2 (R.one) fun q q_131 hqr => ?_
    subst q_131
    refine ex1_2 (hqr.str') fun u q_141 _ => ?_
    subst q_141
    exact ⟨"str.index", by decide +kernel, index_ok I hh hi⟩
  · intro z i hi vals R
    refine ex1_2 (R.one) fun q q_171 hqr => ?_
    subst q_171
    refine ex1_1 (hqr.ustr') fun u q_181 => ?_
    subst q_181
    exact ⟨"str.index", by decide +kernel, index_ok I hh hi⟩
  · intro z e₁ hb vals R
    refine ex3_4 (R.three) fun q q1 q2 q_213 hqr hqr1 hqr2 => ?_
    subst q_213
    refine ex1_2 (hqr.str') fun u q_221 _ => ?_
    subst q_221
    refine ex1_1 (hqr1.int') fun u1 q_231 => ?_
    subst q_231
    refine ex1_1 (hqr2.int') fun u2 q_241 => ?_
    subst q_241
    refine ex1_2 (ends_in hb) fun m q_251 hm => ?_
    subst q_251
    exact ⟨"str.find", by decide +kernel, fun E Q hQ => call_gives F.slot_str_find (typeIs_str _ _ _) F.entry_str_find (F.args_str_find_4 _ _ _ _) (gives_find4 x z tk u u1 u2 m hm) (end_tok I hQ (.int _ _))⟩
  · intro z e₁ hb vals R
    refine ex3_4 (R.three) fun q q1 q2 q_283 hqr hqr1 hqr2 => ?_
    subst q_283
    refine ex1_2 (hqr.str') fun u q_291 _ => ?_
    subst q_291
    refine ex1_1 (hqr1.int') fun u1 q_301 => ?_
    subst q_301
    refine ex1_1 (hqr2.int') fun u2 q_311 => ?_
    subst q_311
    refine ex1_2 (ends_in hb) fun m q_321 hm => ?_
    subst q_321
    exact ⟨"str.rfind", by decide +kernel, fun E Q hQ => call_gives F.slot_str_rfind (typeIs_str _ _ _) F.entry_str_rfind (F.args_str_rfind_4 _ _ _ _) (gives_rfind4 x z tk u u1 u2 m hm) (end_tok I hQ (.int _ _))⟩
end
end Mine
end
section
set_option genSizeOf false
set_option genSizeOfSpec false
namespace Mine
open PySem PyProof.Rows PyProof.V PySem.SeqAt PySem.Spec
noncomputable def bltV (f : Str) : Option Value :=
  if f = ("len" : Str) then some (.builtin "len") else if f = ("sum" : Str) then some (.builtin "sum") else if f = ("list" : Str) then some (.type "list")
  else if f = ("sorted" : Str) then some (.builtin "sorted") else if f = ("max" : Str) then some (.builtin "max") else Option.none
theorem bltV_noref {f : Str} {b : Value} (h : bltV f = some b) : ∀ a, b ≠ .ref a := by
  unfold bltV at h
  have B : ∀ (x : String) (a : Addr), Value.builtin x ≠ .ref a := fun _ _ e => (by cases e)
  refine oelse h (fun _ q => ?_) fun h => oelse h (fun _ q => ?_) fun h => oelse h (fun _ q => ?_) fun h => oelse h (fun _ q => ?_) fun h => oif h fun _ q => ?_
  all_goals (rw [← Option.some.inj q]; intro a e; cases e)
section
variable {w : World} {h₀ : Heap} {os₀ : OsState} {A : Around} {Mt Mt' : Ms} {pw : List Addr} {p p' : P} {s s' : Shared} {x y v : V} {a b : Value} {h h' : Heap}
theorem blt_is : bltV "len" = some (.builtin "len") ∧ bltV "sum" = some (.builtin "sum") ∧ bltV "list" = some (.type "list") ∧ bltV "sorted" = some (.builtin "sorted") ∧ bltV "max" = some (.builtin "max") ∧ bltV "str" = none := by
  unfold bltV
  refine ⟨rfl, ?_, ?_, ?_, ?_, ?_⟩
  · rw [if_neg (by decide), if_pos rfl]
  · rw [if_neg (by decide), if_neg (by decide), if_pos rfl]
  · rw [if_neg (by decide), if_neg (by decide), if_neg (by decide), if_pos rfl]
  · rw [if_neg (by decide), if_neg (by decide), if_neg (by decide), if_neg (by decide), if_pos rfl]
  · rw [if_neg (by decide), if_neg (by decide), if_neg (by decide), if_neg (by decide), if_neg (by decide)]
theorem blt_one {f : Str} {a b : Value} (h : bltV f = some a) (e : bltV f = some b) : a = b := Option.some.inj (h.symm.trans e)
theorem fn_ok {f : Str} {fv : Value} {args : List V} {vals : List Value} (I : Inv h₀ os₀ Mt pw p s) (e : fnV f args p = some (v, p')) (hf : bltV f = some fv) (R : VRs Mt pw s.heap args vals) (hh : A.handled = none) :
    OkV w h₀ os₀ A Mt pw (call fv vals) s v p' := by
  obtain ⟨b1, b2, b3, b4, b5, b6⟩ := blt_is
  refine fnV_inv (G := fun f args v p' => bltV f = some fv → ∀ vals, VRs Mt pw s.heap args vals → OkV w h₀ os₀ A Mt pw (call fv vals) s v p') ?_ ?_ ?_ ?_ ?_ ?_ ?_ ?_ e hf vals R
  · intro l hc hf vals R E Q hQ
    obtain rfl := blt_one b1 hf
    obtain ⟨z, rfl, hz⟩ := R.one
    refine ex3_5 (hz.lst') fun a₁ vs n q_73 h1 h2 h3 h4 => ?_
    subst q_73
    have hc' : l.length ≤ 4096 := hc
    refine Calls.call_len_list ⟨_, h2, rfl, n, rfl⟩ (by rw [h3]; clear I R hQ; lia) ?_
    rw [h3]
    exact end_tok I hQ (.int _ _)
  · intro x hc hf vals R E Q hQ
    obtain rfl := blt_one b1 hf
    refine ex1_2 (R.one) fun z q_141 hz => ?_
    subst q_141
    refine ex1_2 (hz.str') fun t q_151 _ => ?_
    subst q_151
    have hc' : x.cps.size ≤ 4096 := hc
    exact len_str (by show ¬ ((x.cps.size : Int) ≥ 2 ^ 63); clear I R hQ; lia) (end_tok I hQ (.int _ _))
  · intro ys l hl hf vals R E Q hQ
    obtain rfl := blt_one b2 hf
    refine ex1_2 (R.one) fun z q_201 hz => ?_
    subst q_201
    refine ex3_5 (hz.lst') fun a₁ vs n q_213 h1 h2 h3 h4 => ?_
    subst q_213
    have hi := VRs.ints (VRs.of_lst h3 h4) hl
    have hall : AllInts vs := fun v hv => hi.all v (by simpa using hv)
    refine ex1_1 (hall.items) fun xs q_241 => ?_
    subst q_241
    refine wpAny_with_toks (n := s.toks) (Nat.le_refl _) ?_
    refine sum_intListG hh ⟨_, h2, rfl, n, rfl⟩ fun h' tk t' hk hle0 => ?_
    have hle : s.toks ≤ tk := hle0
    have : preSum (numAt xs) xs.size = l.sum := by
      have e1 := hi.numsOf
      rw [nums_intItems] at e1
      rw [preSum_eq, List.take_of_length_le (by simp), e1]
    rw [this]
    exact end_keeps I hQ hk (.int _ _)
  · intro x hc hf vals R E Q hQ
    obtain rfl := blt_one b3 hf
    refine ex1_2 (R.one) fun z q_361 hz => ?_
    subst q_361
    refine ex1_2 (hz.str') fun t q_371 _ => ?_
    subst q_371
    refine wpAny_with_toks (n := s.toks) (Nat.le_refl _) ?_
    refine call_list_str hh _ t (fun h' tk acc c hk ha hi hle0 => ?_) (cap_line (by simpa [charsOf] using hc))
    have hle : s.toks ≤ tk := hle0
    have hS := signs_are (acc := acc.toList) (by simpa using hi)
    exact end_strs I hQ hk (fresh_size _) ha hS
  · intro ys l hl h64 hf vals R E Q hQ
    obtain rfl := blt_one b4 hf
    refine ex1_2 (R.one) fun z q_451 hz => ?_
    subst q_451
    refine ex3_5 (hz.lst') fun a₁ vs n q_463 h1 h2 h3 h4 => ?_
    subst q_463
    have hS := VRs.strs (VRs.of_lst h3 h4) hl
    have hlen : vs.toList.length = l.length := by rw [← hS.strs, List.length_map]
    refine sorted_strs (vs := vs.toList) ⟨_, h2, rfl, n, rfl⟩ hS (by rw [hlen]; exact h64) fun out ss' q1 q2 q3 => ?_
    have e := sorted_unique q3 q2
    subst e
    refine ex1_1 (sortedAll_at s.heap vs.toList out) fun m hm => ?_
    have hk : ∀ b o, s.heap.get? b = some o → (sortedAll s.heap vs.toList out).get? b = some o := fun b o e => sortedAll_old e
    have hf : s.heap.get? (s.heap.objs.size + 1) = none := by
      cases q : s.heap.get? (s.heap.objs.size + 1) with
      | none => rfl
      | some o => exact absurd (Heap.lt_size q) (Nat.not_lt.mpr (Nat.le_succ _))
    exact end_strs I hQ hk hf (vs := out.toList) (n := m) (by rw [hm]) q1
  · intro x h64 hf vals R
    obtain rfl := blt_one b4 hf
    refine ex1_2 (R.one) fun z q_611 hz => ?_
    subst q_611
    refine ex1_2 (hz.str') fun t q_621 _ => ?_
    subst q_621
    exact sorted_text I hh h64
  · intro a b hf vals R E Q hQ
    obtain rfl := blt_one b5 hf
    refine ex2_3 (R.two) fun z z2 q_662 hz hz2 => ?_
    subst q_662
    refine ex1_1 (hz.int') fun t q_671 => ?_
    subst q_671
    refine ex1_1 (hz2.int') fun u q_681 => ?_
    subst q_681
    refine wpAny_with_toks (n := s.toks) (Nat.le_refl _) ?_
    refine max_two_ints hh fun h' tk hk hle0 => ?_
    have hle : s.toks ≤ tk := hle0
    refine end_keeps I hQ hk ?_
    by_cases c : a < b
    · rw [if_pos c, if_pos c]; exact .int _ _
    · rw [if_neg c, if_neg c]; exact .int _ _
  · intro l _ _ _ hf
    rw [b6] at hf; exact nn hf
end
end Mine
end
section
set_option genSizeOf false
set_option genSizeOfSpec false
namespace Mine
open PySem PyProof.Rows PyProof.V PySem.SeqAt PySem.Spec
structure Fs (env : Env) (sc : Scope) (me : Me) (Mt₀ : Addr → Prop) (Mt : Ms) (pw : List Addr) (hc h : Heap) : Prop where
  fm : Fm env sc me Mt pw h
  sub : ∀ a, Mt₀ a → Mt.m a
  mt0 : ∀ a, Mt₀ a → ∃ o, hc.get? a = some o
  kc : ∀ b o, hc.get? b = some o → b ∉ pw → h.get? b = some o
  ex : ∀ b o, hc.get? b = some o → ∃ o', h.get? b = some o'
  newL : hc.get? env.locals = none
  newC : ∀ x c, env.cells.lookup x = some c → hc.get? c = none
  newO : ∀ x b a, vis sc x = true → me.lookup x = some b → b.own = true → At env h x (.ref a) → hc.get? a = none
section
variable {w : World} {h₀ : Heap} {os₀ : OsState} {A : Around} {Mt₀ : Addr → Prop} {Mt Mt' : Ms} {pw : List Addr} {p p' : P} {s s' : Shared} {x y v : V} {a b : Value} {hc h h' : Heap} {env : Env} {sc : Scope} {me : Me}
theorem Fm.at_kp (F : Fm env sc me Mt pw h) (hk : Kp pw Mt Mt' h h') {x : Str} {v : Value} (H : At env h x v) : At env h' x v := H.kp fun b o hb e => hk.keep b o (by
  rcases hb with rfl | ⟨y, hy⟩
  · exact F.nsPw
  · exact F.cellPw y b hy) e
theorem Fs.kp (F : Fs env sc me Mt₀ Mt pw hc h) (hp : ∀ a ∈ pw, Mt.m a) (hk : Kp pw Mt Mt' h h') (he : ∀ a ∈ pw, ∀ o, h.get? a = some o → ∃ o', h'.get? a = some o') : Fs env sc me Mt₀ Mt' pw hc h' where
  fm := F.fm.kp hp hk
  sub := fun a ha => hk.m ▸ F.sub a ha
  mt0 := F.mt0
  kc := fun b o e q => hk.keep b o q (F.kc b o e q)
  ex := fun b o e => by
    obtain ⟨o', e'⟩ := F.ex b o e
    by_cases q : b ∈ pw
    · exact he b q o' e'
    · exact ⟨o', hk.keep b o' q e'⟩
  newL := F.newL
  newC := F.newC
  newO := fun x b a hx hb ho hat => by
    obtain ⟨v, hv, _⟩ := F.fm.vars x b hx hb
    have := (F.fm.at_kp hk hv).det hat
    subst this
    exact F.newO x b a hx hb ho hv
theorem Inv.pw_ex (I : Inv h₀ os₀ Mt pw p s) (I' : Inv h₀ os₀ Mt' pw p' s') : ∀ a ∈ pw, ∀ o, s.heap.get? a = some o → ∃ o', s'.heap.get? a = some o' := fun a ha _ _ => (I'.mt a (I'.pws a ha)).2
theorem not_ns_list {a : Addr} {m : Str → Option Value} {vs : Array Value} {n : Nat} (hn : h.Ns a m) (hl : h.get? a = some { cls := .type "list", data := .seq vs n }) : False := by
  obtain ⟨o, es, ep, ho, hd, _⟩ := hn
  rw [ho] at hl; cases hl; cases hd
theorem not_cell_list {a : Addr} {v : Option Value} {vs : Array Value} {n : Nat} (hn : h.IsCell a v) (hl : h.get? a = some { cls := .type "list", data := .seq vs n }) : False := by
  obtain ⟨o, ho, hd⟩ := hn
  rw [ho] at hl; cases hl; cases hd
theorem not_ns_cell {a : Addr} {v : Option Value} {m : Str → Option Value} (hn : h.Ns a m) (hl : h.IsCell a v) : False := by
  obtain ⟨o, es, ep, ho, hd, _⟩ := hn
  obtain ⟨o', ho', hd'⟩ := hl
  rw [ho] at ho'; cases ho'; rw [hd] at hd'; cases hd'
structure Wrote (env : Env) (x : Str) (val : Value) (c : Addr) (h h' : Heap) : Prop where
  same : Heap.SameBut c h h'
  ex : ∃ o, h'.get? c = some o
  here : At env h' x val
  there : ∀ y u, y ≠ x → At env h y u → At env h' y u
  ns : ∃ m, h'.Ns env.locals m
  cells : ∀ y d u, env.cells.lookup y = some d → h.IsCell d u → ∃ u', h'.IsCell d u'
theorem lookup_put {n m : Str} {own : Bool} {v : V} : (put me n own v).lookup m = if m = n then some ⟨own, v⟩ else me.lookup m := by
  unfold put
  rw [List.lookup_cons]
  by_cases q : m = n
  · subst q; simp
  · have : (m == n) = false := by simpa using q
    rw [this, if_neg q]
theorem Fm.put {n : Str} {val : Value} {c : Addr} {v : V} (F : Fm env sc me Mt pw h) (W : Wrote env n val c h h') (hp : ∀ a ∈ pw, Mt.m a) (hcM : Mt.m c) (hcL : ∀ vs m, h.get? c ≠ some { cls := .type "list", data := .seq vs m }) (R : VR Mt pw h v val) : Fm env sc (put me n false v) Mt pw h' where
  kind := F.kind
  glob := F.glob
  blt := F.blt
  names := F.names
  ns := W.ns
  nsMt := F.nsMt
  nsPw := F.nsPw
  cellIs := F.cellIs
  cellAll := fun y d hd => let ⟨a, b, u, hu⟩ := F.cellAll y d hd; let ⟨u', hu'⟩ := W.cells y d u hd hu; ⟨a, b, u', hu'⟩
  inj := F.inj
  vars := fun y b hy hb => by
    have hk : ∀ b o, ¬ Mt.m b → h.get? b = some o → ¬ Mt.m b ∧ h'.get? b = some o := fun b o hb e => ⟨hb, (W.same.2 b (fun q => hb (q ▸ hcM))).trans e⟩
    rw [lookup_put] at hb
    by_cases q : y = n
    · subst q
      rw [if_pos rfl] at hb; cases hb
      exact ⟨val, W.here, R.mono hk⟩
    · rw [if_neg q] at hb
      obtain ⟨u, hu, hr⟩ := F.vars y b hy hb
      refine ⟨u, W.there y u q hu, hr.mono hk fun a o e1 e2 e3 e4 e5 => ⟨e3, ?_⟩⟩
      unfold BdR at hr
      rw [e2] at hr
      obtain ⟨xs, a', vs, m, z1, z2, z3, z4, z5, z6⟩ := hr
      rw [e1] at z2; cases z2
      exact (W.same.2 a (fun q => hcL vs m (q ▸ z5))).trans e5
  sep := fun y z by' bz a hy hz ey ez oy oz ay az => by
    rw [lookup_put] at ey ez
    have q1 : y ≠ n := fun q => by rw [if_pos q] at ey; cases ey; cases oy
    have q2 : z ≠ n := fun q => by rw [if_pos q] at ez; cases ez; cases oz
    rw [if_neg q1] at ey
    rw [if_neg q2] at ez
    obtain ⟨u, hu, _⟩ := F.vars y by' hy ey
    obtain ⟨u', hu', _⟩ := F.vars z bz hz ez
    have e1 := (W.there y u q1 hu).det ay
    have e2 := (W.there z u' q2 hu').det az
    subst e1 e2
    exact F.sep y z by' bz a hy hz ey ez oy oz hu hu'
theorem store_any {n : Str} {val : Value} {E : Value → Shared → Prop} {Q : Unit → Shared → Prop} (F : Fm env sc me Mt pw s.heap) (hs : sto sc n = true)
    (hQ : ∀ c h' t, s.toks ≤ t → Wrote env n val c s.heap h' → Mt.m c → c ∉ pw → (∀ vs m, s.heap.get? c ≠ some { cls := .type "list", data := .seq vs m }) → (c = env.locals ∨ env.cells.lookup n = some c) → Q () { s with heap := h', toks := t }) :
    wpAny (model prog w) A (storeName env n val) Q E s := by
  have kinds : env.kindOf n = some .local ∨ (env.kindOf n = some .cell ∧ sc.names.lookup n ≠ none) := by
    unfold sto at hs
    split at hs
    · rename_i q; exact .inl (by have := F.names n _ q; simpa using this)
    · rename_i q; exact .inr ⟨by have := F.names n _ q; simpa using this, by rw [q]; simp⟩
    · exact nf hs
  rcases kinds with hl | ⟨hl, hl2⟩
  · refine ex1_1 (F.ns) fun m hn => ?_
    refine wpAny_storeName_local hl hn (fun h' hn' hs' => ?_) (by rw [F.kind]; rfl)
    refine hQ env.locals h' _ (by first | exact Nat.le_succ _ | exact Nat.le_refl _) ⟨hs', (let ⟨o, _, _, ho, _⟩ := hn'; ⟨o, ho⟩), ?_, fun y u hy hu => ?_, ⟨_, hn'⟩, fun y d u hd hu => ⟨u, hu.sameBut hs' ?_⟩⟩ F.nsMt F.nsPw (fun vs k e => not_ns_list hn e) (.inl rfl)
    · unfold At; rw [hl]; exact ⟨_, hn', by simp⟩
    · unfold At at hu ⊢
      split at hu
      · refine ex1_2 (hu) fun m2 hn2 hm2 => ?_
        refine ⟨_, hn', ?_⟩
        simp only [hy, if_false]
        refine ex3_4 (hn) fun o es ep ho hd hk hf => ?_
        refine ex3_4 (hn2) fun o2 es2 ep2 ho2 hd2 hk2 hf2 => ?_
        rw [ho] at ho2; cases ho2
        rw [hd] at hd2; cases hd2
        rw [← hf y, hf2 y]; exact hm2
      · refine ex1_2 (hu) fun d hd hv => ?_
        exact ⟨d, hd, hv.sameBut hs' (fun q => not_ns_cell hn (q ▸ hv))⟩
      · exact hu.elim
    · exact fun q => not_ns_cell hn (q ▸ hu)
  · refine ex2_4 (F.cell n hl hl2) fun c v0 hc hv hm hp => ?_
    refine wpAny_storeName_cell F.kind hl hc hv fun h' hv' hs' => ?_
    refine ex1_1 (F.ns) fun m hn => ?_
    have hne : env.locals ≠ c := fun q => not_ns_cell (q ▸ hn) hv
    refine hQ c h' s.toks (Nat.le_refl _) ⟨hs', (let ⟨o, ho, _⟩ := hv'; ⟨o, ho⟩), ?_, fun y u hy hu => ?_, ⟨m, hn.sameBut hs' hne⟩, fun y d u hd hu => ?_⟩ hm hp (fun vs k e => not_cell_list hv e) (.inr hc)
    · unfold At; rw [hl]; exact ⟨c, hc, hv'⟩
    · unfold At at hu ⊢
      split at hu
      · refine ex1_2 (hu) fun m2 hn2 hm2 => ?_
        exact ⟨m2, hn2.sameBut hs' hne, hm2⟩
      · refine ex1_2 (hu) fun d hd hv2 => ?_
        exact ⟨d, hd, hv2.sameBut hs' (fun q => hy (F.inj y n c (q ▸ hd) hc))⟩
      · exact hu.elim
    · by_cases q : d = c
      · subst q; exact ⟨_, hv'⟩
      · exact ⟨u, hu.sameBut hs' q⟩
end
end Mine
end
section
set_option genSizeOf false
set_option genSizeOfSpec false
namespace Mine
open PySem PyProof.Rows PyProof.V PySem.SeqAt PySem.Spec
section
variable {w : World} {h₀ : Heap} {os₀ : OsState} {A : Around} {Mt₀ : Addr → Prop} {Mt Mt' : Ms} {pw : List Addr} {p p' : P} {s s' : Shared} {x y v : V} {val b : Value} {hc h h' : Heap} {env : Env} {sc : Scope} {me : Me} {n : Str} {c a : Addr}
theorem Inv.at (I : Inv h₀ os₀ Mt pw p s) {t : Nat} (hs : Heap.SameBut c s.heap h') (hx : ∃ o, h'.get? c = some o) (hM : Mt.m c) (hp : c ∉ pw) (hle : s.toks ≤ t := by first | exact Nat.le_refl _ | exact Nat.le_succ _ | assumption | omega) : Inv h₀ os₀ Mt pw p { s with heap := h', toks := t } where
  base := fun b o e => (hs.2 b (fun q => by subst q; rw [(I.mt b hM).1] at e; cases e)).trans (I.base b o e)
  mt := fun a ha => ⟨(I.mt a ha).1, by
    by_cases q : a = c
    · subst q; exact hx
    · refine ex1_1 ((I.mt a ha).2) fun o ho => ?_
      exact ⟨o, (hs.2 a q).trans ho⟩⟩
  pws := I.pws
  pile := I.pile.mono (fun b o hb e => ⟨hb, (hs.2 b (fun q => hb (q ▸ hM))).trans e⟩) fun x o hx e => (hs.2 x (fun q => hp (q ▸ hx))).trans e
  os := I.os
  gens := I.gens
  tk := fun u z e => ⟨(I.tk u z e).1, Nat.lt_of_lt_of_le (I.tk u z e).2 hle⟩
  pos := Nat.lt_of_lt_of_le I.pos hle
theorem Fs.put {v : V} (F : Fs env sc me Mt₀ Mt pw hc h) (W : Wrote env n val c h h') (hp : ∀ a ∈ pw, Mt.m a) (hcM : Mt.m c) (hcP : c ∉ pw) (hcL : ∀ vs m, h.get? c ≠ some { cls := .type "list", data := .seq vs m })
    (hcE : c = env.locals ∨ ∃ y, env.cells.lookup y = some c) (R : VR Mt pw h v val) : Fs env sc (put me n false v) Mt₀ Mt pw hc h' where
  fm := F.fm.put W hp hcM hcL R
  sub := F.sub
  mt0 := F.mt0
  kc := fun b o e q => (W.same.2 b (fun z => by
    subst z
    rcases hcE with rfl | ⟨y, hy⟩
    · rw [F.newL] at e; cases e
    · rw [F.newC y b hy] at e; cases e)).trans (F.kc b o e q)
  ex := fun b o e => by
    by_cases q : b = c
    · subst q; exact W.ex
    · obtain ⟨o', e'⟩ := F.ex b o e
      exact ⟨o', (W.same.2 b q).trans e'⟩
  newL := F.newL
  newC := F.newC
  newO := fun y bd a hy hb ho hat => by
    rw [lookup_put] at hb
    have q1 : y ≠ n := fun q => by rw [if_pos q] at hb; cases hb; cases ho
    rw [if_neg q1] at hb
    obtain ⟨u, hu, _⟩ := F.fm.vars y bd hy hb
    have := (W.there y u q1 hu).det hat
    subst this
    exact F.newO y bd a hy hb ho hu
theorem PileAt.grow {vs : Array Value} {k : Nat} (H : PileAt Mt pw p h) (ha : h.get? a = some { cls := .type "list", data := .seq vs k }) (hap : a ∉ pw) : PileAt { Mt with m := fun b => Mt.m b ∨ b = a } pw p h := by
  refine ⟨H.1, ?_⟩
  replace H := H.2
  unfold PileAt₀ at H ⊢
  split at H
  · exact H
  · obtain ⟨x, d, vs', n, od, e1, e2, e3, e4, e5, e6, e7, e8, e9⟩ := H
    refine ⟨x, d, vs', n, od, e1, e2, e3, ?_, e5, e6, e7, e8, ?_⟩
    · rintro (q | rfl)
      · exact e4 q
      · have q := Option.some.inj (ha.symm.trans e5)
        rw [← q] at e6
        exact absurd e6 (by simp)
    · refine ⟨e9.1, fun i y v hy hv => ?_⟩
      have hr := e9.2 i y v hy hv
      rw [List.getElem?_map] at hy
      refine omap hy fun z hz q_162 => ?_
      subst q_162
      refine ex3_5 (hr.tup') fun t us m q_173 f1 f2 f3 f4 => ?_
      subst q_173
      refine .tup ?_ f2 f3 fun j y u hy hu => ?_
      · rintro (q | rfl)
        · exact f1 q
        · have q := congrArg Obj.cls (Option.some.inj (ha.symm.trans f2))
          exact absurd q (by simp)
      · have hv := f4 j y u hy hu
        match j, hy with
        | 0, hy => simp at hy; subst hy; obtain ⟨t, rfl, ht⟩ := hv.str'; exact .str _ _ ht
        | 1, hy => simp at hy; subst hy; obtain ⟨t, rfl, ht⟩ := hv.str'; exact .str _ _ ht
        | j + 2, hy => simp at hy
theorem Inv.grow {vs : Array Value} {k : Nat} (I : Inv h₀ os₀ Mt pw p s) (hf : h₀.get? a = none) (ha : s.heap.get? a = some { cls := .type "list", data := .seq vs k }) (hap : a ∉ pw) : Inv h₀ os₀ { Mt with m := fun b => Mt.m b ∨ b = a } pw p s where
  base := I.base
  mt := fun b hb => by
    rcases hb with hb | rfl
    · exact I.mt b hb
    · exact ⟨hf, _, ha⟩
  pws := fun b hb => .inl (I.pws b hb)
  pile := I.pile.grow ha hap
  os := I.os
  gens := I.gens
  tk := I.tk
  pos := I.pos
theorem Fm.grow (F : Fm env sc me Mt pw h) (hp : ∀ a ∈ pw, Mt.m a) (hk : Kp pw Mt Mt' h h') (hf : h.get? a = none) : Fm env sc me { Mt' with m := fun b => Mt'.m b ∨ b = a } pw h' where
  kind := F.kind
  glob := F.glob
  blt := F.blt
  names := F.names
  ns := (F.kp hp hk).ns
  nsMt := .inl (hk.m ▸ F.nsMt)
  nsPw := F.nsPw
  cellIs := F.cellIs
  cellAll := fun x c hc => let ⟨a, b, v, hv⟩ := (F.kp hp hk).cellAll x c hc; ⟨.inl a, b, v, hv⟩
  inj := F.inj
  vars := fun x b hx hb => by
    refine ex1_2 (F.vars x b hx hb) fun v hv hr => ?_
    refine ⟨v, F.at_kp hk hv, hr.mono (fun b o hb e => ⟨?_, hk.keep b o (fun q => hb (hp b q)) e⟩) (fun a o _ _ ha hq e => ⟨.inl (hk.m ▸ ha), hk.keep a o hq e⟩) hk.G⟩
    rintro (q | rfl)
    · exact hb (hk.m ▸ q)
    · rw [hf] at e; exact nn e
  sep := (F.kp hp hk).sep
theorem Fs.grow (F : Fs env sc me Mt₀ Mt pw hc h) (hp : ∀ a ∈ pw, Mt.m a) (hk : Kp pw Mt Mt' h h') (he : ∀ a ∈ pw, ∀ o, h.get? a = some o → ∃ o', h'.get? a = some o') (hf : h.get? a = none) : Fs env sc me Mt₀ { Mt' with m := fun b => Mt'.m b ∨ b = a } pw hc h' where
  fm := F.fm.grow hp hk hf
  sub := fun b hb => .inl (hk.m ▸ F.sub b hb)
  mt0 := F.mt0
  kc := (F.kp hp hk he).kc
  ex := (F.kp hp hk he).ex
  newL := F.newL
  newC := F.newC
  newO := (F.kp hp hk he).newO
theorem Fs.putOwn {xs : List V} {vs : Array Value} {k : Nat} (F : Fs env sc me Mt₀ Mt pw hc h) (W : Wrote env n (.ref a) c h h') (hp : ∀ a ∈ pw, Mt.m a) (hcM : Mt.m c) (hcP : c ∉ pw) (hcL : ∀ vs m, h.get? c ≠ some { cls := .type "list", data := .seq vs m })
    (hcE : c = env.locals ∨ ∃ y, env.cells.lookup y = some c) (ha : h.get? a = some { cls := .type "list", data := .seq vs k }) (hM : Mt.m a) (hap : a ∉ pw) (R : VRs Mt pw h xs vs.toList) (hnew : hc.get? a = none)
    (hsep : ∀ y bd, vis sc y = true → me.lookup y = some bd → bd.own = true → ¬ At env h y (.ref a)) : Fs env sc (Mine.put me n true (.lst xs)) Mt₀ Mt pw hc h' := by
  have hac : a ≠ c := fun q => hcL vs k (q ▸ ha)
  have ha' : h'.get? a = some { cls := .type "list", data := .seq vs k } := (W.same.2 a hac).trans ha
  have hk : ∀ b o, ¬ Mt.m b → h.get? b = some o → ¬ Mt.m b ∧ h'.get? b = some o := fun b o hb e => ⟨hb, (W.same.2 b (fun q => hb (q ▸ hcM))).trans e⟩
  have R' : VRs Mt pw h' xs vs.toList := R.mono hk
  refine
    { fm := { kind := F.fm.kind, glob := F.fm.glob, blt := F.fm.blt, names := F.fm.names, ns := W.ns, nsMt := F.fm.nsMt, nsPw := F.fm.nsPw,
              cellIs := F.fm.cellIs, cellAll := fun y d hd => let ⟨a, b, u, hu⟩ := F.fm.cellAll y d hd; let ⟨u', hu'⟩ := W.cells y d u hd hu; ⟨a, b, u', hu'⟩
              inj := F.fm.inj, vars := fun y b hy hb => ?_, sep := fun y z by' bz a' hy hz ey ez oy oz ay az => ?_ }
      sub := F.sub, mt0 := F.mt0, kc := fun b o e q => ?_, ex := fun b o e => ?_, newL := F.newL, newC := F.newC, newO := fun y bd a' hy hb ho hat => ?_ }
  · rw [lookup_put] at hb
    by_cases q : y = n
    · subst q
      rw [if_pos rfl] at hb; apply sm1 hb
      exact ⟨_, W.here, xs, a, vs, k, rfl, rfl, hM, hap, ha', R'⟩
    · rw [if_neg q] at hb
      refine ex1_2 (F.fm.vars y b hy hb) fun u hu hr => ?_
      refine ⟨u, W.there y u q hu, hr.mono hk fun a1 o e1 e2 e3 e4 e5 => ⟨e3, ?_⟩⟩
      unfold BdR at hr
      rw [e2] at hr
      refine ex4_6 (hr) fun xs' a' vs' m z1 z2 z3 z4 z5 z6 => ?_
      rw [e1] at z2; cases z2
      exact (W.same.2 _ (fun q => hcL vs' m (q ▸ z5))).trans e5
  · rw [lookup_put] at ey ez
    by_cases q1 : y = n
    · by_cases q2 : z = n
      · rw [q1, q2]
      · rw [if_neg q2] at ez
        subst q1
        have := W.here.det ay
        cases this
        refine ex1_2 (F.fm.vars z bz hz ez) fun u hu _ => ?_
        have e2 := (W.there z u q2 hu).det az
        subst e2
        exact absurd hu (hsep z bz hz ez oz)
    · rw [if_neg q1] at ey
      by_cases q2 : z = n
      · subst q2
        have := W.here.det az
        cases this
        refine ex1_2 (F.fm.vars y by' hy ey) fun u hu _ => ?_
        have e2 := (W.there y u q1 hu).det ay
        subst e2
        exact absurd hu (hsep y by' hy ey oy)
      · rw [if_neg q2] at ez
        refine ex1_2 (F.fm.vars y by' hy ey) fun u hu _ => ?_
        refine ex1_2 (F.fm.vars z bz hz ez) fun u' hu' _ => ?_
        have e1 := (W.there y u q1 hu).det ay
        have e2 := (W.there z u' q2 hu').det az
        subst e1 e2
        exact F.fm.sep y z by' bz _ hy hz ey ez oy oz hu hu'
  · exact (W.same.2 b (fun z => by
      subst z
      rcases hcE with rfl | ⟨y, hy⟩
      · rw [F.newL] at e; exact nn e
      · rw [F.newC y b hy] at e; cases e)).trans (F.kc b o e q)
  · by_cases q : b = c
    · subst q; exact W.ex
    · refine ex1_1 (F.ex b o e) fun o' e' => ?_
      exact ⟨o', (W.same.2 b q).trans e'⟩
  · rw [lookup_put] at hb
    by_cases q1 : y = n
    · subst q1
      have := W.here.det hat
      cases this
      exact hnew
    · rw [if_neg q1] at hb
      refine ex1_2 (F.fm.vars y bd hy hb) fun u hu _ => ?_
      have := (W.there y u q1 hu).det hat
      subst this
      exact F.newO y bd _ hy hb ho hu
theorem Fs.upd {xs : List V} {vs vs0 : Array Value} {k k0 : Nat} (F : Fs env sc me Mt₀ Mt pw hc h) (hn : vis sc n = true) {bd : Bd} (hb : me.lookup n = some bd) (ho : bd.own = true) (hat : At env h n (.ref a)) (hM : Mt.m a) (hap : a ∉ pw)
    (ha0 : h.get? a = some { cls := .type "list", data := .seq vs0 k0 }) (hs : Heap.SameBut a h h') (ha : h'.get? a = some { cls := .type "list", data := .seq vs k }) (R : VRs Mt pw h xs vs.toList) : Fs env sc (Mine.put me n true (.lst xs)) Mt₀ Mt pw hc h' := by
  have hnew := F.newO n bd a hn hb ho hat
  have hk : ∀ b o, ¬ Mt.m b → h.get? b = some o → ¬ Mt.m b ∧ h'.get? b = some o := fun b o hb e => ⟨hb, (hs.2 b (fun q => hb (q ▸ hM))).trans e⟩
  have hatk : ∀ {y u}, At env h y u → At env h' y u := fun {y u} H => by
    unfold At at H ⊢
    split at H
    · refine ex1_2 (H) fun m hn hm => ?_
      exact ⟨m, hn.sameBut hs (fun q => not_ns_list (q ▸ hn) ha0), hm⟩
    · refine ex1_2 (H) fun d hd hv => ?_
      exact ⟨d, hd, hv.sameBut hs (fun q => not_cell_list (q ▸ hv) ha0)⟩
    · exact H.elim
  have hback : ∀ {y u bd}, vis sc y = true → me.lookup y = some bd → At env h' y u → At env h y u := fun {y u bd} hy hb H => by
    refine ex1_2 (F.fm.vars y bd hy hb) fun u' hu' _ => ?_
    have := (hatk hu').det H
    subst this; exact hu'
  have ex' : ∀ b o, h.get? b = some o → ∃ o', h'.get? b = some o' := fun b o e => by
    by_cases q : b = a
    · subst q; exact ⟨_, ha⟩
    · exact ⟨o, (hs.2 b q).trans e⟩
  refine
    { fm := { kind := F.fm.kind, glob := F.fm.glob, blt := F.fm.blt, names := F.fm.names, ns := ?_, nsMt := F.fm.nsMt, nsPw := F.fm.nsPw,
              cellIs := F.fm.cellIs, cellAll := fun y d hd => let ⟨a, b, u, hu⟩ := F.fm.cellAll y d hd; ⟨a, b, u, hu.sameBut hs (fun q => not_cell_list (q ▸ hu) ha0)⟩
              inj := F.fm.inj, vars := fun y b hy hb' => ?_, sep := fun y z by' bz a' hy hz ey ez oy oz ay az => ?_ }
      sub := F.sub, mt0 := F.mt0, kc := fun b o e q => ?_, ex := fun b o e => ?_, newL := F.newL, newC := F.newC, newO := fun y bd' a' hy hb' ho' hat' => ?_ }
  · refine ex1_1 (F.fm.ns) fun m hm => ?_
    exact ⟨m, hm.sameBut hs (fun q => not_ns_list (q ▸ hm) ha0)⟩
  · rw [lookup_put] at hb'
    by_cases q : y = n
    · subst q
      rw [if_pos rfl] at hb'; apply sm1 hb'
      exact ⟨_, hatk hat, xs, a, vs, k, rfl, rfl, hM, hap, ha, R.mono hk⟩
    · rw [if_neg q] at hb'
      refine ex1_2 (F.fm.vars y b hy hb') fun u hu hr => ?_
      refine ⟨u, hatk hu, hr.mono hk fun a1 o e1 e2 e3 e4 e5 => ⟨e3, (hs.2 a1 (fun z => ?_)).trans e5⟩⟩
      subst z e1
      exact q (F.fm.sep y n b bd a1 hy hn hb' hb e2 ho hu hat)
  · rw [lookup_put] at ey ez
    by_cases q1 : y = n
    · by_cases q2 : z = n
      · rw [q1, q2]
      · rw [if_neg q2] at ez
        subst q1
        have := (hatk hat).det ay
        cases this
        exact F.fm.sep y z bd bz _ hy hz hb ez ho oz hat (hback hz ez az)
    · rw [if_neg q1] at ey
      by_cases q2 : z = n
      · subst q2
        have := (hatk hat).det az
        cases this
        exact F.fm.sep y z by' bd _ hy hz ey hb oy ho (hback hy ey ay) hat
      · rw [if_neg q2] at ez
        exact F.fm.sep y z by' bz _ hy hz ey ez oy oz (hback hy ey ay) (hback hz ez az)
  · exact (hs.2 b (fun z => by subst z; rw [hnew] at e; cases e)).trans (F.kc b o e q)
  · refine ex1_1 (F.ex b o e) fun o' e' => ?_
    exact ex' b o' e'
  · rw [lookup_put] at hb'
    by_cases q1 : y = n
    · subst q1
      have := (hatk hat).det hat'
      cases this
      exact hnew
    · rw [if_neg q1] at hb'
      exact F.newO y bd' _ hy hb' ho' (hback hy hb' hat')
end
end Mine
end
section
set_option genSizeOf false
set_option genSizeOfSpec false
namespace Mine
open PySem PyProof.Rows PyProof.V PySem.SeqAt PySem.Spec
section
variable {w : World} {h₀ : Heap} {os₀ : OsState} {A : Around} {Mt₀ : Addr → Prop} {Mt Mt' : Ms} {pw : List Addr} {p p' : P} {s s' : Shared} {x y v : V} {val b : Value} {hc h h' : Heap} {env : Env} {sc : Scope} {me : Me} {n : Str} {c a I : Addr}
theorem off_iter {oI : Obj} (hI : h.get? I = some oI) (hd : ¬ dat oI) (hs : ∀ b o, b ∉ [I] → h.get? b = some o → h'.get? b = some o) : ∀ b o, dat o → h.get? b = some o → h'.get? b = some o := fun b o ho e =>
  hs b o (fun q => by
    have : b = I := by simpa using q
    subst this; rw [hI] at e; cases e; exact hd ho) e
theorem Inv.iter {oI : Obj} (J : Inv h₀ os₀ Mt pw p s) {t : Nat} (hI : s.heap.get? I = some oI) (hd : ¬ dat oI) (hM : ¬ Mt.m I) (hf : h₀.get? I = none) (hs : ∀ b o, b ∉ [I] → s.heap.get? b = some o → h'.get? b = some o) (hle : s.toks ≤ t := by first | exact Nat.le_refl _ | exact Nat.le_succ _ | assumption | omega) : Inv h₀ os₀ Mt pw p { s with heap := h', toks := t } where
  base := fun b o e => hs b o (fun q => by
    have : b = I := by simpa using q
    subst this; rw [hf] at e; cases e) (J.base b o e)
  mt := fun a ha => ⟨(J.mt a ha).1, let ⟨o, ho⟩ := (J.mt a ha).2; ⟨o, hs a o (fun q => hM (by
    have : a = I := by simpa using q
    exact this ▸ ha)) ho⟩⟩
  pws := J.pws
  pile := J.pile.mono' (fun b o ho hb e => ⟨hb, off_iter hI hd hs b o ho e⟩) fun x o hx e => hs x o (fun q => hM (by
    have : x = I := by simpa using q
    exact this ▸ J.pws x hx)) e
  os := J.os
  gens := J.gens
  tk := fun u z e => ⟨(J.tk u z e).1, Nat.lt_of_lt_of_le (J.tk u z e).2 hle⟩
  pos := Nat.lt_of_lt_of_le J.pos hle
theorem Fm.iter {oI : Obj} (F : Fm env sc me Mt pw h) (hI : h.get? I = some oI) (hd : ¬ dat oI) (hM : ¬ Mt.m I) (hs : ∀ b o, b ∉ [I] → h.get? b = some o → h'.get? b = some o) : Fm env sc me Mt pw h' := by
  have hm : ∀ b o, Mt.m b → h.get? b = some o → h'.get? b = some o := fun b o hb e => hs b o (fun q => hM (by
    have : b = I := by simpa using q
    exact this ▸ hb)) e
  have hat : ∀ {x v}, At env h x v → At env h' x v := fun {x v} H => H.kp fun b o hb e => hm b o (by
    rcases hb with rfl | ⟨y, hy⟩
    · exact F.nsMt
    · exact F.cellMt y b hy) e
  exact
  { kind := F.kind, glob := F.glob, blt := F.blt, names := F.names, ns := (let ⟨m, hn⟩ := F.ns; ⟨m, hn.at' fun o e => hm _ o F.nsMt e⟩), nsMt := F.nsMt, nsPw := F.nsPw
    cellIs := F.cellIs, cellAll := fun x c hc => let ⟨a, b, v, o, ho, hv⟩ := F.cellAll x c hc; ⟨a, b, v, o, hm c o a ho, hv⟩
    inj := F.inj
    vars := fun x b hx hb => by
      refine ex1_2 (F.vars x b hx hb) fun v hv hr => ?_
      exact ⟨v, hat hv, hr.mono' (fun b o ho hb e => ⟨hb, off_iter hI hd hs b o ho e⟩) fun a o _ _ ha _ e => ⟨ha, hm a o ha e⟩⟩
    sep := fun x y bx by' a hx hy ex ey ox oy ax ay => by
      refine ex1_2 (F.vars x bx hx ex) fun v hv _ => ?_
      refine ex1_2 (F.vars y by' hy ey) fun u hu _ => ?_
      have e1 := (hat hv).det ax
      have e2 := (hat hu).det ay
      subst e1 e2
      exact F.sep x y bx by' a hx hy ex ey ox oy hv hu }
theorem Fs.iter {oI : Obj} (F : Fs env sc me Mt₀ Mt pw hc h) (hI : h.get? I = some oI) (hd : ¬ dat oI) (hM : ¬ Mt.m I) (hf : hc.get? I = none) (hs : ∀ b o, b ∉ [I] → h.get? b = some o → h'.get? b = some o) : Fs env sc me Mt₀ Mt pw hc h' where
  fm := F.fm.iter hI hd hM hs
  sub := F.sub
  mt0 := F.mt0
  kc := fun b o e q => hs b o (fun z => by
    have : b = I := by simpa using z
    subst this; rw [hf] at e; cases e) (F.kc b o e q)
  ex := fun b o e => by
    refine ex1_1 (F.ex b o e) fun o' e' => ?_
    exact ⟨o', hs b o' (fun z => by
      have : b = I := by simpa using z
      subst this; rw [hf] at e; cases e) e'⟩
  newL := F.newL
  newC := F.newC
  newO := fun x b a hx hb ho hat => by
    refine ex1_2 (F.fm.vars x b hx hb) fun v hv _ => ?_
    have hm : ∀ b o, Mt.m b → h.get? b = some o → h'.get? b = some o := fun b o hb e => hs b o (fun q => hM (by
      have : b = I := by simpa using q
      exact this ▸ hb)) e
    have hv' : At env h' x v := hv.kp fun b o hb e => hm b o (by
      rcases hb with rfl | ⟨y, hy⟩
      · exact F.fm.nsMt
      · exact F.fm.cellMt y b hy) e
    have := hv'.det hat
    subst this
    exact F.newO x b a hx hb ho hv
theorem lookup_letGo {m : Str} : (letGo n me).lookup m = if m = n then (me.lookup m).map (fun b => ⟨false, b.v⟩) else me.lookup m := by
  unfold letGo
  induction me with
  | nil => simp
  | cons e r ih =>
    obtain ⟨k, b⟩ := e
    rw [List.map_cons]
    by_cases q : k = n
    · subst q
      rw [if_pos rfl, List.lookup_cons, List.lookup_cons, ih]
      by_cases z : m = k
      · subst z; simp
      · have : (m == k) = false := by simpa using z
        rw [this, if_neg z]
    · rw [if_neg q, List.lookup_cons, List.lookup_cons, ih]
      by_cases z : m = k
      · subst z; simp [q]
      · have : (m == k) = false := by simpa using z
        rw [this]
theorem letGo_ok (J : Inv h₀ os₀ Mt pw p s) (F : Fs env sc me Mt₀ Mt pw hc s.heap) : ∃ Mt', Inv h₀ os₀ Mt' pw p s ∧ Fs env sc (letGo n me) Mt₀ Mt' pw hc s.heap ∧ (∀ b, Mt'.m b → Mt.m b) ∧ (∀ t z, Mt.G t = some z → Mt'.G t = some z) := by
  by_cases own : ∃ bd, vis sc n = true ∧ me.lookup n = some bd ∧ bd.own = true
  · refine ex1_3 (own) fun bd hv hb ho => ?_
    refine ex1_2 (F.fm.vars n bd hv hb) fun v hat hr => ?_
    unfold BdR at hr
    rw [ho] at hr
    refine ex4_6 (hr) fun xs a vs k e1 e2 e3 e4 e5 e6 => ?_
    subst e2
    have hnew := F.newO n bd a hv hb ho hat
    refine ⟨{ Mt with m := fun b => Mt.m b ∧ b ≠ a }, ?_, ?_, fun b hb => hb.1, fun _ _ e => e⟩
    · exact { base := J.base, mt := fun b hb => J.mt b hb.1, pws := fun b hb => ⟨J.pws b hb, fun q => e4 (q ▸ hb)⟩,
              pile := J.pile.mono' (fun b o _ hb e => ⟨fun q => hb q.1, e⟩) fun _ _ _ e => e, os := J.os, gens := J.gens, tk := J.tk, pos := J.pos }
    · have hmono : ∀ b o, dat o → ¬ Mt.m b → s.heap.get? b = some o → ¬ (Mt.m b ∧ b ≠ a) ∧ s.heap.get? b = some o := fun b o _ hb e => ⟨fun q => hb q.1, e⟩
      refine
        { fm := { kind := F.fm.kind, glob := F.fm.glob, blt := F.fm.blt, names := F.fm.names, ns := F.fm.ns, nsMt := ⟨F.fm.nsMt, fun q => ?_⟩, nsPw := F.fm.nsPw
                  cellIs := F.fm.cellIs, cellAll := fun x c hc => let ⟨a, b, v, hv⟩ := F.fm.cellAll x c hc; ⟨⟨a, fun q => not_cell_list (q ▸ hv) e5⟩, b, v, hv⟩
                  inj := F.fm.inj, vars := fun y b hy hb' => ?_, sep := fun y z by' bz a' hy hz ey ez oy oz ay az => ?_ }
          sub := fun b hb => ⟨F.sub b hb, fun q => ?_⟩, mt0 := F.mt0, kc := F.kc, ex := F.ex, newL := F.newL, newC := F.newC, newO := fun y bd' a' hy hb' ho' hat' => ?_ }
      · refine ex1_1 (F.fm.ns) fun m hm => ?_
        exact not_ns_list (q ▸ hm) e5
      · rw [lookup_letGo] at hb'
        by_cases q : y = n
        · subst q
          rw [if_pos rfl, hb] at hb'
          apply sm1 hb'
          refine ⟨_, hat, ?_⟩
          show VR _ _ _ bd.v _
          rw [e1]
          exact (e6.mono' hmono).lst (fun q => q.2 rfl) (by simpa using e5)
        · rw [if_neg q] at hb'
          refine ex1_2 (F.fm.vars y b hy hb') fun u hu hr => ?_
          refine ⟨u, hu, hr.mono' hmono fun a1 o z1 z2 z3 z4 z5 => ⟨⟨z3, fun z => ?_⟩, z5⟩⟩
          subst z z1
          exact q (F.fm.sep y n b bd _ hy hv hb' hb z2 ho hu hat)
      · rw [lookup_letGo] at ey ez
        have q1 : y ≠ n := fun q => by
          rw [if_pos q] at ey
          refine omap ey fun z hz q_372 => ?_
          subst q_372
          exact nf oy
        have q2 : z ≠ n := fun q => by
          rw [if_pos q] at ez
          refine omap ez fun z hz q_412 => ?_
          subst q_412
          exact nf oz
        rw [if_neg q1] at ey
        rw [if_neg q2] at ez
        exact F.fm.sep y z by' bz a' hy hz ey ez oy oz ay az
      · subst q
        refine ex1_1 (F.mt0 b hb) fun o ho => ?_
        rw [hnew] at ho; exact nn ho
      · rw [lookup_letGo] at hb'
        have q1 : y ≠ n := fun q => by
          rw [if_pos q] at hb'
          refine omap hb' fun z hz q_522 => ?_
          subst q_522
          exact nf ho'
        rw [if_neg q1] at hb'
        exact F.newO y bd' a' hy hb' ho' hat'
  · refine ⟨Mt, J, ?_, fun b hb => hb, fun _ _ e => e⟩
    have same : ∀ y b, vis sc y = true → (letGo n me).lookup y = some b → me.lookup y = some b := fun y b hy hb => by
      rw [lookup_letGo] at hb
      by_cases q : y = n
      · subst q
        rw [if_pos rfl] at hb
        refine omap hb fun z hz q_622 => ?_
        subst q_622
        have : z.own = false := by
          cases ho : z.own with
          | false => rfl
          | true => exact absurd ⟨z, hy, hz, ho⟩ own
        rw [hz]
        obtain ⟨o, v⟩ := z
        simp at this; subst this; rfl
      · rw [if_neg q] at hb; exact hb
    exact
      { fm := { kind := F.fm.kind, glob := F.fm.glob, blt := F.fm.blt, names := F.fm.names, ns := F.fm.ns, nsMt := F.fm.nsMt, nsPw := F.fm.nsPw, cellIs := F.fm.cellIs, cellAll := F.fm.cellAll, inj := F.fm.inj
                vars := fun y b hy hb => F.fm.vars y b hy (same y b hy hb), sep := fun y z by' bz a' hy hz ey ez oy oz ay az => F.fm.sep y z by' bz a' hy hz (same _ _ hy ey) (same _ _ hz ez) oy oz ay az }
        sub := F.sub, mt0 := F.mt0, kc := F.kc, ex := F.ex, newL := F.newL, newC := F.newC, newO := fun y bd' a' hy hb' ho' hat' => F.newO y bd' a' hy (same _ _ hy hb') ho' hat' }
end
end Mine
end
section
set_option genSizeOf false
set_option genSizeOfSpec false
namespace Mine
open PySem PyProof.Rows PyProof.V PySem.SeqAt PySem.Spec
structure Tp (h₀ : Heap) (mg mb : Str → Option Value) : Prop where
  g : h₀.Ns mainGlobals mg
  b : h₀.Ns builtinsNs mb
  lim : h₀.NoLimit
  nb : NoneBooked h₀
  blt : ∀ f fv, bltV f = some fv → mg f = none ∧ mb f = some fv
  range : mg "range" = none ∧ mb "range" = some (.type "range")
  str : mg "str" = none ∧ mb "str" = some (.type "str")
  enum : mg "enumerate" = none ∧ mb "enumerate" = some (.type "enumerate")
structure Wk (w : World) (A : Around) (Mt : Ms) (pw : List Addr) (h : Heap) (I : Addr) (items : List V) (fp : List Addr) (St : Nat → Heap → Prop) : Prop where
  frame : ∀ i h h', St i h → (∀ b ∈ fp, ∀ o, h.get? b = some o → h'.get? b = some o) → St i h'
  item : ∀ i x (s : Shared) (Q : Option Value → Shared → Prop) (E : Value → Shared → Prop), items[i]? = some x → St i s.heap →
    (∀ v h' tk, St (i + 1) h' → s.toks ≤ tk → (∀ b o, b ∉ [I] → s.heap.get? b = some o → h'.get? b = some o) → (VR Mt pw h x v ∨ ∃ z t, x = .str z ∧ v = .str z t ∧ s.toks ≤ t ∧ t < tk) → Q (some v) { s with heap := h', toks := tk }) →
    wpAny (model prog w) A (pyNext (.ref I)) Q E s
  done : ∀ (s : Shared) (Q : Option Value → Shared → Prop) (E : Value → Shared → Prop), St items.length s.heap →
    (∀ h' tk, s.toks ≤ tk → (∀ b o, b ∉ [I] → s.heap.get? b = some o → h'.get? b = some o) → Q none { s with heap := h', toks := tk }) → wpAny (model prog w) A (pyNext (.ref I)) Q E s
  self : ∀ i (s : Shared) (Q : Value → Shared → Prop) (E : Value → Shared → Prop), St i s.heap → Q (.ref I) s → wpAny (model prog w) A (pyIter (.ref I)) Q E s
  obj : ∀ i h, St i h → ∃ o, h.get? I = some o ∧ ¬ dat o
  fps : ∀ b ∈ fp, ¬ Mt.m b ∧ ∃ o, h.get? b = some o
  mem : I ∈ fp
  st : St 0 h
theorem Wk.of {w : World} {A : Around} {Mt : Ms} {pw : List Addr} {h : Heap} {I : Addr} {items : List V} {fp : List Addr} {n : Nat} {P : Nat → Value → Prop} {St : Nat → Heap → Prop} (W : Walks prog w A I fp [I] n P St) (hn : n = items.length)
    (obj : ∀ i h, St i h → ∃ o, h.get? I = some o ∧ ¬ dat o) (fps : ∀ b ∈ fp, ¬ Mt.m b ∧ ∃ o, h.get? b = some o) (mem : I ∈ fp) (val : ∀ (i : Nat) v x, P i v → items[i]? = some x → VR Mt pw h x v) (st : St 0 h) : Wk w A Mt pw h I items fp St where
  frame := W.frame
  item := fun i x s Q E hx hst hQ => by
    have hi : i < n := hn ▸ (List.getElem?_eq_some_iff.mp hx).1
    exact wpAny_with_toks (n := s.toks) (Nat.le_refl _) (W.item i s _ _ hi hst fun v h' tk hP hs hk hle => hQ v h' tk hs hle hk (.inl (val i v x hP hx)))
  done := fun s Q E hst hQ => wpAny_with_toks (n := s.toks) (Nat.le_refl _) (W.done s _ _ (hn ▸ hst) fun h' tk hk hle => hQ h' tk hle hk)
  self := W.self
  obj := obj
  fps := fps
  mem := mem
  st := st
section
variable {w : World} {h₀ : Heap} {os₀ : OsState} {A : Around} {Mt₀ : Addr → Prop} {Mt Mt' : Ms} {pw : List Addr} {p p' : P} {s s' : Shared} {x y v : V} {val b : Value} {hc h h' : Heap} {env : Env} {sc : Scope} {me : Me} {n : Str} {c a I : Addr} {mg mb : Str → Option Value}
theorem not_dat {o : Obj} (h1 : o.cls ≠ .type "list") (h2 : o.cls ≠ .type "tuple") (h3 : o.cls ≠ .type "re.Match") (h4 : o.cls ≠ .type "dict") : ¬ dat o := fun q => by
  rcases q with q | q | q | q
  · exact h1 q
  · exact h2 q
  · exact h3 q
  · exact h4 q
theorem global_name {f : Str} {fv : Value} {pos : Pos} {E : Value → Shared → Prop} {Q : Value → Shared → Prop} (T : Tp h₀ mg mb) (J : Inv h₀ os₀ Mt pw p s) (F : Fm env sc me Mt pw s.heap) (hg : glo sc f = true) (hd : f ≠ ("__debug__" : Str))
    (hv : mg f = some fv ∨ (mg f = none ∧ mb f = some fv)) (hQ : Q fv s) : wpAny (model prog w) A (eval (.Name f pos) env) Q E s := by
  have hk : env.kindOf f = some .globalImplicit := by
    unfold glo at hg
    split at hg
    · rename_i q; have := F.names f _ q; simpa using this
    · exact nf hg
  refine Calls.Name_function_global F.kind hk ?_ (by simpa using hd)
  have g : s.heap.Ns env.globals mg := F.glob ▸ T.g.keeps J.base
  have b : s.heap.Ns env.builtins mb := F.blt ▸ T.b.keeps J.base
  rcases hv with hv | ⟨h1, h2⟩
  · exact Calls.loadGlobal_global g hv hQ
  · exact Calls.loadGlobal_builtin g h1 b h2 hQ
theorem range_size {n : Int} (h : 0 ≤ n) : Builtin.Range.rangeSize 0 n 1 = ((n.toNat : Nat) : Int) := by
  rw [rangeSize_one]
  split <;> omega
theorem iter_val {xv : Value} {items : List V} (J : Inv h₀ os₀ Mt pw p s) (R : VR Mt pw s.heap v xv) (e : iterV v = some items) (hh : A.handled = none) {E : Value → Shared → Prop} {Q : Value → Shared → Prop}
    (hQ : ∀ I fp St s2, Wk w A Mt pw s2.heap I items fp St → Inv h₀ os₀ Mt pw p s2 → Kp pw Mt Mt s.heap s2.heap → (∀ b o, s.heap.get? b = some o → s2.heap.get? b = some o) → s.heap.get? I = none → Q (.ref I) s2) : wpAny (model prog w) A (pyIter xv) Q E s := by
  have hfr := fresh_size s.heap
  have hM := J.fresh hfr
  unfold iterV at e
  split at e
  · rename_i xs
    cases e
    refine ex3_5 (R.lst') fun a₁ vs n q_83 h1 h2 h3 h4 => ?_
    subst q_83
    refine wpAny_pyIter_list ⟨_, h2, rfl, n, rfl⟩ ?_
    have hk : ∀ b o, s.heap.get? b = some o → (s.heap.push { cls := .type "list_iterator", data := .fields #[.ref a₁, .int 0 0] }).get? b = some o := fun b o e => Heap.get?_push_of_some _ e
    have hI : (s.heap.push { cls := .type "list_iterator", data := .fields #[.ref a₁, .int 0 0] }).get? s.heap.objs.size = some { cls := .type "list_iterator", data := .fields #[.ref a₁, .int 0 0] } := Heap.get?_push_size _ rfl
    have hne : a₁ ≠ s.heap.objs.size := fun q => by subst q; rw [hfr] at h2; exact nn h2
    have W : Walks prog w A s.heap.objs.size _ _ _ _ _ := Walks.list (prog := prog) (w := w) hh s.heap.objs.size a₁ hne vs
    refine hQ _ [s.heap.objs.size, a₁] (fun i h => h.IsListIter s.heap.objs.size a₁ i ∧ h.IsList a₁ vs) _ (Wk.of W h3 (fun i h st => ?_) (fun b hb => ?_) (by simp) (fun i u x hu hx => ?_) ?_) (J.keeps (t := s.toks) hk) (Kp.of_keeps hk) hk hfr
    · refine an2 (st) fun t_150 _ => ?_
      refine ex1_3 (t_150) fun o ho hc _ => ?_
      exact ⟨o, ho, not_dat (by rw [hc]; simp) (by rw [hc]; simp) (by rw [hc]; simp) (by rw [hc]; simp)⟩
    · simp only [List.mem_cons, List.not_mem_nil, or_false] at hb
      rcases hb with rfl | rfl
      · exact ⟨hM, _, hI⟩
      · exact ⟨h1, _, hk _ _ h2⟩
    · exact (h4 i _ u hx hu).mono fun b o hb e => ⟨hb, hk b o e⟩
    · exact ⟨⟨_, hI, rfl, rfl⟩, _, hk _ _ h2, rfl, n, rfl⟩
  · rename_i z
    cases e
    refine ex1_2 (R.str') fun t q_251 _ => ?_
    subst q_251
    have fin : ∀ (o : Obj) (St : Nat → Heap → Prop), (∀ i h h', St i h → (∀ b ∈ [s.heap.objs.size], ∀ o, h.get? b = some o → h'.get? b = some o) → St i h') →
        (∀ i c (s1 : Shared) (Q : Option Value → Shared → Prop) (E : Value → Shared → Prop), z.cps[i]? = some c → St i s1.heap → (∀ h', St (i + 1) h' → Heap.SameBut s.heap.objs.size s1.heap h' → Q (some (.str ⟨#[c]⟩ s1.toks)) { s1 with heap := h', toks := s1.toks + 1 }) → wpAny (model prog w) A (pyNext (.ref s.heap.objs.size)) Q E s1) →
        Walks prog w A s.heap.objs.size [s.heap.objs.size] [s.heap.objs.size] z.cps.size (SignAt z) St → St 0 (s.heap.push o) → o.isFreed = false → (∀ i h, St i h → ∃ o, h.get? s.heap.objs.size = some o ∧ ¬ dat o) →
        Q (.ref s.heap.objs.size) { s with heap := s.heap.push o } := fun o St frame item W st hf ho => by
      have hk : ∀ b o', s.heap.get? b = some o' → (s.heap.push o).get? b = some o' := fun b o' e => Heap.get?_push_of_some _ e
      have hlen : z.cps.size = ((charsOf z).map V.str).length := by simp [charsOf]
      refine hQ _ [s.heap.objs.size] St _ { frame := frame, item := fun i x s1 Q E hx hst hQ1 => ?_, done := fun s1 Q E hst hQ1 => ?_, self := W.self, obj := ho, fps := fun b hb => ?_, mem := by simp, st := st } (J.keeps (t := s.toks) hk) (Kp.of_keeps hk) hk hfr
      · have : ∃ c, z.cps[i]? = some c ∧ x = .str ⟨#[c]⟩ := by
          simp only [charsOf, List.map_map, List.getElem?_map, Option.map_eq_some_iff] at hx
          refine ex1_2 (hx) fun c hc q_352 => ?_
          subst q_352
          exact ⟨c, by simpa using hc, rfl⟩
        refine ex1_2 (this) fun c hc q_372 => ?_
        subst q_372
        exact item i c s1 _ _ hc hst fun h' hs hsb => hQ1 _ h' _ hs (Nat.le_succ _) (fun b o hb e => (hsb.2 b (fun q => hb (by simp [q]))).trans e) (.inr ⟨_, _, rfl, rfl, Nat.le_refl _, Nat.lt_succ_self _⟩)
      · exact wpAny_with_toks (n := s1.toks) (Nat.le_refl _) (W.done s1 _ _ (hlen ▸ hst) fun h' tk hk hle => hQ1 h' tk hle hk)
      · have : b = s.heap.objs.size := by simpa using hb
        subst this
        exact ⟨hM, o, Heap.get?_push_size _ hf⟩
    cases ha : z.cps.all (· < 128)
    · refine wpAny_pyIter_wide ha (fin _ _ (Walks.strWide (prog := prog) (w := w) hh _ z t).frame (fun i c s1 Q E hc hst hQ1 => wpAny_pyNext_wide_item hst hc fun h' h1 h2 => hQ1 h' h1 h2) (Walks.strWide hh _ z t) ⟨_, Heap.get?_push_size _ rfl, rfl, rfl⟩ rfl fun i h st => ?_)
      refine ex1_3 (st) fun o ho hc _ => ?_
      exact ⟨o, ho, not_dat (by rw [hc]; simp) (by rw [hc]; simp) (by rw [hc]; simp) (by rw [hc]; simp)⟩
    · refine wpAny_pyIter_ascii ha (fin _ _ (Walks.strAscii (prog := prog) (w := w) hh _ z t).frame (fun i c s1 Q E hc hst hQ1 => wpAny_pyNext_ascii_item hst hc fun h' h1 h2 => hQ1 h' h1 h2) (Walks.strAscii hh _ z t) ⟨_, Heap.get?_push_size _ rfl, rfl, rfl⟩ rfl fun i h st => ?_)
      refine ex1_3 (st) fun o ho hc _ => ?_
      exact ⟨o, ho, not_dat (by rw [hc]; simp) (by rw [hc]; simp) (by rw [hc]; simp) (by rw [hc]; simp)⟩
  · exact nn e
theorem intV_eq {v : V} {i : Int} (h : intV v = some i) : v = .int i := by
  cases v with
  | int j => apply sm1 (show some j = some i from h); rfl
  | _ => exact nn h
theorem isRange_eq {e a : Expr} (h : isRange sc e = some a) : ∃ fp cp, e = .Call (.Name "range" fp) [a] [] cp ∧ glo sc "range" = true := by
  refine obind h fun c h1 h => ?_
  refine obind h fun f h2 h => ?_
  refine obind h fun b h3 h => ?_
  refine oif h fun hf h => ?_
  obtain ⟨fp, h4⟩ := asName_eq h2
  exact ⟨fp, c.2.2, by rw [asCall_eq h1, h4, one_eq h3, hf.1, Option.some.inj h], by rw [← hf.1]; exact hf.2⟩
theorem src_inv {ev : Expr → P → Option (V × P)} {it : Expr} {items : List V} {G : List V → P → Prop}
    (h1 : ∀ fp cp a m l p1, it = .Call (.Name "range" fp) [a] [] cp → glo sc "range" = true → starred a = false → ev a p = some (.int m, p1) → rangeV m = some l → G l p1)
    (h2 : isSet it = false → ∀ z l p1, ev it p = some (z, p1) → iterV z = some l → l.length ≤ cap → G l p1) (e : srcWith ev sc it p = some (items, p')) : G items p' := by
  unfold srcWith at e
  cases hr : isRange sc it with
  | some a =>
    rw [hr] at e
    obtain ⟨fp, cp, h3, hg⟩ := isRange_eq hr
    refine oifn e fun hs e => ?_
    refine obind2 e fun z p1 hz e1 => ?_
    refine obind e1 fun m hm e2 => ?_
    refine omap e2 fun l hl e3 => ?_
    apply pr2 e3
    exact h1 fp cp a m l p1 h3 hg (Bool.eq_false_iff.mpr hs) (by rw [hz, ← intV_eq hm]) hl
  | none =>
    rw [hr] at e
    refine oifn e fun hs e => ?_
    refine obind2 e fun z p1 hz e1 => ?_
    refine obind e1 fun l hl e2 => ?_
    refine omap e2 fun l' hl' e3 => ?_
    apply pr2 e3
    rw [(okL_eq hl').1]
    exact h2 (Bool.eq_false_iff.mpr hs) z l p1 hz hl (okL_eq hl').2
theorem back_none {I : Addr} (J : Inv h₀ os₀ Mt' pw p s') (K : Kp pw Mt Mt' s.heap s'.heap) (hI : s'.heap.get? I = none) : s.heap.get? I = none := by
  cases q : s.heap.get? I with
  | none => rfl
  | some o =>
    by_cases hp : I ∈ pw
    · obtain ⟨_, o', ho'⟩ := J.mt I (J.pws I hp)
      rw [hI] at ho'; cases ho'
    · rw [K.keep I o hp q] at hI; cases hI
theorem range_ok {ev : Expr → P → Option (V × P)} (T : Tp h₀ mg mb) (H : EvOk w h₀ os₀ A pw env sc me ev) {a : Expr} {fp cp : Pos} {m : Int} (hg : glo sc "range" = true) (hs : starred a = false) (hz : ev a p = some (.int m, p'))
    (J : Inv h₀ os₀ Mt pw p s) (F : Fm env sc me Mt pw s.heap) {E : Value → Shared → Prop} {Q : Value → Shared → Prop}
    (hQ : ∀ {Mt' : Ms} r t u v s1, Inv h₀ os₀ Mt' pw p' s1 → Kp pw Mt Mt' s.heap s1.heap → IsRange s1.heap r 0 m 1 t u v → Q (.ref r) s1) :
    wpAny (model prog w) A (eval (.Call (.Name "range" fp) [a] [] cp) env) Q E s := by
  refine wpAny_Call_NameR (global_name T J F hg (by decide) (.inr T.range) ?_)
  refine callWith_machine (fun a h => by cases h) (by rw [not_starred hs]; rfl) ?_
  refine wpAny_items_cons ?_ (not_starred hs)
  refine H a p (.int m) p' hz s J F E _ fun val s1 J1 K1 R1 => ?_
  refine ex1_1 (R1.int') fun t q_91 => ?_
  subst q_91
  refine wpAny_items_nil ?_
  refine call_range_1 ?_
  have hk1 : ∀ b o, s1.heap.get? b = some o → (s1.heap.push { cls := .type "range", data := .fields #[.int 0 s1.toks, .int m t, .int 1 (s1.toks + 1)] }).get? b = some o := fun b o e => Heap.get?_push_of_some _ e
  exact hQ _ _ _ _ _ (J1.keeps (t := s1.toks + 1 + 1) hk1) (K1.trans (Kp.of_keeps hk1)) (Heap.get?_push_size _ rfl)
theorem iter_range {r : Addr} {m : Int} {t u v : Tok} {items : List V} (J : Inv h₀ os₀ Mt pw p s) (hr : IsRange s.heap r 0 m 1 t u v) (e : rangeV m = some items) (hh : A.handled = none) {E : Value → Shared → Prop} {Q : Value → Shared → Prop}
    (hQ : ∀ I fp St s2, Wk w A Mt pw s2.heap I items fp St → Inv h₀ os₀ Mt pw p s2 → Kp pw Mt Mt s.heap s2.heap → s.heap.get? I = none → Q (.ref I) s2) : wpAny (model prog w) A (pyIter (.ref r)) Q E s := by
  unfold rangeV at e
  split at e
  · rename_i hm
    cases e
    have hm2 : m ≤ 4096 := hm.2
    have hm1 : 0 ≤ m := hm.1
    refine wpAny_pyIter_range hr (small_one (by decide) (by decide) (by lia) (by lia)) ?_
    rw [range_size hm.1]
    have hfr := fresh_size s.heap
    have hM := J.fresh hfr
    have hk2 : ∀ b o, s.heap.get? b = some o → (s.heap.push { cls := .type "range_iterator", data := .fields #[rawInt 0, rawInt ((m.toNat : Nat) : Int), rawInt 1] }).get? b = some o := fun b o e => Heap.get?_push_of_some _ e
    have hI : (s.heap.push { cls := .type "range_iterator", data := .fields #[rawInt 0, rawInt ((m.toNat : Nat) : Int), rawInt 1] }).get? s.heap.objs.size = some { cls := .type "range_iterator", data := .fields #[rawInt 0, rawInt ((m.toNat : Nat) : Int), rawInt 1] } := Heap.get?_push_size _ rfl
    have W : Walks prog w A s.heap.objs.size _ _ _ _ _ := Walks.range (prog := prog) (w := w) hh s.heap.objs.size 0 1 m.toNat
    have hlen : m.toNat = ((List.range m.toNat).map fun (i : Nat) => V.int i).length := by simp
    refine hQ _ [s.heap.objs.size] (fun i h => IsRangeIter h s.heap.objs.size (0 + (i : Nat) * 1) ((m.toNat : Int) - (i : Nat)) 1) _ (Wk.of (P := fun i v => ∃ t, v = .int (0 + i * 1) t) W hlen (fun i h st => ⟨_, st, not_dat (by simp) (by simp) (by simp) (by simp)⟩) (fun b hb => ?_) (by simp) (fun i u x hu hx => ?_) ?_) (J.keeps (t := s.toks) hk2) (Kp.of_keeps hk2) hfr
    · have : b = s.heap.objs.size := by simpa using hb
      subst this
      exact ⟨hM, _, hI⟩
    · refine ex1_1 (hu) fun t q_201 => ?_
      subst q_201
      rw [List.getElem?_map] at hx
      refine omap hx fun z hz q_222 => ?_
      subst q_222
      have : z = i := by
        refine ex1_1 (List.getElem?_eq_some_iff.mp hz) fun q1 q2 => ?_
        rw [List.getElem_range] at q2
        exact q2.symm
      subst this
      have : (0 : Int) + (z : Int) * 1 = (z : Int) := by lia
      rw [this]
      exact .int _ _
    · show IsRangeIter _ _ (0 + ((0 : Nat) : Int) * 1) (((m.toNat : Nat) : Int) - ((0 : Nat) : Int)) 1
      simpa using hI
  · exact nn e
theorem src_ok {ev : Expr → P → Option (V × P)} (T : Tp h₀ mg mb) (H : EvOk w h₀ os₀ A pw env sc me ev) {it : Expr} {items : List V} (e : srcWith ev sc it p = some (items, p')) (J : Inv h₀ os₀ Mt pw p s) (F : Fm env sc me Mt pw s.heap) (hh : A.handled = none)
    {E : Value → Shared → Prop} {Q : Value → Shared → Prop}
    (hQ : ∀ {Mt' : Ms} I fp St s2, Wk w A Mt' pw s2.heap I items fp St → Inv h₀ os₀ Mt' pw p' s2 → Kp pw Mt Mt' s.heap s2.heap → s.heap.get? I = none → Q (.ref I) s2) :
    wpAny (model prog w) A (eval it env) (fun x s1 => wpAny (model prog w) A (pyIter x) Q E s1) E s := by
  refine src_inv (G := fun items p' => (∀ {Mt' : Ms} I fp St s2, Wk w A Mt' pw s2.heap I items fp St → Inv h₀ os₀ Mt' pw p' s2 → Kp pw Mt Mt' s.heap s2.heap → s.heap.get? I = none → Q (.ref I) s2) →
    wpAny (model prog w) A (eval it env) (fun x s1 => wpAny (model prog w) A (pyIter x) Q E s1) E s) ?_ ?_ e hQ
  · intro fp cp a m l p1 hit hg hs hz hl hQ
    subst hit
    refine range_ok T H hg hs hz J F fun r t u v s1 J1 K1 hr => ?_
    exact iter_range J1 hr hl hh fun I fp St s2 wk J2 K2 hI => hQ I fp St s2 wk J2 (K1.trans K2) (back_none J1 K1 hI)
  · intro hset z l p1 hz hl hcap hQ
    refine H it p z _ hz s J F E _ fun val s1 J1 K1 R1 => ?_
    exact iter_val J1 R1 hl hh fun I fp St s2 wk J2 K2 hk hI => hQ I fp St s2 wk J2 (K1.trans K2) (back_none J1 K1 hI)
theorem src_cap {p p' : P} {ev : Expr → P → Option (V × P)} {it : Expr} {items : List V} (e : srcWith ev sc it p = some (items, p')) : items.length ≤ cap := by
  refine src_inv (G := fun items _ => items.length ≤ cap) ?_ ?_ e
  · intro fp cp a m l p1 _ _ _ _ hl
    unfold rangeV at hl
    refine oif hl fun hm q => ?_
    rw [← Option.some.inj q, List.length_map, List.length_range]
    exact Int.toNat_le.mpr hm.2
  · exact fun _ _ _ _ _ _ hc => hc
theorem src_notSet {p p' : P} {ev : Expr → P → Option (V × P)} {it : Expr} {items : List V} (e : srcWith ev sc it p = some (items, p')) : isSet it = false :=
  src_inv (G := fun _ _ => isSet it = false) (fun _ _ _ _ _ _ h _ _ _ _ => by rw [h]; rfl) (fun h _ _ _ _ _ _ => h) e
theorem folded {e : Expr} (h : isSet e = false) (x : Value) : foldedSetIterable e env x = pure x := by
  unfold foldedSetIterable
  cases e <;> first | rfl | cases h
theorem Fm.marks (F : Fm env sc me Mt pw h) (hm : Mt'.m = Mt.m) (hG : ∀ t z, Mt.G t = some z → Mt'.G t = some z) (hp : ∀ a ∈ pw, Mt.m a) : Fm env sc me Mt' pw h := F.kp hp ⟨fun _ _ _ e => e, hm, hG⟩
theorem Wk.step {Mt1 : Ms} {h1 : Heap} {items : List V} {fp : List Addr} {St : Nat → Heap → Prop} {i : Nat} {x : V} {q : P} (wk : Wk w A Mt pw h1 I items fp St) (J : Inv h₀ os₀ Mt1 pw q s) (hIM : ¬ Mt1.m I) (hI0 : h₀.get? I = none)
    (hold : ∀ b o, dat o → ¬ Mt.m b → h1.get? b = some o → ¬ Mt1.m b ∧ s.heap.get? b = some o) (hG : ∀ t z, Mt.G t = some z → Mt1.G t = some z) (hst : St i s.heap) (hx : items[i]? = some x) {E : Value → Shared → Prop} {Q : Option Value → Shared → Prop}
    (hQ : ∀ {Mt2 : Ms} v s2, Inv h₀ os₀ Mt2 pw q s2 → Mt2.m = Mt1.m → (∀ t z, Mt1.G t = some z → Mt2.G t = some z) → (∀ b o, b ∉ [I] → s.heap.get? b = some o → s2.heap.get? b = some o) → St (i + 1) s2.heap → VR Mt2 pw s2.heap x v → Q (some v) s2) :
    wpAny (model prog w) A (pyNext (.ref I)) Q E s := by
  refine ex1_2 (wk.obj i _ hst) fun oI hoI hdI => ?_
  refine wk.item i x s _ _ hx hst fun v h' tk hst2 hle hsame hv => ?_
  have hkd := off_iter hoI hdI hsame
  have J2 : Inv h₀ os₀ Mt1 pw q { s with heap := h', toks := tk } := J.iter hoI hdI hIM hI0 hsame hle
  rcases hv with hv | ⟨z, t, rfl, rfl, h1, h2⟩
  · refine hQ v _ J2 rfl (fun _ _ e => e) hsame hst2 (hv.mono' (fun b o hd hb e => ?_) hG)
    refine an2 (hold b o hd hb e) fun q1 q2 => ?_
    exact ⟨q1, hkd b o hd q2⟩
  · have J3 : Inv h₀ os₀ (Mt1.tok t z) pw q { { s with heap := h', toks := s.toks } with heap := h', toks := tk } := (J.iter (t := s.toks) hoI hdI hIM hI0 hsame).mark (fun _ _ e => e) h1 h2
    exact hQ _ _ J3 rfl (Ms.tok_old (J.mark_none h1)) hsame hst2 (.str _ _ Ms.tok_self)
end
end Mine
end
section
set_option genSizeOf false
set_option genSizeOfSpec false
namespace Mine
open PySem PyProof.Rows PyProof.V PySem.SeqAt PySem.Spec
section
variable {w : World} {h₀ : Heap} {os₀ : OsState} {A : Around} {Mt₀ : Addr → Prop} {Mt Mt' : Ms} {pw : List Addr} {p p' : P} {s s' : Shared} {x y v : V} {val b : Value} {hc h h' : Heap} {env : Env} {sc inner : Scope} {me me' : Me} {n : Str} {c a I : Addr} {mg mb : Str → Option Value}
theorem lookup_relabel {env : Env} : ∀ {names : List (Str × NameKind)} {x : Str} {k : NameKind}, names.lookup x = some k →
    (names.map fun (n, k) => if (k == NameKind.free && env.scope.kind == .function && env.kindOf n == some .cell) then (n, NameKind.cell) else (n, k)).lookup x =
      some (if (k == NameKind.free && env.scope.kind == .function && env.kindOf x == some .cell) then .cell else k)
  | [], _, _, h => by simp at h
  | (n, k) :: r, x, k', h => by
    have ih := @lookup_relabel env r x k'
    show List.lookup x ((if (k == NameKind.free && env.scope.kind == .function && env.kindOf n == some .cell) = true then (n, NameKind.cell) else (n, k)) :: _) = _
    cases hx : x == n with
    | true =>
      simp only [List.lookup_cons, hx] at h
      apply sm1 h
      have : x = n := by simpa using hx
      subst this
      by_cases hc : (k == NameKind.free && env.scope.kind == .function && env.kindOf x == some .cell) = true
      · rw [if_pos hc, if_pos hc]; simp [List.lookup_cons]
      · rw [if_neg hc, if_neg hc]; simp [List.lookup_cons]
    | false =>
      simp only [List.lookup_cons, hx] at h
      by_cases hc : (k == NameKind.free && env.scope.kind == .function && env.kindOf n == some .cell) = true
      · rw [if_pos hc]; simp only [List.lookup_cons, hx]; exact ih h
      · rw [if_neg hc]; simp only [List.lookup_cons, hx]; exact ih h
theorem lookup_clos {m : Str} : (clos inner me).lookup m = if inner.names.lookup m = some .free then me.lookup m else none := by
  unfold clos
  induction me with
  | nil => simp
  | cons e r ih =>
    obtain ⟨k, b⟩ := e
    rw [List.filter_cons]
    by_cases hk : inner.names.lookup k = some .free
    · rw [if_pos (by simpa using hk), List.lookup_cons, List.lookup_cons]
      cases hm : m == k with
      | true =>
        have : m = k := by simpa using hm
        subst this
        simp [hk]
      | false => simpa using ih
    · rw [if_neg (by simpa using hk), ih, List.lookup_cons]
      cases hm : m == k with
      | true =>
        have : m = k := by simpa using hm
        subst this
        simp [hk]
      | false => rfl
theorem cellsFrom_app : ∀ (names : List (Str × NameKind)) (n : Nat) (acc : List (Str × Addr)), cellsFrom n names acc = cellsFrom n names [] ++ acc
  | [], _, _ => rfl
  | (nm, k) :: r, n, acc => by
    unfold cellsFrom
    split
    · rw [cellsFrom_app r (n + 1) ((nm, n) :: acc), cellsFrom_app r (n + 1) [(nm, n)]]; simp
    · exact cellsFrom_app r n acc
theorem cellsFrom_mem : ∀ (names : List (Str × NameKind)) (n : Nat) (x : Str) (c : Addr), (x, c) ∈ cellsFrom n names [] → n ≤ c ∧ (x, NameKind.cell) ∈ names
  | [], _, _, _, h => by simp [cellsFrom] at h
  | (nm, k) :: r, n, x, c, h => by
    unfold cellsFrom at h
    split at h
    · rename_i hk
      rw [cellsFrom_app] at h
      rcases List.mem_append.mp h with h | h
      · refine an2 (cellsFrom_mem r (n + 1) x c h) fun h1 h2 => ?_
        exact ⟨by lia, List.mem_cons_of_mem _ h2⟩
      · have : k = .cell := by simpa using hk
        simp at h
        obtain ⟨rfl, rfl⟩ := h
        exact ⟨Nat.le_refl _, by subst this; exact List.mem_cons_self⟩
    · refine an2 (cellsFrom_mem r n x c h) fun h1 h2 => ?_
      exact ⟨h1, List.mem_cons_of_mem _ h2⟩
theorem lookup_isSome_of_mem {α : Type} : ∀ {l : List (Str × α)} {n : Str} {c : α}, (n, c) ∈ l → ∃ c', l.lookup n = some c'
  | (k, v) :: r, n, c, h => by
    rw [List.lookup_cons]
    cases hb : n == k with
    | true => exact ⟨_, rfl⟩
    | false =>
      rcases List.mem_cons.mp h with e | h
      · cases e; simp at hb
      · exact lookup_isSome_of_mem h
theorem cellsFrom_ex : ∀ (names : List (Str × NameKind)) (n : Nat) (x : Str), (x, NameKind.cell) ∈ names → ∃ c, (cellsFrom n names []).lookup x = some c
  | [], _, _, h => by simp at h
  | (nm, k) :: r, n, x, h => by
    unfold cellsFrom
    split
    · rename_i hk
      rw [cellsFrom_app]
      rcases List.mem_cons.mp h with e | h
      · apply pr2 e; exact lookup_isSome_of_mem (c := n) (by simp)
      · refine ex1_1 (cellsFrom_ex r (n + 1) x h) fun c hc => ?_
        exact ⟨c, by rw [List.lookup_append, hc]; rfl⟩
    · rename_i hk
      rcases List.mem_cons.mp h with e | h
      · cases e; simp at hk
      · exact cellsFrom_ex r n x h
noncomputable def clAcc (env : Env) : List (Str × NameKind) → List (Str × Addr) → List (Str × Addr)
  | [], acc => acc
  | (n, k) :: r, acc => if k == .free then (match env.cells.lookup n with | some c => clAcc env r ((n, c) :: acc) | none => clAcc env r acc) else clAcc env r acc
theorem closure_go (env : Env) : ∀ (names : List (Str × NameKind)) (acc : List (Str × Addr)), (∀ x ∈ names, x.2 = .free → ∃ c, env.cells.lookup x.1 = some c) →
    (forIn names acc fun (x : Str × NameKind) (cs : List (Str × Addr)) => if x.2 == .free then (do let c ← cellOf env x.1; pure (ForInStep.yield ((x.1, c) :: cs))) else (pure (ForInStep.yield cs) : Sem _)) = pure (clAcc env names acc)
  | [], acc, _ => rfl
  | (n, k) :: r, acc, h => by
    rw [List.forIn_cons]
    unfold clAcc
    cases hk : k == NameKind.free with
    | true =>
      refine ex1_1 (h (n, k) List.mem_cons_self (by simpa using hk)) fun c hc => ?_
      unfold cellOf
      rw [hc]
      exact closure_go env r ((n, c) :: acc) fun x hx => h x (List.mem_cons_of_mem _ hx)
    | false =>
      exact closure_go env r acc fun x hx => h x (List.mem_cons_of_mem _ hx)
theorem closure_pure {inner : Scope} {env : Env} (h : ∀ x ∈ inner.names, x.2 = .free → ∃ c, env.cells.lookup x.1 = some c) : closureFor inner env = pure (clAcc env inner.names []) := by
  have h2 := closure_go env inner.names [] h
  unfold closureFor
  refine Eq.trans (congrArg (fun t : Sem (List (Str × Addr)) => t >>= fun r => pure r) ?_) (show ((pure (clAcc env inner.names []) : Sem (List (Str × Addr))) >>= fun r => pure r) = _ from rfl)
  rw [← h2]
theorem clAcc_lookup (env : Env) : ∀ (names : List (Str × NameKind)) (acc : List (Str × Addr)) (x : Str) (c : Addr), (clAcc env names acc).lookup x = some c → ((x, NameKind.free) ∈ names ∧ env.cells.lookup x = some c) ∨ acc.lookup x = some c
  | [], acc, x, c, h => .inr h
  | (n, k) :: r, acc, x, c, h => by
    unfold clAcc at h
    split at h
    · rename_i hk
      have : k = .free := by simpa using hk
      subst this
      split at h
      · rename_i d hd
        rcases clAcc_lookup env r _ x c h with ⟨h1, h2⟩ | h1
        · exact .inl ⟨List.mem_cons_of_mem _ h1, h2⟩
        · rw [List.lookup_cons] at h1
          cases hx : x == n with
          | true =>
            rw [hx] at h1; apply sm1 h1
            have : x = n := by simpa using hx
            subst this
            exact .inl ⟨List.mem_cons_self, hd⟩
          | false => rw [hx] at h1; exact .inr h1
      · rcases clAcc_lookup env r _ x c h with ⟨h1, h2⟩ | h1
        · exact .inl ⟨List.mem_cons_of_mem _ h1, h2⟩
        · exact .inr h1
    · rcases clAcc_lookup env r _ x c h with ⟨h1, h2⟩ | h1
      · exact .inl ⟨List.mem_cons_of_mem _ h1, h2⟩
      · exact .inr h1
theorem clAcc_ex (env : Env) : ∀ (names : List (Str × NameKind)) (acc : List (Str × Addr)) (x : Str) (c : Addr), ((x, NameKind.free) ∈ names ∧ env.cells.lookup x = some c) ∨ (∃ d, acc.lookup x = some d) → ∃ d, (clAcc env names acc).lookup x = some d
  | [], acc, x, c, h => by
    rcases h with ⟨h, _⟩ | h
    · simp at h
    · exact h
  | (n, k) :: r, acc, x, c, h => by
    unfold clAcc
    split
    · rename_i hk
      split
      · rename_i d hd
        refine clAcc_ex env r _ x c ?_
        rcases h with ⟨h1, h2⟩ | ⟨e, h1⟩
        · rcases List.mem_cons.mp h1 with q | q
          · apply pr2 q; exact .inr ⟨d, by simp [List.lookup_cons]⟩
          · exact .inl ⟨q, h2⟩
        · refine .inr ?_
          rw [List.lookup_cons]
          cases x == n with
          | true => exact ⟨_, rfl⟩
          | false => exact ⟨e, h1⟩
      · rename_i hd
        refine clAcc_ex env r _ x c ?_
        rcases h with ⟨h1, h2⟩ | h1
        · rcases List.mem_cons.mp h1 with q | q
          · cases q; rw [hd] at h2; first | exact nn h2 | exact nf h2 | exact nt h2 | cases h2
          · exact .inl ⟨q, h2⟩
        · exact .inr h1
    · rename_i hk
      refine clAcc_ex env r _ x c ?_
      rcases h with ⟨h1, h2⟩ | h1
      · rcases List.mem_cons.mp h1 with q | q
        · cases q; simp at hk
        · exact .inl ⟨q, h2⟩
      · exact .inr h1
noncomputable def cenvOf (inner : Scope) (C : Addr) (env : Env) : Env :=
  { scope := relabel inner env, locals := C, globals := env.globals, cells := cellsFrom (C + 1) inner.names (clAcc env inner.names []), qual := env.qual, func := none, code := env.code, frame := env.frame, builtins := env.builtins }
noncomputable abbrev cobj : Obj := { cls := .type "dict", data := .dict #[] }
theorem new_comp_env {Q : Env → Shared → Prop} {E : Value → Shared → Prop}
    (hQ : Q { cenvOf inner s.heap.objs.size env with scope := inner } { s with heap := pushCells (s.heap.push cobj) inner.names }) :
    wpAny (model prog w) A (newFunctionEnv inner env.globals (clAcc env inner.names []) [] env.qual none .none (some env)) Q E s := by
  unfold newFunctionEnv
  refine wpAny_bind (wpAny_alloc ?_)
  refine wpAny_bind (wpAny_layCells _ (fun _ _ _ => rfl) _ _ _ _ ?_)
  refine wpAny_bind ?_
  rw [List.forIn_nil]
  refine wpAny_pure (wpAny_pure ?_)
  have : ({ s with heap := s.heap.push cobj } : Shared).heap.objs.size = s.heap.objs.size + 1 := Heap.size_push ..
  rw [show ({ s with heap := s.heap.push { cls := Value.type (if (some env).isSome = true then "dict" else "frame"), data := .dict #[] } } : Shared).heap.objs.size = s.heap.objs.size + 1 from Heap.size_push ..]
  exact hQ
end
end Mine
end
section
set_option genSizeOf false
set_option genSizeOfSpec false
namespace Mine
open PySem PyProof.Rows PyProof.V PySem.SeqAt PySem.Spec
section
variable {w : World} {h₀ : Heap} {os₀ : OsState} {A : Around} {Mt₀ : Addr → Prop} {Mt Mt' : Ms} {pw : List Addr} {p p' : P} {s s' : Shared} {x y v : V} {val b : Value} {hc h h' h4 : Heap} {env : Env} {sc inner : Scope} {me me' : Me} {n : Str} {c a I C : Addr} {mg mb : Str → Option Value}
noncomputable def More (Mt : Ms) (h h4 : Heap) : Ms := { Mt with m := fun b => Mt.m b ∨ (h.get? b = none ∧ ∃ o, h4.get? b = some o) }
theorem more_ok (hk : ∀ b o, h.get? b = some o → h4.get? b = some o) : ∀ b o, ¬ Mt.m b → h.get? b = some o → ¬ (More Mt h h4).m b ∧ h4.get? b = some o := fun b o hb e => ⟨(fun q => by
  rcases q with q | ⟨q, _⟩
  · exact hb q
  · rw [e] at q; cases q), hk b o e⟩
theorem Inv.more (J : Inv h₀ os₀ Mt pw p s) {t : Nat} (hk : ∀ b o, s.heap.get? b = some o → h4.get? b = some o) (hle : s.toks ≤ t := by first | exact Nat.le_refl _ | exact Nat.le_succ _ | assumption | omega) : Inv h₀ os₀ (More Mt s.heap h4) pw p { s with heap := h4, toks := t } where
  base := fun b o e => hk b o (J.base b o e)
  mt := fun a ha => by
    rcases ha with ha | ⟨h1, h2⟩
    · exact ⟨(J.mt a ha).1, let ⟨o, ho⟩ := (J.mt a ha).2; ⟨o, hk a o ho⟩⟩
    · refine ⟨?_, h2⟩
      cases q : h₀.get? a with
      | none => rfl
      | some o => rw [J.base a o q] at h1; cases h1
  pws := fun a ha => .inl (J.pws a ha)
  pile := J.pile.mono (more_ok hk) fun x o _ e => hk x o e
  os := J.os
  gens := J.gens
  tk := fun u z e => ⟨(J.tk u z e).1, Nat.lt_of_lt_of_le (J.tk u z e).2 hle⟩
  pos := Nat.lt_of_lt_of_le J.pos hle
theorem Inv.less (J : Inv h₀ os₀ Mt' pw p s) (hs : ∀ a, Mt.m a → Mt'.m a) (hp : ∀ a ∈ pw, Mt.m a) (hG : Mt.G = Mt'.G) : Inv h₀ os₀ Mt pw p s where
  base := J.base
  mt := fun a ha => J.mt a (hs a ha)
  pws := hp
  pile := J.pile.mono (fun b o hb e => ⟨fun q => hb (hs b q), e⟩) (fun _ _ _ e => e) (hG ▸ fun _ _ e => e)
  os := J.os
  gens := J.gens
  tk := hG ▸ J.tk
  pos := J.pos
theorem VR.less {v : V} {val : Value} (R : VR Mt' pw h v val) (hs : ∀ a, Mt.m a → Mt'.m a) (hG : Mt.G = Mt'.G) : VR Mt pw h v val := R.mono (fun b o hb e => ⟨fun q => hb (hs b q), e⟩) (hG ▸ fun _ _ e => e)
theorem VRs.less {l : List V} {vs : List Value} (R : VRs Mt' pw h l vs) (hs : ∀ a, Mt.m a → Mt'.m a) (hG : Mt.G = Mt'.G) : VRs Mt pw h l vs := R.mono (fun b o hb e => ⟨fun q => hb (hs b q), e⟩) (hG ▸ fun _ _ e => e)
theorem lookup_mem {α : Type} {l : List (Str × α)} {n : Str} {c : α} (h : l.lookup n = some c) : (n, c) ∈ l := mem_of_lookup h
theorem localsOk_spec (h : localsOk inner = true) : inner.kind = .function ∧ ∀ x ∈ inner.names, inner.names.lookup x.1 = some x.2 := by
  unfold localsOk at h
  rw [Bool.and_eq_true] at h
  refine ⟨by simpa using h.1, fun x hx => ?_⟩
  have := (List.all_eq_true.mp h.2) x hx
  obtain ⟨a, k⟩ := x
  simpa using this
theorem freeOk_spec (h : freeOk sc me inner = true) (F : Fm env sc me Mt pw h') : ∀ x, (x, NameKind.free) ∈ inner.names → vis sc x = true ∧ sc.names.lookup x ≠ none ∧ env.kindOf x = some .cell ∧ ∃ b, me.lookup x = some b ∧ b.own = false := by
  intro x hx
  have := (List.all_eq_true.mp h) (x, .free) hx
  dsimp only at this
  rw [Bool.and_eq_true] at this
  refine an2 (this) fun h1 h2 => ?_
  have hb : ∃ b, me.lookup x = some b ∧ b.own = false := by
    split at h2
    · rename_i b hb; exact ⟨b, hb, by simpa using h2⟩
    · exact nf h2
  split at h1
  · rename_i q; exact ⟨by unfold vis; rw [q], by rw [q]; simp, by simpa using F.names x _ q, hb⟩
  · rename_i q; exact ⟨by unfold vis; rw [q], by rw [q]; simp, by simpa using F.names x _ q, hb⟩
  · exact nf h1
theorem kind_inner (F : Fm env sc me Mt pw h) (hf : freeOk sc me inner = true) {x : Str} {k : NameKind} (hx : inner.names.lookup x = some k) : (cenvOf inner C env).kindOf x = some (if k = .free then .cell else k) := by
  show (relabel inner env).names.lookup x = _
  unfold relabel
  refine (lookup_relabel hx).trans ?_
  by_cases hk : k = .free
  · subst hk
    obtain ⟨_, _, h3, _⟩ := freeOk_spec hf F x (lookup_mem hx)
    simp [F.kind, h3]
  · have : (k == NameKind.free) = false := by simpa using hk
    simp [this, hk]
structure Comp (env : Env) (inner : Scope) (h h4 : Heap) (C : Addr) : Prop where
  keep : ∀ b o, h.get? b = some o → h4.get? b = some o
  newC : h.get? C = none
  nsC : ∃ m, h4.Ns C m
  own : CellsOk h4 (C + 1) (cellsFrom (C + 1) inner.names [])
  newO : ∀ n c, (n, c) ∈ cellsFrom (C + 1) inner.names [] → h.get? c = none
theorem Comp.mk' (h : Heap) (o : Obj) (hf : o.isFreed = false) : Comp env inner h (pushCells ((h.push o).push cobj) inner.names) (h.push o).objs.size ∧
    (pushCells ((h.push o).push cobj) inner.names).get? h.objs.size = some o := by
  have k0 : ∀ b o', h.get? b = some o' → (h.push o).get? b = some o' := fun b o' e => Heap.get?_push_of_some _ e
  have k1 : ∀ b o', (h.push o).get? b = some o' → ((h.push o).push cobj).get? b = some o' := fun b o' e => Heap.get?_push_of_some _ e
  have k2 := pushCells_keeps inner.names ((h.push o).push cobj)
  have sz : ((h.push o).push cobj).objs.size = (h.push o).objs.size + 1 := Heap.size_push ..
  have sz0 : (h.push o).objs.size = h.objs.size + 1 := Heap.size_push ..
  have none : ∀ b, h.objs.size ≤ b → h.get? b = none := fun b hb => by
    cases q : h.get? b with
    | none => rfl
    | some o => exact absurd (Heap.lt_size q) (Nat.not_lt.mpr hb)
  have ok := cellsFrom_ok inner.names ((h.push o).push cobj) ((h.push o).objs.size + 1) [] ⟨fun n c hm => by simp at hm, List.Pairwise.nil⟩ (by lia)
  rw [sz] at ok
  refine ⟨⟨fun b o' e => k2 b o' (k1 b o' (k0 b o' e)), none _ (by lia), ?_, ok, fun n c hm => none _ ?_⟩, k2 _ _ (k1 _ _ (Heap.get?_push_size _ hf))⟩
  · have : ((h.push o).push cobj).Ns (h.push o).objs.size (fun x => ([] : List (Str × Value)).reverse.lookup x) := Heap.Ns.new ..
    exact ⟨_, this.keeps k2⟩
  · have := (ok.empty n c hm).2
    lia
theorem Fm.comp (J : Inv h₀ os₀ Mt pw p s) (F : Fm env sc me Mt pw s.heap) (hf : freeOk sc me inner = true) (hl : localsOk inner = true) (K : Comp env inner s.heap h4 C) :
    Fm (cenvOf inner C env) inner (clos inner me) (More Mt s.heap h4) pw h4 := by
  refine an2 (localsOk_spec hl) fun hkind hnm => ?_
  have look : ∀ x, (cenvOf inner C env).cells.lookup x = ((cellsFrom (C + 1) inner.names []).lookup x).or ((clAcc env inner.names []).lookup x) := fun x => by
    show (cellsFrom (C + 1) inner.names (clAcc env inner.names [])).lookup x = _
    rw [cellsFrom_app, List.lookup_append]
  have pwn : ∀ b, s.heap.get? b = none → b ∉ pw := fun b hb hp => by
    obtain ⟨_, o, ho⟩ := J.mt b (J.pws b hp)
    rw [hb] at ho; exact nn ho
  have cases_ : ∀ x c, (cenvOf inner C env).cells.lookup x = some c → (x, c) ∈ cellsFrom (C + 1) inner.names [] ∨ ((x, NameKind.free) ∈ inner.names ∧ env.cells.lookup x = some c) := fun x c hx => by
    rw [look] at hx
    cases q : (cellsFrom (C + 1) inner.names []).lookup x with
    | some d => rw [q] at hx; apply sm1 hx; exact .inl (lookup_mem q)
    | none =>
      rw [q] at hx
      rcases clAcc_lookup env inner.names [] x c (by simpa using hx) with z | z
      · exact .inr z
      · simp at z
  have free_cell : ∀ x c, (x, NameKind.free) ∈ inner.names → env.cells.lookup x = some c → (cenvOf inner C env).cells.lookup x = some c := fun x c hx hc => by
    rw [look]
    cases q : (cellsFrom (C + 1) inner.names []).lookup x with
    | some d =>
      have := hnm _ (cellsFrom_mem _ _ _ _ (lookup_mem q)).2
      have h2 := hnm _ hx
      dsimp only at this h2
      rw [h2] at this; cases this
    | none =>
      refine ex1_1 (clAcc_ex env inner.names [] x c (.inl ⟨hx, hc⟩)) fun d hd => ?_
      rcases clAcc_lookup env inner.names [] x d hd with ⟨_, z⟩ | z
      · rw [hc] at z; cases z; simpa using hd
      · simp at z
  have hC4 : ∃ o, h4.get? C = some o := let ⟨m, o, _, _, ho, _⟩ := K.nsC; ⟨o, ho⟩
  refine { kind := hkind, glob := F.glob, blt := F.blt, names := fun x k hx => kind_inner F hf hx, ns := K.nsC, nsMt := .inr ⟨K.newC, hC4⟩, nsPw := pwn _ K.newC, cellIs := fun x hk hx => ?_, cellAll := fun x c hx => ?_,
           inj := fun x y c hx hy => ?_, vars := fun x b hx hb => ?_, sep := fun x y bx by' a hx hy ex ey ox oy ax ay => ?_ }
  · cases q : inner.names.lookup x with
    | none => exact absurd q hx
    | some k =>
      rw [kind_inner F hf q] at hk
      by_cases hk2 : k = .free
      · subst hk2
        refine an4 (freeOk_spec hf F x (lookup_mem q)) fun _ h2 h3 _ => ?_
        refine ex1_1 (F.cellIs x h3 h2) fun c hc => ?_
        exact ⟨c, free_cell x c (lookup_mem q) hc⟩
      · rw [if_neg hk2] at hk; cases hk
        refine ex1_1 (cellsFrom_ex inner.names (C + 1) x (lookup_mem q)) fun c hc => ?_
        exact ⟨c, by rw [look, hc]; rfl⟩
  · rcases cases_ x c hx with hx | ⟨h1, h2⟩
    · refine an2 (K.own.empty x c hx) fun t_470 _ => ?_
      obtain ⟨o, ho, hd⟩ := t_470
      have hn := K.newO x c hx
      exact ⟨.inr ⟨hn, o, ho⟩, pwn c hn, none, o, ho, hd⟩
    · obtain ⟨q1, q2, v, hv⟩ := F.cellAll x c h2
      exact ⟨.inl q1, q2, v, hv.keeps K.keep⟩
  · rcases cases_ x c hx with hx | ⟨h1, h2⟩ <;> rcases cases_ y c hy with hy | ⟨k1, k2⟩
    · exact name_of_addr K.own.apart hx hy
    · obtain ⟨_, _, _, o, ho, _⟩ := F.cellAll y c k2
      rw [K.newO x c hx] at ho; exact nn ho
    · obtain ⟨_, _, _, o, ho, _⟩ := F.cellAll x c h2
      rw [K.newO y c hy] at ho; exact nn ho
    · exact F.inj x y c h2 k2
  · rw [lookup_clos] at hb
    split at hb
    · rename_i hfr
      obtain ⟨h1, h2, h3, b', hb', ho⟩ := freeOk_spec hf F x (lookup_mem hfr)
      rw [hb] at hb'; cases hb'
      refine ex1_2 (F.vars x b h1 hb) fun v hat hr => ?_
      unfold At at hat
      rw [h3] at hat
      refine ex1_2 (hat) fun c hc hv => ?_
      refine ⟨v, ?_, ?_⟩
      · unfold At
        rw [kind_inner F hf hfr, if_pos rfl]
        exact ⟨c, free_cell x c (lookup_mem hfr) hc, hv.keeps K.keep⟩
      · unfold BdR at hr ⊢
        rw [ho] at hr ⊢
        exact hr.mono (more_ok K.keep)
    · exact nn hb
  · rw [lookup_clos] at ex
    split at ex
    · rename_i hfr
      obtain ⟨_, _, _, b', hb', ho⟩ := freeOk_spec hf F x (lookup_mem hfr)
      rw [ex] at hb'; cases hb'
      rw [ho] at ox; exact nf ox
    · exact nn ex
theorem Fm.congr (F : Fm env sc me Mt pw h) (e : ∀ x, me'.lookup x = me.lookup x) : Fm env sc me' Mt pw h where
  kind := F.kind
  glob := F.glob
  blt := F.blt
  names := F.names
  ns := F.ns
  nsMt := F.nsMt
  nsPw := F.nsPw
  cellIs := F.cellIs
  cellAll := F.cellAll
  inj := F.inj
  vars := fun x b hx hb => F.vars x b hx (by rw [← e]; exact hb)
  sep := fun x y bx by' a hx hy ex ey => F.sep x y bx by' a hx hy (by rw [← e]; exact ex) (by rw [← e]; exact ey)
end
end Mine
end
section
set_option genSizeOf false
set_option genSizeOfSpec false
namespace Mine
open PySem PyProof.Rows PyProof.V PySem.SeqAt PySem.Spec
noncomputable def TrOk (w : World) (h₀ : Heap) (os₀ : OsState) (A : Around) (pw : List Addr) (env : Env) (sc : Scope) (me : Me) (tr : Expr → P → Option (Bool × P)) : Prop :=
  ∀ {Mt : Ms} e p b p', tr e p = some (b, p') → ∀ s, Inv h₀ os₀ Mt pw p s → Fm env sc me Mt pw s.heap → OkB w h₀ os₀ A Mt pw (isTrue e env (eval e env)) s b p'
section
variable {w : World} {h₀ : Heap} {os₀ : OsState} {A : Around} {Mt₀ : Addr → Prop} {Mt Mt' : Ms} {pw : List Addr} {p p' : P} {s s' : Shared} {x y v : V} {val b : Value} {hc h h' h4 : Heap} {env cenv : Env} {sc inner : Scope} {me me' : Me} {n : Str} {c a I C D : Addr} {mg mb : Str → Option Value}
theorem tests_ok {tr : Expr → P → Option (Bool × P)} (H : TrOk w h₀ os₀ A pw env sc me tr) {ifs : List Expr} {b : Bool} (e : testsWith tr ifs p = some (b, p')) (J : Inv h₀ os₀ Mt pw p s) (F : Fm env sc me Mt pw s.heap) :
    OkB w h₀ os₀ A Mt pw (forIn ifs true fun c r => if r = true then do let ok ← isTrue c env (eval c env); pure (ForInStep.yield ok) else pure (ForInStep.yield r)) s b p' := by
  cases ifs with
  | nil =>
    apply sm2 (show some (true, p) = some (b, p') from e)
    exact fun E Q hQ => wpAny_tests_nil (hQ s J (Kp.refl _ _))
  | cons c r =>
    cases r with
    | nil => exact fun E Q hQ => wpAny_tests_one (H _ p b p' e s J F E Q hQ)
    | cons _ _ => exact nn e
structure CIn (h₀ : Heap) (os₀ : OsState) (Mt' : Ms) (pw : List Addr) (items : List V) (cenv : Env) (inner : Scope) (xn : Str) (base : Me) (St : Nat → Heap → Prop) (D I : Addr) (h2 : Heap) (cw : List V → P → Option (List V × P)) (p' : P)
    (i : Nat) (q : P) (ys : List V) (arr : Array Value) (rest : List V) (me1 : Me) (M1 : Ms) (s' : Shared) : Prop where
  m : M1.m = Mt'.m
  G : ∀ t z, Mt'.G t = some z → M1.G t = some z
  le : i ≤ items.length
  inv : Inv h₀ os₀ M1 pw q s'
  fm : Fm cenv inner me1 M1 pw s'.heap
  me : ∀ y, y ≠ xn → me1.lookup y = base.lookup y
  st : St i s'.heap
  pl : s'.heap.PlainList D arr
  vr : VRs M1 pw s'.heap ys arr.toList
  len : ys.length ≤ i
  cw : cw (items.drop i) q = some (rest, p')
  kp : ∀ b o, b ∉ pw → b ≠ I → h2.get? b = some o → s'.heap.get? b = some o
theorem comp_loop {ev : Me → Expr → P → Option (V × P)} {tr : Me → Expr → P → Option (Bool × P)} (Hev : ∀ me, EvOk w h₀ os₀ A pw cenv inner me (ev me)) (Htr : ∀ me, TrOk w h₀ os₀ A pw cenv inner me (tr me))
    {elt iter : Expr} {ifs : List Expr} {px pos : Pos} {xn : Str} {items l : List V} {fp : List Addr} {St : Nat → Heap → Prop} {base : Me} {h2 : Heap}
    (wk : Wk w A Mt pw h2 I items fp St) (hI0 : h₀.get? I = none) (hsub : ∀ b o, ¬ Mt.m b → h2.get? b = some o → ¬ Mt'.m b) (hG0 : ∀ t z, Mt.G t = some z → Mt'.G t = some z) (hcap : items.length ≤ cap) (hx : sto inner xn = true)
    (hnew : ∀ b, (b = cenv.locals ∨ cenv.cells.lookup xn = some b ∨ b = D) → h2.get? b = none) (hD : Mt'.m D) (hDp : D ∉ pw) (hno : ∀ y b, base.lookup y = some b → b.own = false)
    (e : compWith (fun m q => ev m elt q) (fun m q => testsWith (tr m) ifs q) xn base items p = some (l, p'))
    (J : Inv h₀ os₀ Mt' pw p s) (F : Fm cenv inner base Mt' pw s.heap) (hst : St 0 s.heap) (hl : s.heap.PlainList D #[]) (hk : ∀ b o, b ∉ pw → h2.get? b = some o → s.heap.get? b = some o) {R : Result → Shared → Prop}
    (hR : ∀ (M1 : Ms) arr s1, M1.m = Mt'.m → (∀ t z, Mt'.G t = some z → M1.G t = some z) → Inv h₀ os₀ M1 pw p' s1 → s1.heap.PlainList D arr → VRs M1 pw s1.heap l arr.toList → (∃ m, s1.heap.Ns cenv.locals m) → (∀ b o, b ∉ pw → b ≠ I → h2.get? b = some o → s1.heap.get? b = some o) → R (.ok .next) s1) :
    codeAny (model prog w) A (.compLoop (.ListComp elt [⟨.Name xn px, iter, ifs, 0⟩] inner pos) 0 (.ref I) (.ref D) cenv) R s := by
  have hfp : ∀ b ∈ fp, ¬ Mt'.m b := fun b hb => let ⟨h1, o, h2⟩ := wk.fps b hb; hsub b o h1 h2
  have hIM : ¬ Mt'.m I := hfp I wk.mem
  have hDfp : ∀ b ∈ fp, b ≠ D := fun b hb q => hfp b hb (q ▸ hD)
  refine ex1_2 (wk.obj 0 _ wk.st) fun o0 ho0 hd0 => ?_
  refine codeAny_compLoop_tests
    (fun k s' => ∃ i q ys arr rest me1 M1, k = items.length + 1 - i ∧ l = ys ++ rest ∧ CIn h₀ os₀ Mt' pw items cenv inner xn base St D I h2 (fun its q => compWith (fun m q => ev m elt q) (fun m q => testsWith (tr m) ifs q) xn base its q) p' i q ys arr rest me1 M1 s') ?_ (items.length + 1)
    ⟨0, p, [], #[], l, base, Mt', rfl, rfl, rfl, fun _ _ e => e, Nat.zero_le _, J, F, fun _ _ => rfl, hst, hl, .nil, Nat.le_refl _, e, fun b o hb _ eq => hk b o hb eq⟩
  rintro k s' ⟨i, q, ys, arr, rest, me1, M1, rfl, rfl, hm1, hG1, hi, J1, F1, hme, hst1, hl1, R1, hys, hcw, hk1⟩
  refine ex1_2 (wk.obj i _ hst1) fun oI hoI hdI => ?_
  have hIM1 : ¬ M1.m I := by rw [hm1]; exact hIM
  by_cases hlt : i < items.length
  · have hit : items[i]? = some items[i] := by simp [hlt]
    refine wk.step J1 hIM1 hI0 (fun b o hd hb eq => ?_) (fun t z e => hG1 t z (hG0 t z e)) hst1 hit fun {M2} v s2 J2 hm2 hG2 hsame hst2 Rv => ?_
    · have hb2 := hsub b o hb eq
      exact ⟨by rw [hm1]; exact hb2, hk1 b o (fun z => hb2 (J.pws b z)) (fun z => by
        subst z; rw [ho0] at eq; cases eq; exact hd0 hd) eq⟩
    have hm2' : M2.m = Mt'.m := hm2.trans hm1
    have F2 : Fm cenv inner me1 M2 pw s2.heap := (F1.iter hoI hdI hIM1 hsame).marks hm2 hG2 J1.pws
    have hkd := off_iter hoI hdI hsame
    have hl2 : s2.heap.PlainList D arr := hl1.at fun o eq => hsame D o (fun z => hfp I wk.mem (by
      have : D = I := by simpa using z
      exact this ▸ hD)) eq
    have R2 : VRs M2 pw s2.heap ys arr.toList := R1.mono' (fun b o hd hb eq => ⟨by rw [hm2]; exact hb, hkd b o hd eq⟩) hG2
    have hk2 : ∀ b o, b ∉ pw → b ≠ I → h2.get? b = some o → s2.heap.get? b = some o := fun b o hb hbI eq => hsame b o (fun z => hbI (by simpa using z)) (hk1 b o hb hbI eq)
    refine wpAny_assign_Name (store_any F2 hx fun c h3 t3 hle W hcM hcP hcL hcE => ?_)
    have J3 : Inv h₀ os₀ M2 pw q { s2 with heap := h3, toks := t3 } := J2.at W.same W.ex hcM hcP hle
    have F3 : Fm cenv inner (put base xn false items[i]) M2 pw h3 := (F2.put W J2.pws hcM hcL Rv).congr fun y => by
      rw [lookup_put, lookup_put]
      by_cases z : y = xn
      · rw [if_pos z, if_pos z]
      · rw [if_neg z, if_neg z, hme y z]
    have hk3' : ∀ b o, b ≠ c → s2.heap.get? b = some o → h3.get? b = some o := fun b o hb eq => (W.same.2 b hb).trans eq
    have hfp2 : ∀ b ∈ fp, ¬ M2.m b := fun b hb => by rw [hm2']; exact hfp b hb
    have hst3 : St (i + 1) h3 := wk.frame _ _ _ hst2 fun b hb o eq => hk3' b o (fun z => hfp2 b hb (z ▸ hcM)) eq
    have hcD : D ≠ c := fun z => by
      refine ex1_1 (hl2) fun m hpl => ?_
      exact hcL _ _ (z ▸ hpl)
    have hl3 : h3.PlainList D arr := hl2.at fun o eq => hk3' D o hcD eq
    have R3 : VRs M2 pw h3 ys arr.toList := R2.mono fun b o hb eq => ⟨hb, hk3' b o (fun z => hb (z ▸ hcM)) eq⟩
    have hk3 : ∀ b o, b ∉ pw → b ≠ I → h2.get? b = some o → h3.get? b = some o := fun b o hb hbI eq => hk3' b o (fun z => by
      have := hnew c (hcE.elim .inl fun z => .inr (.inl z))
      subst z; rw [this] at eq; cases eq) (hk2 b o hb hbI eq)
    have hdr : items.drop i = items[i] :: items.drop (i + 1) := List.drop_eq_getElem_cons hlt
    rw [hdr] at hcw
    unfold compWith at hcw
    refine obind2 hcw fun tb q1 ht hcw1 => ?_
    refine tests_ok (Htr _) ht J3 F3 _ _ fun {M4} s4 J4 K4 => ?_
    have F4 := F3.kp J3.pws K4
    have hm4 : M4.m = Mt'.m := K4.m.trans hm2'
    have hG4 : ∀ t z, Mt'.G t = some z → M4.G t = some z := fun t z e => K4.G t z (hG2 t z (hG1 t z e))
    have pwM : ∀ b, ¬ Mt'.m b → b ∉ pw := fun b hb hp => hb (J.pws b hp)
    have hst4 : St (i + 1) s4.heap := wk.frame _ _ _ hst3 fun b hb o eq => K4.keep b o (pwM b (hfp b hb)) eq
    have hl4 : s4.heap.PlainList D arr := hl3.at fun o eq => K4.keep D o hDp eq
    have R4 := R3.kp J3.pws K4
    have hk4 : ∀ b o, b ∉ pw → b ≠ I → h2.get? b = some o → s4.heap.get? b = some o := fun b o hb hbI eq => K4.keep b o hb (hk3 b o hb hbI eq)
    cases tb with
    | false =>
      exact ⟨items.length + 1 - (i + 1), by lia, i + 1, q1, ys, arr, rest, _, M4, rfl, rfl, hm4, hG4, hlt, J4, F4, fun y hy => by rw [lookup_put, if_neg hy], hst4, hl4, R4, by lia, hcw1, hk4⟩
    | true =>
      refine obind2 hcw1 fun yv q2 hy hcw2 => ?_
      refine obind2 hcw2 fun zs q3 hz hcw3 => ?_
      apply sm2 hcw3
      refine Hev _ elt q1 yv q2 hy s4 J4 F4 _ _ fun {M5} u s5 J5 K5 R5 => ?_
      have hm5 : M5.m = Mt'.m := K5.m.trans hm4
      have hG5 : ∀ t z, Mt'.G t = some z → M5.G t = some z := fun t z e => K5.G t z (hG4 t z e)
      have hst5 : St (i + 1) s5.heap := wk.frame _ _ _ hst4 fun b hb o eq => K5.keep b o (pwM b (hfp b hb)) eq
      have hl5 : s5.heap.PlainList D arr := hl4.at fun o eq => K5.keep D o hDp eq
      have F5 := F4.kp J4.pws K5
      have hsz : arr.size ≤ sizeLine := by
        have := R4.1
        have h2 : arr.toList.length = arr.size := by simp
        exact cap_line (by lia)
      refine wpAny_list_append_plain (hsz := hsz) hl5 fun h6 hl6 hs6 => ?_
      have hD5 : M5.m D := by rw [hm5]; exact hD
      have hn6 : ∃ o, h6.get? D = some o := let ⟨m, hm⟩ := hl6; ⟨_, hm⟩
      have hk6 : ∀ b o, b ≠ D → s5.heap.get? b = some o → h6.get? b = some o := fun b o hb eq => (hs6.2 b hb).trans eq
      have mon : ∀ b o, ¬ M5.m b → s5.heap.get? b = some o → ¬ M5.m b ∧ h6.get? b = some o := fun b o hb eq => ⟨hb, hk6 b o (fun z => hb (z ▸ hD5)) eq⟩
      refine ⟨items.length + 1 - (i + 1), by lia, i + 1, q2, ys ++ [yv], arr.push u, zs, put base xn false items[i], M5, rfl, by simp, hm5, hG5, hlt, J5.at (t := s5.toks) hs6 hn6 hD5 hDp, ?_, fun y hy => by rw [lookup_put, if_neg hy], ?_, hl6, ?_, ?_, hz, ?_⟩
      · have hnp : ∀ y b, (put base xn false items[i]).lookup y = some b → b.own = false := fun y b hb => by
          rw [lookup_put] at hb
          split at hb
          · apply sm1 hb; rfl
          · exact hno y b hb
        refine ex1_1 (hl5) fun m hpl => ?_
        have nL : D ≠ cenv.locals := fun z => by
          obtain ⟨m', hn⟩ := F5.ns
          exact not_ns_list (z ▸ hn) hpl
        have nC : ∀ y d u, cenv.cells.lookup y = some d → s5.heap.IsCell d u → d ≠ D := fun y d u _ hu z => not_cell_list (z ▸ hu) hpl
        refine { kind := F5.kind, glob := F5.glob, blt := F5.blt, names := F5.names, ns := let ⟨m', hn⟩ := F5.ns; ⟨m', hn.sameBut hs6 nL.symm⟩, nsMt := F5.nsMt, nsPw := F5.nsPw, cellIs := F5.cellIs,
                 cellAll := fun y d hd => let ⟨a, b, v, hv⟩ := F5.cellAll y d hd; ⟨a, b, v, hv.sameBut hs6 (nC y d v hd hv)⟩, inj := F5.inj, vars := fun y b hy hb => ?_, sep := fun y z by' bz a' hy hz ey ez oy oz ay az => ?_ }
        · refine ex1_2 (F5.vars y b hy hb) fun v hat hr => ?_
          refine ⟨v, ?_, ?_⟩
          · refine hat.kp fun b o hb eq => hk6 b o (fun z => ?_) eq
            rcases hb with hb | ⟨y', hy'⟩
            · exact nL (z ▸ hb)
            · obtain ⟨_, _, v, hv⟩ := F5.cellAll y' b hy'
              exact nC y' b v hy' hv z
          · have ho := hnp y b hb
            unfold BdR at hr ⊢
            rw [ho] at hr ⊢
            exact hr.mono mon
        · rw [hnp y by' ey] at oy; exact nf oy
      · exact wk.frame _ _ _ hst5 fun b hb o eq => hk6 b o (hDfp b hb) eq
      · have h1 := (R4.kp J4.pws K5).mono mon
        have h2 := h1.snoc (R5.mono mon)
        simpa using h2
      · rw [List.length_append, List.length_singleton]; lia
      · exact fun b o hb hbI eq => hk6 b o (fun z => by
          have := hnew D (.inr (.inr rfl))
          subst z; rw [this] at eq; cases eq) (K5.keep b o hb (hk4 b o hb hbI eq))
  · have hin : i = items.length := by lia
    subst hin
    refine wk.done s' _ _ hst1 fun h' tk hle hsame => ?_
    have J2 : Inv h₀ os₀ M1 pw q { s' with heap := h', toks := tk } := J1.iter hoI hdI hIM1 hI0 hsame hle
    have F2 : Fm cenv inner me1 M1 pw h' := F1.iter hoI hdI hIM1 hsame
    have hkd := off_iter hoI hdI hsame
    rw [List.drop_length] at hcw
    unfold compWith at hcw
    cases hcw
    rw [List.append_nil] at hR
    exact hR M1 arr _ hm1 hG1 J2 (hl1.at fun o eq => hsame D o (fun z => hfp I wk.mem (by
      have : D = I := by simpa using z
      exact this ▸ hD)) eq) (R1.mono' fun b o hd hb eq => ⟨hb, hkd b o hd eq⟩) F2.ns fun b o hb hbI eq => hsame b o (fun z => hbI (by simpa using z)) (hk1 b o hb hbI eq)
theorem comp_core {ev : Me → Expr → P → Option (V × P)} {tr : Me → Expr → P → Option (Bool × P)} {evo : Expr → P → Option (V × P)} (T : Tp h₀ mg mb) (Ho : EvOk w h₀ os₀ A pw env sc me evo)
    (Hev : ∀ cenv me, EvOk w h₀ os₀ A pw cenv inner me (ev me)) (Htr : ∀ cenv me, TrOk w h₀ os₀ A pw cenv inner me (tr me)) (hh : A.handled = none)
    {elt iter : Expr} {ifs : List Expr} {px pos cpos : Pos} {xn : Str} {items l : List V} {p1 : P} {use : Option (Value → Sem Unit)} {E : Value → Shared → Prop} {Q : Value → Shared → Prop}
    (hf : freeOk sc me inner = true) (hlo : localsOk inner = true) (hx : sto inner xn = true) (hsrc : srcWith evo sc iter p = some (items, p1))
    (e : compWith (fun m q => ev m elt q) (fun m q => testsWith (tr m) ifs q) xn (clos inner me) items p1 = some (l, p'))
    (J : Inv h₀ os₀ Mt pw p s) (F : Fm env sc me Mt pw s.heap)
    (hQ : ∀ D C (Mt' M0 : Ms) s1, Inv h₀ os₀ Mt' pw p' s1 → (∀ b, Mt.m b → Mt'.m b) → M0 = { Mt' with m := Mt.m } → VR M0 pw s1.heap (.lst l) (.ref D) → Kp pw Mt M0 s.heap s1.heap → (∃ m, s1.heap.Ns C m) → Mt'.m C → C ∉ pw → s.heap.get? C = none → D ≠ C → ¬ Mt.m D → ¬ Mt.m C →
      compPost (model prog w) A E use Q (.ref D) C (.ok .next) s1) :
    wpAny (model prog w) A (comprehension (.ListComp elt [⟨.Name xn px, iter, ifs, 0⟩] inner pos) inner env cpos (newList []) false (eval iter env) use) Q E s := by
  refine an2 (localsOk_spec hlo) fun hkind hnm => ?_
  have hclos : closureFor inner env = pure (clAcc env inner.names []) := closure_pure fun x hx hk => by
    obtain ⟨n, k⟩ := x
    dsimp only at hk; subst hk
    refine an4 (freeOk_spec hf F n hx) fun _ h2 h3 _ => ?_
    exact F.cellIs n h3 h2
  refine wpAny_comprehension_free (g := ⟨.Name xn px, iter, ifs, 0⟩) (gs := []) rfl (folded (src_notSet hsrc)) hclos hkind (fun x hx hl => by rw [← hl]; exact hnm x hx) ?_
  refine src_ok T Ho hsrc J F hh fun {M2} I fp St s2 wk J2 K2 hI => ?_
  refine wpAny_newObj_type (new_comp_env ?_)
  dsimp only
  refine an2 (Comp.mk' (env := env) (inner := inner) s2.heap { cls := .type "list", data := .seq ([] : List Value).toArray } rfl) fun K hD => ?_
  generalize hh4 : pushCells ((s2.heap.push { cls := .type "list", data := .seq ([] : List Value).toArray }).push cobj) inner.names = h4 at K hD ⊢
  generalize hCC : (s2.heap.push { cls := .type "list", data := .seq ([] : List Value).toArray }).objs.size = C at K ⊢
  have F2 := F.kp J.pws K2
  have F4 := Fm.comp J2 F2 hf hlo K
  have J4 : Inv h₀ os₀ (More M2 s2.heap h4) pw p1 { s2 with heap := h4 } := J2.more (t := s2.toks) K.keep
  have hDn := fresh_size s2.heap
  have hne : s2.heap.objs.size ≠ C := by rw [← hCC, Heap.size_push]; lia
  have hC4 : ∃ o, h4.get? C = some o := let ⟨m, o, _, _, ho, _⟩ := K.nsC; ⟨o, ho⟩
  have pwn : ∀ b, s2.heap.get? b = none → b ∉ pw := fun b hb hp => by
    obtain ⟨_, o, ho⟩ := J2.mt b (J2.pws b hp)
    rw [hb] at ho; exact nn ho
  have hDM : (More M2 s2.heap h4).m s2.heap.objs.size := .inr ⟨hDn, _, hD⟩
  have hst4 : St 0 h4 := wk.frame _ _ _ wk.st fun b _ o eq => K.keep b o eq
  have old : ∀ b, s2.heap.get? b = none → s.heap.get? b = none := fun b hb => back_none J2 K2 hb
  have hI0 : h₀.get? I = none := by
    cases q : h₀.get? I with
    | none => rfl
    | some o => rw [J.base I o q] at hI; cases hI
  have main := comp_loop (px := px) (iter := iter) (pos := pos) (cenv := cenvOf inner C env) (inner := inner) (D := s2.heap.objs.size) (s := { s2 with heap := h4 }) (R := compPost (model prog w) A E use Q (.ref s2.heap.objs.size) C) (fun me => Hev _ me) (fun me => Htr _ me)
    wk hI0 (fun b o hb eq => (more_ok K.keep b o hb eq).1) (fun _ _ e => e) (src_cap hsrc) hx (fun b hb => by
      rcases hb with rfl | hb | rfl
      · exact K.newC
      · have : (cenvOf inner C env).cells.lookup xn = ((cellsFrom (C + 1) inner.names []).lookup xn).or ((clAcc env inner.names []).lookup xn) := by
          show (cellsFrom (C + 1) inner.names (clAcc env inner.names [])).lookup xn = _
          rw [cellsFrom_app, List.lookup_append]
        rw [this] at hb
        cases q : (cellsFrom (C + 1) inner.names []).lookup xn with
        | some d => rw [q] at hb; apply sm1 hb; exact K.newO xn _ (lookup_mem q)
        | none =>
          rw [q] at hb
          rcases clAcc_lookup env inner.names [] xn b (by simpa using hb) with ⟨z, _⟩ | z
          · have := hnm _ z
            unfold sto at hx
            dsimp only at this
            rw [this] at hx; exact nf hx
          · simp at z
      · exact hDn) hDM (pwn _ hDn) (fun y b hb => by
        rw [lookup_clos] at hb
        split at hb
        · rename_i hfr
          obtain ⟨_, _, _, b', hb', ho⟩ := freeOk_spec hf F y (lookup_mem hfr)
          rw [hb] at hb'; cases hb'; exact ho
        · cases hb) e J4 F4 hst4 ⟨_, hD⟩ (fun b o _ eq => K.keep b o eq) fun M1 arr s1 hm1 hG1 J1 hl1 R1 hn1 hk1 => ?_
  · exact codeAny_compStart_list main (wk.self 0 _ _ _ hst4 main)
  · have hsub1 : ∀ b, Mt.m b → M1.m b := fun b hb => by rw [hm1]; exact .inl (K2.m ▸ hb)
    have hCM1 : M1.m C := by rw [hm1]; exact .inr ⟨K.newC, hC4⟩
    have hDMt : ¬ Mt.m s2.heap.objs.size := by rw [← K2.m]; exact J2.fresh hDn
    have hCMt : ¬ Mt.m C := by rw [← K2.m]; exact J2.fresh K.newC
    refine hQ s2.heap.objs.size C M1 _ s1 J1 hsub1 rfl ?_ ⟨fun b o hb eq => ?_, rfl, fun t z e => hG1 t z (K2.G t z e)⟩ hn1 hCM1 (pwn _ K.newC) (old _ K.newC) hne hDMt hCMt
    · refine ex1_1 (hl1) fun m hm => ?_
      exact VRs.lst (vs := arr.toList) (n := m) (R1.less (fun b hb => hsub1 b hb) rfl) hDMt (by simpa using hm)
    · refine hk1 b o hb (fun z => ?_) (K2.keep b o hb eq)
      subst z; rw [hI] at eq; exact nn eq
end
end Mine
end
section
set_option genSizeOf false
set_option genSizeOfSpec false
namespace Mine
open PySem PyProof.Rows PyProof.V PySem.SeqAt PySem.Spec
structure Out (w : World) (h₀ : Heap) (os₀ : OsState) (mg mb : Str → Option Value) : Prop where
  meth : ∀ A Mt pw p p1 p2 p' s (env : Env) (sc : Scope) (me : Me) o name apos pos args recv l v, A.handled = none → Rm A 1 → plainBase o = true → apos.endLine = pos.line → args.length ≤ 8 →
    ((∃ t a b, recv = V.mat t a b) ∨ recv = .pile) → methV recv name l p2 = some (v, p') → Inv h₀ os₀ Mt pw p s → Fm env sc me Mt pw s.heap →
    OkV w h₀ os₀ A Mt pw (eval o env) s recv p1 → (∀ {Mt' : Ms} s1, Inv h₀ os₀ Mt' pw p1 s1 → Kp pw Mt Mt' s.heap s1.heap → OkL w h₀ os₀ A Mt' pw (spliced (backTo pos (starEach args env))) s1 l p2) →
    (backTo pos (starEach args env)).any (·.1) = false → OkV w h₀ os₀ A Mt pw (eval (.Call (.Attribute o name apos) args [] pos) env) s v p'
  attr : ∀ A Mt pw p p1 s (env : Env) (sc : Scope) (me : Me) o pos t a b, A.handled = none → plainBase o = true → Inv h₀ os₀ Mt pw p s → Fm env sc me Mt pw s.heap →
    OkV w h₀ os₀ A Mt pw (eval o env) s (.mat t a b) p1 → OkV w h₀ os₀ A Mt pw (eval (.Attribute o "string" pos) env) s (.str t) p1
  search : ∀ A Mt pw p p1 s (env : Env) (sc : Scope) (me : Me) xpos apos pos a t m, A.handled = none → Rm A 1 → apos.endLine = pos.line → starred a = false → Inv h₀ os₀ Mt pw p s → Fm env sc me Mt pw s.heap → glo sc "IPV4_RE" = true →
    OkV w h₀ os₀ A Mt pw (eval a env) s (.str t) p1 → t.cps.size ≤ cap → reFind t = some m →
    OkV w h₀ os₀ A Mt pw (eval (.Call (.Attribute (.Name "IPV4_RE" xpos) "search" apos) [a] [] pos) env) s (match m with | some (a, b) => .mat t a b | none => .none) p1
  fn : ∀ A Mt pw p p1 p' s (env : Env) (sc : Scope) (me : Me) f fpos pos args l v, A.handled = none → Rm A 1 → f = ("str" : Str) → fnV f l p1 = some (v, p') → glo sc f = true → Inv h₀ os₀ Mt pw p s → Fm env sc me Mt pw s.heap →
    OkL w h₀ os₀ A Mt pw (spliced (backTo pos (starEach args env))) s l p1 → (backTo pos (starEach args env)).any (·.1) = false →
    OkV w h₀ os₀ A Mt pw (eval (.Call (.Name f fpos) args [] pos) env) s v p'
noncomputable def AccOk (w : World) (h₀ : Heap) (os₀ : OsState) : Prop :=
  ∀ A Mt s (env : Env) (sc : Scope) (me : Me) fpos pos, A.handled = none → Rm A 1 → glo sc "_Accumulator" = true → Inv h₀ os₀ Mt tabs none s → Fm env sc me Mt tabs s.heap → ∀ (E : Value → Shared → Prop) (Q : Value → Shared → Prop),
    (∀ x G s', Inv h₀ os₀ { m := fun b => Mt.m b ∨ b = x, G := G } (x :: tabs) (some []) s' → s.heap.get? x = none → (∀ t z, Mt.G t = some z → G t = some z) → (∀ b o, s.heap.get? b = some o → s'.heap.get? b = some o) → Q (.ref x) s') →
    wpAny (model prog w) A (eval (.Call (.Name "_Accumulator" fpos) [] [] pos) env) Q E s
structure FnIs (h₀ : Heap) (d : Df) (a : Addr) (o : Obj) (fd : FuncData) : Prop where
  at' : h₀.get? a = some o
  data : o.data = .func fd
  body : fd.body = .stmts d.body
  scope : fd.scope = d.scope
  clo : fd.closure = []
  glob : fd.globals = mainGlobals
  blt : fd.builtins = builtinsNs
  rec' : h₀.CodeRec fd.code fd.qualname
  bind : ∀ vals : List Value, vals.length = d.params.length → bindArgs fd ⟨vals, []⟩ = pure (d.params.zip vals)
noncomputable def Fns (h₀ : Heap) (mg : Str → Option Value) : Prop := ∀ f d, df? f = some d → ∃ a o fd, mg f = some (.ref a) ∧ FnIs h₀ d a o fd
noncomputable def CallOk (w : World) (h₀ : Heap) (os₀ : OsState) (mg : Str → Option Value) (n : Nat) (cl : Str → List V → P → Option (V × P)) : Prop :=
  ∀ A, Rm A n → ∀ f l p v p', cl f l p = some (v, p') → p'.isSome = p.isSome → ∀ a, mg f = some (.ref a) → ∀ Mt pw s vals, Inv h₀ os₀ Mt pw p s → VRs Mt pw s.heap l vals → OkV w h₀ os₀ A Mt pw (call (.ref a) vals) s v p'
section
variable {w : World} {h₀ : Heap} {os₀ : OsState} {A : Around} {Mt₀ : Addr → Prop} {Mt Mt' : Ms} {pw : List Addr} {p p' : P} {s s' : Shared} {x y v : V} {val b : Value} {hc h h' h4 : Heap} {env cenv : Env} {sc inner : Scope} {me me' : Me} {n : Str} {c a I C D : Addr} {mg mb : Str → Option Value}
theorem VR.monoD {h h' : Heap} (hk : ∀ b o, (∀ es ep, o.data ≠ .dict es ep) → h.get? b = some o → h'.get? b = some o) : ∀ {x : V} {v : Value}, VR Mt pw h x v → VR Mt pw h' x v := by
  intro x v H
  induction H with
  | none => exact .none
  | bool b => exact .bool b
  | int i t => exact .int i t
  | str s t e => exact .str s t e
  | ustr s t => exact .ustr s t
  | lst hm ha hl _ ih => exact .lst hm (hk _ _ (fun es ep q => by cases q) ha) hl fun i x v hx hv => ih i x v hx hv
  | tup hm ha hl _ ih => exact .tup hm (hk _ _ (fun es ep q => by cases q) ha) hl fun i x v hx hv => ih i x v hx hv
  | mat h1 h2 h5 h3 h4 => exact .mat h1 h2 h5 (hk _ _ (fun es ep q => by cases q) h3) (hk _ _ (fun es ep q => by cases q) h4)
  | pile e => exact .pile e
theorem VRs.monoD {h h' : Heap} (hk : ∀ b o, (∀ es ep, o.data ≠ .dict es ep) → h.get? b = some o → h'.get? b = some o) {l : List V} {vs : List Value} (H : VRs Mt pw h l vs) : VRs Mt pw h' l vs :=
  ⟨H.1, fun i x v hx hv => (H.2 i x v hx hv).monoD hk⟩
theorem dict_off {m : Str → Option Value} (hn : h.Ns C m) (hs : Heap.SameBut C h h') : ∀ b o, (∀ es ep, o.data ≠ .dict es ep) → h.get? b = some o → h'.get? b = some o := fun b o hd e => (hs.2 b (fun z => by
  subst z
  obtain ⟨o', es, ep, ho, hdd, _⟩ := hn
  rw [ho] at e; cases e
  exact hd es ep hdd)).trans e
theorem Inv.off (J : Inv h₀ os₀ Mt' pw p s) (hC : Mt'.m C) (hsub : ∀ b, Mt.m b → Mt'.m b) (hp : ∀ a ∈ pw, Mt.m a) (hG : Mt.G = Mt'.G) (hCM : ¬ Mt.m C) (hs : Heap.SameBut C s.heap h') : Inv h₀ os₀ Mt pw p { s with heap := h' } where
  base := fun b o e => (hs.2 b (fun z => by
    subst z; rw [(J.mt b hC).1] at e; cases e)).trans (J.base b o e)
  mt := fun a ha => ⟨(J.mt a (hsub a ha)).1, let ⟨o, ho⟩ := (J.mt a (hsub a ha)).2; ⟨o, (hs.2 a (fun z => hCM (z ▸ ha))).trans ho⟩⟩
  pws := hp
  pile := J.pile.mono (fun b o hb e => ⟨fun q => hb (hsub b q), (hs.2 b (fun z => hb (z ▸ hC))).trans e⟩) (fun x o hx e => (hs.2 x (fun z => hCM (z ▸ hp x hx))).trans e) (hG ▸ fun _ _ e => e)
  os := J.os
  gens := J.gens
  tk := hG ▸ J.tk
  pos := J.pos
theorem Rm.less {n m : Nat} (R : Rm A n) (h : m ≤ n) : Rm A m := ⟨R.1, by have := R.2.1; omega, by have := R.2.2; omega⟩
theorem comp_ok {ev : Me → Expr → P → Option (V × P)} {tr : Me → Expr → P → Option (Bool × P)} {evo : Expr → P → Option (V × P)} (T : Tp h₀ mg mb) (Ho : EvOk w h₀ os₀ A pw env sc me evo)
    (Hev : ∀ cenv me, EvOk w h₀ os₀ A pw cenv inner me (ev me)) (Htr : ∀ cenv me, TrOk w h₀ os₀ A pw cenv inner me (tr me)) (hh : A.handled = none)
    {elt iter : Expr} {ifs : List Expr} {px pos : Pos} {xn : Str} {items l : List V} {p1 : P}
    (hf : freeOk sc me inner = true) (hlo : localsOk inner = true) (hx : sto inner xn = true) (hsrc : srcWith evo sc iter p = some (items, p1))
    (e : compWith (fun m q => ev m elt q) (fun m q => testsWith (tr m) ifs q) xn (clos inner me) items p1 = some (l, p'))
    (J : Inv h₀ os₀ Mt pw p s) (F : Fm env sc me Mt pw s.heap) : OkV w h₀ os₀ A Mt pw (eval (.ListComp elt [⟨.Name xn px, iter, ifs, 0⟩] inner pos) env) s (.lst l) p' := by
  intro E Q hQ
  rw [eval_ListComp]
  refine comp_core (use := none) T Ho Hev Htr hh hf hlo hx hsrc e J F fun D C Mt' M0 s1 J1 hsub hM0 R1 K1 ⟨m, hn⟩ hC hCp hCn hDC hDM hCM => ⟨m, hn, fun h' hs' => ?_⟩
  have hm0 : M0.m = Mt.m := by rw [hM0]
  have hg0 : M0.G = Mt'.G := by rw [hM0]
  refine hQ (.ref D) _ (J1.off (Mt := M0) hC (fun b hb => hsub b (hm0 ▸ hb)) (fun a ha => hm0 ▸ J.pws a ha) hg0 (hm0 ▸ hCM) hs') ⟨fun b o hb q => (hs'.2 b (fun z => by
    subst z; rw [hCn] at q; cases q)).trans (K1.keep b o hb q), K1.m, K1.G⟩ (R1.monoD (dict_off hn hs'))
end
end Mine
end
section
set_option genSizeOf false
set_option genSizeOfSpec false
namespace Mine
open PySem PyProof.Rows PyProof.V PySem.SeqAt PySem.Spec
section
variable {w : World} {h₀ : Heap} {os₀ : OsState} {A : Around} {Mt₀ : Addr → Prop} {Mt Mt' : Ms} {pw : List Addr} {p p' p1 : P} {s s' : Shared} {x y v : V} {val b : Value} {hc h h' h4 : Heap} {env cenv : Env} {sc inner : Scope} {me me' : Me} {n : Str} {c a I C D : Addr} {mg mb : Str → Option Value}
theorem base_ok {o : Expr} {attr : Str} {whole : Sem Value} (h : plainBase o = true) : attributeBase o attr env whole = whole := by
  cases o <;> first | rfl | cases h
theorem typeOf_meth {id : String} (h : id = "str.find" ∨ id = "str.join" ∨ id = "str.index" ∨ id = "str.rfind") : typeOf (.builtin id) = pure (.type "method_descriptor") := by
  rcases h with rfl | rfl | rfl | rfl <;> (show builtinType _ = _; rw [builtinType_eq_fast]; kernel_rfl)
theorem strMeth_slot {name : Str} {id : String} (h : strMeth name = some id) : Slot "str" name id ∧ typeOf (.builtin id) = pure (.type "method_descriptor") := by
  unfold strMeth at h
  refine oelse h (fun n q => ?_) fun h => oelse h (fun n q => ?_) fun h => oelse h (fun n q => ?_) fun h => oif h fun n q => ?_
  · rw [n, ← Option.some.inj q]; exact ⟨F.slot_str_join, typeOf_meth (.inr (.inl rfl))⟩
  · rw [n, ← Option.some.inj q]; exact ⟨F.slot_str_find, typeOf_meth (.inl rfl)⟩
  · rw [n, ← Option.some.inj q]; exact ⟨F.slot_str_index, typeOf_meth (.inr (.inr (.inl rfl)))⟩
  · rw [n, ← Option.some.inj q]; exact ⟨F.slot_str_rfind, typeOf_meth (.inr (.inr (.inr rfl)))⟩
theorem few_ok {args : List Expr} {pos : Pos} (hp : (backTo pos (starEach args env)).any (·.1) = false) (hl : args.length ≤ 8) :
    ((backTo pos (starEach args env)).all (fun x => !x.1) && (backToKw pos (keywordEach [] env)).all (fun x => x.1.isSome) && decide (args.length + ([] : List Keyword).length + (if ([] : List Keyword).isEmpty then 0 else 1) < 30)) = true := by
  have h1 : (backTo pos (starEach args env)).all (fun x => !x.1) = true := by
    rw [List.all_eq_true]
    intro q hq
    have := List.any_eq_false.mp hp q hq
    simpa using this
  rw [h1]
  show (true && true && decide (args.length < 30)) = true
  rw [decide_eq_true (Nat.lt_of_le_of_lt hl (by decide) : args.length < 30)]; rfl
theorem strCall_ok {ev : Expr → P → Option (V × P)} (H : EvOk w h₀ os₀ A pw env sc me ev) {o : Expr} {name : Str} {apos pos : Pos} {args : List Expr} {z : Str} {l : List V} {p2 : P} (hh : A.handled = none) (hb : plainBase o = true) (hl : apos.endLine = pos.line)
    (h8 : args.length ≤ 8) (e1 : ev o p = some (.str z, p1)) (e2 : evsWith ev args p1 = some (l, p2)) (e3 : methV (.str z) name l p2 = some (v, p')) (J : Inv h₀ os₀ Mt pw p s) (F : Fm env sc me Mt pw s.heap) :
    OkV w h₀ os₀ A Mt pw (eval (.Call (.Attribute o name apos) args [] pos) env) s v p' := by
  intro E Q hQ
  have hid : ∃ id, strMeth name = some id := by
    refine strM_inv (G := fun name _ _ _ => ∃ id, strMeth name = some id) ?_ ?_ ?_ ?_ ?_ ?_ (show strM z name l p2 = some (v, p') from e3)
    · exact fun _ _ _ _ _ => ⟨"str.join", by decide +kernel⟩
    · exact fun _ => ⟨"str.find", by decide +kernel⟩
    · exact fun _ _ _ => ⟨"str.index", by decide +kernel⟩
    · exact fun _ _ _ => ⟨"str.index", by decide +kernel⟩
    · exact fun _ _ _ => ⟨"str.find", by decide +kernel⟩
    · exact fun _ _ _ => ⟨"str.rfind", by decide +kernel⟩
  obtain ⟨id, hid⟩ := hid
  refine an2 (strMeth_slot hid) fun slot hty => ?_
  refine wpAny_Call_method (T := "str") (id := id) (base_ok hb) (few_ok (evs_plain e2) h8) (by simpa using hl) PySem.F.plainAttrs_str slot hty ?_
  refine H o p _ p1 e1 s J F E _ fun ov s1 J1 K1 R1 => ?_
  refine ex1_2 (R1.str') fun tk q_331 _ => ?_
  subst q_331
  refine ⟨rfl, fun a q => (by cases q), ?_⟩
  refine callWith_machine (fun a q => by cases q) (evs_plain e2) ?_
  refine evs_ok H args p1 l p2 e2 s1 J1 (F.kp J.pws K1) E _ fun vs s2 J2 K2 R2 => ?_
  obtain ⟨id', hid', ok⟩ := strMeth_ok (tk := tk) J2 e3 R2 hh
  rw [hid] at hid'; cases hid'
  exact ok E Q fun val s3 J3 K3 R3 => hQ val s3 J3 ((K1.trans K2).trans K3) R3
theorem part_ev {J' : Mine.I} (H : EvOk w h₀ os₀ A pw env sc me (J'.ev sc me)) {lo : Option Expr} (e : evPart J' sc me lo p = some (v, p1)) (J : Inv h₀ os₀ Mt pw p s) (F : Fm env sc me Mt pw s.heap) :
    OkV w h₀ os₀ A Mt pw (evalPart lo env) s v p1 := by
  cases lo with
  | none =>
    apply sm2 (show some (V.none, p) = some (v, p1) from e)
    exact fun E Q hQ => wpAny_pure (end_now J hQ .none)
  | some e' => exact H e' p v p1 e s J F
theorem slice_case {J' : Mine.I} (H : EvOk w h₀ os₀ A pw env sc me (J'.ev sc me)) {o : Expr} {lo hi st : Option Expr} {sp pos : Pos} {a l u t : V × P} (e1 : J'.ev sc me o p = some a)
    (e2 : evPart J' sc me lo a.2 = some l) (e3 : evPart J' sc me hi l.2 = some u) (e4 : evPart J' sc me st u.2 = some t)
    (e5 : cutV a.1 l.1 u.1 t.1 = some v) (J : Inv h₀ os₀ Mt pw p s) (F : Fm env sc me Mt pw s.heap) : OkV w h₀ os₀ A Mt pw (eval (.Subscript o (.Slice lo hi st sp) pos) env) s v t.2 := by
  intro E Q hQ
  obtain ⟨a, p1⟩ := a; obtain ⟨l, p2⟩ := l; obtain ⟨u, p3⟩ := u; obtain ⟨t, p4⟩ := t
  refine PyProof.Rows.Subscript_ ?_
  refine H o p a p1 e1 s J F E _ fun va s1 J1 K1 R1 => ?_
  refine wpAny_Slice ?_
  have F1 := F.kp J.pws K1
  refine part_ev H e2 J1 F1 E _ fun vl s2 J2 K2 R2 => ?_
  have F2 := F1.kp J1.pws K2
  refine part_ev H e3 J2 F2 E _ fun vu s3 J3 K3 R3 => ?_
  have F3 := F2.kp J2.pws K3
  refine part_ev H e4 J3 F3 E _ fun {M4} vt s4 J4 K4 R4 => ?_
  have kk : ∀ b o, s4.heap.get? b = some o → (s4.heap.push { cls := .type "slice", data := .fields #[vl, vu, vt] }).get? b = some o := fun b o e => Heap.get?_push_of_some _ e
  have J5 : Inv h₀ os₀ M4 pw p4 { s4 with heap := s4.heap.push { cls := .type "slice", data := .fields #[vl, vu, vt] } } := J4.keeps (t := s4.toks) kk
  have K5 : Kp pw M4 M4 s4.heap (s4.heap.push { cls := .type "slice", data := .fields #[vl, vu, vt] }) := Kp.push _ _ _
  have Ra : VR M4 pw (s4.heap.push { cls := .type "slice", data := .fields #[vl, vu, vt] }) a va := (((R1.kp J1.pws K2).kp J2.pws K3).kp J3.pws K4).kp J4.pws K5
  have Rl := ((R2.kp J2.pws K3).kp J3.pws K4).kp J4.pws K5
  have Ru := (R3.kp J3.pws K4).kp J4.pws K5
  have Rt := R4.kp J4.pws K5
  have hg := cut_ok (w := w) (A := A) J5 e5 Ra Rl Ru Rt (Heap.get?_push_size _ rfl) E Q fun val s6 J6 K6 R6 => hQ val s6 J6 (((((K1.trans K2).trans K3).trans K4).trans K5).trans K6) R6
  have fin : ∀ T id ops, Shared.TypeIs { s4 with heap := s4.heap.push { cls := .type "slice", data := .fields #[vl, vu, vt] } } va T → typeLookup (.type T) "__getitem__" = pure (some (.builtin id)) →
      subscripted (.Slice lo hi st sp) false va (.ref s4.heap.objs.size) = operate ops (getItem va (.ref s4.heap.objs.size)) →
      wpAny (model prog w) A (subscriptTail o (.Slice lo hi st sp) va (.ref s4.heap.objs.size)) Q E { s4 with heap := s4.heap.push { cls := .type "slice", data := .fields #[vl, vu, vt] } } := fun T id ops h1 h2 h3 =>
    PyProof.Rows.tail_any h1 h2 hg h3
  have ops : ∃ ops, subscripted (.Slice lo hi st sp) false va (.ref s4.heap.objs.size) = operate ops (getItem va (.ref s4.heap.objs.size)) := by
    cases st with
    | none => exact ⟨_, subscripted_cut _ _⟩
    | some e => exact ⟨_, subscripted_step _ _⟩
  refine ex1_1 (ops) fun ops hops => ?_
  have kind : (∃ xs, a = .lst xs) ∨ ∃ z, a = .str z := by
    refine obind e5 fun _ _ q1 => ?_
    refine obind q1 fun _ _ q2 => ?_
    refine obind q2 fun _ _ q3 => ?_
    refine oifn q3 fun _ q4 => ?_
    cases a with
    | lst xs => exact .inl ⟨_, rfl⟩
    | str z => exact .inr ⟨_, rfl⟩
    | _ => exact nn q4
  rcases kind with ⟨xs, rfl⟩ | ⟨z, rfl⟩
  · refine ex3_5 (Ra.lst') fun a₁ vs n q_453 h1 h2 h3 h4 => ?_
    subst q_453
    have hl : Heap.IsList (s4.heap.push { cls := .type "slice", data := .fields #[vl, vu, vt] }) a₁ vs := ⟨_, h2, rfl, n, rfl⟩
    exact fin "list" _ _ hl.typeIs lookup_list_getitem hops
  · refine ex1_2 (Ra.str') fun tk q_481 _ => ?_
    subst q_481
    exact fin "str" _ _ rfl lookup_str_getitem hops
theorem notSlice_of {i : Expr} (h : ∀ lo hi st p, i ≠ .Slice lo hi st p) : notSlice i = true := by
  cases i <;> first | rfl | exact absurd rfl (h _ _ _ _)
theorem base_case {ev : Expr → P → Option (V × P)} (H : EvOk w h₀ os₀ A pw env sc me ev) {n : Str} {np pos : Pos} {i : Expr} {o : V} {k : V × P} (hd : n ≠ ("__debug__" : Str)) (hs : notSlice i = true) (e1 : baseV sc me n = some o) (e2 : ev i p = some k) (e3 : itemV o k.1 = some v)
    (J : Inv h₀ os₀ Mt pw p s) (F : Fm env sc me Mt pw s.heap) : OkV w h₀ os₀ A Mt pw (eval (.Subscript (.Name n np) i pos) env) s v k.2 := by
  intro E Q hQ
  obtain ⟨k, p1⟩ := k
  unfold baseV at e1
  split at e1
  · rename_i hv
    refine omap e1 fun bd hb q_82 => ?_
    subst q_82
    refine ex1_2 (F.vars n bd hv hb) fun val hat hr => ?_
    refine PyProof.Rows.Subscript_ (at_name F hat hd ?_)
    refine H i p k p1 e2 s J F E _ fun vi s1 J1 K1 R1 => ?_
    have F1 := F.kp J.pws K1
    refine ex1_2 (F1.vars n bd hv hb) fun val' hat' hr' => ?_
    have := (F.at_kp K1 hat).det hat'
    subst this
    refine item_ok J1 e3 ?_ R1 hs E Q fun u s2 J2 K2 R2 => hQ u s2 J2 (K1.trans K2) R2
    unfold BdR at hr'
    cases ho : bd.own with
    | true =>
      rw [ho] at hr'
      refine ex4_6 (hr') fun xs a vs m z1 q_215 z3 z4 z5 z6 => ?_
      subst q_215
      exact .inl ⟨vs, m, a, rfl, xs, z1, z5, z6⟩
    | false =>
      rw [ho] at hr'
      exact .inr hr'
  · exact nn e1
end
end Mine
end
section
set_option genSizeOf false
set_option genSizeOfSpec false
namespace Mine
open PySem PyProof.Rows PyProof.V PySem.SeqAt PySem.Spec
section
variable {w : World} {h₀ : Heap} {os₀ : OsState} {A : Around} {Mt₀ : Addr → Prop} {Mt Mt' : Ms} {pw : List Addr} {p p' p1 : P} {s s' : Shared} {x y v : V} {val b : Value} {hc h h' h4 : Heap} {env cenv : Env} {sc inner : Scope} {me me' : Me} {n : Str} {c a C D : Addr} {mg mb : Str → Option Value}
theorem listRange_ok {ev : Expr → P → Option (V × P)} (T : Tp h₀ mg mb) (H : EvOk w h₀ os₀ A pw env sc me ev) {f : Str} {fp cp fpos pos : Pos} {a : Expr} {m : Int} {l : List V} (hh : A.handled = none) (hf : f = ("list" : Str)) (hg : glo sc f = true) (hg2 : glo sc "range" = true) (hs : starred a = false)
    (hz : ev a p = some (.int m, p')) (hl : rangeV m = some l) (J : Inv h₀ os₀ Mt pw p s) (F : Fm env sc me Mt pw s.heap) :
    OkV w h₀ os₀ A Mt pw (eval (.Call (.Name f fpos) [.Call (.Name "range" fp) [a] [] cp] [] pos) env) s (.lst l) p' := by
  intro E Q hQ
  subst hf
  refine an2 (T.blt "list" (.type "list") (by decide +kernel)) fun h1 h2 => ?_
  refine wpAny_Call_NameR (global_name T J F hg (by decide) (.inr ⟨h1, h2⟩) ?_)
  refine callWith_machine (fun a h => by cases h) (by rw [not_starred rfl]; rfl) ?_
  refine wpAny_items_cons ?_ (not_starred rfl)
  refine range_ok T H hg2 hs hz J F fun r t u v s1 J1 K1 hr => ?_
  refine wpAny_items_nil ?_
  unfold rangeV at hl
  refine oif hl fun hm hl => ?_
  rw [← Option.some.inj hl] at hQ
  have hm2 : m ≤ 4096 := hm.2
  have hm1 : 0 ≤ m := hm.1
  refine wpAny_with_toks (n := s1.toks) (Nat.le_refl _) ?_
  refine call_list_range hh hr (small_one (by decide) (by decide) (by lia) (by lia)) (range_size hm1) (by lia) fun h' tk acc c hk ha hi hle => ?_
  refine hQ _ _ (J1.keeps hk hle) (K1.trans (Kp.of_keeps hk)) ?_
  refine .lst (J1.fresh (fresh_size _)) ha ?_ fun i x u hx hu => ?_
  · have := hi.1; simp [this]
  · rw [List.getElem?_map] at hx
    refine omap hx fun z hz q_232 => ?_
    have hz' : z < m.toNat ∧ z = i := by
      refine ex1_1 (List.getElem?_eq_some_iff.mp hz) fun q1 q2 => ?_
      rw [List.getElem_range] at q2
      rw [List.length_range] at q1
      rw [← q2]; exact ⟨q1, rfl⟩
    rw [← hz'.2] at hu
    refine ex1_1 (hi.2 z u hu) fun t ht => ?_
    rw [ht, ← q_232, show (0 : Int) + (z : Int) * 1 = (z : Int) by lia]
    exact .int _ _
theorem call_case {J' : I} {n : Nat} (T : Tp h₀ mg mb) (Fn : Fns h₀ mg) (X : Out w h₀ os₀ mg mb) (H : EvOk w h₀ os₀ A pw env sc me (J'.ev sc me)) (HC : CallOk w h₀ os₀ mg n J'.call) (R : Rm A (n + 1)) {f : Str} {fpos pos : Pos} {args : List Expr} {l : List V} {p1 : P}
    (hg : glo sc f = true) (hd : f ≠ ("__debug__" : Str)) (e1 : evsWith (J'.ev sc me) args p = some (l, p1)) (e2 : evOwn J' f l p1 = some (v, p'))
    (J : Inv h₀ os₀ Mt pw p s) (F : Fm env sc me Mt pw s.heap) : OkV w h₀ os₀ A Mt pw (eval (.Call (.Name f fpos) args [] pos) env) s v p' := by
  unfold evOwn at e2
  cases hdf : df? f with
  | some d =>
    rw [hdf] at e2
    refine obind2 e2 fun v1 p2 h1 h2 => ?_
    refine oif h2 fun hsome h3 => ?_
    apply sm2 h3
    refine ex3_2 (Fn f d hdf) fun a o fd hm ho => ?_
    intro E Q hQ
    refine wpAny_Call_NameR (global_name T J F hg hd (.inl hm) ?_)
    refine Calls.callWith_function (o := o) (fd := fd) (args_ok (evs_plain e1) ?_)
    refine evs_ok H args p l p1 e1 s J F E _ fun vs s2 J2 K2 R2 => ⟨⟨J2.base _ _ ho.at', ho.data⟩, ?_⟩
    exact HC A (R.less (Nat.le_succ n)) f l p1 v1 p2 h1 hsome a hm _ pw s2 vs J2 R2 E Q fun u s3 J3 K3 R3 => hQ u s3 J3 (K2.trans K3) R3
  | none =>
    rw [hdf] at e2
    cases hb : bltV f with
    | some fv =>
      refine an2 (T.blt f fv hb) fun h1 h2 => ?_
      intro E Q hQ
      refine wpAny_Call_NameR (global_name T J F hg hd (.inr ⟨h1, h2⟩) ?_)
      refine callWith_machine (bltV_noref hb) (evs_plain e1) ?_
      refine evs_ok H args p l p1 e1 s J F E _ fun vs s2 J2 K2 R2 => ?_
      exact fn_ok J2 e2 hb R2 R.1 E Q fun u s3 J3 K3 R3 => hQ u s3 J3 (K2.trans K3) R3
    | none =>
      obtain ⟨b1, b2, b3, b4, b5, b6⟩ := blt_is
      have N : ∀ {f : Str} {a : Value} {C : Prop}, bltV f = some a → bltV f = none → C := fun q h => nn (h.symm.trans q)
      have hf : f = ("str" : Str) := fnV_inv (G := fun f _ _ _ => bltV f = none → f = ("str" : Str)) (fun _ _ => N b1) (fun _ _ => N b1) (fun _ _ _ => N b2) (fun _ _ => N b3) (fun _ _ _ _ => N b4) (fun _ _ => N b4) (fun _ _ => N b5) (fun _ _ _ _ _ => rfl) e2 hb
      exact X.fn A Mt pw p p1 p' s env sc me f fpos pos args l v R.1 (R.less (by lia)) hf e2 hg J F (evs_ok H args p l p1 e1 s J F) (evs_plain e1)
theorem units_ok {n : Nat} (R : Rm A n) : A.units + 64 < cLine := by have := R.2.2; lia
theorem starred_false {e : Expr} (h : ¬ starred e = true) : starred e = false := Bool.eq_false_iff.mpr h
theorem sub_ev {J' : I} (H : EvOk w h₀ os₀ A pw env sc me (J'.ev sc me)) {o i : Expr} {pos : Pos} (he : evSub J' sc me o i p = some (v, p')) (J : Inv h₀ os₀ Mt pw p s) (F : Fm env sc me Mt pw s.heap) :
    OkV w h₀ os₀ A Mt pw (eval (.Subscript o i pos) env) s v p' := by
  unfold evSub at he
  cases hs : asSlice i with
  | some r =>
    rw [hs] at he
    refine ex1_1 (asSlice_eq hs) fun sp hi => ?_
    rw [hi]
    refine obind he fun a h1 e1 => ?_
    refine obind e1 fun l h2 e2 => ?_
    refine obind e2 fun u h3 e3 => ?_
    refine obind e3 fun t h4 e4 => ?_
    refine omap e4 fun v' h5 e5 => ?_
    apply pr2 e5
    exact slice_case H h1 h2 h3 h4 h5 J F
  | none =>
    rw [hs] at he
    have hns := notSlice_of fun lo hi st sp q => asSlice_none hs lo hi st sp q
    cases ho : asName o with
    | some x =>
      have he : (match asName o with | some x => if x = ("__debug__" : Str) then Option.none else (baseV sc me x).bind fun o => (J'.ev sc me i p).bind fun k => (itemV o k.1).map fun v => (v, k.2) | none => _) = some (v, p') := he
      rw [ho] at he
      refine ex1_1 (asName_eq ho) fun xp hx => ?_
      rw [hx]
      refine oifn he fun hd he => ?_
      refine obind he fun o h1 e1 => ?_
      refine obind e1 fun k h2 e2 => ?_
      refine omap e2 fun v' h3 e3 => ?_
      apply pr2 e3
      exact base_case H hd hns h1 h2 h3 J F
    | none =>
      have he : (match asName o with | some x => _ | none => (J'.ev sc me o p).bind fun a => (J'.ev sc me i a.2).bind fun k => (itemV a.1 k.1).map fun v => (v, k.2)) = some (v, p') := he
      rw [ho] at he
      refine obind2 he fun a p1 h1 e1 => ?_
      refine obind2 e1 fun b p2 h2 e2 => ?_
      refine omap e2 fun v' h3 e3 => ?_
      apply pr2 e3
      intro E Q hQ
      refine PyProof.Rows.Subscript_ (H _ p a p1 h1 s J F E _ fun va s1 J1 K1 R1 => ?_)
      refine H _ p1 b _ h2 s1 J1 (F.kp J.pws K1) E _ fun vb s2 J2 K2 R2 => ?_
      exact item_ok J2 h3 (.inr (R1.kp J1.pws K2)) R2 hns E Q fun u s3 J3 K3 R3 => hQ u s3 J3 ((K1.trans K2).trans K3) R3
theorem fn_ev {J' : I} {n : Nat} (T : Tp h₀ mg mb) (Fn : Fns h₀ mg) (X : Out w h₀ os₀ mg mb) (H : EvOk w h₀ os₀ A pw env sc me (J'.ev sc me)) (HC : CallOk w h₀ os₀ mg n J'.call) (R : Rm A (n + 1)) {f : Str} {fpos pos : Pos} {args : List Expr}
    (he : evFn J' sc me f args p = some (v, p')) (J : Inv h₀ os₀ Mt pw p s) (F : Fm env sc me Mt pw s.heap) : OkV w h₀ os₀ A Mt pw (eval (.Call (.Name f fpos) args [] pos) env) s v p' := by
  unfold evFn at he
  refine oif he fun hg he => ?_
  rw [Bool.and_eq_true] at hg
  have hd : f ≠ ("__debug__" : Str) := by simpa using hg.2
  cases hra : listRange sc f args with
  | some a =>
    rw [hra] at he
    unfold listRange at hra
    refine oif hra fun hf hra => ?_
    refine obind hra fun e0 ha hr => ?_
    refine ex2_2 (isRange_eq hr) fun fp cp h0 hg2 => ?_
    rw [one_eq ha, h0]
    refine oifn he fun hst he => ?_
    refine obind2 he fun z p1 h1 e1 => ?_
    refine obind e1 fun m hm e2 => ?_
    refine omap e2 fun l h2 e3 => ?_
    apply pr2 e3
    exact listRange_ok T H R.1 hf hg.1 hg2 (starred_false hst) (by rw [h1, ← intV_eq hm]) h2 J F
  | none =>
    rw [hra] at he
    refine obind2 he fun l p1 h1 e1 => ?_
    exact call_case T Fn X H HC R hg.1 hd h1 e1 J F
theorem strOf_eq {v : V} {t : Str} (h : strOf v = some t) : v = .str t := by
  cases v with
  | str j => apply sm1 (show some j = some t from h); rfl
  | _ => exact nn h
theorem reArgs_eq {o : Expr} {name : Str} {args l : List Expr} (h : reArgs sc o name args = some l) : (∃ xp, o = .Name "IPV4_RE" xp) ∧ glo sc "IPV4_RE" = true ∧ name = ("search" : Str) ∧ l = args := by
  unfold reArgs at h
  cases ho : asName o with
  | none => rw [ho] at h; exact nn h
  | some x =>
    rw [ho] at h
    obtain ⟨xp, hx⟩ := asName_eq ho
    refine oif h fun hc h => ?_
    exact ⟨⟨xp, by rw [hx, hc.1]⟩, by rw [← hc.1]; exact hc.2.1, hc.2.2, (Option.some.inj h).symm⟩
theorem meth_ev {J' : I} {n : Nat} (X : Out w h₀ os₀ mg mb) (H : EvOk w h₀ os₀ A pw env sc me (J'.ev sc me)) (R : Rm A (n + 1)) {o : Expr} {name : Str} {apos pos : Pos} {args : List Expr}
    (he : evMeth J' sc me o name apos args pos p = some (v, p')) (J : Inv h₀ os₀ Mt pw p s) (F : Fm env sc me Mt pw s.heap) : OkV w h₀ os₀ A Mt pw (eval (.Call (.Attribute o name apos) args [] pos) env) s v p' := by
  unfold evMeth at he
  cases hsr : reArgs sc o name args with
  | some args' =>
    rw [hsr] at he
    refine an4 (reArgs_eq hsr) fun t_60 hg hn ha' => ?_
    obtain ⟨xp, h0⟩ := t_60
    refine obind he fun a ha he => ?_
    rw [h0, hn, ← ha', one_eq ha]
    refine oifn he fun hc he => ?_
    have hc2 : starred a = false ∧ apos.endLine = pos.line := by
      have : (starred a || !apos.endLine == pos.line) = false := by simpa using hc
      rw [Bool.or_eq_false_iff] at this
      exact ⟨this.1, by simpa using this.2⟩
    refine obind2 he fun z p1 h1 e1 => ?_
    refine obind e1 fun t ht e2 => ?_
    refine obind e2 fun t' h2 e3 => ?_
    refine omap e3 fun m h3 e4 => ?_
    apply pr2 e4
    rw [(okS_eq h2).1] at h3 ⊢
    have H1 := H _ p _ _ h1 s J F
    rw [show z = _ from strOf_eq ht] at H1
    cases m with
    | none => exact X.search A Mt pw p _ s env sc me xp apos pos a t none R.1 (R.less (by lia)) hc2.2 hc2.1 J F hg H1 (okS_eq h2).2 h3
    | some m => exact X.search A Mt pw p _ s env sc me xp apos pos a t (some m) R.1 (R.less (by lia)) hc2.2 hc2.1 J F hg H1 (okS_eq h2).2 h3
  | none =>
    rw [hsr] at he
    refine oif he fun hc he => ?_
    rw [Bool.and_eq_true, Bool.and_eq_true] at hc
    have hc2 : apos.endLine = pos.line := by simpa using hc.1.2
    have hc3 : args.length ≤ 8 := by simpa using hc.2
    refine obind2 he fun a p1 h1 e1 => ?_
    refine obind2 e1 fun l p2 h2 e2 => ?_
    have hX : ((∃ t a1 b1, a = V.mat t a1 b1) ∨ a = .pile) → OkV w h₀ os₀ A Mt pw (eval (.Call (.Attribute o name apos) args [] pos) env) s v p' := fun hk =>
      X.meth A Mt pw p p1 p2 p' s env sc me o name apos pos args a l v R.1 (R.less (by lia)) hc.1.1 hc2 hc3 hk e2 J F (H o p a p1 h1 s J F) (fun s1 J1 K1 => evs_ok H args p1 l p2 h2 s1 J1 (F.kp J.pws K1)) (evs_plain h2)
    cases a with
    | str z => exact strCall_ok H R.1 hc.1.1 hc2 hc3 h1 h2 e2 J F
    | mat t a1 b1 => exact hX (.inl ⟨t, a1, b1, rfl⟩)
    | pile => exact hX (.inr rfl)
    | _ => exact nn e2
theorem comp_ev {J' : I} {n : Nat} (T : Tp h₀ mg mb) (HE : ∀ A pw env sc me, Rm A n → EvOk w h₀ os₀ A pw env sc me (J'.ev sc me)) (HT : ∀ A pw env sc me, Rm A n → TrOk w h₀ os₀ A pw env sc me (J'.tr sc me)) (R : Rm A (n + 1)) {elt : Expr} {g : Comprehension} {pos : Pos}
    (he : evComp J' sc me elt g inner p = some (v, p')) (J : Inv h₀ os₀ Mt pw p s) (F : Fm env sc me Mt pw s.heap) : OkV w h₀ os₀ A Mt pw (eval (.ListComp elt [g] inner pos) env) s v p' := by
  have Rn := R.less (Nat.le_succ n)
  unfold evComp at he
  refine obind he fun x hx he => ?_
  obtain ⟨t, it, ifs, ia⟩ := g
  refine ex1_1 (asName_eq hx) fun px h0 => ?_
  refine oif he fun hz he => ?_
  rw [show t = _ from h0, show ia = 0 from hz]
  refine oif he fun hc he => ?_
  rw [Bool.and_eq_true, Bool.and_eq_true] at hc
  refine obind2 he fun items p1 h1 e1 => ?_
  refine obind2 e1 fun l p2 h2 e2 => ?_
  refine omap e2 fun l' h3 e3 => ?_
  rw [(okL_eq h3).1] at e3
  apply pr2 e3
  exact comp_ok (ev := fun m e q => J'.ev inner m e q) (tr := fun m e q => J'.tr inner m e q) T (HE A pw env sc me Rn) (fun cenv me => HE A pw cenv inner me Rn) (fun cenv me => HT A pw cenv inner me Rn) R.1 hc.1.1 hc.1.2 hc.2 h1 h2 J F
theorem evCmp_ok {J' : I} {n : Nat} (H : EvOk w h₀ os₀ A pw env sc me (J'.ev sc me)) (R : Rm A (n + 1)) {l r : Expr} {op : CmpOp} {b : Bool} (he : evCmp J' sc me l op r p = some (b, p')) (J : Inv h₀ os₀ Mt pw p s) (F : Fm env sc me Mt pw s.heap) {E : Value → Shared → Prop} {Q : Value → Shared → Prop}
    (hQ : ∀ {Mt' : Ms} s', Inv h₀ os₀ Mt' pw p' s' → Kp pw Mt Mt' s.heap s'.heap → Q (.bool b) s') : behindInMarks op r = false ∧ wpAny (model prog w) A (eval l env) (fun va s1 => wpAny (model prog w) A (eval r env) (fun vb s2 => wpAny (model prog w) A (compareOp op va vb) Q E s2) E s1) E s := by
  unfold evCmp at he
  refine oifn he fun hm he => ?_
  refine ⟨Bool.eq_false_iff.mpr hm, ?_⟩
  refine obind2 he fun a p1 h1 e1 => ?_
  refine obind2 e1 fun c p2 h2 e2 => ?_
  refine omap e2 fun v' h3 e3 => ?_
  obtain ⟨e4, e5⟩ := Prod.mk.inj e3
  rw [← e4, ← e5] at hQ
  refine H _ p a p1 h1 s J F E _ fun va s1 J1 K1 R1 => ?_
  refine H _ p1 c _ h2 s1 J1 (F.kp J.pws K1) E _ fun vb s2 J2 K2 R2 => ?_
  exact cmp_ok h3 (R1.kp J1.pws K2) R2 (units_ok R) E Q (hQ s2 J2 (K1.trans K2))
theorem ev_step {J' : I} {n : Nat} (T : Tp h₀ mg mb) (Fn : Fns h₀ mg) (X : Out w h₀ os₀ mg mb) (HE : ∀ A pw env sc me, Rm A n → EvOk w h₀ os₀ A pw env sc me (J'.ev sc me)) (HT : ∀ A pw env sc me, Rm A n → TrOk w h₀ os₀ A pw env sc me (J'.tr sc me))
    (HC : CallOk w h₀ os₀ mg n J'.call) : ∀ A pw env sc me, Rm A (n + 1) → EvOk w h₀ os₀ A pw env sc me (evStep J' sc me) := by
  intro A pw env sc me R Mt e p v p' he s J F
  have H : EvOk w h₀ os₀ A pw env sc me (J'.ev sc me) := HE A pw env sc me (R.less (Nat.le_succ n))
  cases e with
  | Constant c k pos => exact const_ok J he
  | Name x xp =>
    refine oifn (show (if x = ("__debug__" : Str) then Option.none else (nameV sc me x).map fun v => (v, p)) = _ from he) fun hd he => ?_
    refine omap he fun v' h1 h2 => ?_
    apply pr2 h2
    exact name_ok J F h1 hd
  | BinOp l op r pos =>
    refine obind2 (show ((J'.ev sc me l p).bind fun a => (J'.ev sc me r a.2).bind fun b => (binV op a.1 b.1).map fun v => (v, b.2)) = _ from he) fun a p1 h1 e1 => ?_
    refine obind2 e1 fun b p2 h2 e2 => ?_
    refine omap e2 fun v' h3 e3 => ?_
    apply pr2 e3
    intro E Q hQ
    refine wpAny_BinOp (H _ p a p1 h1 s J F E _ fun va s1 J1 K1 R1 => ?_)
    refine H _ p1 b _ h2 s1 J1 (F.kp J.pws K1) E _ fun vb s2 J2 K2 R2 => ?_
    exact bin_ok J2 h3 (R1.kp J1.pws K2) R2 E Q fun u s3 J3 K3 R3 => hQ u s3 J3 ((K1.trans K2).trans K3) R3
  | UnaryOp op a pos =>
    cases op with
    | USub =>
      refine omap (show (asInt a).map (fun i => (V.int (-i), p)) = _ from he) fun i h1 h2 => ?_
      refine ex2_1 (asInt_eq h1) fun k q h3 => ?_
      rw [h3]
      apply pr2 h2
      intro E Q hQ
      refine wpAny_UnaryOp (wpAny_Constant_int ?_)
      exact PyProof.Rows.neg_int (hQ _ _ ((J.tok (t := s.toks + 1)).tok (t := s.toks + 1 + 1)) (Kp.refl _ _) (.int _ _))
    | _ => exact nn he
  | Compare l ops rs pos =>
    refine obind (show ((one? ops).bind fun op => (one? rs).bind fun r => (evCmp J' sc me l op r p).map fun x => (V.bool x.1, x.2)) = _ from he) fun op ho e1 => ?_
    refine obind e1 fun r hr e2 => ?_
    refine omap2 e2 fun b0 p0 h0 e3 => ?_
    apply pr2 e3
    rw [one_eq ho, one_eq hr]
    intro E Q hQ
    have hw := evCmp_ok (E := E) (Q := Q) H R h0 J F fun s2 J2 K2 => hQ _ s2 J2 K2 (.bool _)
    exact wpAny_Compare1 hw.2 hw.1
  | List es pos =>
    refine obind2 (show ((evsWith (J'.ev sc me) es p).bind fun x => (okL x.1).map fun l => (V.lst l, x.2)) = _ from he) fun xs p1 h1 e1 => ?_
    refine omap e1 fun l h2 e2 => ?_
    apply pr2 e2
    exact list_ok H h1 h2 J F
  | Tuple es k pos =>
    refine obind2 (show ((evsWith (J'.ev sc me) es p).bind fun x => (okL x.1).map fun l => (V.tup l, x.2)) = _ from he) fun xs p1 h1 e1 => ?_
    refine omap e1 fun l h2 e2 => ?_
    apply pr2 e2
    exact tuple_ok H h1 h2 J F
  | Subscript o i pos => exact sub_ev H he J F
  | Attribute o nm pos =>
    refine oif (show (if nm = ("string" : Str) ∧ plainBase o = true then _ else Option.none) = _ from he) fun hn he => ?_
    rw [hn.1]
    refine obind2 he fun a p1 h1 e1 => ?_
    cases a with
    | mat t b1 b2 =>
      apply sm2 e1
      exact X.attr A Mt pw p _ s env sc me _ _ _ b1 b2 R.1 hn.2 J F (H _ p _ _ h1 s J F)
    | _ => exact nn e1
  | Call f args kw pos =>
    cases kw with
    | cons _ _ => exact nn he
    | nil =>
      have he : (match asName f with
        | some g => evFn J' sc me g args p
        | Option.none => (asAttr f).bind fun a => evMeth J' sc me a.1 a.2.1 a.2.2 args pos p) = some (v, p') := he
      cases hf : asName f with
      | some g =>
        rw [hf] at he
        refine ex1_1 (asName_eq hf) fun fp h0 => ?_
        rw [h0]
        exact fn_ev T Fn X H HC R he J F
      | none =>
        rw [hf] at he
        refine obind he fun a h1 e1 => ?_
        rw [asAttr_eq h1]
        exact meth_ev X H R e1 J F
  | ListComp elt gens inner pos =>
    refine obind (show ((one? gens).bind fun g => evComp J' sc me elt g inner p) = _ from he) fun g hg he => ?_
    rw [one_eq hg]
    exact comp_ev T HE HT R he J F
  | _ => exact nn he
end
end Mine
end
section
set_option genSizeOf false
set_option genSizeOfSpec false
namespace Mine
open PySem PyProof.Rows PyProof.V PySem.SeqAt PySem.Spec
section
variable {w : World} {h₀ : Heap} {os₀ : OsState} {A : Around} {Mt₀ : Addr → Prop} {Mt Mt' : Ms} {pw : List Addr} {p p' p1 : P} {s s' : Shared} {x y v : V} {val b : Value} {hc h h' h4 : Heap} {env cenv : Env} {sc inner : Scope} {me me' : Me} {n : Str} {c a C D : Addr} {mg mb : Str → Option Value}
theorem is_text {M : Model} {y z : Str} {t u : Tok} {E : Value → Shared → Prop} {Q : Bool → Shared → Prop} (h0 : 0 < t) (h1 : 0 < u) (tu : t = u → y = z) (hb : NoneBooked s.heap) (hq : ∀ b, (b = true → y = z) → Q b s) :
    wpAny M A (isSame (.str y t) (.str z u)) Q E s := by
  show wpAny M A (isSame.created (y == z) t u) Q E s
  unfold isSame.created
  have e0 : (t == 0 || u == 0) = false := by
    have a1 : (t == 0) = false := beq_eq_false_iff_ne.mpr (Nat.ne_of_gt h0)
    have a2 : (u == 0) = false := beq_eq_false_iff_ne.mpr (Nat.ne_of_gt h1)
    rw [a1, a2]; rfl
  refine wpAny_ite ?_
  split
  · rename_i h; rw [e0] at h; exact absurd h Bool.false_ne_true
  refine wpAny_ite ?_
  split
  · rename_i h; exact wpAny_pure (hq _ fun _ => tu (by simpa using h))
  refine wpAny_ite ?_
  split
  · exact wpAny_pure (hq _ fun h => by first | exact nn h | exact nf h | exact nt h | cases h)
  · rename_i hyz
    have e : y = z := by simpa using hyz
    refine wpAny_bind (wpAny_sharingNotTold_none hb ?_)
    first | rw [if_neg Bool.false_ne_true] | simp only [Bool.false_eq_true, if_false]
    refine wpAny_bind (wpAny_sharingNotTold_none hb ?_)
    first | rw [if_neg Bool.false_ne_true] | simp only [Bool.false_eq_true, if_false]
    exact wpAny_bind (wpAny_rule (wpAny_bind (wpAny_askSetting (wpAny_pure (hq _ fun _ => e)))))
theorem truthy_mat {a : Addr} {o : Obj} (ho : s.heap.get? a = some o) (hc : o.cls = .type "re.Match") {E : Value → Shared → Prop} {Q : Bool → Shared → Prop} (h : Q true s) : wpAny (model prog w) A (truthy (.ref a)) Q E s := by
  have hT : s.TypeIs (.ref a) "re.Match" := ⟨o, ho, hc⟩
  have b1 : typeLookup (.type "re.Match") "__bool__" = pure none := by rw [typeLookup_type, builtinLookup_eq_fast]; kernel_rfl
  have b2 : typeLookup (.type "re.Match") "__len__" = pure none := by rw [typeLookup_type, builtinLookup_eq_fast]; kernel_rfl
  unfold truthy
  refine wpAny_bind ?_
  unfold callSpecial? specialOf
  refine wpAny_bind (wpAny_bind (wpAny_typeOf hT ?_))
  rw [b1]
  refine wpAny_pure (wpAny_pure ?_)
  dsimp only
  refine wpAny_bind (wpAny_bind (wpAny_typeOf hT ?_))
  rw [b2]
  exact wpAny_pure (wpAny_pure h)
theorem tru_ok {b : Bool} (e : truV v = some b) (R : VR Mt pw s.heap v val) {E : Value → Shared → Prop} {Q : Bool → Shared → Prop} (h : Q b s) : wpAny (model prog w) A (truthy val) Q E s := by
  cases v with
  | none => have := R.none'; subst this; exact truthy_none (by rw [Option.some.inj e]; exact h)
  | bool c => have := R.bool'; subst this; exact wpAny_truthy_bool (by rw [Option.some.inj e]; exact h)
  | mat t a b =>
    cases R with
    | mat h1 h2 h5 h3 h4 => exact truthy_mat h3 rfl (by rw [Option.some.inj e]; exact h)
  | _ => exact nn e
theorem or_ok {tr : Expr → P → Option (Bool × P)} (H : TrOk w h₀ os₀ A pw env sc me tr) : ∀ (es : List Expr) (p : P) (b : Bool) (p' : P), orWith tr es p = some (b, p') →
    ∀ {Mt : Ms} s, Inv h₀ os₀ Mt pw p s → Fm env sc me Mt pw s.heap → OkB w h₀ os₀ A Mt pw (allTrue .Or es env) s b p'
  | [], p, b, p', e => by
    intro s J F E Q hQ
    cases e
    exact wpAny_allTrue_Or_nil (hQ s J (Kp.refl _ _))
  | x :: r, p, b, p', e => by
    intro s J F E Q hQ
    unfold orWith at e
    refine obind2 e fun b1 p1 h1 e1 => ?_
    refine wpAny_allTrue_Or_cons (H x p b1 p1 h1 s J F E _ fun s1 J1 K1 => ?_)
    dsimp only at e1
    cases b1 with
    | true => cases e1; exact hQ s1 J1 K1
    | false =>
      exact or_ok H r p1 b p' e1 s1 J1 (F.kp J.pws K1) E Q fun s2 J2 K2 => hQ s2 J2 (K1.trans K2)
theorem isOrEq_eq {vs : List Expr} {r : Str × Str} (h : isOrEq vs = some r) : r.1 ≠ ("__debug__" : Str) ∧ r.2 ≠ ("__debug__" : Str) ∧
    ∃ p1 p2 p3 p4 q1 q2, vs = [.Compare (.Name r.1 p1) [.Is] [.Name r.2 p2] q1, .Compare (.Name r.1 p3) [.Eq] [.Name r.2 p4] q2] := by
  refine obind h fun uv h0 h => ?_
  refine obind h fun c hc h => ?_
  refine obind h fun d hd h => ?_
  refine obind h fun x1 h1 h => ?_
  refine obind h fun x2 h2 h => ?_
  refine obind h fun x3 h3 h => ?_
  refine obind h fun x4 h4 h => ?_
  refine oif h fun hq h => ?_
  apply sm1 h
  clear h
  obtain ⟨q1, e1⟩ := asCmp_eq hc
  obtain ⟨q2, e2⟩ := asCmp_eq hd
  obtain ⟨p1, e3⟩ := asName_eq h1
  obtain ⟨p2, e4⟩ := asName_eq h2
  obtain ⟨p3, e5⟩ := asName_eq h3
  obtain ⟨p4, e6⟩ := asName_eq h4
  obtain ⟨k1, k2, k3, k4, k5, k6⟩ := hq
  exact ⟨k5, k6, p1, p2, p3, p4, q1, q2, by rw [two_eq h0, e1, e2, e3, e4, e5, e6, k1, k2, k3, k4]⟩
theorem isOrEq_ok {vs : List Expr} {na nb : Str} {y z : Str} (T : Tp h₀ mg mb) (h : isOrEq vs = some (na, nb)) (ha : nameV sc me na = some (.str y)) (hb : nameV sc me nb = some (.str z)) (hu : A.units + 64 < cLine) (J : Inv h₀ os₀ Mt pw p s) (F : Fm env sc me Mt pw s.heap) :
    OkB w h₀ os₀ A Mt pw (allTrue .Or vs env) s (decide (y = z)) p := by
  intro E Q hQ
  obtain ⟨d1, d2, p1, p2, p3, p4, q1, q2, rfl⟩ := isOrEq_eq h
  refine wpAny_allTrue_Or_cons (wpAny_isTrue_Compare1 ?_ rfl)
  refine name_ok J F ha d1 E _ fun va s1 J1 K1 R1 => ?_
  have F1 := F.kp J.pws K1
  refine name_ok J1 F1 hb d2 E _ fun vb s2 J2 K2 R2 => ?_
  have F2 := F1.kp J1.pws K2
  refine ex1_2 ((R1.kp J1.pws K2).str') fun t q_91 ht => ?_
  subst q_91
  refine ex1_2 (R2.str') fun u q_101 hu2 => ?_
  subst q_101
  refine wpAny_bind (is_text (J2.tk t y ht).1 (J2.tk u z hu2).1 (fun e => by subst e; rw [ht] at hu2; exact Option.some.inj hu2) ?_ fun b hb' => ?_)
  · refine ex1_2 (T.nb) fun mc h1 h2 => ?_
    exact ⟨mc, h1.keeps J2.base, h2⟩
  refine wpAny_pure (wpAny_truthy_bool ?_)
  cases b with
  | true =>
    have := hb' rfl
    subst this
    rw [if_pos rfl, decide_eq_true rfl] at *
    exact hQ s2 J2 (K1.trans K2)
  | false =>
    rw [if_neg Bool.false_ne_true]
    refine wpAny_allTrue_Or_cons (wpAny_isTrue_Compare1 ?_ rfl)
    refine name_ok J2 F2 ha d1 E _ fun va s3 J3 K3 R3 => ?_
    have F3 := F2.kp J2.pws K3
    refine name_ok J3 F3 hb d2 E _ fun vb s4 J4 K4 R4 => ?_
    refine cmp_ok (op := .Eq) (r := decide (y = z)) (by rfl) (R3.kp J3.pws K4) R4 hu E _ ?_
    refine wpAny_truthy_bool ?_
    have fin : Q (decide (y = z)) s4 := hQ s4 J4 (((K1.trans K2).trans K3).trans K4)
    cases hd : decide (y = z) with
    | true => rw [hd] at fin; simpa using fin
    | false => rw [hd] at fin; simpa using wpAny_allTrue_Or_nil fin
theorem test_value {e : Expr} (h1 : asUn e = none) (h2 : asBo e = none) (h3 : asCp e = none) (h4 : isIf e = false) {E : Value → Shared → Prop} {Q : Bool → Shared → Prop} (h : wpAny (model prog w) A (eval e env) (fun v s1 => wpAny (model prog w) A (truthy v) Q E s1) E s) : wpAny (model prog w) A (isTrue e env (eval e env)) Q E s := by
  refine wpAny_isTrue_value h ?_
  cases e with
  | BoolOp => exact nn h2.symm
  | IfExp => exact nt h4
  | Compare => exact nn h3.symm
  | UnaryOp => exact nn h1.symm
  | _ => rfl
theorem tr_step {J' : I} {n : Nat} (T : Tp h₀ mg mb) (HE : ∀ A pw env sc me, Rm A n → EvOk w h₀ os₀ A pw env sc me (J'.ev sc me)) (HT : ∀ A pw env sc me, Rm A n → TrOk w h₀ os₀ A pw env sc me (J'.tr sc me)) :
    ∀ A pw env sc me, Rm A (n + 1) → TrOk w h₀ os₀ A pw env sc me (trStep J' sc me) := by
  intro A pw env sc me R Mt e p b p' he s J F
  have Rn := R.less (Nat.le_succ n)
  have H : EvOk w h₀ os₀ A pw env sc me (J'.ev sc me) := HE A pw env sc me Rn
  have H' : TrOk w h₀ os₀ A pw env sc me (J'.tr sc me) := HT A pw env sc me Rn
  unfold trStep at he
  cases hu : asUn e with
  | some u =>
    rw [hu] at he
    obtain ⟨q, h0⟩ := asUn_eq hu
    rw [h0]
    obtain ⟨op, x⟩ := u
    cases op with
    | Not =>
      refine omap2 (show (J'.tr sc me x p).map (fun y => (!y.1, y.2)) = _ from he) fun b1 p1 h1 e1 => ?_
      apply pr2 e1
      exact fun E Q hQ => wpAny_isTrue_Not (H' _ p b1 _ h1 s J F E _ fun s1 J1 K1 => hQ s1 J1 K1)
    | _ => exact nn he
  | none =>
    rw [hu] at he
    cases hb : asBo e with
    | some u =>
      have he : (match asBo e with | some b => trBo J' sc me b.1 b.2 p | none => _) = some (b, p') := he
      rw [hb] at he
      obtain ⟨q, h0⟩ := asBo_eq hb
      rw [h0]
      obtain ⟨op, vs⟩ := u
      cases op with
      | And => exact nn he
      | Or =>
        have he : (match isOrEq vs with | some ab => (nameV sc me ab.1).bind fun x => (nameV sc me ab.2).bind fun y => (strOf x).bind fun s => (strOf y).map fun t => (decide (s = t), p) | none => orWith (J'.tr sc me) vs p) = some (b, p') := he
        cases hio : isOrEq vs with
        | some ab =>
          rw [hio] at he
          refine obind he fun x h1 e1 => ?_
          refine obind e1 fun y h2 e2 => ?_
          refine obind e2 fun u h3 e3 => ?_
          refine omap e3 fun v h4 e4 => ?_
          rw [strOf_eq h3] at h1
          rw [strOf_eq h4] at h2
          apply pr2 e4
          exact fun E Q hQ => wpAny_isTrue_BoolOp (isOrEq_ok T hio h1 h2 (units_ok R) J F E Q hQ)
        | none =>
          rw [hio] at he
          exact fun E Q hQ => wpAny_isTrue_BoolOp (or_ok H' _ p b p' he s J F E Q hQ)
    | none =>
      have he : (match asBo e with | some b => _ | none => (match asCp e with | some c => (one? c.2.1).bind fun op => (one? c.2.2).bind fun r => evCmp J' sc me c.1 op r p | none => if isIf e then none else (J'.ev sc me e p).bind fun a => (truV a.1).map fun b => (b, a.2))) = some (b, p') := he
      rw [hb] at he
      cases hc : asCp e with
      | some c =>
        have he : (match asCp e with | some c => (one? c.2.1).bind fun op => (one? c.2.2).bind fun r => evCmp J' sc me c.1 op r p | none => _) = some (b, p') := he
        rw [hc] at he
        obtain ⟨q, h0⟩ := asCp_eq hc
        rw [h0]
        refine obind he fun op ho e1 => ?_
        refine obind e1 fun r hr e2 => ?_
        rw [one_eq ho, one_eq hr]
        intro E Q hQ
        have hw := evCmp_ok (E := E) (Q := fun v s2 => wpAny (model prog w) A (truthy v) Q E s2) H R e2 J F fun s2 J2 K2 => wpAny_truthy_bool (hQ s2 J2 K2)
        exact wpAny_isTrue_Compare1 hw.2 hw.1
      | none =>
        have he : (match asCp e with | some c => _ | none => if isIf e then none else (J'.ev sc me e p).bind fun a => (truV a.1).map fun b => (b, a.2)) = some (b, p') := he
        rw [hc] at he
        refine oifn he fun hif he => ?_
        refine obind2 he fun a p1 h1 e1 => ?_
        refine omap e1 fun v' h3 e3 => ?_
        apply pr2 e3
        intro E Q hQ
        exact test_value hu hb hc (Bool.eq_false_iff.mpr hif) (H _ p a _ h1 s J F E _ fun va s1 J1 K1 R1 => tru_ok h3 R1 (hQ s1 J1 K1))
end
end Mine
end
section
set_option genSizeOf false
set_option genSizeOfSpec false
namespace Mine
open PySem PyProof.Rows PyProof.V PySem.SeqAt PySem.Spec
structure Aft (h₀ : Heap) (os₀ : OsState) (env : Env) (sc : Scope) (Mt₀ : Addr → Prop) (hc : Heap) (Mt : Ms) (pw : List Addr) (p : P) (s : Shared) (me' : Me) (Mt' : Ms) (pw' : List Addr) (p' : P) (s' : Shared) : Prop where
  inv : Inv h₀ os₀ Mt' pw' p' s'
  fs : Fs env sc me' Mt₀ Mt' pw' hc s'.heap
  frz : ∀ b o, ¬ Mt.m b → s.heap.get? b = some o → ¬ Mt'.m b ∧ s'.heap.get? b = some o
  pwk : p.isSome = true → pw' = pw ∧ p'.isSome = true
  G : ∀ t z, Mt.G t = some z → Mt'.G t = some z
noncomputable def FlR (Mt : Ms) (pw : List Addr) (h : Heap) : Fl → Flow → Prop
  | .next, .next => True
  | .brk, .brk => True
  | .ret v, .ret val => VR Mt pw h v val
  | _, _ => False
noncomputable def OkX (w : World) (h₀ : Heap) (os₀ : OsState) (A : Around) (env : Env) (sc : Scope) (Mt₀ : Addr → Prop) (hc : Heap) (Mt : Ms) (pw : List Addr) (p : P) (t : Sem Flow) (s : Shared) (f : Fl) (me' : Me) (p' : P) : Prop :=
  ∀ (E : Value → Shared → Prop) (Q : Flow → Shared → Prop), (∀ {Mt' : Ms} {pw' : List Addr} fl s', Aft h₀ os₀ env sc Mt₀ hc Mt pw p s me' Mt' pw' p' s' → FlR Mt' pw' s'.heap f fl → Q fl s') → wpAny (model prog w) A t Q E s
noncomputable def ExOk (w : World) (h₀ : Heap) (os₀ : OsState) (A : Around) (env : Env) (sc : Scope) (Mt₀ : Addr → Prop) (hc : Heap) (ex : Me → Stmt → P → Option (Fl × Me × P)) : Prop :=
  ∀ {Mt : Ms} {pw : List Addr} me st p f me' p', ex me st p = some (f, me', p') → ∀ s, Inv h₀ os₀ Mt pw p s → Fs env sc me Mt₀ Mt pw hc s.heap → OkX w h₀ os₀ A env sc Mt₀ hc Mt pw p (exec st env) s f me' p'
noncomputable def ExsOk (w : World) (h₀ : Heap) (os₀ : OsState) (A : Around) (env : Env) (sc : Scope) (Mt₀ : Addr → Prop) (hc : Heap) (ex : Me → List Stmt → P → Option (Fl × Me × P)) : Prop :=
  ∀ {Mt : Ms} {pw : List Addr} me l p f me' p', ex me l p = some (f, me', p') → ∀ s, Inv h₀ os₀ Mt pw p s → Fs env sc me Mt₀ Mt pw hc s.heap → OkX w h₀ os₀ A env sc Mt₀ hc Mt pw p (execs l env) s f me' p'
section
variable {w : World} {h₀ : Heap} {os₀ : OsState} {A : Around} {Mt₀ : Addr → Prop} {Mt Mt' Mt'' : Ms} {pw pw' pw'' : List Addr} {p p' p'' p1 : P} {s s' s'' : Shared} {x y v : V} {val b : Value} {hc h h' h4 : Heap} {env cenv : Env} {sc inner : Scope} {me me' me'' : Me} {n : Str} {c a I C D : Addr} {mg mb : Str → Option Value}
theorem pile_some (J : Inv h₀ os₀ Mt pw p s) (J' : Inv h₀ os₀ Mt' pw p' s') (h : p.isSome = true) : p'.isSome = true := by
  cases p with
  | none => exact nf h
  | some l =>
    obtain ⟨x, d, vs, n, od, e, _⟩ := J.pile.2
    cases p' with
    | some _ => rfl
    | none =>
      have := J'.pile.2
      unfold PileAt₀ at this
      rw [e] at this; exact absurd (congrArg List.length this) (by simp)
theorem Aft.of_kp (J : Inv h₀ os₀ Mt pw p s) (F : Fs env sc me Mt₀ Mt pw hc s.heap) (J' : Inv h₀ os₀ Mt' pw p' s') (K : Kp pw Mt Mt' s.heap s'.heap) : Aft h₀ os₀ env sc Mt₀ hc Mt pw p s me Mt' pw p' s' where
  inv := J'
  fs := F.kp J.pws K (J.pw_ex J')
  frz := kp_ok J.pws K
  pwk := fun h => ⟨rfl, pile_some J J' h⟩
  G := K.G
theorem Aft.trans (x : Aft h₀ os₀ env sc Mt₀ hc Mt pw p s me' Mt' pw' p' s') (y : Aft h₀ os₀ env sc Mt₀ hc Mt' pw' p' s' me'' Mt'' pw'' p'' s'') : Aft h₀ os₀ env sc Mt₀ hc Mt pw p s me'' Mt'' pw'' p'' s'' where
  inv := y.inv
  fs := y.fs
  frz := fun b o hb e => let ⟨h1, h2⟩ := x.frz b o hb e; y.frz b o h1 h2
  pwk := fun h => let ⟨h1, h2⟩ := x.pwk h; let ⟨h3, h4⟩ := y.pwk h2; ⟨h3.trans h1, h4⟩
  G := fun t z e => y.G t z (x.G t z e)
theorem exs_ok {ex : Me → Stmt → P → Option (Fl × Me × P)} (H : ExOk w h₀ os₀ A env sc Mt₀ hc ex) : ∀ (l : List Stmt) (me : Me) (p : P) (f : Fl) (me' : Me) (p' : P), exsWith ex me l p = some (f, me', p') →
    ∀ {Mt : Ms} {pw : List Addr} s, Inv h₀ os₀ Mt pw p s → Fs env sc me Mt₀ Mt pw hc s.heap → OkX w h₀ os₀ A env sc Mt₀ hc Mt pw p (execs l env) s f me' p'
  | [], me, p, f, me', p', e => by
    intro s J F E Q hQ
    cases e
    exact wpAny_execs_nil (hQ .next s (Aft.of_kp J F J (Kp.refl _ _)) trivial)
  | st :: r, me, p, f, me', p', e => by
    rename_i Mt pw
    intro s J F E Q hQ
    unfold exsWith at e
    refine obind3 e fun f1 me1 p1 h1 e1 => ?_
    have out : ∃ M1 : Ms, Inv h₀ os₀ M1 pw p s ∧ Fs env sc (letOut st.pos.line me) Mt₀ M1 pw hc s.heap ∧ (∀ b, M1.m b → Mt.m b) ∧ (∀ t z, Mt.G t = some z → M1.G t = some z) := by
      unfold letOut
      split
      · exact letGo_ok J F
      · exact ⟨Mt, J, F, fun b h => h, fun _ _ e => e⟩
    refine ex1_4 (out) fun M1 J1 F1 hs hg => ?_
    have A0 : Aft h₀ os₀ env sc Mt₀ hc Mt pw p s (letOut st.pos.line me) M1 pw p s := ⟨J1, F1, fun b o hb e => ⟨fun q => hb (hs b q), e⟩, fun h => ⟨rfl, h⟩, hg⟩
    refine wpAny_execs_cons (H _ st p f1 me1 p1 h1 s J1 F1 E _ fun fl s2 A2 R2 => ?_)
    dsimp only at e1
    cases f1 with
    | next =>
      cases fl with
      | next => exact exs_ok H r me1 p1 f me' p' e1 s2 A2.inv A2.fs E Q fun fl s3 A3 R3 => hQ fl s3 (A0.trans (A2.trans A3)) R3
      | _ => exact R2.elim
    | brk =>
      cases e1
      cases fl with
      | brk => exact hQ .brk s2 (A0.trans A2) trivial
      | _ => exact R2.elim
    | ret v =>
      cases e1
      cases fl with
      | ret val => exact hQ (.ret val) s2 (A0.trans A2) R2
      | _ => exact R2.elim
theorem Fs.marks (F : Fs env sc me Mt₀ Mt pw hc h) (hm : Mt'.m = Mt.m) (hG : ∀ t z, Mt.G t = some z → Mt'.G t = some z) (hp : ∀ a ∈ pw, Mt.m a) : Fs env sc me Mt₀ Mt' pw hc h := F.kp hp ⟨fun _ _ _ e => e, hm, hG⟩ fun a _ o e => ⟨o, e⟩
theorem VR.repw {h : Heap} : ∀ {x : V} {v : Value}, VR Mt tabs h x v → VR Mt pw h x v := by
  intro x v H
  induction H with
  | none => exact .none
  | bool b => exact .bool b
  | int i t => exact .int i t
  | str s t e => exact .str s t e
  | ustr s t => exact .ustr s t
  | lst hm ha hl _ ih => exact .lst hm ha hl fun i x v hx hv => ih i x v hx hv
  | tup hm ha hl _ ih => exact .tup hm ha hl fun i x v hx hv => ih i x v hx hv
  | mat h1 h2 h5 h3 h4 => exact .mat h1 h2 h5 h3 h4
  | pile e => exact absurd (congrArg List.length e) (by simp)
theorem Wk.repw {items : List V} {fp : List Addr} {St : Nat → Heap → Prop} (wk : Wk w A Mt pw h I items fp St) (hp : pw' = pw ∨ pw = tabs) : Wk w A Mt pw' h I items fp St := by
  rcases hp with rfl | rfl
  · exact wk
  · exact { frame := wk.frame, done := wk.done, self := wk.self, obj := wk.obj, fps := wk.fps, mem := wk.mem, st := wk.st
            item := fun i x s Q E hx hst hQ => wk.item i x s Q E hx hst fun v h' tk a b c d => hQ v h' tk a b c (d.imp (fun r => r.repw) id) }
structure LIn (h₀ : Heap) (os₀ : OsState) (env : Env) (sc : Scope) (Mt₀ : Addr → Prop) (Mt : Ms) (pw : List Addr) (hc : Heap) (p : P) (I : Addr) (St : Nat → Heap → Prop) (h2 : Heap) (n : Nat) (lw : Nat → Me → P → Prop)
    (i : Nat) (q : P) (me1 : Me) (M1 : Ms) (pw1 : List Addr) (s' : Shared) : Prop where
  le : i ≤ n
  inv : Inv h₀ os₀ M1 pw1 q s'
  fs : Fs env sc me1 Mt₀ M1 pw1 hc s'.heap
  st : St i s'.heap
  iM : ¬ M1.m I
  fz : ∀ b o, b ≠ I → ¬ Mt.m b → h2.get? b = some o → ¬ M1.m b ∧ s'.heap.get? b = some o
  pk : p.isSome = true → pw1 = pw ∧ q.isSome = true
  G : ∀ t z, Mt.G t = some z → M1.G t = some z
  lw : lw i me1 q
theorem for_loop {body : List Stmt} {bd : Me → P → Option (Fl × Me × P)} (Hb : ∀ {Mt : Ms} {pw : List Addr} me p f me' p', bd me p = some (f, me', p') → ∀ s, Inv h₀ os₀ Mt pw p s → Fs env sc me Mt₀ Mt pw hc s.heap → OkX w h₀ os₀ A env sc Mt₀ hc Mt pw p (execs body env) s f me' p')
    {px : Pos} {xn : Str} {items : List V} {fp : List Addr} {St : Nat → Heap → Prop} {f : Fl} {h2 : Heap} (wk : Wk w A Mt pw h2 I items fp St) (hI0 : h₀.get? I = none) (hIc : hc.get? I = none) (hx : sto sc xn = true)
    (e : loopWith bd xn items me p = some (f, me', p')) (J : Inv h₀ os₀ Mt pw p s) (F : Fs env sc me Mt₀ Mt pw hc s.heap) (hs2 : s.heap = h2) {R : Result → Shared → Prop}
    (hR : ∀ {M1 : Ms} {pw1 : List Addr} fl s1, Inv h₀ os₀ M1 pw1 p' s1 → Fs env sc me' Mt₀ M1 pw1 hc s1.heap → (∀ b o, b ≠ I → ¬ Mt.m b → h2.get? b = some o → ¬ M1.m b ∧ s1.heap.get? b = some o) → (p.isSome = true → pw1 = pw ∧ p'.isSome = true) → (∀ t z, Mt.G t = some z → M1.G t = some z) → FlR M1 pw1 s1.heap f fl → R (.ok fl) s1) :
    codeAny (model prog w) A (.forLoop (.Name xn px) (.ref I) body [] env) R s := by
  refine ex1_2 (wk.obj 0 _ wk.st) fun o0 ho0 hd0 => ?_
  refine codeAny_forLoop
    (fun k s' => ∃ i q me1 M1 pw1, k = items.length + 1 - i ∧ LIn h₀ os₀ env sc Mt₀ Mt pw hc p I St h2 items.length (fun i m q => loopWith bd xn (items.drop i) m q = some (f, me', p')) i q me1 M1 pw1 s') ?_ (items.length + 1)
    ⟨0, p, me, Mt, pw, rfl, Nat.zero_le _, J, F, hs2 ▸ wk.st, (wk.fps I wk.mem).1, fun b o _ hb eq => ⟨hb, hs2 ▸ eq⟩, fun h => ⟨rfl, h⟩, fun _ _ e => e, e⟩
  rintro k s' ⟨i, q, me1, M1, pw1, rfl, hi, J1, F1, hst1, hIM1, hfz, hpw, hG1, hlw⟩
  refine ex1_2 (wk.obj i _ hst1) fun oI hoI hdI => ?_
  by_cases hlt : i < items.length
  · have hit : items[i]? = some items[i] := by simp [hlt]
    have wk1 : Wk w A Mt pw1 h2 I items fp St := wk.repw (by
      cases hp : p with
      | some l => exact .inl (hpw (by rw [hp]; rfl)).1
      | none => exact .inr (by have := J.pile.2; rw [hp] at this; exact this))
    refine wk1.step J1 hIM1 hI0 (fun b o hd hb eq => hfz b o (fun z => by subst z; rw [ho0] at eq; cases eq; exact hd0 hd) hb eq) hG1 hst1 hit fun {M2} v s3 J3 hm3 hG3 hsame hst3 Rv => ?_
    have F3 : Fs env sc me1 Mt₀ M2 pw1 hc s3.heap := (F1.iter hoI hdI hIM1 hIc hsame).marks hm3 hG3 J1.pws
    have hfp1 : ∀ b ∈ fp, ¬ M1.m b := fun b hb => by
      by_cases z : b = I
      · subst z; exact hIM1
      · obtain ⟨h1, o, ho⟩ := wk.fps b hb
        exact (hfz b o z h1 ho).1
    have hfz3 : ∀ b o, b ≠ I → ¬ Mt.m b → h2.get? b = some o → ¬ M2.m b ∧ s3.heap.get? b = some o := fun b o hbI hb eq => by
      refine an2 (hfz b o hbI hb eq) fun q1 q2 => ?_
      exact ⟨by rw [hm3]; exact q1, hsame b o (fun z => hbI (by simpa using z)) q2⟩
    refine wpAny_assign_Name (store_any F3.fm hx fun c h4 t4 hle W hcM hcP hcL hcE => ?_)
    have J4 : Inv h₀ os₀ M2 pw1 q { s3 with heap := h4, toks := t4 } := J3.at W.same W.ex hcM hcP hle
    have F4 : Fs env sc (put me1 xn false items[i]) Mt₀ M2 pw1 hc h4 := F3.put W J3.pws hcM hcP hcL (hcE.imp id fun h => ⟨xn, h⟩) Rv
    have hfp2 : ∀ b ∈ fp, ¬ M2.m b := fun b hb => by rw [hm3]; exact hfp1 b hb
    have hst4 : St (i + 1) h4 := wk.frame _ _ _ hst3 fun b hb o eq => (W.same.2 b (fun z => hfp2 b hb (z ▸ hcM))).trans eq
    have hfz4 : ∀ b o, b ≠ I → ¬ Mt.m b → h2.get? b = some o → ¬ M2.m b ∧ h4.get? b = some o := fun b o hbI hb eq => by
      refine an2 (hfz3 b o hbI hb eq) fun q1 q2 => ?_
      exact ⟨q1, (W.same.2 b (fun z => q1 (z ▸ hcM))).trans q2⟩
    have hG4 : ∀ t z, Mt.G t = some z → M2.G t = some z := fun t z e => hG3 t z (hG1 t z e)
    have hdr : items.drop i = items[i] :: items.drop (i + 1) := List.drop_eq_getElem_cons hlt
    rw [hdr] at hlw
    unfold loopWith at hlw
    refine obind3 hlw fun f1 me2 q2 h1 e1 => ?_
    refine Hb _ q f1 me2 q2 h1 _ J4 F4 _ _ fun {M5 pw5} fl s5 A5 R5 => ?_
    have hst5 : St (i + 1) s5.heap := wk.frame _ _ _ hst4 fun b hb o eq => (A5.frz b o (hfp2 b hb) eq).2
    refine ex1_2 (wk.obj _ _ hst4) fun oI4 hoI4 _ => ?_
    have hIM5 : ¬ M5.m I := (A5.frz I _ (hfp2 I wk.mem) hoI4).1
    have hfz5 : ∀ b o, b ≠ I → ¬ Mt.m b → h2.get? b = some o → ¬ M5.m b ∧ s5.heap.get? b = some o := fun b o hbI hb eq => by
      refine an2 (hfz4 b o hbI hb eq) fun q1 q2 => ?_
      exact A5.frz b o q1 q2
    have hpw5 : p.isSome = true → pw5 = pw ∧ q2.isSome = true := fun h => by
      refine an2 (hpw h) fun z1 z2 => ?_
      refine an2 (A5.pwk z2) fun z3 z4 => ?_
      exact ⟨z3.trans z1, z4⟩
    have hG5 : ∀ t z, Mt.G t = some z → M5.G t = some z := fun t z e => A5.G t z (hG4 t z e)
    dsimp only at e1
    cases f1 with
    | next =>
      cases fl with
      | next => exact ⟨items.length + 1 - (i + 1), by omega, i + 1, q2, me2, M5, pw5, rfl, hlt, A5.inv, A5.fs, hst5, hIM5, hfz5, hpw5, hG5, e1⟩
      | _ => exact R5.elim
    | brk =>
      cases e1
      cases fl with
      | brk => exact hR .next s5 A5.inv A5.fs hfz5 hpw5 hG5 trivial
      | _ => exact R5.elim
    | ret u =>
      cases e1
      cases fl with
      | ret val => exact hR (.ret val) s5 A5.inv A5.fs hfz5 hpw5 hG5 R5
      | _ => exact R5.elim
  · have hin : i = items.length := by lia
    subst hin
    refine wk.done s' _ _ hst1 fun h' tk hle hsame => ?_
    have J2 : Inv h₀ os₀ M1 pw1 q { s' with heap := h', toks := tk } := J1.iter hoI hdI hIM1 hI0 hsame hle
    have F2 : Fs env sc me1 Mt₀ M1 pw1 hc h' := F1.iter hoI hdI hIM1 hIc hsame
    rw [List.drop_length] at hlw
    unfold loopWith at hlw
    cases hlw
    refine wpAny_execs_nil (hR .next _ J2 F2 (fun b o hbI hb eq => ?_) hpw hG1 trivial)
    refine an2 (hfz b o hbI hb eq) fun q1 q2 => ?_
    exact ⟨q1, hsame b o (fun z => hbI (by simpa using z)) q2⟩
end
end Mine
end
section
set_option genSizeOf false
set_option genSizeOfSpec false
namespace Mine
open PySem PyProof.Rows PyProof.V PySem.SeqAt PySem.Spec
section
variable {w : World} {h₀ : Heap} {os₀ : OsState} {A : Around} {Mt₀ : Addr → Prop} {Mt Mt' Mt'' : Ms} {pw pw' pw'' : List Addr} {p p' p'' p1 : P} {s s' s'' : Shared} {x y v : V} {val b : Value} {hc h h' h4 : Heap} {env cenv : Env} {sc inner : Scope} {me me' me'' : Me} {n : Str} {c a C D : Addr} {mg mb : Str → Option Value}
theorem load_at {val : Value} {E : Value → Shared → Prop} {Q : Value → Shared → Prop} (F : Fm env sc me Mt pw s.heap) (ha : At env s.heap n val) (hQ : Q val s) : wpAny (model prog w) A (loadName env n) Q E s := by
  unfold At at ha
  split at ha
  · rename_i hk
    refine ex1_2 (ha) fun m hn hm => ?_
    exact wpAny_loadName_local F.kind hk hn hm hQ
  · rename_i hk
    refine ex1_2 (ha) fun c hc hv => ?_
    exact wpAny_loadName_cell F.kind hk hc hv hQ
  · exact ha.elim
theorem Aft.put {v : V} {val : Value} {t : Nat} (J : Inv h₀ os₀ Mt pw p s) (F : Fs env sc me Mt₀ Mt pw hc s.heap) (W : Wrote env n val c s.heap h') (hle : s.toks ≤ t) (hcM : Mt.m c) (hcP : c ∉ pw) (hcL : ∀ vs m, s.heap.get? c ≠ some { cls := .type "list", data := .seq vs m })
    (hcE : c = env.locals ∨ env.cells.lookup n = some c) (R : VR Mt pw s.heap v val) : Aft h₀ os₀ env sc Mt₀ hc Mt pw p s (put me n false v) Mt pw p { s with heap := h', toks := t } where
  inv := J.at W.same W.ex hcM hcP hle
  fs := F.put W J.pws hcM hcP hcL (hcE.imp id fun h => ⟨n, h⟩) R
  frz := fun b o hb e => ⟨hb, (W.same.2 b (fun q => hb (q ▸ hcM))).trans e⟩
  pwk := fun h => ⟨rfl, h⟩
  G := fun _ _ e => e
theorem store_put {v : V} {val : Value} {E : Value → Shared → Prop} {Q : Unit → Shared → Prop} (J : Inv h₀ os₀ Mt pw p s) (F : Fs env sc me Mt₀ Mt pw hc s.heap) (hs : sto sc n = true) (R : VR Mt pw s.heap v val)
    (hQ : ∀ s', Aft h₀ os₀ env sc Mt₀ hc Mt pw p s (put me n false v) Mt pw p s' → Q () s') : wpAny (model prog w) A (storeName env n val) Q E s :=
  store_any F.fm hs fun c h' t hle W hcM hcP hcL hcE => hQ _ (Aft.put J F W hle hcM hcP hcL hcE R)
theorem ret_ok {ev : Expr → P → Option (V × P)} {e : Expr} {pos : Pos} (H : ∀ {pw}, EvOk w h₀ os₀ A pw env sc me ev) (e1 : ev e p = some (v, p')) (J : Inv h₀ os₀ Mt pw p s) (F : Fs env sc me Mt₀ Mt pw hc s.heap) :
    OkX w h₀ os₀ A env sc Mt₀ hc Mt pw p (exec (.Return (some e) pos) env) s (.ret v) me p' := by
  intro E Q hQ
  exact wpAny_Return_some (H e p v p' e1 s J F.fm E _ fun val s1 J1 K1 R1 => hQ (.ret val) s1 (Aft.of_kp J F J1 K1) R1)
theorem aug_ok {ev : Expr → P → Option (V × P)} {e : Expr} {xp pos : Pos} {i j : Int} (H : ∀ {pw}, EvOk w h₀ os₀ A pw env sc me ev) (hs : sto sc n = true) (h0 : nameV sc me n = some (.int i)) (e1 : ev e p = some (.int j, p')) (J : Inv h₀ os₀ Mt pw p s) (F : Fs env sc me Mt₀ Mt pw hc s.heap) :
    OkX w h₀ os₀ A env sc Mt₀ hc Mt pw p (exec (.AugAssign (.Name n xp) .Add e pos) env) s .next (put me n false (.int (i + j))) p' := by
  intro E Q hQ
  refine wpAny_AugAssign_Name ?_
  unfold nameV at h0
  split at h0
  · rename_i hv
    split at h0
    · rename_i bd hb
      split at h0
      · exact nn h0
      · rename_i ho
        have h0' := Option.some.inj h0
        refine ex1_2 (F.fm.vars n bd hv hb) fun val hat hr => ?_
        unfold BdR at hr
        simp only [ho] at hr
        rw [h0'] at hr
        refine ex1_1 (hr.int') fun t q_171 => ?_
        subst q_171
        refine load_at F.fm hat ?_
        refine H e p (.int j) p' e1 s J F.fm E _ fun {M1} val s1 J1 K1 R1 => ?_
        refine ex1_1 (R1.int') fun u q_201 => ?_
        subst q_201
        refine PyProof.Rows.iadd_int ?_
        have A1 := Aft.of_kp J F J1 K1
        have J2 : Inv h₀ os₀ M1 pw p' { s1 with toks := s1.toks + 1 } := J1.tok
        exact store_put (s := { s1 with toks := s1.toks + 1 }) J2 A1.fs hs (.int _ _) fun s2 A2 => hQ .next s2 ((Aft.of_kp (s' := { s1 with toks := s1.toks + 1 }) J F J2 K1).trans A2) trivial
    · exact nn h0
  · exact nn h0
theorem swaps_plain {e : Expr} {t : Option Expr} {l : Nat} (h : isComp e = false) : swapsWith e t l env = pure false := by
  cases e <;> first | rfl | cases h
theorem assign_ok {ev : Expr → P → Option (V × P)} {e : Expr} {xp pos : Pos} (H : ∀ {pw}, EvOk w h₀ os₀ A pw env sc me ev) (hs : sto sc n = true) (hsw : swapsWith e (some (.Name n xp)) pos.line env = pure false) (e1 : ev e p = some (v, p')) (J : Inv h₀ os₀ Mt pw p s) (F : Fs env sc me Mt₀ Mt pw hc s.heap) :
    OkX w h₀ os₀ A env sc Mt₀ hc Mt pw p (exec (.Assign [.Name n xp] e pos) env) s .next (put me n false v) p' := by
  intro E Q hQ
  refine wpAny_Assign_Name (H e p v p' e1 s J F.fm E _ fun val s1 J1 K1 R1 => ?_) hsw
  have A1 := Aft.of_kp J F J1 K1
  exact store_put J1 A1.fs hs R1 fun s2 A2 => hQ .next s2 (A1.trans A2) trivial
theorem store_own {xs : List V} {vs : Array Value} {k : Nat} (J : Inv h₀ os₀ Mt pw p s) (F : Fs env sc me Mt₀ Mt pw hc s.heap) (hs : sto sc n = true) {s1 : Shared} {M1 : Ms} (J1 : Inv h₀ os₀ M1 pw p' s1) (K1 : Kp pw Mt M1 s.heap s1.heap)
    (hf : s.heap.get? a = none) (ha : s1.heap.get? a = some { cls := .type "list", data := .seq vs k }) (R : VRs { M1 with m := fun b => M1.m b ∨ b = a } pw s1.heap xs vs.toList) {E : Value → Shared → Prop} {Q : Unit → Shared → Prop}
    (hQ : ∀ {M2 : Ms} s2, Aft h₀ os₀ env sc Mt₀ hc Mt pw p s (put me n true (.lst xs)) M2 pw p' s2 → Q () s2) : wpAny (model prog w) A (storeName env n (.ref a)) Q E s1 := by
  have hap : a ∉ pw := fun q => by
    obtain ⟨_, o, ho⟩ := J.mt a (J.pws a q)
    rw [hf] at ho; exact nn ho
  have hf0 : h₀.get? a = none := by
    cases q : h₀.get? a with
    | none => rfl
    | some o => rw [J.base a o q] at hf; cases hf
  have hfc : hc.get? a = none := by
    cases q : hc.get? a with
    | none => rfl
    | some o => obtain ⟨o', e'⟩ := F.ex a o q; rw [hf] at e'; exact nn e'
  have J2 := J1.grow hf0 ha hap
  have F2 := F.grow J.pws K1 (J.pw_ex J1) hf
  refine store_any F2.fm hs fun c h' t hle W hcM hcP hcL hcE => ?_
  have F3 := F2.putOwn W J2.pws hcM hcP hcL (hcE.imp id fun h => ⟨n, h⟩) ha (.inr rfl) hap R hfc fun y bd hy hb ho hat => by
    refine ex1_2 (F.fm.vars y bd hy hb) fun u hu hr => ?_
    have := (F.fm.at_kp K1 hu).det hat
    subst this
    unfold BdR at hr
    rw [ho] at hr
    refine ex4_6 (hr) fun xs' a' vs' m z1 z2 z3 z4 z5 z6 => ?_
    cases z2
    rw [hf] at z5; exact nn z5
  refine hQ _ ⟨J2.at W.same W.ex hcM hcP hle, F3, fun b o hb e => ?_, fun h => ⟨rfl, pile_some J J1 h⟩, K1.G⟩
  have hba : b ≠ a := fun z => by subst z; rw [hf] at e; exact nn e
  have hb2 : ¬ (M1.m b ∨ b = a) := fun z => z.elim (fun z => hb (K1.m ▸ z)) hba
  refine ⟨hb2, (W.same.2 b (fun z => hb2 (z ▸ hcM))).trans (K1.keep b o (fun z => hb (J.pws b z)) e)⟩
theorem listAssign_ok {ev : Expr → P → Option (V × P)} {es : List Expr} {lp xp pos : Pos} {xs l : List V} (H : ∀ {pw}, EvOk w h₀ os₀ A pw env sc me ev) (hs : sto sc n = true) (e1 : evsWith ev es p = some (xs, p')) (hl : okL xs = some l) (J : Inv h₀ os₀ Mt pw p s) (F : Fs env sc me Mt₀ Mt pw hc s.heap) :
    OkX w h₀ os₀ A env sc Mt₀ hc Mt pw p (exec (.Assign [.Name n xp] (.List es lp) pos) env) s .next (put me n true (.lst l)) p' := by
  intro E Q hQ
  refine an2 (okL_eq hl) fun q_30 hcap => ?_
  subst q_30
  refine wpAny_Assign_Name ?_ rfl
  refine wpAny_List (evs_ok H es p _ p' e1 s J F.fm E _ fun {M1} vs s1 J1 K1 R1 => ⟨by rw [R1.1]; exact cap_line hcap, ?_⟩)
  have hfr := fresh_size s1.heap
  have hk : ∀ b o, s1.heap.get? b = some o → (s1.heap.push { cls := .type "list", data := .seq vs.toArray }).get? b = some o := fun b o e => Heap.get?_push_of_some _ e
  have J2 : Inv h₀ os₀ M1 pw p' { s1 with heap := s1.heap.push { cls := .type "list", data := .seq vs.toArray } } := J1.keeps (t := s1.toks) hk
  have hold : s.heap.get? s1.heap.objs.size = none := back_none J1 K1 hfr
  refine store_own (k := 0) J F hs J2 (K1.trans (Kp.of_keeps hk)) hold (Heap.get?_push_size _ rfl) ?_ fun s2 A2 => hQ .next s2 A2 trivial
  have R2 : VRs { M1 with m := fun b => M1.m b ∨ b = s1.heap.objs.size } pw (s1.heap.push { cls := .type "list", data := .seq vs.toArray }) l vs := R1.mono fun b o hb e => ⟨fun z => z.elim hb (fun z => by subst z; rw [hfr] at e; cases e), hk b o e⟩
  simpa using R2
theorem listCopy_ok {f y : Str} {fp yp cp xp pos : Pos} {z : Str} {l : List Str} (T : Tp h₀ mg mb) (hh : A.handled = none) (hs : sto sc n = true) (hf : f = ("list" : Str)) (hg : glo sc f = true) (hd : y ≠ ("__debug__" : Str)) (e1 : nameV sc me y = some (.str z)) (hl : okL (charsOf z) = some l)
    (J : Inv h₀ os₀ Mt pw p s) (F : Fs env sc me Mt₀ Mt pw hc s.heap) :
    OkX w h₀ os₀ A env sc Mt₀ hc Mt pw p (exec (.Assign [.Name n xp] (.Call (.Name f fp) [.Name y yp] [] cp) pos) env) s .next (put me n true (.lst (l.map .ustr))) p := by
  intro E Q hQ
  subst hf
  refine an2 (okL_eq hl) fun q_50 hcap => ?_
  subst q_50
  refine wpAny_Assign_Name ?_ rfl
  refine an2 (T.blt "list" (.type "list") (by decide +kernel)) fun b1 b2 => ?_
  refine wpAny_Call_NameR (global_name T J F.fm hg (by decide) (.inr ⟨b1, b2⟩) ?_)
  refine callWith_machine (fun a h => by cases h) (by rw [not_starred rfl]; rfl) ?_
  refine wpAny_items_cons ?_ (not_starred rfl)
  refine name_ok J F.fm e1 hd E _ fun {M1} val s1 J1 K1 R1 => ?_
  refine ex1_2 (R1.str') fun t q_121 ht => ?_
  subst q_121
  refine wpAny_items_nil ?_
  refine wpAny_with_toks (n := s1.toks) (Nat.le_refl _) ?_
  refine call_list_str hh _ t (fun h' tk acc c hk ha hi hle0 => ?_) (cap_line (by simpa [charsOf] using hcap))
  have hle : s1.toks ≤ tk := hle0
  have hfr := fresh_size s1.heap
  have hS := signs_are (acc := acc.toList) (by simpa using hi)
  have J2 : Inv h₀ os₀ M1 pw p { s1 with heap := h', toks := tk } := J1.keeps hk hle
  have hold : s.heap.get? s1.heap.objs.size = none := back_none J1 K1 hfr
  exact store_own J F hs J2 (K1.trans (Kp.of_keeps hk)) hold ha (VRs.of_strs hS) fun s2 A2 => hQ .next s2 A2 trivial
end
end Mine
end
section
set_option genSizeOf false
set_option genSizeOfSpec false
namespace Mine
open PySem PyProof.Rows PyProof.V PySem.SeqAt PySem.Spec
section
variable {w : World} {h₀ : Heap} {os₀ : OsState} {A : Around} {Mt₀ : Addr → Prop} {Mt Mt' Mt'' : Ms} {pw pw' pw'' : List Addr} {p p' p'' p1 : P} {s s' s'' : Shared} {x y v : V} {val b : Value} {hc h h' h4 : Heap} {env cenv : Env} {sc inner : Scope} {me me' me'' : Me} {n : Str} {c a C D : Addr} {mg mb : Str → Option Value}
theorem for_ok {body : List Stmt} {bd : Me → P → Option (Fl × Me × P)} {ev : Expr → P → Option (V × P)} (T : Tp h₀ mg mb) (H : ∀ {pw}, EvOk w h₀ os₀ A pw env sc me ev)
    (Hb : ∀ {Mt : Ms} {pw : List Addr} me p f me' p', bd me p = some (f, me', p') → ∀ s, Inv h₀ os₀ Mt pw p s → Fs env sc me Mt₀ Mt pw hc s.heap → OkX w h₀ os₀ A env sc Mt₀ hc Mt pw p (execs body env) s f me' p')
    {it : Expr} {px pos : Pos} {xn : Str} {items : List V} {f : Fl} (hh : A.handled = none) (hx : sto sc xn = true) (hsrc : srcWith ev sc it p = some (items, p1)) (e : loopWith bd xn items me p1 = some (f, me', p'))
    (J : Inv h₀ os₀ Mt pw p s) (F : Fs env sc me Mt₀ Mt pw hc s.heap) : OkX w h₀ os₀ A env sc Mt₀ hc Mt pw p (exec (.For (.Name xn px) it body [] pos) env) s f me' p' := by
  intro E Q hQ
  refine wpAny_For ?_ (folded (src_notSet hsrc))
  refine src_ok T H hsrc J F.fm hh fun {M2} I fp St s2 wk J2 K2 hI => ?_
  have A2 := Aft.of_kp J F J2 K2
  have hI0 : h₀.get? I = none := by
    cases q : h₀.get? I with
    | none => rfl
    | some o => rw [J.base I o q] at hI; cases hI
  have hIc : hc.get? I = none := by
    cases q : hc.get? I with
    | none => rfl
    | some o => obtain ⟨o', e'⟩ := F.ex I o q; rw [hI] at e'; exact nn e'
  refine for_loop Hb wk hI0 hIc hx e J2 A2.fs rfl fun {M3 pw3} fl s3 J3 F3 hfz hpw hG R3 => ?_
  refine hQ fl s3 ⟨J3, F3, fun b o hb eq => ?_, fun h => ?_, fun t z e => hG t z (K2.G t z e)⟩ R3
  · refine an2 (A2.frz b o hb eq) fun q1 q2 => ?_
    exact hfz b o (fun z => by subst z; rw [hI] at eq; cases eq) q1 q2
  · refine an2 (A2.pwk h) fun z1 z2 => ?_
    refine an2 (hpw z2) fun z3 z4 => ?_
    exact ⟨z3.trans z1, z4⟩
theorem if_ok {tr : Expr → P → Option (Bool × P)} {exs : Me → List Stmt → P → Option (Fl × Me × P)} (H : ∀ {pw}, TrOk w h₀ os₀ A pw env sc me tr) (Hb : ExsOk w h₀ os₀ A env sc Mt₀ hc exs) {t : Expr} {b o : List Stmt} {pos : Pos} {f : Fl} {tb : Bool}
    (e1 : tr t p = some (tb, p1)) (e2 : tb = true → exs me b p1 = some (f, me', p')) (e3 : tb = false → exs me o p1 = some (f, me', p')) (J : Inv h₀ os₀ Mt pw p s) (F : Fs env sc me Mt₀ Mt pw hc s.heap) :
    OkX w h₀ os₀ A env sc Mt₀ hc Mt pw p (exec (.If t b o pos) env) s f me' p' := by
  intro E Q hQ
  refine wpAny_If (H t p tb p1 e1 s J F.fm E _ fun s1 J1 K1 => ?_)
  have A1 := Aft.of_kp J F J1 K1
  cases tb with
  | true => exact Hb me b p1 f me' p' (e2 rfl) s1 J1 A1.fs E Q fun fl s2 A2 R2 => hQ fl s2 (A1.trans A2) R2
  | false => exact Hb me o p1 f me' p' (e3 rfl) s1 J1 A1.fs E Q fun fl s2 A2 R2 => hQ fl s2 (A1.trans A2) R2
theorem Fm.offD {m : Str → Option Value} (F : Fm env sc me Mt pw h) (hn : h.Ns C m) (hs : Heap.SameBut C h h') (hM : ¬ Mt.m C) : Fm env sc me Mt pw h' := by
  have hk : ∀ b o, Mt.m b → h.get? b = some o → h'.get? b = some o := fun b o hb e => (hs.2 b (fun z => hM (z ▸ hb))).trans e
  have hat : ∀ {x v}, At env h x v → At env h' x v := fun {x v} H => H.kp fun b o hb e => hk b o (by
    rcases hb with rfl | ⟨y, hy⟩
    · exact F.nsMt
    · exact F.cellMt y b hy) e
  refine { kind := F.kind, glob := F.glob, blt := F.blt, names := F.names, ns := ?_, nsMt := F.nsMt, nsPw := F.nsPw, cellIs := F.cellIs, cellAll := fun x c hx => ?_, inj := F.inj, vars := fun x b hx hb => ?_, sep := fun x y bx by' a hx hy ex ey ox oy ax ay => ?_ }
  · obtain ⟨m', hm⟩ := F.ns
    exact ⟨m', hm.at' fun o e => hk _ o F.nsMt e⟩
  · obtain ⟨q1, q2, v, o, ho, hd⟩ := F.cellAll x c hx
    exact ⟨q1, q2, v, o, hk c o q1 ho, hd⟩
  · refine ex1_2 (F.vars x b hx hb) fun v hv hr => ?_
    refine ⟨v, hat hv, ?_⟩
    unfold BdR at hr ⊢
    cases ho : b.own with
    | true =>
      rw [ho] at hr
      refine ex4_6 (hr) fun xs a vs k e1 e2 e3 e4 e5 e6 => ?_
      exact ⟨xs, a, vs, k, e1, e2, e3, e4, hk a _ e3 e5, e6.monoD (dict_off hn hs)⟩
    | false =>
      rw [ho] at hr
      exact hr.monoD (dict_off hn hs)
  · refine ex1_2 (F.vars x bx hx ex) fun v hv _ => ?_
    refine ex1_2 (F.vars y by' hy ey) fun u hu _ => ?_
    have e1 := (hat hv).det ax
    have e2 := (hat hu).det ay
    subst e1 e2
    exact F.sep x y bx by' a hx hy ex ey ox oy hv hu
theorem Fs.offD {m : Str → Option Value} (F : Fs env sc me Mt₀ Mt pw hc h) (hn : h.Ns C m) (hs : Heap.SameBut C h h') (hM : ¬ Mt.m C) (hf : hc.get? C = none) : Fs env sc me Mt₀ Mt pw hc h' where
  fm := F.fm.offD hn hs hM
  sub := F.sub
  mt0 := F.mt0
  kc := fun b o e q => (hs.2 b (fun z => by subst z; rw [hf] at e; cases e)).trans (F.kc b o e q)
  ex := fun b o e => by
    obtain ⟨o', e'⟩ := F.ex b o e
    exact ⟨o', (hs.2 b (fun z => by subst z; rw [hf] at e; cases e)).trans e'⟩
  newL := F.newL
  newC := F.newC
  newO := fun x b a hx hb ho hat => by
    obtain ⟨u, hu, hr⟩ := F.fm.vars x b hx hb
    have hat' : At env h' x u := hu.kp fun b' o hb' e => (hs.2 b' (fun z => hM (z ▸ (by
      rcases hb' with rfl | ⟨y, hy⟩
      · exact F.fm.nsMt
      · exact F.fm.cellMt y b' hy)))).trans e
    have := hat'.det hat
    subst this
    exact F.newO x b a hx hb ho hu
theorem compAssign_ok {ev : Me → Expr → P → Option (V × P)} {tr : Me → Expr → P → Option (Bool × P)} {evo : Expr → P → Option (V × P)} (T : Tp h₀ mg mb) (Ho : ∀ {pw}, EvOk w h₀ os₀ A pw env sc me evo)
    (Hev : ∀ {pw} cenv me, EvOk w h₀ os₀ A pw cenv inner me (ev me)) (Htr : ∀ {pw} cenv me, TrOk w h₀ os₀ A pw cenv inner me (tr me)) (hh : A.handled = none)
    {elt iter : Expr} {ifs : List Expr} {px pos xp spos : Pos} {xn : Str} {items l : List V} (hs : sto sc n = true) (hsw : swapsWith (.ListComp elt [⟨.Name xn px, iter, ifs, 0⟩] inner pos) (some (.Name n xp)) spos.line env = pure true)
    (hf : freeOk sc me inner = true) (hlo : localsOk inner = true) (hx : sto inner xn = true) (hsrc : srcWith evo sc iter p = some (items, p1))
    (e : compWith (fun m q => ev m elt q) (fun m q => testsWith (tr m) ifs q) xn (clos inner me) items p1 = some (l, p'))
    (J : Inv h₀ os₀ Mt pw p s) (F : Fs env sc me Mt₀ Mt pw hc s.heap) : OkX w h₀ os₀ A env sc Mt₀ hc Mt pw p (exec (.Assign [.Name n xp] (.ListComp elt [⟨.Name xn px, iter, ifs, 0⟩] inner pos) spos) env) s .next (put me n false (.lst l)) p' := by
  intro E Q hQ
  rw [exec_Assign_Name_used _ _ _ _ hsw]
  refine wpAny_bind (wpAny_standAt (wpAny_bind ?_))
  refine wpAny_bind (wpAny_mono (comp_core (use := some (assign (.Name n xp) env)) (Q := fun _ s' => Q .next s') T Ho Hev Htr hh hf hlo hx hsrc e J F.fm
    fun D C Mt' M0 s1 J1 hsub hM0 R1 K1 ⟨m, hn⟩ hC hCp hCn hDC hDM hCM => ?_) (fun _ s' hq => wpAny_pure (wpAny_pure hq)) fun _ _ e => e)
  have hm0 : M0.m = Mt.m := by rw [hM0]
  have hg0 : M0.G = Mt'.G := by rw [hM0]
  have J0 : Inv h₀ os₀ M0 pw p' s1 := J1.less (fun b hb => hsub b (hm0 ▸ hb)) (fun a ha => hm0 ▸ J.pws a ha) hg0
  have A0 := Aft.of_kp J F J0 K1
  refine wpAny_assign_Name (store_any A0.fs.fm hs fun c h' t hle W hcM hcP hcL hcE => ?_)
  have hcM' : Mt'.m c := hsub c (hm0 ▸ hcM)
  have hcC : c ≠ C := fun z => hCM (hm0 ▸ (z ▸ hcM))
  have J2 : Inv h₀ os₀ Mt' pw p' { s1 with heap := h', toks := t } := J1.at W.same W.ex hcM' hcP hle
  have A2 := Aft.put J0 A0.fs W hle hcM hcP hcL hcE R1
  have hn2 : h'.Ns C m := hn.sameBut W.same (Ne.symm hcC)
  refine ⟨m, hn2, fun h3 hs3 => ?_⟩
  have hfc : hc.get? C = none := by
    cases q : hc.get? C with
    | none => rfl
    | some o => obtain ⟨o', e'⟩ := F.ex C o q; rw [hCn] at e'; exact nn e'
  have J3 : Inv h₀ os₀ M0 pw p' { s1 with heap := h3, toks := t } := J2.off (Mt := M0) hC (fun b hb => hsub b (hm0 ▸ hb)) (fun a ha => hm0 ▸ J.pws a ha) hg0 (hm0 ▸ hCM) hs3
  have F3 : Fs env sc (put me n false (.lst l)) Mt₀ M0 pw hc h3 := A2.fs.offD hn2 hs3 (hm0 ▸ hCM) hfc
  have A3 := A0.trans A2
  refine hQ .next _ ⟨J3, F3, fun b o hb q => ?_, A3.pwk, A3.G⟩ trivial
  refine an2 (A3.frz b o hb q) fun z1 z2 => ?_
  exact ⟨z1, (hs3.2 b (fun z => by subst z; rw [hCn] at q; cases q)).trans z2⟩
end
end Mine
end
section
set_option genSizeOf false
set_option genSizeOfSpec false
namespace Mine
open PySem PyProof.Rows PyProof.V PySem.SeqAt PySem.Spec
section
variable {w : World} {h₀ : Heap} {os₀ : OsState} {A : Around} {Mt₀ : Addr → Prop} {Mt Mt' Mt'' : Ms} {pw pw' pw'' : List Addr} {p p' p'' p1 : P} {s s' s'' : Shared} {x y v : V} {val b : Value} {hc h h' h4 : Heap} {env cenv : Env} {sc inner : Scope} {me me' me'' : Me} {n : Str} {c a C D : Addr} {mg mb : Str → Option Value}
theorem ownL_eq {xs : List V} (e : ownL sc me n = some xs) : vis sc n = true ∧ me.lookup n = some ⟨true, .lst xs⟩ := by
  unfold ownL at e
  split at e
  · rename_i hv
    split at e
    · rename_i q; cases e; exact ⟨hv, q⟩
    · cases e
  · cases e
theorem own_at {xs : List V} (F : Fm env sc me Mt pw h) (e : ownL sc me n = some xs) : ∃ a vs k, At env h n (.ref a) ∧ Mt.m a ∧ a ∉ pw ∧ h.get? a = some { cls := .type "list", data := .seq vs k } ∧ VRs Mt pw h xs vs.toList := by
  refine an2 (ownL_eq e) fun hv hb => ?_
  refine ex1_2 (F.vars n _ hv hb) fun val hat hr => ?_
  unfold BdR at hr
  refine ex4_6 (hr) fun xs' a vs k e1 q_45 e3 e4 e5 e6 => ?_
  subst q_45
  cases e1
  exact ⟨a, vs, k, hat, e3, e4, e5, e6⟩
theorem Aft.upd {xs zs : List V} {vs vs' : Array Value} {k k' : Nat} (J : Inv h₀ os₀ Mt pw p s) (F : Fs env sc me Mt₀ Mt pw hc s.heap) (e : ownL sc me n = some xs) (hat : At env s.heap n (.ref a)) (hM : Mt.m a) (hap : a ∉ pw)
    (ha0 : s.heap.get? a = some { cls := .type "list", data := .seq vs k }) (hs : Heap.SameBut a s.heap h') (ha : h'.get? a = some { cls := .type "list", data := .seq vs' k' }) (R : VRs Mt pw s.heap zs vs'.toList) :
    Aft h₀ os₀ env sc Mt₀ hc Mt pw p s (Mine.put me n true (.lst zs)) Mt pw p { s with heap := h' } where
  inv := J.at (t := s.toks) hs ⟨_, ha⟩ hM hap
  fs := F.upd (ownL_eq e).1 (ownL_eq e).2 rfl hat hM hap ha0 hs ha R
  frz := fun b o hb e => ⟨hb, (hs.2 b (fun q => hb (q ▸ hM))).trans e⟩
  pwk := fun h => ⟨rfl, h⟩
  G := fun _ _ e => e
theorem inter (F : Fm env sc me Mt pw h) : interactive env = false := by
  unfold interactive
  rw [F.kind]; rfl
theorem back_one {e : Expr} {pos : Pos} (h : starred e = false) : backTo pos (starEach [e] env) = [(false, eval e env)] := by
  rw [not_starred h]; rfl
theorem few_one {e : Expr} {pos : Pos} (h : starred e = false) :
    ((backTo pos (starEach [e] env)).all (fun x => !x.1) && (backToKw pos (keywordEach [] env)).all (fun x => x.1.isSome) && decide ([e].length + ([] : List Keyword).length + (if ([] : List Keyword).isEmpty then 0 else 1) < 30)) = true :=
  few_ok (by rw [back_one h]; rfl) (by simp)
theorem push_own {xs : List V} {val : Value} {v : V} {E : Value → Shared → Prop} {Q : Value → Shared → Prop} (J : Inv h₀ os₀ Mt pw p s) (F : Fs env sc me Mt₀ Mt pw hc s.heap) (e : ownL sc me n = some xs) (hat : At env s.heap n (.ref a)) (R : VR Mt pw s.heap v val) (hcap : (xs ++ [v]).length ≤ cap)
    (hQ : ∀ s', Aft h₀ os₀ env sc Mt₀ hc Mt pw p s (put me n true (.lst (xs ++ [v]))) Mt pw p s' → Q .none s') : wpAny (model prog w) A (call (.builtin "list.append") [.ref a, val]) Q E s := by
  refine ex3_5 (own_at F.fm e) fun a' vs k hat' hM hap ha Rs => ?_
  have := hat'.det hat
  cases this
  have hsz : vs.size ≤ sizeLine := by
    have h1 := Rs.1
    have h2 : vs.toList.length = vs.size := by simp
    rw [List.length_append] at hcap
    exact cap_line (by lia)
  refine wpAny_list_append_plain (hsz := hsz) ⟨k, ha⟩ fun h6 ⟨k', hl6⟩ hs6 => ?_
  exact hQ _ (Aft.upd J F e hat hM hap ha hs6 hl6 (by simpa using Rs.snoc R))
theorem append_ok {ev : Expr → P → Option (V × P)} {e : Expr} {xp apos cpos pos : Pos} {xs : List V} (H : ∀ {pw}, EvOk w h₀ os₀ A pw env sc me ev) (hd : n ≠ ("__debug__" : Str)) (hl : apos.endLine = cpos.line) (hst : starred e = false)
    (e0 : ownL sc me n = some xs) (e1 : ev e p = some (v, p')) (hcap : (xs ++ [v]).length ≤ cap) (J : Inv h₀ os₀ Mt pw p s) (F : Fs env sc me Mt₀ Mt pw hc s.heap) :
    OkX w h₀ os₀ A env sc Mt₀ hc Mt pw p (exec (.Expr (.Call (.Attribute (.Name n xp) "append" apos) [e] [] cpos) pos) env) s .next (put me n true (.lst (xs ++ [v]))) p' := by
  intro E Q hQ
  refine wpAny_Expr ?_ (inter F.fm) rfl
  refine ex3_5 (own_at F.fm e0) fun a vs k hat hM hap ha Rs => ?_
  refine wpAny_Call_method (T := "list") (id := "list.append") (base_ok rfl) (few_one hst) (by simpa using hl) PySem.F.plainAttrs_list PySem.F.slot_list_append type_list_append ?_
  refine at_name F.fm hat hd ⟨⟨_, ha, rfl⟩, fun a' q => (by cases q; exact ⟨_, ha, rfl⟩), ?_⟩
  refine callWith_machine (fun a q => by cases q) (by rw [back_one hst]; rfl) ?_
  refine wpAny_items_cons ?_ (not_starred hst)
  refine H e p v p' e1 s J F.fm E _ fun {M1} val s1 J1 K1 R1 => ?_
  refine wpAny_items_nil ?_
  have A1 := Aft.of_kp J F J1 K1
  refine push_own J1 A1.fs e0 (F.fm.at_kp K1 hat) R1 hcap fun s2 A2 => ?_
  exact hQ .next s2 (A1.trans A2) trivial
theorem VRs.erase {xs : List V} {vs : List Value} (R : VRs Mt pw h xs vs) (j : Nat) : VRs Mt pw h (xs.eraseIdx j) (vs.eraseIdx j) := by
  refine ⟨by rw [List.length_eraseIdx, List.length_eraseIdx, R.1], fun i x v hx hv => ?_⟩
  rw [List.getElem?_eraseIdx] at hx hv
  split at hx
  · rename_i h1; rw [if_pos h1] at hv; exact R.2 i x v hx hv
  · rename_i h1; rw [if_neg h1] at hv; exact R.2 _ x v hx hv
theorem appendPop_ok {ev : Expr → P → Option (V × P)} {i : Expr} {y : Str} {xp apos cpos pos yp apos2 cpos2 : Pos} {xs ys : List V} {k' : Int} (H : ∀ {pw}, EvOk w h₀ os₀ A pw env sc me ev) (hd : n ≠ ("__debug__" : Str)) (hl : apos.endLine = cpos.line) (hd2 : y ≠ ("__debug__" : Str)) (hl2 : apos2.endLine = cpos2.line)
    (hne : y ≠ n) (hst : starred i = false) (e0 : ownL sc me n = some xs) (e2 : ownL sc me y = some ys) (e1 : ev i p = some (.int k', p')) (h0 : 0 ≤ k') (hv : ys[k'.toNat]? = some v) (hys : ys.length ≤ cap) (hcap : (xs ++ [v]).length ≤ cap) (J : Inv h₀ os₀ Mt pw p s) (F : Fs env sc me Mt₀ Mt pw hc s.heap) :
    OkX w h₀ os₀ A env sc Mt₀ hc Mt pw p (exec (.Expr (.Call (.Attribute (.Name n xp) "append" apos) [.Call (.Attribute (.Name y yp) "pop" apos2) [i] [] cpos2] [] cpos) pos) env) s .next (put (put me y true (.lst (ys.eraseIdx k'.toNat))) n true (.lst (xs ++ [v]))) p' := by
  intro E Q hQ
  refine wpAny_Expr ?_ (inter F.fm) rfl
  refine ex3_5 (own_at F.fm e0) fun a vs k hat hM hap ha Rs => ?_
  refine wpAny_Call_method (T := "list") (id := "list.append") (base_ok rfl) (few_one rfl) (by simpa using hl) PySem.F.plainAttrs_list PySem.F.slot_list_append type_list_append ?_
  refine at_name F.fm hat hd ⟨⟨_, ha, rfl⟩, fun a' q => (by cases q; exact ⟨_, ha, rfl⟩), ?_⟩
  refine callWith_machine (fun a q => by cases q) (by rw [back_one rfl]; rfl) ?_
  refine wpAny_items_cons ?_ (not_starred rfl)
  refine ex3_5 (own_at F.fm e2) fun b us m hatb hMb hbp hb Rb => ?_
  refine wpAny_Call_method (T := "list") (id := "list.pop") (base_ok rfl) (few_one hst) (by simpa using hl2) PySem.F.plainAttrs_list PySem.F.slot_list_pop PySem.F.type_list_pop ?_
  refine at_name F.fm hatb hd2 ⟨⟨_, hb, rfl⟩, fun a' q => (by cases q; exact ⟨_, hb, rfl⟩), ?_⟩
  rw [back_one hst]
  refine P.pop_at_list ?_
  refine H i p _ p' e1 s J F.fm E _ fun {M1} val s1 J1 K1 R1 => ?_
  refine ex1_1 (R1.int') fun t q_161 => ?_
  subst q_161
  have A1 := Aft.of_kp J F J1 K1
  refine ex3_5 (own_at A1.fs.fm e2) fun b' us1 m1 hatb1 hMb1 hbp1 hb1 Rb1 => ?_
  have := hatb1.det (F.fm.at_kp K1 hatb)
  cases this
  refine ex1_2 (Rb1.get hv) fun u hu Ru => ?_
  have hlen : us1.size = ys.length := by have := Rb1.1; simpa using this
  have hj : k'.toNat < ys.length := (List.getElem?_eq_some_iff.mp hv).1
  have hcapn : ys.length ≤ 4096 := hys
  refine ⟨us1, m1, k', t, k'.toNat, u, cap_line (by rw [hlen]; exact hys), rfl, hb1, ?_, ?_, by simpa using hu, ?_⟩
  · unfold Builtin.List.listFitsIndex
    rw [Bool.and_eq_true]
    exact ⟨decide_eq_true (by lia), decide_eq_true (by lia)⟩
  · refine (place_idx (n := us1.size) (i := k') (j := k'.toNat) ?_).1
    unfold place
    rw [if_pos h0, if_pos (by lia)]
  · have hup := IsL.update (l := b) (items := us1) (n := m1) hb1 (fun xs => xs.eraseIdxIfInBounds k'.toNat)
    have A2 : Aft h₀ os₀ env sc Mt₀ hc M1 pw p' s1 (put me y true (.lst (ys.eraseIdx k'.toNat))) M1 pw p' { s1 with heap := s1.heap.update b (Obj.mapSeq fun xs => xs.eraseIdxIfInBounds k'.toNat) } :=
      Aft.upd J1 A1.fs e2 hatb1 hMb1 hbp1 hb1 (Heap.SameBut.update ..) hup (by
        have : (us1.eraseIdxIfInBounds k'.toNat).toList = us1.toList.eraseIdx k'.toNat := by
          rw [Array.eraseIdxIfInBounds_eq]
          rw [dif_pos (by lia)]
          simp
        rw [this]
        exact Rb1.erase _)
    refine wpAny_items_nil ?_
    have e0' : ownL sc (put me y true (.lst (ys.eraseIdx k'.toNat))) n = some xs := by
      refine an2 (ownL_eq e0) fun q1 q2 => ?_
      unfold ownL
      rw [if_pos q1, lookup_put, if_neg (Ne.symm hne), q2]
    have hata : At env (s1.heap.update b (Obj.mapSeq fun xs => xs.eraseIdxIfInBounds k'.toNat)) n (.ref a) := by
      refine an2 (ownL_eq e0') fun z1 z2 => ?_
      refine ex3_2 (own_at A2.fs.fm e0') fun a2 vs2 k2 hat2 _ => ?_
      refine ex3_5 (own_at A1.fs.fm e0) fun a1 vs1 k1 hat1 hM1 hap1 ha1 _ => ?_
      have q1 := hat1.det (F.fm.at_kp K1 hat)
      cases q1
      refine (F.fm.at_kp K1 hat).kp fun b' o hb' eq => ((Heap.SameBut.update s1.heap b (Obj.mapSeq fun xs => xs.eraseIdxIfInBounds k'.toNat)).2 b' (fun z => ?_)).trans eq
      subst z
      rcases hb' with hb' | ⟨y', hy'⟩
      · refine ex1_1 (A1.fs.fm.ns) fun mm hn => ?_
        exact not_ns_list (hb' ▸ hn) hb1
      · obtain ⟨_, _, vv, hvv⟩ := A1.fs.fm.cellAll y' _ hy'
        exact not_cell_list hvv hb1
    have Ru2 : VR M1 pw (s1.heap.update b (Obj.mapSeq fun xs => xs.eraseIdxIfInBounds k'.toNat)) v u := Ru.mono A2.frz
    refine push_own A2.inv A2.fs e0' hata Ru2 hcap fun s2 A3 => ?_
    exact hQ .next s2 (A1.trans (A2.trans A3)) trivial
end
end Mine
end
section
set_option genSizeOf false
set_option genSizeOfSpec false
namespace Mine
open PySem PyProof.Rows PyProof.V PySem.SeqAt PySem.Spec
section
variable {w : World} {h₀ : Heap} {os₀ : OsState} {A : Around} {Mt₀ : Addr → Prop} {Mt Mt' Mt'' : Ms} {pw pw' pw'' : List Addr} {p p' p'' p1 : P} {s s' s'' : Shared} {x y v : V} {val b : Value} {hc h h' h4 : Heap} {env cenv : Env} {sc inner : Scope} {me me' me'' : Me} {n : Str} {c a C D : Addr} {mg mb : Str → Option Value}
theorem extend_ok {ev : Expr → P → Option (V × P)} {e : Expr} {xp apos cpos pos : Pos} {xs ys : List V} (H : ∀ {pw}, EvOk w h₀ os₀ A pw env sc me ev) (hd : n ≠ ("__debug__" : Str)) (hl : apos.endLine = cpos.line) (hst : starred e = false)
    (e0 : ownL sc me n = some xs) (e1 : ev e p = some (.lst ys, p')) (hcap : (xs ++ ys).length ≤ cap) (J : Inv h₀ os₀ Mt pw p s) (F : Fs env sc me Mt₀ Mt pw hc s.heap) :
    OkX w h₀ os₀ A env sc Mt₀ hc Mt pw p (exec (.Expr (.Call (.Attribute (.Name n xp) "extend" apos) [e] [] cpos) pos) env) s .next (put me n true (.lst (xs ++ ys))) p' := by
  intro E Q hQ
  refine wpAny_Expr ?_ (inter F.fm) rfl
  refine ex3_5 (own_at F.fm e0) fun a vs k hat hM hap ha Rs => ?_
  refine wpAny_Call_method (T := "list") (id := "list.extend") (base_ok rfl) (few_one hst) (by simpa using hl) PySem.F.plainAttrs_list PySem.F.slot_list_extend PySem.F.type_list_extend ?_
  refine at_name F.fm hat hd ⟨⟨_, ha, rfl⟩, fun a' q => (by cases q; exact ⟨_, ha, rfl⟩), ?_⟩
  rw [back_one hst]
  refine P.extend_list ?_
  refine H e p _ p' e1 s J F.fm E _ fun {M1} val s1 J1 K1 R1 => ?_
  have A1 := Aft.of_kp J F J1 K1
  refine ex3_5 (own_at A1.fs.fm e0) fun a1 vs1 k1 hat1 hM1 hap1 ha1 Rs1 => ?_
  have := hat1.det (F.fm.at_kp K1 hat)
  cases this
  refine ex3_5 (R1.lst') fun b us m q_153 g1 g2 g3 g4 => ?_
  subst q_153
  have hlen : vs1.size = xs.length := by have := Rs1.1; simpa using this
  have hcapn : xs.length + ys.length ≤ 4096 := by rw [← List.length_append]; exact hcap
  have hline : 4096 ≤ sizeLine := cap_line (Nat.le_refl _)
  refine ⟨b, vs1, us, k1, m, by lia, by lia, ?_, rfl, ha1, g2, ?_⟩
  · unfold Builtin.List.listTooLong
    have : ¬ (vs1.size + us.size > sizeLine) := by lia
    simp [this]
  · have hup := IsL.update (l := a) (items := vs1) (n := k1) ha1 (fun xs => xs ++ us)
    have A2 := Aft.upd J1 A1.fs e0 hat1 hM1 hap1 ha1 (Heap.SameBut.update ..) hup (zs := xs ++ ys) (by simpa using Rs1.append (VRs.of_lst g3 g4))
    exact hQ .next _ (A1.trans A2) trivial
theorem Fs.birth {Mt2 : Ms} (F : Fs env sc me Mt₀ Mt tabs hc h) (hm : Mt2.m = fun b => Mt.m b ∨ b = a) (hG : ∀ t z, Mt.G t = some z → Mt2.G t = some z) (hf : h.get? a = none) (hk : ∀ b o, h.get? b = some o → h'.get? b = some o) : Fs env sc me Mt₀ Mt2 (a :: tabs) hc h' := by
  have ne : ∀ b o, b ∉ tabs → h.get? b = some o → b ∉ a :: tabs := fun b o hb e q => by
    rcases List.mem_cons.mp q with rfl | q
    · rw [hf] at e; exact nn e
    · exact hb q
  have mon : ∀ b o, ¬ Mt.m b → h.get? b = some o → ¬ Mt2.m b ∧ h'.get? b = some o := fun b o hb e => ⟨(by
    rw [hm]
    rintro (q | rfl)
    · exact hb q
    · rw [hf] at e; cases e), hk b o e⟩
  have hat : ∀ {x v}, At env h x v → At env h' x v := fun {x v} H => H.kp fun b o _ e => hk b o e
  have back : ∀ {x b v}, vis sc x = true → me.lookup x = some b → At env h' x v → At env h x v := fun {x b v} hx hb hv => by
    refine ex1_2 (F.fm.vars x b hx hb) fun u hu _ => ?_
    have := (hat hu).det hv
    subst this; exact hu
  refine { fm := { kind := F.fm.kind, glob := F.fm.glob, blt := F.fm.blt, names := F.fm.names, ns := ?_, nsMt := ?_, nsPw := ?_, cellIs := F.fm.cellIs, cellAll := fun x c hx => ?_, inj := F.fm.inj, vars := fun x b hx hb => ?_, sep := fun x y bx by' a' hx hy ex ey ox oy ax ay => ?_ }
           sub := fun b hb => by rw [hm]; exact .inl (F.sub b hb), mt0 := F.mt0, kc := fun b o e z => hk b o (F.kc b o e fun q => z (List.mem_cons_of_mem _ q)), ex := fun b o e => let ⟨o', e'⟩ := F.ex b o e; ⟨o', hk b o' e'⟩, newL := F.newL, newC := F.newC
           newO := fun x b a' hx hb ho hat' => F.newO x b a' hx hb ho (back hx hb hat') }
  · refine ex1_1 (F.fm.ns) fun m hn => ?_
    exact ⟨m, hn.keeps hk⟩
  · rw [hm]; exact .inl F.fm.nsMt
  · refine ex4_2 (F.fm.ns) fun m o _ _ ho _ => ?_
    exact ne _ _ F.fm.nsPw ho
  · obtain ⟨q1, q2, v, o, ho, hd⟩ := F.fm.cellAll x c hx
    exact ⟨by rw [hm]; exact .inl q1, ne _ _ q2 ho, v, o, hk c o ho, hd⟩
  · refine ex1_2 (F.fm.vars x b hx hb) fun v hv hr => ?_
    refine ⟨v, hat hv, ?_⟩
    unfold BdR at hr ⊢
    cases ho : b.own with
    | true =>
      rw [ho] at hr
      refine ex4_6 (hr) fun xs a1 vs k e1 e2 e3 e4 e5 e6 => ?_
      exact ⟨xs, a1, vs, k, e1, e2, by rw [hm]; exact .inl e3, ne _ _ e4 e5, hk a1 _ e5, ⟨e6.1, fun i x v hx hv => (e6.2 i x v hx hv).repw.mono mon hG⟩⟩
    | false =>
      rw [ho] at hr
      exact hr.repw.mono mon hG
  · exact F.fm.sep x y bx by' a' hx hy ex ey ox oy (back hx ex ax) (back hy ey ay)
theorem pile_none (J : Inv h₀ os₀ Mt pw none s) : pw = tabs := J.pile.2
theorem pileAssign_ok {fp cp xp pos : Pos} (X : AccOk w h₀ os₀) (hh : A.handled = none) (R1 : Rm A 1) (hs : sto sc n = true) (hg : glo sc "_Accumulator" = true) (J : Inv h₀ os₀ Mt pw none s) (F : Fs env sc me Mt₀ Mt pw hc s.heap) :
    OkX w h₀ os₀ A env sc Mt₀ hc Mt pw none (exec (.Assign [.Name n xp] (.Call (.Name "_Accumulator" fp) [] [] cp) pos) env) s .next (put me n false .pile) (some []) := by
  intro E Q hQ
  have := pile_none J
  subst this
  refine wpAny_Assign_Name (X A Mt s env sc me fp cp hh R1 hg J F.fm E _ fun x G s1 J1 hf hG hk => ?_) rfl
  have F1 := F.birth (Mt2 := { m := fun b => Mt.m b ∨ b = x, G := G }) rfl hG hf hk
  have A1 : Aft h₀ os₀ env sc Mt₀ hc Mt tabs none s me { m := fun b => Mt.m b ∨ b = x, G := G } (x :: tabs) (some []) s1 := ⟨J1, F1, fun b o hb e => ⟨fun z => z.elim hb (fun z => by subst z; rw [hf] at e; cases e), hk b o e⟩, fun h => (by cases h), hG⟩
  exact store_put J1 F1 hs (.pile rfl) fun s2 A2 => hQ .next s2 (A1.trans A2) trivial
theorem block_kind (F : Fm env sc me Mt pw h) : env.blockKind = .function := by
  unfold Env.blockKind
  rw [F.kind]
  rfl
theorem two_of {l : List Value} {u0 u1 : Value} (h : l.length = 2) (h0 : l[0]? = some u0) (h1 : l[1]? = some u1) : l = [u0, u1] := by
  obtain ⟨a, b, rfl⟩ := len_2 h
  rw [Option.some.inj h0, Option.some.inj h1]
theorem Fs.congr (F : Fs env sc me Mt₀ Mt pw hc h) (e : ∀ x, me'.lookup x = me.lookup x) : Fs env sc me' Mt₀ Mt pw hc h where
  fm := F.fm.congr e
  sub := F.sub
  mt0 := F.mt0
  kc := F.kc
  ex := F.ex
  newL := F.newL
  newC := F.newC
  newO := fun x b a hx hb => F.newO x b a hx (by rw [← e]; exact hb)
theorem Aft.congr (A1 : Aft h₀ os₀ env sc Mt₀ hc Mt pw p s me Mt' pw' p' s') (e : ∀ x, me'.lookup x = me.lookup x) : Aft h₀ os₀ env sc Mt₀ hc Mt pw p s me' Mt' pw' p' s' := ⟨A1.inv, A1.fs.congr e, A1.frz, A1.pwk, A1.G⟩
theorem turned_inv {e : Expr} (t : turned e = true) : ∃ ea eb k p, e = .Tuple [ea, eb] k p ∧ starred ea = false ∧ starred eb = false ∧ [ea, eb].all (foldedForSure 8) = false ∧ [ea, eb].all (constantsAlone 8) = false := by
  unfold turned at t
  cases h : asPair e with
  | none => rw [h] at t; exact nf t
  | some ab =>
    rw [h] at t
    obtain ⟨k, p, h0⟩ := asPair_eq h
    have t : (!starred ab.1 && !starred ab.2 && !([ab.1, ab.2].all (foldedForSure 8)) && !([ab.1, ab.2].all (constantsAlone 8))) = true := t
    rw [Bool.and_eq_true, Bool.and_eq_true, Bool.and_eq_true, Bool.not_eq_true', Bool.not_eq_true', Bool.not_eq_true', Bool.not_eq_true'] at t
    exact ⟨_, _, k, p, h0, t.1.1.1, t.1.1.2, t.1.2, t.2⟩
theorem turned_stores {e : Expr} {m : Str} {xp yp tp : Pos} {k : Nat} (hb : env.blockKind = .function) (kx : env.kindOf n = some .local) (ky : env.kindOf m = some .local) (hne : n ≠ m) (t1 : turned e = true) (t2 : xp.line = yp.line) :
    swappedStores [.Tuple [.Name n xp, .Name m yp] k tp] e env = pure (some [n, m]) := by
  obtain ⟨ea, eb, kk, tq, he, q1, q2, q3, q4⟩ := turned_inv t1
  rw [he]
  have ed : ([n, m] : List Str).eraseDups = [n, m] := by simp [List.eraseDups_cons, Ne.symm hne]
  have p1 : (Expr.Name n xp).pos = xp := rfl
  have p2 : (Expr.Name m yp).pos = yp := rfl
  delta swappedStores
  simp only [p1, p2, List.length_cons, List.length_nil, hb, kx, ky, t2, q3, q4, List.filterMap_cons, List.head?_cons, Option.map_some, Option.getD_some, beq_self_eq_true, Bool.and_self, if_true, ed, List.filterMap_nil]
  refine (if_neg (by decide)).trans ((if_neg (fun h => ?_)).trans rfl)
  rw [List.any_cons, List.any_cons, List.any_nil, Bool.or_false, Bool.or_eq_true] at h
  rcases h with h | h
  · cases ea with
    | Starred => exact nt q1
    | _ => exact nf h
  · cases eb with
    | Starred => exact nt q2
    | _ => exact nf h
theorem plain_stores {e : Expr} {m : Str} {xp yp tp : Pos} {k : Nat} (ht : ¬ isTup e = true) : swappedStores [.Tuple [.Name n xp, .Name m yp] k tp] e env = pure none := by
  cases e <;> first | rfl | exact absurd rfl ht
theorem pair_ok {ev : Expr → P → Option (V × P)} {e : Expr} {m : Str} {xp yp tp pos : Pos} {k : Nat} {a1 b1 : V} (hh : A.handled = none) (H : ∀ {pw}, EvOk w h₀ os₀ A pw env sc me ev) (hx : isLoc sc n = true) (hy : isLoc sc m = true) (hne : n ≠ m) (hcomp : isComp e = false)
    (hturn : isTup e = true → turned e = true ∧ xp.line = yp.line) (e1 : ev e p = some (.tup [a1, b1], p')) (J : Inv h₀ os₀ Mt pw p s) (F : Fs env sc me Mt₀ Mt pw hc s.heap) :
    OkX w h₀ os₀ A env sc Mt₀ hc Mt pw p (exec (.Assign [.Tuple [.Name n xp, .Name m yp] k tp] e pos) env) s .next (put (put me n false a1) m false b1) p' := by
  intro E Q hQ
  have sx : sto sc n = true := by unfold sto; unfold isLoc at hx; rw [beq_iff_eq.mp hx]
  have sy : sto sc m = true := by unfold sto; unfold isLoc at hy; rw [beq_iff_eq.mp hy]
  have kx : env.kindOf n = some .local := by have := F.fm.names n _ (beq_iff_eq.mp hx); simpa using this
  have ky : env.kindOf m = some .local := by have := F.fm.names m _ (beq_iff_eq.mp hy); simpa using this
  have hsw : swapsWithSole [.Tuple [.Name n xp, .Name m yp] k tp] e pos.line env = pure false := by
    have := swaps_plain (env := env) (t := some (.Tuple [.Name n xp, .Name m yp] k tp)) (l := pos.line) hcomp
    unfold swapsWithSole
    exact this
  by_cases ht : isTup e = true
  · refine an2 (hturn ht) fun t1 t2 => ?_
    have hst := turned_stores (k := k) (tp := tp) (block_kind F.fm) kx ky hne t1 t2
    refine Assign_Tuple_swapped (H e p _ p' e1 s J F.fm E _ fun {M1} val s1 J1 K1 R1 => ?_) hsw hst
    refine ex3_5 (R1.tup') fun a2 vs k2 q_173 g1 g2 g3 g4 => ?_
    subst q_173
    have A1 := Aft.of_kp J F J1 K1
    have hsz : vs.size = 2 := g3
    have R2 := VRs.of_lst g3 g4
    refine ex1_2 (R2.get (i := 0) (y := a1) rfl) fun u0 hu0 r0 => ?_
    refine ex1_2 (R2.get (i := 1) (y := b1) rfl) fun u1 hu1 r1 => ?_
    have hvl : vs.toList = [u0, u1] := two_of (by simpa using hsz) hu0 hu1
    have main := wpAny_unpackItems_tuple (prog := prog) (w := w) (E := E) (Q := fun items s₂ => wpAny (model prog w) A (assignInOrder ([n, m].reverse.map fun n => bindName env n) items.reverse) (fun _ => Q .next) E s₂) hh (s := s1) (t := a2) (items := vs) ⟨_, g2, rfl, k2, rfl⟩ fun h' hext => by
      have hk : ∀ b o, s1.heap.get? b = some o → h'.get? b = some o := fun b o e => hext b o (fun z => by subst z; rw [fresh_size] at e; cases e) e
      have J2 : Inv h₀ os₀ M1 pw p' { s1 with heap := h' } := J1.keeps (t := s1.toks) hk
      have A2 := Aft.of_kp (s' := { s1 with heap := h' }) J1 A1.fs J2 (Kp.of_keeps hk)
      rw [hvl]
      refine wpAny_bind (wpAny_holding (wpAny_bindName (store_put J2 A2.fs sy (r1.mono fun b o hb e => ⟨hb, hk b o e⟩) fun s3 A3 => ?_)))
      refine wpAny_bind (wpAny_holding (wpAny_bindName (store_put A3.inv A3.fs sx ((r0.mono fun b o hb e => ⟨hb, hk b o e⟩).mono A3.frz) fun s4 A4 => ?_)))
      refine wpAny_pure (hQ .next s4 ((A1.trans (A2.trans (A3.trans A4))).congr fun z => ?_) trivial)
      rw [lookup_put, lookup_put, lookup_put, lookup_put]
      by_cases z1 : z = m
      · subst z1; rw [if_pos rfl, if_neg (Ne.symm hne), if_pos rfl]
      · rw [if_neg z1, if_neg z1]
    rw [hsz] at main
    exact main
  · have hst := plain_stores (env := env) (n := n) (m := m) (xp := xp) (yp := yp) (k := k) (tp := tp) ht
    refine Assign_Tuple (H e p _ p' e1 s J F.fm E _ fun {M1} val s1 J1 K1 R1 => ?_) hsw hst
    refine ex3_5 (R1.tup') fun a2 vs k2 q_403 g1 g2 g3 g4 => ?_
    subst q_403
    have A1 := Aft.of_kp J F J1 K1
    have hsz : vs.size = 2 := g3
    have R2 := VRs.of_lst g3 g4
    refine ex1_2 (R2.get (i := 0) (y := a1) rfl) fun u0 hu0 r0 => ?_
    refine ex1_2 (R2.get (i := 1) (y := b1) rfl) fun u1 hu1 r1 => ?_
    have hvl : vs.toList = [u0, u1] := two_of (by simpa using hsz) hu0 hu1
    refine wpAny_assign_Tuple hh ⟨_, g2, rfl, k2, rfl⟩ (by rw [hsz]; rfl) rfl fun h' hext => ?_
    have hk : ∀ b o, s1.heap.get? b = some o → h'.get? b = some o := fun b o e => hext b o (fun z => by subst z; rw [fresh_size] at e; cases e) e
    have J2 : Inv h₀ os₀ M1 pw p' { s1 with heap := h' } := J1.keeps (t := s1.toks) hk
    have A2 := Aft.of_kp (s' := { s1 with heap := h' }) J1 A1.fs J2 (Kp.of_keeps hk)
    rw [hvl]
    refine wpAny_bind (wpAny_holding (wpAny_assign_Name (store_put J2 A2.fs sx (r0.mono fun b o hb e => ⟨hb, hk b o e⟩) fun s3 A3 => ?_)))
    refine wpAny_bind (wpAny_holding (wpAny_assign_Name (store_put A3.inv A3.fs sy ((r1.mono fun b o hb e => ⟨hb, hk b o e⟩).mono A3.frz) fun s4 A4 => ?_)))
    exact wpAny_pure (hQ .next s4 (A1.trans (A2.trans (A3.trans A4))) trivial)
end
end Mine
end
section
set_option genSizeOf false
set_option genSizeOfSpec false
namespace Mine
open PySem PyProof.Rows PyProof.V PySem.SeqAt PySem.Spec
section
variable {w : World} {A : Around} {E : Value → Shared → Prop} {s : Shared}
theorem enum_next {e it : Addr} {i : Nat} {old : Value} {Good : Value → Heap → Tok → Prop} {Q : Value → Shared → Prop} (he : IsEnum s.heap e it i old) (hne : e ≠ it)
    (draw : ∀ (Q : Value → Shared → Prop) (E : Value → Shared → Prop), (∀ x h1 tk, Good x h1 tk → Heap.SameBut it s.heap h1 → Q x { s with heap := h1, toks := tk }) → wpAny (model prog w) A (Builtin.SmallTypes.nextOf (.ref it)) Q E s)
    (hQ : ∀ x h1 tk h', Good x h1 tk → Heap.SameBut it s.heap h1 → IsEnumOut h' e it ((i : Int) + 1) x s.heap.objs.size → h'.get? s.heap.objs.size = some { cls := .type "tuple", data := .seq #[.int i tk, x] } → (∀ b o, b ≠ e → h1.get? b = some o → h'.get? b = some o) →
      Q (.ref s.heap.objs.size) { s with heap := h', toks := tk + 1 }) :
    wpAny (model prog w) A (Builtin.«enumerate.__next__» ⟨[.ref e], []⟩) (fun fin s' => ∃ v, fin = .done (.ret v) ∧ Q v s') E s := by
  have hel : e < s.heap.objs.size := Heap.lt_size he
  unfold Builtin.«enumerate.__next__»
  show wpAny _ _ (field (.ref e) 2 >>= _) _ _ _
  refine wpAny_bind (wpAny_field he rfl (x := .ref it) rfl ?_)
  refine wpAny_bind (draw _ _ fun x h1 tk hg hs1 => ?_)
  have he1 : IsEnum h1 e it i old := (hs1.2 e hne).trans he
  refine wpAny_bind (wpAny_field he1 rfl (x := rawInt i) rfl ?_)
  refine wpAny_bind (wpAny_field he1 rfl (x := .none) rfl ?_)
  refine wpAny_bind (wpAny_mkInt ?_)
  refine wpAny_bind (wpAny_setField_rec he1 (by simp) fun h2 he2 hs2 => ?_)
  replace he2 : IsEnum h2 e it ((i : Int) + 1) old := he2
  show wpAny _ _ (setField (.ref e) 4 .none >>= _) _ _ { s with heap := h2, toks := tk + 1 }
  refine wpAny_bind (wpAny_setField_rec he2 (by simp) fun h3 he3 hs3 => ?_)
  replace he3 : IsEnum h3 e it ((i : Int) + 1) old := he3
  replace hs2 : Heap.SameBut e h1 h2 := hs2
  replace hs3 : Heap.SameBut e h2 h3 := hs3
  show wpAny _ _ (newTuple [.int i tk, x] >>= _) _ _ { s with heap := h3, toks := tk + 1 }
  refine wpAny_bind (wpAny_newTuple ?_ (by show 2 ≤ sizeLine; decide))
  have hsz : h3.objs.size = s.heap.objs.size := by rw [hs3.1, hs2.1, hs1.1]
  have he4 : IsEnum (h3.push { cls := .type "tuple", data := .seq #[.int i tk, x] }) e it ((i : Int) + 1) old := Heap.get?_push_of_some _ he3
  have ht4 : (h3.push { cls := .type "tuple", data := .seq #[.int i tk, x] }).get? s.heap.objs.size = some { cls := .type "tuple", data := .seq #[.int i tk, x] } := by rw [← hsz]; exact Heap.get?_push_size _ rfl
  have hk4 : ∀ b o, b ≠ e → h1.get? b = some o → (h3.push { cls := .type "tuple", data := .seq #[.int i tk, x] }).get? b = some o := fun b o hb q => Heap.get?_push_of_some _ (hs3.extBut b o hb (hs2.extBut b o hb q))
  generalize h3.push { cls := .type "tuple", data := .seq #[.int i tk, x] } = h4 at he4 ht4 hk4
  show wpAny _ _ (Builtin.SmallTypes.ownedTupleIsFree (.ref e) >>= _) _ _ { s with heap := h4, toks := tk + 1 }
  rw [hsz]
  refine wpAny_bind ?_
  unfold Builtin.SmallTypes.ownedTupleIsFree
  refine wpAny_bind (wpAny_field he4 rfl (x := .none) rfl (wpAny_pure ?_))
  refine wpAny_bind (wpAny_rule ?_)
  refine wpAny_bind (wpAny_field he4 rfl (x := old) rfl ?_)
  refine wpAny_bind (wpAny_setField_rec he4 (by simp) fun h5 he5 hs5 => ?_)
  replace hs5 : Heap.SameBut e h4 h5 := hs5
  replace he5 : IsEnum h5 e it ((i : Int) + 1) x := he5
  show wpAny _ _ (Builtin.SmallTypes.ownedTupleHandOut (.ref e) (.ref s.heap.objs.size) >>= _) _ _ { s with heap := h5, toks := tk + 1 }
  refine wpAny_bind ?_
  unfold Builtin.SmallTypes.ownedTupleHandOut
  refine wpAny_bind (wpAny_setField_rec he5 (by simp) fun h6 he6 hs6 => ?_)
  replace hs6 : Heap.SameBut e h5 h6 := hs6
  replace he6 : IsEnumOut h6 e it ((i : Int) + 1) x s.heap.objs.size := he6
  refine wpAny_setField_rec he6 (by simp) fun h7 he7 hs7 => ?_
  replace hs7 : Heap.SameBut e h6 h7 := hs7
  replace he7 : IsEnumOut h7 e it ((i : Int) + 1) x s.heap.objs.size := he7
  refine wpAny_bind (wpAny_letGo (wpAny_pure ⟨_, rfl, hQ x h1 tk h7 hg hs1 he7 ?_ ?_⟩))
  · exact hs7.extBut _ _ (Nat.ne_of_gt hel) (hs6.extBut _ _ (Nat.ne_of_gt hel) (hs5.extBut _ _ (Nat.ne_of_gt hel) ht4))
  · exact fun b o hb q => hs7.extBut b o hb (hs6.extBut b o hb (hs5.extBut b o hb (hk4 b o hb q)))
theorem pyNext_enum {e it : Addr} {i : Nat} {old : Value} {Good : Value → Heap → Tok → Prop} {Q : Option Value → Shared → Prop} (he : IsEnum s.heap e it i old) (hne : e ≠ it)
    (draw : ∀ (Q : Value → Shared → Prop) (E : Value → Shared → Prop), (∀ x h1 tk, Good x h1 tk → Heap.SameBut it s.heap h1 → Q x { s with heap := h1, toks := tk }) → wpAny (model prog w) A.in1 (Builtin.SmallTypes.nextOf (.ref it)) Q E s)
    (hQ : ∀ x h1 tk h', Good x h1 tk → Heap.SameBut it s.heap h1 → IsEnumOut h' e it ((i : Int) + 1) x s.heap.objs.size → h'.get? s.heap.objs.size = some { cls := .type "tuple", data := .seq #[.int i tk, x] } → (∀ b o, b ≠ e → h1.get? b = some o → h'.get? b = some o) →
      Q (some (.ref s.heap.objs.size)) { s with heap := h', toks := tk + 1 }) : wpAny (model prog w) A (pyNext (.ref e)) Q E s := by
  have hT : s.TypeIs (.ref e) "enumerate" := ⟨_, he, rfl⟩
  unfold pyNext
  exact wpAny_bind (wpAny_attempt (wpAny_callSpecial?_slot (name := Str.ofString "__next__") hT PySem.F.slot_enumerate_next
    (wpAny_call_entry PySem.F.slot_enumerate_next hT PySem.F.entry_enumerate_next (enum_next he hne draw fun x h1 tk h' a b c d k => wpAny_pure (hQ x h1 tk h' a b c d k)) (PySem.F.args_enumerate_next_1 _))))
end
end Mine
end
section
set_option genSizeOf false
set_option genSizeOfSpec false
namespace Mine
open PySem PyProof.Rows PyProof.V PySem.SeqAt PySem.Spec
section
variable {w : World} {h₀ : Heap} {os₀ : OsState} {A : Around} {Mt₀ : Addr → Prop} {Mt Mt' Mt'' : Ms} {pw pw' pw'' : List Addr} {p p' p'' p1 : P} {s s' s'' : Shared} {x y v : V} {val b : Value} {hc h h' h4 : Heap} {env cenv : Env} {sc inner : Scope} {me me' me'' : Me} {n : Str} {c a e it I C D : Addr} {mg mb : Str → Option Value}
theorem Inv.keepD (J : Inv h₀ os₀ Mt pw p s) {t : Nat} (hb : ∀ b o, h₀.get? b = some o → s.heap.get? b = some o → h'.get? b = some o) (hk : ∀ b o, dat o → s.heap.get? b = some o → h'.get? b = some o) (hm : ∀ b o, Mt.m b → s.heap.get? b = some o → h'.get? b = some o) (hle : s.toks ≤ t) :
    Inv h₀ os₀ Mt pw p { s with heap := h', toks := t } where
  base := fun b o q => hb b o q (J.base b o q)
  mt := fun a ha => ⟨(J.mt a ha).1, let ⟨o, ho⟩ := (J.mt a ha).2; ⟨o, hm a o ha ho⟩⟩
  pws := J.pws
  pile := J.pile.mono' (fun b o ho hb q => ⟨hb, hk b o ho q⟩) fun x o hx q => hm x o (J.pws x hx) q
  os := J.os
  gens := J.gens
  tk := fun u z q => ⟨(J.tk u z q).1, Nat.lt_of_lt_of_le (J.tk u z q).2 hle⟩
  pos := Nat.lt_of_lt_of_le J.pos hle
theorem Fm.keepD (F : Fm env sc me Mt pw h) (hk : ∀ b o, dat o → h.get? b = some o → h'.get? b = some o) (hm : ∀ b o, Mt.m b → h.get? b = some o → h'.get? b = some o) : Fm env sc me Mt pw h' := by
  have hat : ∀ {x v}, At env h x v → At env h' x v := fun {x v} H => H.kp fun b o hb q => hm b o (by
    rcases hb with rfl | ⟨y, hy⟩
    · exact F.nsMt
    · exact F.cellMt y b hy) q
  refine { kind := F.kind, glob := F.glob, blt := F.blt, names := F.names, ns := ?_, nsMt := F.nsMt, nsPw := F.nsPw, cellIs := F.cellIs, cellAll := fun x c hx => ?_, inj := F.inj, vars := fun x b hx hb => ?_, sep := fun x y bx by' a hx hy ex ey ox oy ax ay => ?_ }
  · obtain ⟨m', hm'⟩ := F.ns
    exact ⟨m', hm'.at' fun o q => hm _ o F.nsMt q⟩
  · obtain ⟨q1, q2, v, o, ho, hd⟩ := F.cellAll x c hx
    exact ⟨q1, q2, v, o, hm c o q1 ho, hd⟩
  · refine ex1_2 (F.vars x b hx hb) fun v hv hr => ?_
    exact ⟨v, hat hv, hr.mono' (fun b o hd hb q => ⟨hb, hk b o hd q⟩) fun a o _ _ ha _ q => ⟨ha, hm a o ha q⟩⟩
  · refine ex1_2 (F.vars x bx hx ex) fun v hv _ => ?_
    refine ex1_2 (F.vars y by' hy ey) fun u hu _ => ?_
    have e1 := (hat hv).det ax
    have e2 := (hat hu).det ay
    subst e1 e2
    exact F.sep x y bx by' a hx hy ex ey ox oy hv hu
theorem Fs.keepD (F : Fs env sc me Mt₀ Mt pw hc h) (hk : ∀ b o, dat o → h.get? b = some o → h'.get? b = some o) (hm : ∀ b o, Mt.m b → h.get? b = some o → h'.get? b = some o) (hx : ∀ b o o', hc.get? b = some o' → h.get? b = some o → h'.get? b = some o) : Fs env sc me Mt₀ Mt pw hc h' where
  fm := F.fm.keepD hk hm
  sub := F.sub
  mt0 := F.mt0
  kc := fun b o q hb => hx b o o q (F.kc b o q hb)
  ex := fun b o q => let ⟨o', q'⟩ := F.ex b o q; ⟨o', hx b o' o q q'⟩
  newL := F.newL
  newC := F.newC
  newO := fun x b a hx' hb ho hat => by
    obtain ⟨u, hu, hr⟩ := F.fm.vars x b hx' hb
    have hat' : At env h' x u := hu.kp fun b' o hb' q => hm b' o (by
      rcases hb' with rfl | ⟨y, hy⟩
      · exact F.fm.nsMt
      · exact F.fm.cellMt y b' hy) q
    have := hat'.det hat
    subst this
    exact F.newO x b a hx' hb ho hu
structure Ek (w : World) (A : Around) (Mt : Ms) (pw : List Addr) (h : Heap) (e it : Addr) (items : List V) (fp : List Addr) (St : Nat → Heap → Prop) : Prop where
  frame : ∀ i h h', St i h → (∀ b ∈ fp, ∀ o, h.get? b = some o → h'.get? b = some o) → St i h'
  draw : ∀ i x (s : Shared), items[i]? = some x → St i s.heap → ∃ Good : Value → Heap → Tok → Prop,
    (∀ (Q : Value → Shared → Prop) (E : Value → Shared → Prop), (∀ v h1 tk, Good v h1 tk → Heap.SameBut it s.heap h1 → Q v { s with heap := h1, toks := tk }) → wpAny (model prog w) A.in1 (Builtin.SmallTypes.nextOf (.ref it)) Q E s) ∧
    (∀ v h1 tk, Good v h1 tk → St (i + 1) h1 ∧ s.toks ≤ tk ∧ (VR Mt pw h x v ∨ ∃ z t, x = .str z ∧ v = .str z t ∧ s.toks ≤ t ∧ t < tk))
  fps : ∀ b ∈ fp, ¬ Mt.m b ∧ ∃ o, h.get? b = some o
  obj : ∀ i h, St i h → ∃ o, h.get? it = some o ∧ ¬ dat o
  mem : it ∈ fp
  out : e ∉ fp
  enM : ¬ Mt.m e
  en : IsEnum h e it 0 .none
  st : St 0 h
theorem not_dat_enum {a1 a2 a3 a4 a5 a6 : Value} : ¬ dat { cls := .type "enumerate", dict := none, data := .fields #[a1, a2, a3, a4, a5, a6], slots := #[] } := not_dat (by simp) (by simp) (by simp) (by simp)
structure EIn (h₀ : Heap) (os₀ : OsState) (env : Env) (sc : Scope) (Mt₀ : Addr → Prop) (Mt : Ms) (pw : List Addr) (hc : Heap) (p : P) (it e : Addr) (St : Nat → Heap → Prop) (h2 : Heap) (items : List V) (ew : List V → Nat → Me → P → Option (Fl × Me × P)) (r : Fl × Me × P)
    (i : Nat) (q : P) (me1 : Me) (old : Value) (M1 : Ms) (pw1 : List Addr) (s' : Shared) : Prop where
  le : i ≤ items.length
  inv : Inv h₀ os₀ M1 pw1 q s'
  fs : Fs env sc me1 Mt₀ M1 pw1 hc s'.heap
  st : St i s'.heap
  en : IsEnum s'.heap e it i old
  iM : ¬ M1.m it
  eM : ¬ M1.m e
  fz : ∀ b o, b ≠ it → b ≠ e → ¬ Mt.m b → h2.get? b = some o → ¬ M1.m b ∧ s'.heap.get? b = some o
  pk : p.isSome = true → pw1 = pw ∧ q.isSome = true
  G : ∀ t z, Mt.G t = some z → M1.G t = some z
  ew : ew (items.drop i) i me1 q = some r
theorem enum_loop {body : List Stmt} {orelse : List Stmt} {bd : Me → P → Option (Fl × Me × P)} (Hb : ∀ {Mt : Ms} {pw : List Addr} me p f me' p', bd me p = some (f, me', p') → ∀ s, Inv h₀ os₀ Mt pw p s → Fs env sc me Mt₀ Mt pw hc s.heap → OkX w h₀ os₀ A env sc Mt₀ hc Mt pw p (execs body env) s f me' p')
    {px py pt : Pos} {k1 : Nat} {xn yn : Str} {items : List V} {fp : List Addr} {St : Nat → Heap → Prop} {f : Fl} {h2 : Heap} (hh : A.handled = none) (ek : Ek w A Mt pw h2 e it items fp St) (hI0 : h₀.get? it = none) (hIc : hc.get? it = none) (he0 : h₀.get? e = none) (hec : hc.get? e = none) (hx : sto sc xn = true) (hy : sto sc yn = true)
    (eq : enumWith bd xn yn items 0 me p = some (f, me', p')) (J : Inv h₀ os₀ Mt pw p s) (F : Fs env sc me Mt₀ Mt pw hc s.heap) (hs2 : s.heap = h2) {R : Result → Shared → Prop}
    (hR : ∀ {M1 : Ms} {pw1 : List Addr} fl s1, Inv h₀ os₀ M1 pw1 p' s1 → Fs env sc me' Mt₀ M1 pw1 hc s1.heap → (∀ b o, b ≠ it → b ≠ e → ¬ Mt.m b → h2.get? b = some o → ¬ M1.m b ∧ s1.heap.get? b = some o) → (p.isSome = true → pw1 = pw ∧ p'.isSome = true) → (∀ t z, Mt.G t = some z → M1.G t = some z) → FlR M1 pw1 s1.heap f fl → R (.ok fl) s1) :
    codeAny (model prog w) A (.forLoop (.Tuple [.Name xn px, .Name yn py] k1 pt) (.ref e) body orelse env) R s := by
  have hite : it ≠ e := fun q => ek.out (q ▸ ek.mem)
  refine ex1_2 (ek.obj 0 _ ek.st) fun o0 ho0 hd0 => ?_
  refine codeAny_forLoop_any
    (fun k s' => ∃ i q me1 old M1 pw1, k = items.length + 1 - i ∧ EIn h₀ os₀ env sc Mt₀ Mt pw hc p it e St h2 items (fun l i m q => enumWith bd xn yn l i m q) (f, me', p') i q me1 old M1 pw1 s') ?_ (items.length + 1)
    ⟨0, p, me, .none, Mt, pw, rfl, Nat.zero_le _, J, F, hs2 ▸ ek.st, hs2 ▸ ek.en, (ek.fps it ek.mem).1, ek.enM, fun b o _ _ hb eq => ⟨hb, hs2 ▸ eq⟩, fun h => ⟨rfl, h⟩, fun _ _ e => e, eq⟩
  rintro k s' ⟨i, q, me1, old, M1, pw1, rfl, hi, J1, F1, hst1, hen1, hIM1, heM1, hfz, hpw, hG1, hlw⟩
  refine ex1_2 (ek.obj i _ hst1) fun oI hoI hdI => ?_
  by_cases hge : items.length ≤ i
  · exfalso
    rw [List.drop_eq_nil_of_le hge] at hlw
    unfold enumWith at hlw
    exact nn hlw
  have hlt : i < items.length := Nat.lt_of_not_le hge
  have hit : items[i]? = some items[i] := by simp [hlt]
  refine ex1_2 (ek.draw i _ s' hit hst1) fun Good hdraw hgood => ?_
  have hpw0 : pw1 = pw ∨ pw = tabs := by
    cases hp : p with
    | some l => exact .inl (hpw (by rw [hp]; rfl)).1
    | none => exact .inr (by have := J.pile.2; rw [hp] at this; exact this)
  have hfp1 : ∀ b ∈ fp, ¬ M1.m b := fun b hb => by
    by_cases z : b = it
    · subst z; exact hIM1
    · obtain ⟨h1, o, ho⟩ := ek.fps b hb
      exact (hfz b o z (fun z => ek.out (z ▸ hb)) h1 ho).1
  refine pyNext_enum hen1 hite.symm hdraw fun v h1 tk h' hg hsb1 hout hT hk1 => ?_
  refine an3 (hgood v h1 tk hg) fun hst2 hle hv => ?_
  have hkeep : ∀ b o, b ≠ it → b ≠ e → s'.heap.get? b = some o → h'.get? b = some o := fun b o hb1 hb2 eq => hk1 b o hb2 ((hsb1.2 b hb1).trans eq)
  have hTn : s'.heap.get? s'.heap.objs.size = none := fresh_size s'.heap
  have ndE : ∀ b o, dat o → s'.heap.get? b = some o → b ≠ it ∧ b ≠ e := fun b o hd eq => ⟨fun z => by subst z; rw [hoI] at eq; cases eq; exact hdI hd, fun z => by
    subst z
    have := hen1.symm.trans eq
    cases this
    exact not_dat_enum hd⟩
  have J3 : Inv h₀ os₀ M1 pw1 q { s' with heap := h', toks := tk } := J1.keepD (fun b o q1 q2 => hkeep b o (fun z => by subst z; rw [hI0] at q1; cases q1) (fun z => by subst z; rw [he0] at q1; cases q1) q2)
    (fun b o hd eq => hkeep b o (ndE b o hd eq).1 (ndE b o hd eq).2 eq) (fun b o hb eq => hkeep b o (fun z => hIM1 (z ▸ hb)) (fun z => heM1 (z ▸ hb)) eq) hle
  have F3 : Fs env sc me1 Mt₀ M1 pw1 hc h' := F1.keepD (fun b o hd eq => hkeep b o (ndE b o hd eq).1 (ndE b o hd eq).2 eq) (fun b o hb eq => hkeep b o (fun z => hIM1 (z ▸ hb)) (fun z => heM1 (z ▸ hb)) eq)
    (fun b o o' q1 q2 => hkeep b o (fun z => by subst z; rw [hIc] at q1; cases q1) (fun z => by subst z; rw [hec] at q1; cases q1) q2)
  have hfz3 : ∀ b o, b ≠ it → b ≠ e → ¬ Mt.m b → h2.get? b = some o → ¬ M1.m b ∧ h'.get? b = some o := fun b o hb1 hb2 hb eq => by
    refine an2 (hfz b o hb1 hb2 hb eq) fun q1 q2 => ?_
    exact ⟨q1, hkeep b o hb1 hb2 q2⟩
  have step : ∃ M2 : Ms, Inv h₀ os₀ M2 pw1 q { s' with heap := h', toks := tk + 1 } ∧ M2.m = M1.m ∧ (∀ t z, M1.G t = some z → M2.G t = some z) ∧ VR M2 pw1 h' items[i] v := by
    rcases hv with hv | ⟨z, t, hx1, rfl, q1, q2⟩
    · refine ⟨M1, J3.tok (t := tk + 1) (Nat.le_succ _), rfl, fun _ _ e => e, ?_⟩
      have hv' : VR Mt pw1 h2 items[i] v := by
        rcases hpw0 with rfl | hp0
        · exact hv
        · subst hp0; exact hv.repw
      exact hv'.mono' (fun b o hd hb eq => hfz3 b o (fun z => by subst z; rw [ho0] at eq; cases eq; exact hd0 hd) (fun z => by
        subst z
        have := ek.en.symm.trans eq
        cases this
        exact not_dat_enum hd) hb eq) hG1
    · rw [hx1]
      have J4 : Inv h₀ os₀ (M1.tok t z) pw1 q { { s' with heap := h', toks := s'.toks } with heap := h', toks := tk + 1 } := (J1.keepD (t := s'.toks) (fun b o q1 q2 => hkeep b o (fun z => by subst z; rw [hI0] at q1; cases q1) (fun z => by subst z; rw [he0] at q1; cases q1) q2)
        (fun b o hd eq => hkeep b o (ndE b o hd eq).1 (ndE b o hd eq).2 eq) (fun b o hb eq => hkeep b o (fun z => hIM1 (z ▸ hb)) (fun z => heM1 (z ▸ hb)) eq) (Nat.le_refl _)).mark (fun _ _ e => e) q1 (Nat.lt_succ_of_lt q2)
      exact ⟨M1.tok t z, J4, rfl, Ms.tok_old (J1.mark_none q1), .str _ _ Ms.tok_self⟩
  refine ex1_4 (step) fun M2 J4 hm2 hG2 Rv => ?_
  have F4 : Fs env sc me1 Mt₀ M2 pw1 hc h' := F3.marks hm2 hG2 J3.pws
  have hst3 : St (i + 1) h' := ek.frame _ _ _ hst2 fun b hb o eq => hk1 b o (fun z => ek.out (z ▸ hb)) eq
  refine wpAny_letOwnedTupleGo_enum hout fun h5 hen5 hs5 => ?_
  replace hs5 : Heap.SameBut e h' h5 := hs5
  have heM2 : ¬ M2.m e := by rw [hm2]; exact heM1
  have hdE : ∀ b o, dat o → h'.get? b = some o → b ≠ e := fun b o hd eq z => by
    subst z
    have := hout.symm.trans eq
    cases this
    exact not_dat_enum hd
  have hk5 : ∀ b o, b ≠ e → h'.get? b = some o → h5.get? b = some o := fun b o hb eq => (hs5.2 b hb).trans eq
  have J5 : Inv h₀ os₀ M2 pw1 q { { s' with heap := h', toks := tk + 1 } with heap := h5, toks := tk + 1 } := J4.keepD (fun b o q1 q2 => hk5 b o (fun z => by subst z; rw [he0] at q1; cases q1) q2) (fun b o hd eq => hk5 b o (hdE b o hd eq) eq) (fun b o hb eq => hk5 b o (fun z => heM2 (z ▸ hb)) eq) (Nat.le_refl _)
  have F5 : Fs env sc me1 Mt₀ M2 pw1 hc h5 := F4.keepD (fun b o hd eq => hk5 b o (hdE b o hd eq) eq) (fun b o hb eq => hk5 b o (fun z => heM2 (z ▸ hb)) eq) (fun b o o' q1 q2 => hk5 b o (fun z => by subst z; rw [hec] at q1; cases q1) q2)
  have hTe : s'.heap.objs.size ≠ e := Nat.ne_of_gt (Heap.lt_size hen1)
  have hT5 := hk5 _ _ hTe hT
  have hst5 : St (i + 1) h5 := ek.frame _ _ _ hst3 fun b hb o eq => hk5 b o (fun z => ek.out (z ▸ hb)) eq
  have Rv5 : VR M2 pw1 h5 items[i] v := Rv.mono' fun b o hd hb eq => ⟨hb, hk5 b o (hdE b o hd eq) eq⟩
  refine wpAny_assign_Tuple hh ⟨_, hT5, rfl, _, rfl⟩ rfl rfl fun h6 hext => ?_
  have hk6 : ∀ b o, h5.get? b = some o → h6.get? b = some o := fun b o e => hext b o (fun z => by subst z; rw [fresh_size] at e; cases e) e
  have J6 : Inv h₀ os₀ M2 pw1 q { s' with heap := h6, toks := tk + 1 } := J5.keeps (t := tk + 1) hk6
  have A6 := Aft.of_kp (s := { s' with heap := h5, toks := tk + 1 }) (s' := { s' with heap := h6, toks := tk + 1 }) J5 F5 J6 (Kp.of_keeps hk6)
  have hen6 : IsEnum h6 e it ((i : Int) + 1) v := hk6 _ _ hen5
  have hst6 : St (i + 1) h6 := ek.frame _ _ _ hst5 fun b hb o eq => hk6 b o eq
  refine wpAny_bind (wpAny_holding (wpAny_assign_Name (store_put J6 A6.fs hx (.int (i : Int) _) fun s7 A7 => ?_)))
  refine wpAny_bind (wpAny_holding (wpAny_assign_Name (store_put A7.inv A7.fs hy ((Rv5.mono fun b o hb e => ⟨hb, hk6 b o e⟩).mono A7.frz) fun s8 A8 => ?_)))
  refine wpAny_pure ?_
  have hdr : items.drop i = items[i] :: items.drop (i + 1) := List.drop_eq_getElem_cons hlt
  rw [hdr] at hlw
  unfold enumWith at hlw
  refine obind3 hlw fun f1 me2 q2 g1 e1 => ?_
  have A78 := A7.trans A8
  refine Hb _ q f1 me2 q2 g1 s8 A8.inv A8.fs _ _ fun {M5 pw5} fl s9 A9 R9 => ?_
  have A79 := A78.trans A9
  have hfp2 : ∀ b ∈ fp, ¬ M2.m b := fun b hb => by rw [hm2]; exact hfp1 b hb
  have hst9 : St (i + 1) s9.heap := ek.frame _ _ _ hst6 fun b hb o eq => (A79.frz b o (hfp2 b hb) eq).2
  refine an2 (A79.frz e _ heM2 hen6) fun heM5 hen9 => ?_
  refine ex1_2 (ek.obj _ _ hst6) fun oI6 hoI6 _ => ?_
  have hIM5 : ¬ M5.m it := (A79.frz it _ (hfp2 it ek.mem) hoI6).1
  have hfz9 : ∀ b o, b ≠ it → b ≠ e → ¬ Mt.m b → h2.get? b = some o → ¬ M5.m b ∧ s9.heap.get? b = some o := fun b o hb1 hb2 hb eq => by
    refine an2 (hfz3 b o hb1 hb2 hb eq) fun q1 q2 => ?_
    exact A79.frz b o (by rw [hm2]; exact q1) (hk6 b o (hk5 b o hb2 q2))
  have hpw9 : p.isSome = true → pw5 = pw ∧ q2.isSome = true := fun h => by
    refine an2 (hpw h) fun z1 z2 => ?_
    refine an2 (A79.pwk z2) fun z3 z4 => ?_
    exact ⟨z3.trans z1, z4⟩
  have hG9 : ∀ t z, Mt.G t = some z → M5.G t = some z := fun t z e => A79.G t z (hG2 t z (hG1 t z e))
  dsimp only at e1
  cases f1 with
  | next =>
    cases fl with
    | next =>
      have hc1 : (((i + 1 : Nat) : Int)) = (i : Int) + 1 := by push_cast; rfl
      exact ⟨items.length + 1 - (i + 1), by omega, i + 1, q2, me2, v, M5, pw5, rfl, hlt, A9.inv, A9.fs, hst9, by rw [hc1]; exact hen9, hIM5, heM5, hfz9, hpw9, hG9, e1⟩
    | _ => exact R9.elim
  | brk => exact nn e1
  | ret u =>
    cases e1
    cases fl with
    | ret val => exact hR (.ret val) s9 A9.inv A9.fs hfz9 hpw9 hG9 R9
    | _ => exact R9.elim
theorem enum_ok {body orelse : List Stmt} {bd : Me → P → Option (Fl × Me × P)} {ev : Expr → P → Option (V × P)} (T : Tp h₀ mg mb) (H : ∀ {pw}, EvOk w h₀ os₀ A pw env sc me ev)
    (Hb : ∀ {Mt : Ms} {pw : List Addr} me p f me' p', bd me p = some (f, me', p') → ∀ s, Inv h₀ os₀ Mt pw p s → Fs env sc me Mt₀ Mt pw hc s.heap → OkX w h₀ os₀ A env sc Mt₀ hc Mt pw p (execs body env) s f me' p')
    {arg : Expr} {px py pt fp cp pos : Pos} {k1 : Nat} {xn yn : Str} {items : List V} {f : Fl} (hh : A.handled = none) (hg : glo sc "enumerate" = true) (hst : starred arg = false) (hx : sto sc xn = true) (hy : sto sc yn = true)
    (e1 : ev arg p = some (v, p1)) (e2 : iterV v = some items) (e3 : enumWith bd xn yn items 0 me p1 = some (f, me', p'))
    (J : Inv h₀ os₀ Mt pw p s) (F : Fs env sc me Mt₀ Mt pw hc s.heap) : OkX w h₀ os₀ A env sc Mt₀ hc Mt pw p (exec (.For (.Tuple [.Name xn px, .Name yn py] k1 pt) (.Call (.Name "enumerate" fp) [arg] [] cp) body orelse pos) env) s f me' p' := by
  intro E Q hQ
  refine wpAny_For ?_ (folded rfl)
  refine wpAny_Call_NameR (global_name T J F.fm hg (by decide) (.inr T.enum) ?_)
  refine callWith_machine (fun a h => by cases h) (by rw [back_one hst]; rfl) ?_
  refine wpAny_items_cons ?_ (not_starred hst)
  refine H arg p v p1 e1 s J F.fm E _ fun {M1} val s1 J1 K1 R1 => ?_
  refine wpAny_items_nil ?_
  have A1 := Aft.of_kp J F J1 K1
  have fr1 : s1.heap.get? (s1.heap.objs.size + 1) = none := by
    cases q : s1.heap.get? (s1.heap.objs.size + 1) with
    | none => rfl
    | some o => exact absurd (Heap.lt_size q) (Nat.not_lt.mpr (Nat.le_succ _))
  have fr0 := fresh_size s1.heap
  have h0n : ∀ b, s1.heap.get? b = none → h₀.get? b = none := fun b hb => by
    cases q : h₀.get? b with
    | none => rfl
    | some o => rw [J1.base b o q] at hb; cases hb
  have hcn : ∀ b, s1.heap.get? b = none → hc.get? b = none := fun b hb => by
    cases q : hc.get? b with
    | none => rfl
    | some o => obtain ⟨o', e'⟩ := A1.fs.ex b o q; rw [hb] at e'; exact nn e'
  have fin : ∀ (h' : Heap) (St : Nat → Heap → Prop) (fps : List Addr), Ek w A M1 pw h' (s1.heap.objs.size + 1) s1.heap.objs.size items fps St → (∀ b o, s1.heap.get? b = some o → h'.get? b = some o) →
      wpAny (model prog w) A (pyIter (.ref (s1.heap.objs.size + 1))) (fun it s₂ => codeAny (model prog w) A (.forLoop (.Tuple [.Name xn px, .Name yn py] k1 pt) it body orelse env) (fun r s' => match r with | .ok f => Q f s' | .error e => cameBackBy (model prog w) A env E e s') s₂) E { s1 with heap := h' } := fun h' St fps ek hk => by
    refine wpAny_pyIter_enum ek.en ?_
    have J2 : Inv h₀ os₀ M1 pw p1 { s1 with heap := h' } := J1.keeps (t := s1.toks) hk
    have A2 := Aft.of_kp (s' := { s1 with heap := h' }) J1 A1.fs J2 (Kp.of_keeps hk)
    refine enum_loop Hb hh ek (h0n _ fr0) (hcn _ fr0) (h0n _ fr1) (hcn _ fr1) hx hy e3 J2 A2.fs rfl fun {M3 pw3} fl s3 J3 F3 hfz hpw hG R3 => ?_
    refine hQ fl s3 ⟨J3, F3, fun b o hb eq => ?_, fun h => ?_, fun t z e => hG t z (K1.G t z e)⟩ R3
    · refine an2 (A1.frz b o hb eq) fun q1 q2 => ?_
      exact hfz b o (fun z => by subst z; rw [fr0] at q2; cases q2) (fun z => by subst z; rw [fr1] at q2; cases q2) q1 (hk b o q2)
    · refine an2 (A1.pwk h) fun z1 z2 => ?_
      refine an2 (hpw z2) fun z3 z4 => ?_
      exact ⟨z3.trans z1, z4⟩
  unfold iterV at e2
  split at e2
  · rename_i xs
    cases e2
    refine ex3_5 (R1.lst') fun a₁ vs n q_423 g1 g2 g3 g4 => ?_
    subst q_423
    refine call_enumerate_list ⟨_, g2, rfl, n, rfl⟩ fun h' hen hit hsz hk => ?_
    have hne : a₁ ≠ s1.heap.objs.size := fun q => by subst q; rw [fr0] at g2; exact nn g2
    have hne2 : s1.heap.objs.size + 1 ≠ a₁ := fun q => by rw [q] at fr1; rw [fr1] at g2; exact nn g2
    refine fin h' (fun i h => h.IsListIter s1.heap.objs.size a₁ i ∧ h.IsList a₁ vs) [s1.heap.objs.size, a₁] ?_ hk
    refine { frame := fun i h h' st hk => ⟨st.1.at fun o e => hk _ (by simp) o e, st.2.at fun o e => hk _ (by simp) o e⟩, draw := fun i x s hx hst => ?_, fps := fun b hb => ?_, obj := fun i h st => ?_, mem := by simp, out := ?_, enM := J1.fresh fr1, en := hen, st := ⟨hit, _, hk _ _ g2, rfl, n, rfl⟩ }
    · refine ⟨fun v h1 tk => vs[i]? = some v ∧ h1.IsListIter s1.heap.objs.size a₁ (i + 1) ∧ h1.IsList a₁ vs ∧ tk = s.toks, fun Q E hQ => ?_, fun v h1 tk hg => ⟨⟨hg.2.1, hg.2.2.1⟩, by rw [hg.2.2.2]; exact Nat.le_refl _, .inl ?_⟩⟩
      · have hi : i < vs.size := by rw [g3]; exact (List.getElem?_eq_some_iff.mp hx).1
        exact wpAny_nextOf_list_item hst.1 hst.2 (x := vs[i]) (by simp [hi]) fun h' a b => hQ _ h' s.toks ⟨by simp [hi], a, hst.2.extBut b.extBut hne, rfl⟩ b
      · exact (g4 i x v hx hg.1).mono fun b o hb e => ⟨hb, hk b o e⟩
    · simp only [List.mem_cons, List.not_mem_nil, or_false] at hb
      rcases hb with rfl | rfl
      · refine ex1_2 (hit) fun o ho _ => ?_
        exact ⟨J1.fresh fr0, o, ho⟩
      · exact ⟨g1, _, hk _ _ g2⟩
    · refine an2 (st) fun t_570 _ => ?_
      refine ex1_3 (t_570) fun o ho hc' _ => ?_
      exact ⟨o, ho, not_dat (by rw [hc']; simp) (by rw [hc']; simp) (by rw [hc']; simp) (by rw [hc']; simp)⟩
    · simp only [List.mem_cons, List.not_mem_nil, or_false, not_or]
      exact ⟨Nat.succ_ne_self _, hne2⟩
  · rename_i z
    cases e2
    refine ex1_2 (R1.str') fun t q_631 ht => ?_
    subst q_631
    refine call_enumerate_str fun h' hen hit hsz hk => ?_
    refine fin h' (fun i h => h.IsStrIter s1.heap.objs.size (strIterType z) z t i) [s1.heap.objs.size] ?_ hk
    refine { frame := fun i h h' st hk => (let ⟨o, ho, r⟩ := st; ⟨o, hk _ (by simp) o ho, r⟩), draw := fun i x s hx hst => ?_, fps := fun b hb => ?_, obj := fun i h st => ?_, mem := by simp, out := by simp, enM := J1.fresh fr1, en := hen, st := hit }
    · have : ∃ c, z.cps[i]? = some c ∧ x = .str ⟨#[c]⟩ := by
        simp only [charsOf, List.map_map, List.getElem?_map, Option.map_eq_some_iff] at hx
        refine ex1_2 (hx) fun c hc q_692 => ?_
        subst q_692
        exact ⟨c, by simpa using hc, rfl⟩
      refine ex1_2 (this) fun c hc' q_712 => ?_
      subst q_712
      refine ⟨fun v h1 tk => v = .str ⟨#[c]⟩ s.toks ∧ h1.IsStrIter s1.heap.objs.size (strIterType z) z t (i + 1) ∧ tk = s.toks + 1, fun Q E hQ => ?_, fun v h1 tk hg => ⟨hg.2.1, by rw [hg.2.2]; exact Nat.le_succ _, .inr ⟨_, s.toks, rfl, hg.1, Nat.le_refl _, by rw [hg.2.2]; exact Nat.lt_succ_self _⟩⟩⟩
      unfold strIterType at hst hQ
      split at hst
      · rename_i hasc
        rw [if_pos hasc] at hQ
        exact wpAny_nextOf_ascii_item hst hc' fun h' a b => hQ _ h' _ ⟨rfl, a, rfl⟩ b
      · rename_i hasc
        rw [if_neg hasc] at hQ
        exact wpAny_nextOf_wide_item hst hc' fun h' a b => hQ _ h' _ ⟨rfl, a, rfl⟩ b
    · have : b = s1.heap.objs.size := by simpa using hb
      subst this
      refine ex1_2 (hit) fun o ho _ => ?_
      exact ⟨J1.fresh fr0, o, ho⟩
    · refine ex1_3 (st) fun o ho hc' _ => ?_
      refine ⟨o, ho, ?_⟩
      unfold strIterType at hc'
      split at hc' <;> exact not_dat (by rw [hc']; simp) (by rw [hc']; simp) (by rw [hc']; simp) (by rw [hc']; simp)
  · exact nn e2
end
end Mine
end
section
set_option genSizeOf false
set_option genSizeOfSpec false
namespace Mine
open PySem PyProof.Rows PyProof.V PySem.SeqAt PySem.Spec
section
variable {w : World} {h₀ : Heap} {os₀ : OsState} {A : Around} {Mt₀ : Addr → Prop} {Mt Mt' Mt'' : Ms} {pw pw' pw'' : List Addr} {p p' p'' p1 : P} {s s' s'' : Shared} {x y v : V} {val b : Value} {hc h h' h4 : Heap} {env cenv : Env} {sc inner : Scope} {me me' me'' : Me} {n : Str} {c a C D : Addr} {mg mb : Str → Option Value}
theorem tupV_eq {v : V} {l : List V} (h : tupV v = some l) : v = .tup l := by
  cases v with
  | tup j => apply sm1 (show some j = some l from h); rfl
  | _ => exact nn h
theorem lstV_eq {v : V} {l : List V} (h : lstV v = some l) : v = .lst l := by
  cases v with
  | lst j => apply sm1 (show some j = some l from h); rfl
  | _ => exact nn h
theorem compStore_ok {J' : I} {k : Nat} (T : Tp h₀ mg mb) (HE : ∀ A pw env sc me, Rm A k → EvOk w h₀ os₀ A pw env sc me (J'.ev sc me)) (HT : ∀ A pw env sc me, Rm A k → TrOk w h₀ os₀ A pw env sc me (J'.tr sc me)) (R : Rm A k)
    {elt it : Expr} {ifs : List Expr} {px lp xp pos : Pos} {y : Str} {l : List V} (hs : sto sc n = true) (e : compV J' sc me elt y it ifs inner p = some (l, p')) (J : Inv h₀ os₀ Mt pw p s) (F : Fs env sc me Mt₀ Mt pw hc s.heap) :
    OkX w h₀ os₀ A env sc Mt₀ hc Mt pw p (exec (.Assign [.Name n xp] (.ListComp elt [⟨.Name y px, it, ifs, 0⟩] inner lp) pos) env) s .next (put me n false (.lst l)) p' := by
  unfold compV at e
  refine oif e fun hc e => ?_
  rw [Bool.and_eq_true, Bool.and_eq_true] at hc
  refine obind2 e fun items p1 h1 e1 => ?_
  refine obind2 e1 fun l1 p2 h2 e2 => ?_
  refine omap e2 fun l' h3 e3 => ?_
  rw [(okL_eq h3).1] at e3
  apply pr2 e3
  have Ho : ∀ {pw}, EvOk w h₀ os₀ A pw env sc me (J'.ev sc me) := fun {pw} => HE A pw env sc me R
  have hsw : ∃ b, swapsWith (.ListComp elt [⟨.Name y px, it, ifs, 0⟩] inner lp) (some (.Name n xp)) pos.line env = pure b := ⟨_, rfl⟩
  refine ex1_1 (hsw) fun b hb => ?_
  cases b with
  | true => exact compAssign_ok (ev := fun m e q => J'.ev inner m e q) (tr := fun m e q => J'.tr inner m e q) T Ho (fun {pw} cenv me => HE A pw cenv inner me R) (fun {pw} cenv me => HT A pw cenv inner me R) R.1 hs hb hc.1.1 hc.1.2 hc.2 h1 h2 J F
  | false =>
    intro E Q hQ
    refine wpAny_Assign_Name (comp_ok (ev := fun m e q => J'.ev inner m e q) (tr := fun m e q => J'.tr inner m e q) T Ho (fun cenv me => HE A pw cenv inner me R) (fun cenv me => HT A pw cenv inner me R) R.1 hc.1.1 hc.1.2 hc.2 h1 h2 J F.fm E _ fun val s1 J1 K1 R1 => ?_) hb
    have A1 := Aft.of_kp J F J1 K1
    exact store_put J1 A1.fs hs R1 fun s2 A2 => hQ .next s2 (A1.trans A2) trivial
theorem for_ex {J' : I} {k : Nat} (T : Tp h₀ mg mb) (XA : AccOk w h₀ os₀) (HE : ∀ A pw env sc me, Rm A k → EvOk w h₀ os₀ A pw env sc me (J'.ev sc me)) (HT : ∀ A pw env sc me, Rm A k → TrOk w h₀ os₀ A pw env sc me (J'.tr sc me))
    (HS : ∀ A env sc Mt₀ hc, Rm A k → ExsOk w h₀ os₀ A env sc Mt₀ hc (J'.exs sc)) (R : Rm A (k + 1)) {t it : Expr} {b o : List Stmt} {pos : Pos} {f : Fl} (he : exFor J' sc me t it b o p = some (f, me', p'))
    (J : Inv h₀ os₀ Mt pw p s) (F : Fs env sc me Mt₀ Mt pw hc s.heap) : OkX w h₀ os₀ A env sc Mt₀ hc Mt pw p (exec (.For t it b o pos) env) s f me' p' := by
  have Rn := R.less (Nat.le_succ k)
  have H : ∀ {pw}, EvOk w h₀ os₀ A pw env sc me (J'.ev sc me) := fun {pw} => HE A pw env sc me Rn
  have HS' := fun {Mt pw} => @HS A env sc Mt₀ hc Rn Mt pw
  unfold exFor at he
  cases ht : asName t with
  | some xn =>
    rw [ht] at he
    refine ex1_1 (asName_eq ht) fun px h0 => ?_
    rw [h0]
    refine oif he fun hx he => ?_
    rw [Bool.and_eq_true] at hx
    refine obind2 he fun items p1 h1 e1 => ?_
    cases o with
    | nil => exact for_ok (bd := fun m q => J'.exs sc m _ q) T H (fun {Mt pw} me p f me' p' e s J F => HS' me _ p f me' p' e s J F) R.1 hx.2 h1 e1 J F
    | cons _ _ => exact nf hx.1
  | none =>
    rw [ht] at he
    refine obind2 he fun ta tb h1 hA => ?_
    refine obind hA fun xn h2 hB => ?_
    refine obind hB fun yn h3 hC => ?_
    refine obind3 hC fun cf args cp h4 hD => ?_
    refine obind hD fun fn h5 hE => ?_
    refine obind hE fun a h6 he => ?_
    refine oif he fun hx he => ?_
    refine ex2_1 (asPair_eq h1) fun k1 pt g1 => ?_
    refine ex1_1 (asName_eq h2) fun px g2 => ?_
    refine ex1_1 (asName_eq h3) fun py g3 => ?_
    refine ex1_1 (asName_eq h5) fun fp g5 => ?_
    rw [g1, show ta = _ from g2, show tb = _ from g3, asCall_eq h4, show cf = _ from g5, show args = _ from one_eq h6, hx.1]
    refine obind2 he fun v p1 h7 e1 => ?_
    refine obind e1 fun l h8 e2 => ?_
    refine obind e2 fun l' h9 e3 => ?_
    rw [(okL_eq h9).1] at e3
    exact enum_ok (bd := fun m q => J'.exs sc m _ q) T H (fun {Mt pw} me p f me' p' e s J F => HS' me _ p f me' p' e s J F) R.1 (by rw [← hx.1]; exact hx.2.1) hx.2.2.2.2 hx.2.2.1 hx.2.2.2.1 h7 h8 e3 J F
theorem aug_ex {J' : I} (H : ∀ {pw}, EvOk w h₀ os₀ A pw env sc me (J'.ev sc me)) {t e : Expr} {op : Operator} {pos : Pos} {f : Fl} (he : exAug J' sc me t op e p = some (f, me', p'))
    (J : Inv h₀ os₀ Mt pw p s) (F : Fs env sc me Mt₀ Mt pw hc s.heap) : OkX w h₀ os₀ A env sc Mt₀ hc Mt pw p (exec (.AugAssign t op e pos) env) s f me' p' := by
  unfold exAug at he
  refine oif he fun ho he => ?_
  refine obind he fun xn h0 he => ?_
  refine ex1_1 (asName_eq h0) fun px g0 => ?_
  refine oif he fun hx he => ?_
  rw [Bool.and_eq_true] at hx
  refine obind he fun a h1 e1 => ?_
  refine obind2 e1 fun b p1 h2 e2 => ?_
  refine obind e2 fun i h3 e3 => ?_
  refine omap e3 fun j h4 e4 => ?_
  apply pr3 e4
  rw [g0, ho]
  exact aug_ok H hx.1 (by rw [h1, intV_eq h3]) (by rw [h2, show b = _ from intV_eq h4]) J F
theorem plain_ex {J' : I} (H : ∀ {pw}, EvOk w h₀ os₀ A pw env sc me (J'.ev sc me)) {nx : Str} {xp pos : Pos} {e : Expr} {f : Fl} (hx : sto sc nx = true) (he : exPlain J' sc me nx e p = some (f, me', p'))
    (J : Inv h₀ os₀ Mt pw p s) (F : Fs env sc me Mt₀ Mt pw hc s.heap) : OkX w h₀ os₀ A env sc Mt₀ hc Mt pw p (exec (.Assign [.Name nx xp] e pos) env) s f me' p' := by
  unfold exPlain at he
  refine oifn he fun hcm he => ?_
  refine omap2 he fun v p1 h1 e1 => ?_
  apply pr3 e1
  exact assign_ok H hx (swaps_plain (Bool.eq_false_iff.mpr hcm)) h1 J F
theorem asgC_ex {J' : I} {k : Nat} (T : Tp h₀ mg mb) (XA : AccOk w h₀ os₀) (HE : ∀ A pw env sc me, Rm A k → EvOk w h₀ os₀ A pw env sc me (J'.ev sc me)) (HT : ∀ A pw env sc me, Rm A k → TrOk w h₀ os₀ A pw env sc me (J'.tr sc me))
    (HS : ∀ A env sc Mt₀ hc, Rm A k → ExsOk w h₀ os₀ A env sc Mt₀ hc (J'.exs sc)) (R : Rm A (k + 1)) {nx fn : Str} {xp fp cp pos : Pos} {args : List Expr} {f : Fl} (hx : sto sc nx = true) (he : exAsgC J' sc me nx fn args (.Call (.Name fn fp) args [] cp) p = some (f, me', p'))
    (J : Inv h₀ os₀ Mt pw p s) (F : Fs env sc me Mt₀ Mt pw hc s.heap) : OkX w h₀ os₀ A env sc Mt₀ hc Mt pw p (exec (.Assign [.Name nx xp] (.Call (.Name fn fp) args [] cp) pos) env) s f me' p' := by
  have Rn := R.less (Nat.le_succ k)
  have H : ∀ {pw}, EvOk w h₀ os₀ A pw env sc me (J'.ev sc me) := fun {pw} => HE A pw env sc me Rn
  unfold exAsgC at he
  by_cases hn : args.isEmpty = true
  · rw [if_pos hn] at he
    cases args with
    | cons _ _ => exact nf hn
    | nil =>
      unfold exMade at he
      refine oif he fun hf he => ?_
      rw [hf.1]
      cases p with
      | none =>
        apply sm3 he
        exact pileAssign_ok XA R.1 (R.less (by lia)) hx (by rw [← hf.1]; exact hf.2) J F
      | some l => exact nn he
  · rw [if_neg hn] at he
    cases ha : (one? args).bind asName with
    | none => rw [ha] at he; exact plain_ex H hx he J F
    | some y =>
      rw [ha] at he
      refine obind ha fun a h1 h2 => ?_
      refine ex1_1 (asName_eq h2) fun yp g => ?_
      by_cases hf : fn = ("list" : Str)
      · have he : (if fn = ("list" : Str) then exCopy sc me nx fn y p else _) = some (f, me', p') := he
        rw [if_pos hf] at he
        unfold exCopy at he
        refine oif he fun hg he => ?_
        rw [Bool.and_eq_true] at hg
        refine obind he fun v h1' e1 => ?_
        refine obind e1 fun z hz e2 => ?_
        refine omap e2 fun l h2 e3 => ?_
        apply pr3 e3
        rw [show args = _ from one_eq h1, g]
        exact listCopy_ok T R.1 hx hf hg.1 (by simpa using hg.2) (by rw [h1', strOf_eq hz]) h2 J F
      · have he : (if fn = ("list" : Str) then _ else exPlain J' sc me nx (.Call (.Name fn fp) args [] cp) p) = some (f, me', p') := he
        rw [if_neg hf] at he
        exact plain_ex H hx he J F
theorem asg_ex {J' : I} {k : Nat} (T : Tp h₀ mg mb) (XA : AccOk w h₀ os₀) (HE : ∀ A pw env sc me, Rm A k → EvOk w h₀ os₀ A pw env sc me (J'.ev sc me)) (HT : ∀ A pw env sc me, Rm A k → TrOk w h₀ os₀ A pw env sc me (J'.tr sc me))
    (HS : ∀ A env sc Mt₀ hc, Rm A k → ExsOk w h₀ os₀ A env sc Mt₀ hc (J'.exs sc)) (R : Rm A (k + 1)) {nx : Str} {xp pos : Pos} {e : Expr} {f : Fl} (hx : sto sc nx = true) (he : exAsg J' sc me nx e p = some (f, me', p'))
    (J : Inv h₀ os₀ Mt pw p s) (F : Fs env sc me Mt₀ Mt pw hc s.heap) : OkX w h₀ os₀ A env sc Mt₀ hc Mt pw p (exec (.Assign [.Name nx xp] e pos) env) s f me' p' := by
  have Rn := R.less (Nat.le_succ k)
  have H : ∀ {pw}, EvOk w h₀ os₀ A pw env sc me (J'.ev sc me) := fun {pw} => HE A pw env sc me Rn
  unfold exAsg at he
  cases hl : asLst e with
  | some es =>
    rw [hl] at he
    refine ex1_1 (asLst_eq hl) fun q g => ?_
    rw [g]
    refine obind2 he fun xs p1 h1 e1 => ?_
    refine omap e1 fun l h2 e2 => ?_
    apply pr3 e2
    exact listAssign_ok H hx h1 h2 J F
  | none =>
    rw [hl] at he
    cases hc0 : asLC e with
    | some c =>
      have he : (match asLC e with | some c => (one? c.2.1).bind fun g => exAsgL J' sc me nx c.1 g c.2.2 p | none => _) = some (f, me', p') := he
      rw [hc0] at he
      refine ex1_1 (asLC_eq hc0) fun q g => ?_
      rw [g]
      refine obind he fun gen hg he => ?_
      rw [one_eq hg]
      unfold exAsgL at he
      refine obind he fun y hy he => ?_
      obtain ⟨t, it, ifs, ia⟩ := gen
      refine ex1_1 (asName_eq hy) fun px g2 => ?_
      refine oif he fun hz he => ?_
      rw [show t = _ from g2, show ia = 0 from hz]
      refine omap2 he fun l p1 h1 e1 => ?_
      apply pr3 e1
      exact compStore_ok T HE HT Rn hx h1 J F
    | none =>
      have he : (match asLC e with | some c => _ | none => (match asCall e with | some c => (match asName c.1 with | some f => exAsgC J' sc me nx f c.2.1 e p | none => exPlain J' sc me nx e p) | none => exPlain J' sc me nx e p)) = some (f, me', p') := he
      rw [hc0] at he
      cases hc1 : asCall e with
      | none =>
        have he : (match asCall e with | some c => _ | none => exPlain J' sc me nx e p) = some (f, me', p') := he
        rw [hc1] at he; exact plain_ex H hx he J F
      | some c =>
        have he : (match asCall e with | some c => (match asName c.1 with | some f => exAsgC J' sc me nx f c.2.1 e p | none => exPlain J' sc me nx e p) | none => _) = some (f, me', p') := he
        rw [hc1] at he
        cases hc2 : asName c.1 with
        | none =>
          have he : (match asName c.1 with | some f => _ | none => exPlain J' sc me nx e p) = some (f, me', p') := he
          rw [hc2] at he; exact plain_ex H hx he J F
        | some fn =>
          have he : (match asName c.1 with | some f => exAsgC J' sc me nx f c.2.1 e p | none => _) = some (f, me', p') := he
          rw [hc2] at he
          refine ex1_1 (asName_eq hc2) fun fp g => ?_
          have g3 := asCall_eq hc1
          rw [g] at g3
          rw [g3]
          have he : exAsgC J' sc me nx fn c.2.1 e p = some (f, me', p') := he
          rw [g3] at he
          exact asgC_ex T XA HE HT HS R hx he J F
theorem two_ex {J' : I} (H : ∀ {pw}, EvOk w h₀ os₀ A pw env sc me (J'.ev sc me)) (hh : A.handled = none) {a b e : Expr} {kk : Nat} {tp pos : Pos} {f : Fl} (he : exTwo J' sc me a b e p = some (f, me', p'))
    (J : Inv h₀ os₀ Mt pw p s) (F : Fs env sc me Mt₀ Mt pw hc s.heap) : OkX w h₀ os₀ A env sc Mt₀ hc Mt pw p (exec (.Assign [.Tuple [a, b] kk tp] e pos) env) s f me' p' := by
  unfold exTwo at he
  refine obind he fun xn h1 he => ?_
  refine obind he fun yn h2 he => ?_
  refine ex1_1 (asName_eq h1) fun px g1 => ?_
  refine ex1_1 (asName_eq h2) fun py g2 => ?_
  rw [g1, g2]
  refine oif he fun hc' he => ?_
  rw [Bool.and_eq_true, Bool.and_eq_true, Bool.and_eq_true, Bool.and_eq_true] at hc'
  refine obind2 he fun v p1 h1 e1 => ?_
  refine obind e1 fun l h3 e2 => ?_
  refine omap e2 fun ab h4 e3 => ?_
  apply pr3 e3
  refine pair_ok hh H hc'.1.1.1.1 hc'.1.1.1.2 (by simpa using hc'.1.1.2) (by simpa using hc'.1.2) (fun ht => ?_) (by rw [h1, show v = _ from tupV_eq h3, two_eq h4]) J F
  have q5 := hc'.2
  rw [ht, g1, g2] at q5
  have q6 : turned e = true ∧ (Expr.Name xn px).pos.line = (Expr.Name yn py).pos.line := by simpa using q5
  exact q6
theorem push_ex {J' : I} (H : ∀ {pw}, EvOk w h₀ os₀ A pw env sc me (J'.ev sc me)) {nx : Str} {e : Expr} {xp apos cpos pos : Pos} {f : Fl} (hd : nx ≠ ("__debug__" : Str)) (hl : apos.endLine = cpos.line) (he : exPush J' sc me nx e p = some (f, me', p'))
    (J : Inv h₀ os₀ Mt pw p s) (F : Fs env sc me Mt₀ Mt pw hc s.heap) : OkX w h₀ os₀ A env sc Mt₀ hc Mt pw p (exec (.Expr (.Call (.Attribute (.Name nx xp) "append" apos) [e] [] cpos) pos) env) s f me' p' := by
  unfold exPush at he
  refine oifn he fun hst he => ?_
  refine obind he fun xs h1 e1 => ?_
  refine obind2 e1 fun v p1 h2 e2 => ?_
  refine omap e2 fun zs h5 e5 => ?_
  rw [(okL_eq h5).1] at e5
  apply pr3 e5
  exact append_ok H hd hl (starred_false hst) h1 h2 (okL_eq h5).2 J F
theorem app_ex {J' : I} (H : ∀ {pw}, EvOk w h₀ os₀ A pw env sc me (J'.ev sc me)) {nx : Str} {e : Expr} {xp apos cpos pos : Pos} {f : Fl} (hd : nx ≠ ("__debug__" : Str)) (hl : apos.endLine = cpos.line) (he : exApp J' sc me nx e p = some (f, me', p'))
    (J : Inv h₀ os₀ Mt pw p s) (F : Fs env sc me Mt₀ Mt pw hc s.heap) : OkX w h₀ os₀ A env sc Mt₀ hc Mt pw p (exec (.Expr (.Call (.Attribute (.Name nx xp) "append" apos) [e] [] cpos) pos) env) s f me' p' := by
  unfold exApp at he
  cases hm : asMeth e with
  | none => rw [hm] at he; exact push_ex H hd hl he J F
  | some c =>
    rw [hm] at he
    by_cases hp : c.2.1 = ("pop" : Str) ∧ c.1 ≠ nx ∧ c.1 ≠ ("__debug__" : Str) ∧ c.2.2.1.endLine = c.2.2.2.2.line
    · have he : (if c.2.1 = ("pop" : Str) ∧ c.1 ≠ nx ∧ c.1 ≠ ("__debug__" : Str) ∧ c.2.2.1.endLine = c.2.2.2.2.line then exMove J' sc me nx c.1 c.2.2.2.1 p else _) = some (f, me', p') := he
      rw [if_pos hp] at he
      refine ex1_1 (asMeth_eq hm) fun yp g => ?_
      rw [g, hp.1]
      unfold exMove at he
      refine obind he fun xs h1 e1 => ?_
      refine obind e1 fun ys h2 e2 => ?_
      refine oifn e2 fun hst e2 => ?_
      refine obind2 e2 fun kv p1 h3 e3 => ?_
      refine obind e3 fun k' hk' e3 => ?_
      refine oif e3 fun hk e3 => ?_
      refine obind e3 fun v h4 e4 => ?_
      refine omap e4 fun zs h5 e5 => ?_
      rw [(okL_eq h5).1] at e5
      apply pr3 e5
      exact appendPop_ok H hd hl hp.2.2.1 hp.2.2.2 hp.2.1 (starred_false hst) h1 h2 (by rw [h3, ← intV_eq hk']) hk.1 h4 hk.2 (okL_eq h5).2 J F
    · have he : (if c.2.1 = ("pop" : Str) ∧ c.1 ≠ nx ∧ c.1 ≠ ("__debug__" : Str) ∧ c.2.2.1.endLine = c.2.2.2.2.line then _ else exPush J' sc me nx e p) = some (f, me', p') := he
      rw [if_neg hp] at he
      exact push_ex H hd hl he J F
theorem expr_ex {J' : I} (H : ∀ {pw}, EvOk w h₀ os₀ A pw env sc me (J'.ev sc me)) {e : Expr} {pos : Pos} {f : Fl} (he : exExpr J' sc me e p = some (f, me', p'))
    (J : Inv h₀ os₀ Mt pw p s) (F : Fs env sc me Mt₀ Mt pw hc s.heap) : OkX w h₀ os₀ A env sc Mt₀ hc Mt pw p (exec (.Expr e pos) env) s f me' p' := by
  unfold exExpr at he
  refine obind he fun c hm he => ?_
  refine ex1_1 (asMeth_eq hm) fun xp g => ?_
  rw [g]
  refine oifn he fun hdl he => ?_
  rw [not_or] at hdl
  have hl := Classical.not_not.mp hdl.2
  refine oelse he (fun hm he => ?_) fun he => oif he fun hm he => ?_
  · rw [hm]
    exact app_ex H hdl.1 hl he J F
  · rw [hm]
    unfold exMore at he
    refine oifn he fun hst he => ?_
    refine obind he fun xs h1 e1 => ?_
    refine obind2 e1 fun v p1 h2 e2 => ?_
    refine obind e2 fun ys h3 e3 => ?_
    refine omap e3 fun zs h5 e5 => ?_
    rw [(okL_eq h5).1] at e5
    apply pr3 e5
    exact extend_ok H hdl.1 hl (starred_false hst) h1 (by rw [h2, show v = _ from lstV_eq h3]) (okL_eq h5).2 J F
theorem ex_step {J' : I} {k : Nat} (T : Tp h₀ mg mb) (XA : AccOk w h₀ os₀) (HE : ∀ A pw env sc me, Rm A k → EvOk w h₀ os₀ A pw env sc me (J'.ev sc me)) (HT : ∀ A pw env sc me, Rm A k → TrOk w h₀ os₀ A pw env sc me (J'.tr sc me))
    (HS : ∀ A env sc Mt₀ hc, Rm A k → ExsOk w h₀ os₀ A env sc Mt₀ hc (J'.exs sc)) : ∀ A env sc Mt₀ hc, Rm A (k + 1) → ExOk w h₀ os₀ A env sc Mt₀ hc (fun me st p => exStep J' sc me st p) := by
  intro A env sc Mt₀ hc R Mt pw me st p f me' p' he s J F
  have Rn := R.less (Nat.le_succ k)
  have H : ∀ {pw}, EvOk w h₀ os₀ A pw env sc me (J'.ev sc me) := fun {pw} => HE A pw env sc me Rn
  have H' : ∀ {pw}, TrOk w h₀ os₀ A pw env sc me (J'.tr sc me) := fun {pw} => HT A pw env sc me Rn
  have HS' := fun {Mt pw} => @HS A env sc Mt₀ hc Rn Mt pw
  cases st with
  | Return e pos =>
    cases e with
    | none => exact nn he
    | some e =>
      refine omap2 (show (J'.ev sc me e p).map (fun x => (Fl.ret x.1, me, x.2)) = _ from he) fun v p1 h1 e1 => ?_
      apply pr3 e1
      exact ret_ok H h1 J F
  | Break pos =>
    apply sm3 he
    exact fun E Q hQ => wpAny_Break (hQ .brk s (Aft.of_kp J F J (Kp.refl _ _)) trivial)
  | If t b o pos =>
    refine obind2 (show ((J'.tr sc me t p).bind fun x => J'.exs sc me (match x.1 with | true => b | false => o) x.2) = _ from he) fun tb p1 h1 e1 => ?_
    exact if_ok H' (HS A env sc Mt₀ hc Rn) h1 (fun q => by rw [q] at e1; exact e1) (fun q => by rw [q] at e1; exact e1) J F
  | For t it b o pos => exact for_ex T XA HE HT HS R he J F
  | AugAssign t op e pos => exact aug_ex H he J F
  | Assign ts e pos =>
    refine obind (show ((one? ts).bind fun t => (match asName t with
        | some x => if sto sc x then exAsg J' sc me x e p else Option.none
        | Option.none => (asPair t).bind fun ab => exTwo J' sc me ab.1 ab.2 e p)) = _ from he) fun t h0 he => ?_
    rw [one_eq h0]
    cases ht : asName t with
    | some xn =>
      rw [ht] at he
      refine ex1_1 (asName_eq ht) fun xp g => ?_
      rw [g]
      refine oif he fun hx he => ?_
      exact asg_ex T XA HE HT HS R hx he J F
    | none =>
      rw [ht] at he
      refine obind2 he fun a b h1 he => ?_
      refine ex2_1 (asPair_eq h1) fun kk tp g => ?_
      rw [g]
      exact two_ex H R.1 he J F
  | Expr e pos => exact expr_ex H he J F
  | _ => exact nn he
end
end Mine
end
section
set_option genSizeOf false
set_option genSizeOfSpec false
namespace Mine
open PySem PyProof.Rows PyProof.V PySem.SeqAt PySem.Spec
noncomputable def dfOk (d : Df) : Bool := localsOk d.scope && d.scope.names.all (fun x => x.2 != .free) && !d.scope.isCoroutine && !d.scope.isGenerator && d.params.all (fun x => sto d.scope x) && decide d.params.Nodup
theorem dfs_ok : (fnAt.all fun e => match df? e.1 with | some d => dfOk d | none => false) = true := by kernel_rfl
theorem df_ok {f : Str} {d : Df} (h : df? f = some d) : dfOk d = true := by
  have h' := h
  unfold df? at h
  split at h
  · rename_i i hi
    have := List.all_eq_true.mp dfs_ok _ (mem_of_lookup hi)
    dsimp only at this
    rw [h'] at this
    exact this
  · cases h
section
variable {w : World} {h₀ : Heap} {os₀ : OsState} {A : Around} {Mt₀ : Addr → Prop} {Mt Mt' Mt'' : Ms} {pw pw' pw'' : List Addr} {p p' p'' p1 : P} {s s' s'' : Shared} {x y v : V} {val b : Value} {hc h h' h4 : Heap} {env cenv : Env} {sc inner : Scope} {me me' me'' : Me} {n : Str} {c a C D : Addr} {mg mb : Str → Option Value}
theorem bindL_out {kindOf : Str → Option NameKind} : ∀ (binds : List (Str × Value)) (m : Str → Option Value) (x : Str), (∀ e ∈ binds, e.1 ≠ x) → bindL kindOf binds m x = m x
  | [], _, _, _ => rfl
  | (n, v) :: r, m, x, h => by
    unfold bindL
    rw [bindL_out r _ x fun e he => h e (List.mem_cons_of_mem _ he)]
    split
    · exact if_neg (Ne.symm (h (n, v) List.mem_cons_self))
    · rfl
theorem bindC_out {kindOf : Str → Option NameKind} : ∀ (binds : List (Str × Value)) (m : Str → Option Value) (x : Str), (∀ e ∈ binds, e.1 ≠ x) → bindC kindOf binds m x = m x
  | [], _, _, _ => rfl
  | (n, v) :: r, m, x, h => by
    unfold bindC
    rw [bindC_out r _ x fun e he => h e (List.mem_cons_of_mem _ he)]
    split
    · rfl
    · exact if_neg (Ne.symm (h (n, v) List.mem_cons_self))
theorem binds_at {kindOf : Str → Option NameKind} : ∀ (params : List Str) (l : List V) (vals : List Value) (m cm : Str → Option Value) (x : Str) (b : Bd), params.Nodup → vals.length = l.length → params.length = l.length →
    ((params.zip l).map fun e => (e.1, (⟨false, e.2⟩ : Bd))).lookup x = some b → b.own = false ∧ x ∈ params ∧ ∃ (i : Nat) (val : Value), vals[i]? = some val ∧ l[i]? = some b.v ∧ (kindOf x = some .local → bindL kindOf (params.zip vals) m x = some val) ∧ (kindOf x ≠ some .local → bindC kindOf (params.zip vals) cm x = some val)
  | [], l, vals, m, cm, x, b, _, _, _, h => by simp at h
  | q :: r, [], vals, m, cm, x, b, _, _, h2, h => by simp at h2
  | q :: r, y :: ys, [], m, cm, x, b, _, h1, _, h => by simp at h1
  | q :: r, y :: ys, u :: us, m, cm, x, b, hn, h1, h2, h => by
    rw [List.nodup_cons] at hn
    simp only [List.zip_cons_cons, List.map_cons, List.lookup_cons] at h
    have out : x = q → ∀ e ∈ r.zip us, e.1 ≠ x := fun e1 e he e2 => by
      obtain ⟨a, b⟩ := e
      have := (List.of_mem_zip he).1
      dsimp only at e2
      rw [e2, e1] at this
      exact hn.1 this
    cases hx : x == q with
    | true =>
      rw [hx] at h
      apply sm1 h
      have e1 : x = q := by simpa using hx
      refine ⟨rfl, by rw [e1]; exact List.mem_cons_self, 0, u, rfl, rfl, fun hk => ?_, fun hk => ?_⟩
      · simp only [List.zip_cons_cons]
        unfold bindL
        rw [bindL_out _ _ _ (out e1), ← e1, if_pos hk, if_pos rfl]
      · simp only [List.zip_cons_cons]
        unfold bindC
        rw [bindC_out _ _ _ (out e1), ← e1, if_neg hk, if_pos rfl]
    | false =>
      rw [hx] at h
      obtain ⟨h3, h4, i, val, h5, h6, h7, h8⟩ := binds_at r ys us (if kindOf q = some .local then fun z => if z = q then some u else m z else m) (if kindOf q = some .local then cm else fun z => if z = q then some u else cm z) x b hn.2 (by simpa using h1) (by simpa using h2) h
      exact ⟨h3, List.mem_cons_of_mem _ h4, i + 1, val, by simpa using h5, by simpa using h6, fun hk => by simp only [List.zip_cons_cons]; unfold bindL; exact h7 hk, fun hk => by simp only [List.zip_cons_cons]; unfold bindC; exact h8 hk⟩
theorem call_cells {R : Result → Shared → Prop} {a : Addr} {o : Obj} {fd : FuncData} {body : List Stmt} {vals : List Value} {binds : List (Str × Value)}
    (hroom : A.depth < recursionLimit) (ho : s.heap.get? a = some o) (hdata : o.data = .func fd) (hlim : s.heap.NoLimit) (hcd : s.heap.CodeRec fd.code fd.qualname)
    (hbody : fd.body = .stmts body) (hbind : bindArgs fd ⟨vals, []⟩ = pure binds) (hclo : fd.closure = [])
    (hkind : ∀ x ∈ binds, fd.scope.names.lookup x.1 = some .local ∨ (fd.scope.names.lookup x.1 = some .cell ∧ ((cellsFrom (s.heap.objs.size + 1) fd.scope.names []).lookup x.1).isSome = true))
    (h : ∀ s₁, s.toks ≤ s₁.toks → InCallC s (callEnvC fd s.heap.objs.size a).locals (bindL (callEnvC fd s.heap.objs.size a).kindOf binds fun _ => none) (callEnvC fd s.heap.objs.size a).cells
        (bindC (callEnvC fd s.heap.objs.size a).kindOf binds fun _ => none) s₁ →
      wpAny (model prog w) (A.deeper (callEnvC fd s.heap.objs.size a)) (execs body (callEnvC fd s.heap.objs.size a)) (fun f s' => R (.ok (.ret (match f with | .ret v => v | _ => .none))) s')
        (fun e s' => wpAny (model prog w) (A.deeper (callEnvC fd s.heap.objs.size a)) (leaving (callEnvC fd s.heap.objs.size a) e) (fun _ s'' => R (.error e) s'') (fun e' s'' => R (.error e') s'') s') s₁)
    (hco : fd.scope.isCoroutine = false) (hgen : fd.scope.isGenerator = false) (hk : fd.scope.kind = .function) :
    codeAny (model prog w) A (.call (.ref a) ⟨vals, []⟩) R s := by
  refine codeAny_call_function hroom ho hdata hco hgen hbody hcd ?_
  rw [hbind, hclo]
  refine wpAny_pure (wpAny_with_toks (n := s.toks) (Nat.le_refl _) (wpAny_newFunctionEnv_cells hk hkind fun env he s' x hle => ?_))
  subst he
  exact ⟨hlim.keeps x.toInCall.keep, codeAny_func (h s' hle x)⟩
theorem Fs.call {d : Df} {fd : FuncData} {l : List V} {vals : List Value} {s₁ : Shared} (hd : dfOk d = true) (hlen : d.params.length = l.length) (J : Inv h₀ os₀ Mt pw p s) (R : VRs Mt pw s.heap l vals) (hscope : fd.scope = d.scope) (hg : fd.globals = mainGlobals) (hb : fd.builtins = builtinsNs)
    (x : InCallC s (callEnvC fd s.heap.objs.size a).locals (bindL (callEnvC fd s.heap.objs.size a).kindOf (d.params.zip vals) fun _ => none) (callEnvC fd s.heap.objs.size a).cells (bindC (callEnvC fd s.heap.objs.size a).kindOf (d.params.zip vals) fun _ => none) s₁) :
    Fs (callEnvC fd s.heap.objs.size a) d.scope ((d.params.zip l).map fun e => (e.1, (⟨false, e.2⟩ : Bd))) Mt.m (More Mt s.heap s₁.heap) pw s.heap s₁.heap := by
  unfold dfOk at hd
  simp only [Bool.and_eq_true] at hd
  refine an2 (hd) fun t_60 q6 => ?_
  refine an2 (t_60) fun t_70 q5 => ?_
  obtain ⟨⟨⟨q1, q2⟩, q3⟩, q4⟩ := t_70
  refine an2 (localsOk_spec q1) fun hkind hnm => ?_
  have hnd : d.params.Nodup := of_decide_eq_true q6
  have nofree : ∀ x, d.scope.names.lookup x ≠ some .free := fun x hx => by
    have := List.all_eq_true.mp q2 _ (mem_of_lookup hx)
    simp at this
  have L : (callEnvC fd s.heap.objs.size a).locals = s.heap.objs.size := rfl
  have fresh : ∀ b, s.heap.objs.size ≤ b → s.heap.get? b = none := fun b hb => by
    cases q : s.heap.get? b with
    | none => rfl
    | some o => exact absurd (Heap.lt_size q) (Nat.not_lt.mpr hb)
  have pwn : ∀ b, s.heap.get? b = none → b ∉ pw := fun b hb hp => by
    obtain ⟨_, o, ho⟩ := J.mt b (J.pws b hp)
    rw [hb] at ho; exact nn ho
  have kOf : ∀ x, (callEnvC fd s.heap.objs.size a).kindOf x = d.scope.names.lookup x := fun x => by
    show fd.scope.names.lookup x = _
    rw [hscope]
  have cs : (callEnvC fd s.heap.objs.size a).cells = cellsFrom (s.heap.objs.size + 1) d.scope.names [] := by
    show cellsFrom (s.heap.objs.size + 1) fd.scope.names [] = _
    rw [hscope]
  have newL : s.heap.get? (callEnvC fd s.heap.objs.size a).locals = none := fresh_size s.heap
  have newC : ∀ x c, (callEnvC fd s.heap.objs.size a).cells.lookup x = some c → s.heap.get? c = none := fun x c hx => by
    rw [cs] at hx
    have := (cellsFrom_mem _ _ _ _ (mem_of_lookup hx)).1
    exact fresh c (Nat.le_of_succ_le this)
  have hL1 : ∃ o, s₁.heap.get? (callEnvC fd s.heap.objs.size a).locals = some o := by
    refine ex3_2 (x.toInCall.ns) fun o _ _ ho _ => ?_
    exact ⟨o, ho⟩
  have varsOf : ∀ y b, ((d.params.zip l).map fun e => (e.1, (⟨false, e.2⟩ : Bd))).lookup y = some b → b.own = false ∧ ∃ val, At (callEnvC fd s.heap.objs.size a) s₁.heap y val ∧ VR (More Mt s.heap s₁.heap) pw s₁.heap b.v val := fun y b hy => by
    obtain ⟨h3, h4, i, val, h5, h6, h7, h8⟩ := binds_at (kindOf := (callEnvC fd s.heap.objs.size a).kindOf) d.params l vals (fun _ => none) (fun _ => none) y b hnd R.1 hlen hy
    refine ⟨h3, val, ?_, (R.2 i _ _ h6 h5).mono (more_ok x.toInCall.keep)⟩
    have hs : sto d.scope y = true := List.all_eq_true.mp q5 y h4
    unfold At
    rw [kOf]
    unfold sto at hs
    split at hs
    · rename_i hk
      first | rw [hk] | skip
      exact ⟨_, x.toInCall.ns, h7 (by rw [kOf]; exact hk)⟩
    · rename_i hk
      obtain ⟨c, hc⟩ := cellsFrom_ex d.scope.names (s.heap.objs.size + 1) y (mem_of_lookup hk)
      rw [← cs] at hc
      first | rw [hk] | skip
      refine ⟨c, hc, ?_⟩
      have := x.cell y c hc
      rw [h8 (by rw [kOf, hk]; decide)] at this
      exact this
    · exact nf hs
  refine { fm := { kind := ?_, glob := hg, blt := hb, names := fun y k hy => ?_, ns := ⟨_, x.toInCall.ns⟩, nsMt := .inr ⟨newL, hL1⟩, nsPw := pwn _ newL, cellIs := fun y hy hx => ?_, cellAll := fun y c hy => ?_, inj := fun y z c hy hz => ?_, vars := fun y b hv hy => ?_
                   sep := fun y z by' bz a' hy hz ey ez oy oz ay az => ?_ }
           sub := fun b hb => .inl hb, mt0 := fun b hb => (J.mt b hb).2, kc := fun b o e _ => x.toInCall.keep b o e, ex := fun b o e => ⟨o, x.toInCall.keep b o e⟩, newL := newL, newC := newC, newO := fun y b a' hv hy ho _ => ?_ }
  · show fd.scope.kind = _
    rw [hscope]; exact hkind
  · rw [kOf, hy, if_neg (fun q => nofree y (by rw [hy, q]))]
  · rw [kOf] at hy
    obtain ⟨c, hc⟩ := cellsFrom_ex d.scope.names (s.heap.objs.size + 1) y (mem_of_lookup hy)
    exact ⟨c, by rw [cs]; exact hc⟩
  · refine ex1_2 (x.cell y c hy) fun o ho hdd => ?_
    exact ⟨.inr ⟨newC y c hy, o, ho⟩, pwn _ (newC y c hy), _, o, ho, hdd⟩
  · exact name_of_addr x.apart (mem_of_lookup hy) (mem_of_lookup hz)
  · obtain ⟨h1, val, h2, h3⟩ := varsOf y b hy
    refine ⟨val, h2, ?_⟩
    unfold BdR
    rw [h1]; exact h3
  · rw [(varsOf y by' ey).1] at oy; exact nf oy
  · rw [(varsOf y b hy).1] at ho; exact nf ho
theorem Rm.deeper {k : Nat} (R : Rm A (k + 1)) (env : Env) : Rm (A.deeper env) k := by
  obtain ⟨h1, h2, h3⟩ := R
  refine ⟨h1, ?_, ?_⟩
  · show A.depth + 1 + k + 20 < _
    omega
  · show A.units + 3 + 8 * k + 80 < _
    omega
theorem call_step {J' : I} {k : Nat} (T : Tp h₀ mg mb) (Fn : Fns h₀ mg) (HS : ∀ A env sc Mt₀ hc, Rm A k → ExsOk w h₀ os₀ A env sc Mt₀ hc (J'.exs sc)) : CallOk w h₀ os₀ mg (k + 1) (callStep J') := by
  intro A R f l p v p' he hsome a hm Mt pw s vals J Rv
  unfold callStep at he
  split at he
  · rename_i d hdf
    split at he
    · rename_i hlen
      refine obind3 he fun fl me1 p1 h1 e1 => ?_
      dsimp only at e1
      cases fl with
      | ret u =>
        cases e1
        refine ex3_2 (Fn f d hdf) fun a' o fd hm' fi => ?_
        rw [hm] at hm'; cases hm'
        have hok := df_ok hdf
        have hok' := hok
        unfold dfOk at hok'
        simp only [Bool.and_eq_true, Bool.not_eq_true'] at hok'
        refine an2 (hok') fun t_180 q6 => ?_
        refine an2 (t_180) fun t_190 q5 => ?_
        obtain ⟨⟨⟨q1, q2⟩, q3⟩, q4⟩ := t_190
        intro E Q hQ
        refine wpAny_call (call_cells (by have := R.2.1; omega) (J.base _ _ fi.at') fi.data (T.lim.keeps J.base) (fi.rec'.keeps J.base) fi.body (fi.bind vals (by rw [Rv.1, hlen])) fi.clo ?_ (fun s₁ hle x => ?_)
          (by rw [fi.scope]; exact q3) (by rw [fi.scope]; exact q4) (by rw [fi.scope]; exact (localsOk_spec q1).1))
        · intro y hy
          obtain ⟨y1, y2⟩ := y
          have hmem := (List.of_mem_zip hy).1
          have hs : sto d.scope y1 = true := List.all_eq_true.mp q5 y1 hmem
          rw [fi.scope]
          unfold sto at hs
          split at hs
          · rename_i hk; exact .inl hk
          · rename_i hk
            refine ex1_1 (cellsFrom_ex d.scope.names (s.heap.objs.size + 1) y1 (mem_of_lookup hk)) fun c hc => ?_
            exact .inr ⟨hk, by rw [hc]; rfl⟩
          · exact nf hs
        · have F1 := Fs.call (a := a) hok hlen J Rv fi.scope fi.glob fi.blt x
          have J1 : Inv h₀ os₀ (More Mt s.heap s₁.heap) pw p s₁ := by
            refine ex2_1 (x.toInCall.same) fun h' tk hs => ?_
            have hk := x.toInCall.keep
            subst hs
            exact J.more hk hle
          refine HS (A.deeper _) _ d.scope Mt.m s.heap (R.deeper _) _ d.body p (.ret v) me1 p' h1 s₁ J1 F1 _ _ fun {M2 pw2} fl s2 A2 R2 => ?_
          cases fl with
          | ret val =>
            have hpw : pw2 = pw := by
              cases hp : p with
              | some l' => exact (A2.pwk (by rw [hp]; rfl)).1
              | none =>
                rw [hp] at hsome
                have h2 : p' = none := by cases p' with | none => rfl | some _ => exact nt hsome
                have e1 := J.pile.2; rw [hp] at e1
                have e2 := A2.inv.pile.2; rw [h2] at e2
                exact (show pw2 = tabs from e2).trans (show pw = tabs from e1).symm
            subst hpw
            have hsub : ∀ b, ({ m := Mt.m, G := M2.G } : Ms).m b → M2.m b := fun b hb => A2.fs.sub b hb
            exact hQ (Mt' := { m := Mt.m, G := M2.G }) val s2 (A2.inv.less hsub J.pws rfl) ⟨fun b o hb e => A2.fs.kc b o e hb, rfl, fun t z e => A2.G t z e⟩ (VR.less R2 hsub rfl)
          | _ => exact R2.elim
      | _ => exact nn e1
    · exact nn he
  · exact nn he
theorem sound (T : Tp h₀ mg mb) (Fn : Fns h₀ mg) (X : Out w h₀ os₀ mg mb) (XA : AccOk w h₀ os₀) : ∀ n, (∀ A pw env sc me, Rm A n → EvOk w h₀ os₀ A pw env sc me ((runM n).ev sc me)) ∧ (∀ A pw env sc me, Rm A n → TrOk w h₀ os₀ A pw env sc me ((runM n).tr sc me)) ∧
    (∀ A env sc Mt₀ hc, Rm A n → ExsOk w h₀ os₀ A env sc Mt₀ hc ((runM n).exs sc)) ∧ CallOk w h₀ os₀ mg n (runM n).call
  | 0 => by
    refine ⟨fun A pw env sc me R => ?_, fun A pw env sc me R => ?_, fun A env sc Mt₀ hc R => ?_, fun A R f l p v p' h => ?_⟩
    · intro Mt e p v p' h; exact nn h
    · intro Mt e p v p' h; exact nn h
    · intro Mt pw me l p f me' p' h; exact nn h
    · exact nn h
  | n + 1 => by
    refine an4 (sound T Fn X XA n) fun h1 h2 h3 h4 => ?_
    refine ⟨ev_step T Fn X h1 h2 h4, tr_step T h1 h2, fun A env sc Mt₀ hc R => ?_, call_step T Fn h3⟩
    intro Mt pw me l p f me' p' h s J F
    exact exs_ok (ex_step T XA h1 h2 h3 A env sc Mt₀ hc R) l me p f me' p' h s J F
end
end Mine
end
section
set_option genSizeOf false
set_option genSizeOfSpec false
namespace Mine
open PySem PyProof.Rows PyProof.V PySem.SeqAt PySem.Spec PySem.Builtin PySem.Builtin.Re
theorem pa_match : PlainAttrs "re.Match" := ⟨⟨"object.__getattribute__", by rw [typeLookup_type, builtinLookup_eq_fast]; kernel_rfl, by decide +kernel⟩, by rw [typeLookup_type, builtinLookup_eq_fast]; kernel_rfl⟩
theorem pa_pattern : PlainAttrs "re.Pattern" := ⟨⟨"object.__getattribute__", by rw [typeLookup_type, builtinLookup_eq_fast]; kernel_rfl, by decide +kernel⟩, by rw [typeLookup_type, builtinLookup_eq_fast]; kernel_rfl⟩
theorem slot_span : Slot "re.Match" "span" "re.Match.span" :=
  .of (owner := "re.Match") (n := "span") (by rw [typeLookup_type, builtinLookup_eq_fast]; kernel_rfl) (by decide +kernel) (by decide +kernel) (by decide +kernel)
    (by first | exact .inl (by decide +kernel) | exact .inr (by decide +kernel)) (by rw [isSubtype_type]; kernel_rfl)
theorem slot_group : Slot "re.Match" "group" "re.Match.group" :=
  .of (owner := "re.Match") (n := "group") (by rw [typeLookup_type, builtinLookup_eq_fast]; kernel_rfl) (by decide +kernel) (by decide +kernel) (by decide +kernel)
    (by first | exact .inl (by decide +kernel) | exact .inr (by decide +kernel)) (by rw [isSubtype_type]; kernel_rfl)
theorem slot_search : Slot "re.Pattern" "search" "re.Pattern.search" :=
  .of (owner := "re.Pattern") (n := "search") (by rw [typeLookup_type, builtinLookup_eq_fast]; kernel_rfl) (by decide +kernel) (by decide +kernel) (by decide +kernel)
    (by first | exact .inl (by decide +kernel) | exact .inr (by decide +kernel)) (by rw [isSubtype_type]; kernel_rfl)
theorem entry_span : entryFor table "re.Match.span" = some Builtin.«re.Match.span» := entryFor_of_tree (by kernel_rfl)
theorem entry_group : entryFor table "re.Match.group" = some Builtin.«re.Match.group» := entryFor_of_tree (by kernel_rfl)
theorem entry_search : entryFor table "re.Pattern.search" = some Builtin.«re.Pattern.search» := entryFor_of_tree (by kernel_rfl)
theorem type_span : typeOf (.builtin "re.Match.span") = pure (.type "method_descriptor") := by show builtinType _ = _; rw [builtinType_eq_fast]; kernel_rfl
theorem type_group : typeOf (.builtin "re.Match.group") = pure (.type "method_descriptor") := by show builtinType _ = _; rw [builtinType_eq_fast]; kernel_rfl
theorem type_search : typeOf (.builtin "re.Pattern.search") = pure (.type "method_descriptor") := by show builtinType _ = _; rw [builtinType_eq_fast]; kernel_rfl
end Mine
namespace Mine
open PySem PyProof.Rows PyProof.V PySem.SeqAt PySem.Spec PySem.Builtin PySem.Builtin.Re
theorem owner_match' : Manifest.owners.lookup (String.ofList ['h', 'c', 't', 'a', 'M', '.', 'e', 'r'].reverse) = some Manifest.sig_re_Match := by kernel_rfl
theorem owner_pattern' : Manifest.owners.lookup (String.ofList ['n', 'r', 'e', 't', 't', 'a', 'P', '.', 'e', 'r'].reverse) = some Manifest.sig_re_Pattern := by kernel_rfl
theorem args_span (a b : Value) : argsOk "re.Match.span" ⟨[a, b], []⟩ := by
  unfold argsOk; rw [signature?_of (id := "re.Match.span") (n := ['n', 'a', 'p', 's']) (o := ['h', 'c', 't', 'a', 'M', '.', 'e', 'r']) (by kernel_rfl) owner_match']; kernel_rfl
theorem args_group (a b : Value) : argsOk "re.Match.group" ⟨[a, b], []⟩ := by
  unfold argsOk; rw [signature?_of (id := "re.Match.group") (n := ['p', 'u', 'o', 'r', 'g']) (o := ['h', 'c', 't', 'a', 'M', '.', 'e', 'r']) (by kernel_rfl) owner_match']; kernel_rfl
theorem args_search (a b : Value) : argsOk "re.Pattern.search" ⟨[a, b], []⟩ := by
  unfold argsOk; rw [signature?_of (id := "re.Pattern.search") (n := ['h', 'c', 'r', 'a', 'e', 's']) (o := ['n', 'r', 'e', 't', 't', 'a', 'P', '.', 'e', 'r']) (by kernel_rfl) owner_pattern']; kernel_rfl
section
variable {w : World} {h₀ : Heap} {os₀ : OsState} {A : Around} {Mt Mt' Mt'' : Ms} {pw : List Addr} {p p' p1 : P} {s s' s'' : Shared} {x y v : V} {val b : Value} {env : Env} {sc inner : Scope} {me me' me'' : Me} {a : Addr} {mg mb : Str → Option Value}
theorem found_ok {t : Str} {tk : Tok} {pa r : Addr} {b e : Nat} {lim li : Int} {M : Model} {E : Value → Shared → Prop} {Q : ReFound → Shared → Prop}
    (h3 : s.heap.get? a = some { cls := .type "re.Match", data := .fields #[.str t tk, .ref pa, rawInt 0, rawInt lim, rawInt li, .ref r] }) (h4 : s.heap.get? r = some { cls := .type "tuple", data := .seq #[rawInt b, rawInt e] })
    (h : Q ⟨#[.str t tk, .ref pa, rawInt 0, rawInt lim, rawInt li, .ref r], #[(b : Int), (e : Int)]⟩ s) : wpAny M A (reFound (.ref a)) Q E s := by
  unfold reFound
  refine wpAny_bind (wpAny_fieldsOf h3 rfl ?_)
  unfold reRawItems
  refine wpAny_bind (wpAny_bind (wpAny_seqItems h4 rfl (wpAny_pure (wpAny_pure ?_))))
  have e : Array.map reRawOf ((some #[rawInt b, rawInt e]).getD #[]) = #[(b : Int), (e : Int)] := by simp [reRawOf, rawInt]
  rw [e]; exact h
theorem groupNo_ok {f : Array Value} {b e : Int} {t : Tok} {M : Model} {E : Value → Shared → Prop} {Q : Nat → Shared → Prop} (h : Q 0 s) : wpAny M A (reGroupNumber ⟨f, #[b, e]⟩ (.int 0 t)) Q E s := fun _ _ _ => h
theorem span_call {t : Str} {tk u : Tok} {pa r : Addr} {b e : Nat} {lim li : Int} {E : Value → Shared → Prop} {Q : Value → Shared → Prop}
    (h3 : s.heap.get? a = some { cls := .type "re.Match", data := .fields #[.str t tk, .ref pa, rawInt 0, rawInt lim, rawInt li, .ref r] }) (h4 : s.heap.get? r = some { cls := .type "tuple", data := .seq #[rawInt b, rawInt e] })
    (h : Q (.ref s.heap.objs.size) { s with heap := s.heap.push { cls := .type "tuple", data := .seq #[.int b s.toks, .int e (s.toks + 1)] }, toks := s.toks + 1 + 1 }) : wpAny (model prog w) A (call (.builtin "re.Match.span") [.ref a, .int 0 u]) Q E s := by
  refine wpAny_call_entry slot_span ⟨_, h3, rfl⟩ entry_span ?_ (args_span _ _)
  unfold Builtin.«re.Match.span» reOneGroup
  refine wpAny_bind (wpAny_bind (wpAny_mono (show wpAny _ _ (selfAndSome "Match.span" "span" 0 1 ⟨[Value.ref a, Value.int 0 u], []⟩) (fun x s' => x = (Value.ref a, [Value.int 0 u]) ∧ s' = s) E s from fun _ _ _ => ⟨rfl, rfl⟩) (fun x s' hx => ?_) fun _ _ z => z))
  obtain ⟨rfl, rfl⟩ := hx
  refine wpAny_bind (found_ok h3 h4 ?_)
  refine wpAny_bind (groupNo_ok ?_)
  refine wpAny_pure ?_
  refine wpAny_bind (wpAny_mkInt (wpAny_bind (wpAny_mkInt (wpAny_bind (wpAny_newTuple (wpAny_pure ⟨_, rfl, ?_⟩) (by show 2 ≤ sizeLine; decide))))))
  exact h
theorem group_call {t : Str} {tk u : Tok} {pa r : Addr} {b e : Nat} {lim li : Int} {E : Value → Shared → Prop} {Q : Value → Shared → Prop}
    (h3 : s.heap.get? a = some { cls := .type "re.Match", data := .fields #[.str t tk, .ref pa, rawInt 0, rawInt lim, rawInt li, .ref r] }) (h4 : s.heap.get? r = some { cls := .type "tuple", data := .seq #[rawInt b, rawInt e] })
    (hsz : (⟨t.cps.extract b e⟩ : Str).length ≤ sizeLine) (h : Q (.str ⟨t.cps.extract b e⟩ s.toks) { s with toks := s.toks + 1 }) : wpAny (model prog w) A (call (.builtin "re.Match.group") [.ref a, .int 0 u]) Q E s := by
  refine wpAny_call_entry slot_group ⟨_, h3, rfl⟩ entry_group ?_ (args_group _ _)
  unfold Builtin.«re.Match.group»
  refine wpAny_bind (wpAny_pure ?_)
  dsimp only
  refine wpAny_bind (found_ok h3 h4 ?_)
  refine wpAny_bind (groupNo_ok ?_)
  have hb : ¬ ((b : Int) < 0) := by lia
  have he : ¬ ((e : Int) < 0) := by lia
  refine wpAny_bind ?_
  unfold reGroupText
  show wpAny _ _ (if (decide ((b : Int) < 0) || decide ((e : Int) < 0)) = true then pure Value.none else _) _ _ _
  rw [if_neg (by simp [hb, he])]
  show wpAny _ _ (reSlice t.cps 0 (b : Int).toNat (e : Int).toNat) _ _ _
  exact wpAny_mkStr (wpAny_pure ⟨_, rfl, h⟩) hsz
end
end Mine
end
section
set_option genSizeOf false
set_option genSizeOfSpec false
namespace Mine
open PySem PyProof.Rows PyProof.V PySem.SeqAt PySem.Spec PySem.Builtin PySem.Builtin.Re
section
variable {w : World} {h₀ : Heap} {os₀ : OsState} {A : Around} {Mt Mt' Mt'' : Ms} {pw : List Addr} {p p' p1 : P} {s s' s'' : Shared} {x y v : V} {val b : Value} {env : Env} {sc inner : Scope} {me me' me'' : Me} {a : Addr} {mg mb : Str → Option Value}
theorem drive_ok {M : Model} {E : Value → Shared → Prop} {Q : Sre.M → Shared → Prop} : ∀ (k N : Nat) (m m' : Sre.M), reDone k m = some m' → k ≤ N → Q m' s → wpAny M A (reDrive N m) Q E s
  | 0, _, _, _, h, _, _ => by exact nn h
  | k + 1, 0, _, _, _, h, _ => absurd h (by lia)
  | k + 1, N + 1, m, m', h, hk, hQ => by
    unfold reDone at h
    unfold reDrive
    by_cases ho : (m.runFor 4).outcome.isSome = true
    · rw [if_pos ho] at h
      cases h
      show wpAny M A (if (m.runFor 4).outcome.isSome = true then pure (m.runFor 4) else _) Q E s
      rw [if_pos ho]
      exact wpAny_pure hQ
    · rw [if_neg ho] at h
      show wpAny M A (if (m.runFor 4).outcome.isSome = true then pure (m.runFor 4) else _) Q E s
      rw [if_neg ho]
      exact wpAny_bind (wpAny_rule (drive_ok k N _ m' h (by lia) hQ))
theorem rules_ok {M : Model} {α : Type} {E : Value → Shared → Prop} {Q : PUnit → Shared → Prop} (f : α → PUnit → Sem (ForInStep PUnit)) (hf : ∀ a u (Q' : ForInStep PUnit → Shared → Prop) s, Q' (.yield ⟨⟩) s → wpAny M A (f a u) Q' E s) : ∀ (l : List α) s, Q ⟨⟩ s → wpAny M A (forIn l ⟨⟩ f) Q E s
  | [], s, h => by rw [List.forIn_nil]; exact wpAny_pure h
  | a :: r, s, h => by
    rw [List.forIn_cons]
    exact wpAny_bind (hf a _ _ s (rules_ok f hf r s h))
theorem runEnd_ok {M : Model} {E : Value → Shared → Prop} {Q : Option Sre.M → Shared → Prop} {m m' : Sre.M} (h : reDone 400 m = some m') (hQ : (m'.outcome = some .matched → Q (some m') s) ∧ (m'.outcome = some .failed → Q none s)) (ho : m'.outcome = some .matched ∨ m'.outcome = some .failed) :
    wpAny M A (reRunToEnd m) Q E s := by
  unfold reRunToEnd
  refine wpAny_bind (drive_ok 400 _ m m' h (by decide) ?_)
  refine wpAny_bind (rules_ok _ (fun i u Q' s' hq => ?_) _ s ?_)
  · split
    · exact wpAny_bind (wpAny_rule (wpAny_pure hq))
    · exact wpAny_pure hq
  · rcases ho with ho | ho
    · rw [ho]; exact wpAny_pure (hQ.1 ho)
    · rw [ho]; exact wpAny_pure (hQ.2 ho)
structure RePat (h₀ : Heap) (mg : Str → Option Value) (pa ca : Addr) : Prop where
  g : mg "IPV4_RE" = some (.ref pa)
  pat : ∃ t0 t1, h₀.get? pa = some { cls := .type "re.Pattern", data := .fields #[.str "\\.\\d+$" t0, .int 256 t1, rawInt 0, .none, .none, .ref ca, rawInt 0] }
  code : ∃ n, h₀.get? ca = some { cls := .type "tuple", data := .seq (reCode.map fun (i : Nat) => rawInt i) n }
theorem search_call {pa ca : Addr} {t : Str} {tk : Tok} {mr : Option (Nat × Nat)} {E : Value → Shared → Prop} {Q : Value → Shared → Prop} {t0 t1 n : Nat}
    (h3 : s.heap.get? pa = some { cls := .type "re.Pattern", data := .fields #[.str "\\.\\d+$" t0, .int 256 t1, rawInt 0, .none, .none, .ref ca, rawInt 0] }) (h4 : s.heap.get? ca = some { cls := .type "tuple", data := .seq (reCode.map fun (i : Nat) => rawInt i) n })
    (hcap : t.cps.size ≤ cap) (hf : reFind t = some mr)
    (hn : mr = none → Q .none s) (hs : ∀ b e, mr = some (b, e) → ∀ li, Q (.ref (s.heap.objs.size + 1)) { s with heap := (s.heap.push { cls := .type "tuple", data := .seq #[rawInt (b : Nat), rawInt (e : Nat)] }).push { cls := .type "re.Match", data := .fields #[.str t tk, .ref pa, rawInt 0, rawInt (t.cps.size : Nat), rawInt li, .ref s.heap.objs.size] } }) :
    wpAny (model prog w) A (call (.builtin "re.Pattern.search") [.ref pa, .str t tk]) Q E s := by
  refine wpAny_call_entry slot_search ⟨_, h3, rfl⟩ entry_search ?_ (args_search _ _)
  unfold Builtin.«re.Pattern.search» reTarget
  refine wpAny_bind ?_
  refine wpAny_bind (wpAny_mono (show wpAny _ _ (reNamed "re.Pattern.search" "search" ["string", "pos", "endpos"] 1 [Value.str t tk] []) (fun x s' => x = [some (Value.str t tk), none, none] ∧ s' = s) E s from fun _ _ _ => ⟨rfl, rfl⟩) (fun x s' hx => ?_) fun _ _ z => z)
  obtain ⟨rfl, rfl⟩ := hx
  refine wpAny_bind (wpAny_pure (wpAny_bind (wpAny_pure ?_)))
  refine wpAny_bind (wpAny_fieldsOf h3 rfl ?_)
  refine wpAny_bind (wpAny_mono (show wpAny _ _ (reTextOf (.str t tk)) (fun x s'' => x = (t.cps, 0) ∧ s'' = s') E s' from fun _ _ _ => ⟨rfl, rfl⟩) (fun x s'' hx => ?_) fun _ _ z => z)
  obtain ⟨rfl, rfl⟩ := hx
  have e6 : reRawNat ((#[Value.str "\\.\\d+$" t0, Value.int 256 t1, rawInt 0, Value.none, Value.none, Value.ref ca, rawInt 0] : Array Value).getD 6 .none) = 0 := rfl
  have e5 : (#[Value.str "\\.\\d+$" t0, Value.int 256 t1, rawInt 0, Value.none, Value.none, Value.ref ca, rawInt 0] : Array Value).getD 5 .none = .ref ca := rfl
  have e2 : reRawNat ((#[Value.str "\\.\\d+$" t0, Value.int 256 t1, rawInt 0, Value.none, Value.none, Value.ref ca, rawInt 0] : Array Value).getD 2 .none) = 0 := rfl
  rw [e6, e5, e2]
  refine wpAny_bind (wpAny_mono (show wpAny _ _ (reNoCollectionInside (.str t tk) 0) (fun _ s1 => s1 = s'') E s'' from fun _ _ _ => rfl) (fun x s1 hx => ?_) fun _ _ z => z)
  subst hx
  unfold reRawItems
  refine wpAny_bind (wpAny_bind (wpAny_seqItems h4 rfl (wpAny_pure (wpAny_pure ?_))))
  have hcode : Array.map (fun x : Int => x.toNat) (Array.map reRawOf ((some (Array.map (fun (i : Nat) => rawInt i) reCode)).getD #[])) = reCode := by decide +kernel
  have hsz : t.cps.size ≤ 4096 := hcap
  have hpos : Min.min ((0 : Int).toNat) t.cps.size = 0 := by simp
  have hlim : Min.min ((2 ^ 63 - 1 : Int).toNat) t.cps.size = t.cps.size := Nat.min_eq_right (by lia)
  unfold reAnswer
  dsimp only
  unfold reFind at hf
  split at hf
  · rename_i m hm
    have hm' : reDone 400 (Sre.forSearch (Array.map (fun x : Int => x.toNat) (Array.map reRawOf ((some (Array.map (fun (i : Nat) => rawInt i) reCode)).getD #[]))) t.cps 0 (Min.min ((0 : Int).toNat) t.cps.size) (Min.min ((2 ^ 63 - 1 : Int).toNat) t.cps.size) false) = some m := by
      rw [hcode, hpos, hlim]; exact hm
    split at hf
    · rename_i ho
      cases hf
      refine wpAny_bind (runEnd_ok hm' ⟨fun _ => ?_, fun q => by rw [ho] at q; cases q⟩ (.inl ho))
      refine wpAny_bind ?_
      unfold reNewMatch
      rw [hpos, hlim]
      refine wpAny_bind (wpAny_newTuple ?_ (by show 2 ≤ sizeLine; decide))
      unfold newFields
      refine wpAny_newObj_type (wpAny_pure ⟨_, rfl, ?_⟩)
      have := hs _ _ rfl m.lastindex
      rw [← Heap.size_push s1.heap { cls := .type "tuple", data := .seq #[rawInt (m.start : Nat), rawInt (m.handed : Nat)] }] at this
      exact this
    · rename_i ho
      cases hf
      refine wpAny_bind (runEnd_ok hm' ⟨(fun q => by rw [ho] at q; cases q), fun _ => ?_⟩ (.inr ho))
      exact wpAny_pure ⟨_, rfl, hn rfl⟩
    · exact nn hf
  · exact nn hf
end
end Mine
end
section
set_option genSizeOf false
set_option genSizeOfSpec false
set_option maxRecDepth 100000
namespace Mine
open PySem PyProof.Rows PyProof.V PySem.SeqAt PySem.Spec PySem.Builtin PySem.Builtin.Re
theorem typeOf_string : typeOf (.builtin "re.Match.string") = pure (.type "member_descriptor") := by show builtinType _ = _; rw [builtinType_eq_fast]; kernel_rfl
theorem slot_md_get : Slot "member_descriptor" "__get__" "member_descriptor.__get__" :=
  .of (owner := "member_descriptor") (n := "__get__") (by rw [typeLookup_type, builtinLookup_eq_fast]; kernel_rfl) (by decide +kernel) (by decide +kernel) (by decide +kernel)
    (by first | exact .inl (by decide +kernel) | exact .inr (by decide +kernel)) (by rw [isSubtype_type]; kernel_rfl)
theorem slot_md_set : Slot "member_descriptor" "__set__" "member_descriptor.__set__" :=
  .of (owner := "member_descriptor") (n := "__set__") (by rw [typeLookup_type, builtinLookup_eq_fast]; kernel_rfl) (by decide +kernel) (by decide +kernel) (by decide +kernel)
    (by first | exact .inl (by decide +kernel) | exact .inr (by decide +kernel)) (by rw [isSubtype_type]; kernel_rfl)
theorem entry_md_get : entryFor table "member_descriptor.__get__" = some Builtin.«member_descriptor.__get__» := entryFor_of_tree (by kernel_rfl)
theorem args_md_get (a b c : Value) : argsOk "member_descriptor.__get__" ⟨[a, b, c], []⟩ := by unfold argsOk; kernel_rfl
theorem entry_string : entryFor table "re.Match.string" = some Builtin.«re.Match.string» := entryFor_of_tree (by kernel_rfl)
theorem owner_string : (".".intercalate ("re.Match.string".cutAt '.').dropLast) = "re.Match" := by
  have e0 : "re.Match.string".cutAt '.' = ["re", "Match", "string"] := by first | rfl | decide +kernel
  rw [e0]; decide +kernel
theorem lk_string : typeLookup (.type "re.Match") "string" = pure (some (.builtin "re.Match.string")) := by rw [typeLookup_type, builtinLookup_eq_fast]; kernel_rfl
theorem lk_ga : typeLookup (.type "re.Match") "__getattribute__" = pure (some (.builtin "object.__getattribute__")) := by rw [typeLookup_type, builtinLookup_eq_fast]; kernel_rfl
theorem sub_string : isSubtype (.type "re.Match") (.type (".".intercalate ("re.Match.string".cutAt '.').dropLast)) = pure true := by
  rw [owner_string, isSubtype_type]; kernel_rfl
section
variable {w : World} {A : Around} {E : Value → Shared → Prop} {h : Heap} {g : Array GenState} {d : Drawn} {t : Nat} {os : OsState} {a : Addr} {o : Obj} {v : Value} {vs : Array Value}
theorem string_get {R : Result → Shared → Prop} (hx : h.get? a = some o) (hc : o.cls = .type "re.Match") (hd : o.data = .fields vs) (h0 : vs[0]? = some v) (hq : R (.ok (.ret v)) ⟨h, g, d, t, os⟩) :
    codeAny (model prog w) A (.call (.builtin "member_descriptor.__get__") ⟨[.builtin "re.Match.string", .ref a, .type "re.Match"], []⟩) R ⟨h, g, d, t, os⟩ := by
  have hT : (⟨h, g, d, t, os⟩ : Shared).TypeIs (.ref a) "re.Match" := ⟨_, hx, hc⟩
  have hT5 : (⟨h, g, d, t, os⟩ : Shared).TypeIs (.builtin "re.Match.string") "member_descriptor" := typeOf_string
  have f8 := sub_string
  refine codeAny_call_builtin slot_md_get.plain entry_md_get (slot_md_get.check _ _ _ _ _ _ _ _ hT5 (args_md_get _ _ _) ?_)
  repeat (any_goals (first | assumption | wp_step))
  refine ⟨Code.quiet_builtin _ (by decide +kernel), codeAny_builtin entry_string ?_⟩
  unfold Builtin.«re.Match.string»
  refine wpAny_bind (wpAny_field hx hd h0 ?_)
  repeat (any_goals (first | assumption | wp_step))
theorem slot_mga : Slot "re.Match" "__getattribute__" "object.__getattribute__" :=
  .of (owner := "object") (n := "__getattribute__") (by rw [typeLookup_type, builtinLookup_eq_fast]; kernel_rfl) (by decide +kernel) (by decide +kernel) (by decide +kernel)
    (by first | exact .inl (by decide +kernel) | exact .inr (by decide +kernel)) (by rw [isSubtype_type]; kernel_rfl)
theorem entry_oga : entryFor table "object.__getattribute__" = some Builtin.«object.__getattribute__» := entryFor_of_tree (by kernel_rfl)
theorem owner_obj' : Manifest.owners.lookup (String.ofList ['t', 'c', 'e', 'j', 'b', 'o'].reverse) = some Manifest.sig_object := by kernel_rfl
theorem args_oga (a b : Value) : argsOk "object.__getattribute__" ⟨[a, b], []⟩ := by
  unfold argsOk; rw [signature?_of (id := "object.__getattribute__") (n := ['_', '_', 'e', 't', 'u', 'b', 'i', 'r', 't', 't', 'a', 't', 'e', 'g', '_', '_']) (o := ['t', 'c', 'e', 'j', 'b', 'o']) (by kernel_rfl) owner_obj']; kernel_rfl
theorem string_entry {tk : Tok} {Q : Fin → Shared → Prop} (hx : h.get? a = some o) (hc : o.cls = .type "re.Match") (hd : o.data = .fields vs) (h0 : vs[0]? = some v) (hq : Q (.done (.ret v)) ⟨h, g, d, t, os⟩) :
    wpAny (model prog w) A (Builtin.«object.__getattribute__» ⟨[.ref a, .str "string" tk], []⟩) Q E ⟨h, g, d, t, os⟩ := by
  have hT : (⟨h, g, d, t, os⟩ : Shared).TypeIs (.ref a) "re.Match" := ⟨_, hx, hc⟩
  have hT5 : (⟨h, g, d, t, os⟩ : Shared).TypeIs (.builtin "re.Match.string") "member_descriptor" := typeOf_string
  have f4 := lk_string
  have f5 := typeOf_string
  have f6 := slot_md_get.lookup
  have f7 := slot_md_set.lookup
  repeat (any_goals (first | assumption | wp_step))
  refine string_get hx hc hd h0 ?_
  repeat (any_goals (first | assumption | wp_step))
theorem string_call {tk : Tok} {R : Result → Shared → Prop} (hx : h.get? a = some o) (hc : o.cls = .type "re.Match") (hd : o.data = .fields vs) (h0 : vs[0]? = some v) (hq : R (.ok (.ret v)) ⟨h, g, d, t, os⟩) :
    codeAny (model prog w) A (.call (.builtin "object.__getattribute__") ⟨[.ref a, .str "string" tk], []⟩) R ⟨h, g, d, t, os⟩ :=
  codeAny_call_builtin slot_mga.plain entry_oga (slot_mga.check _ _ _ _ _ _ _ _ (show (⟨h, g, d, t, os⟩ : Shared).TypeIs (.ref a) "re.Match" from ⟨_, hx, hc⟩) (args_oga _ _) (string_entry hx hc hd h0 hq))
theorem string_attr {e : Bool} {Q : Value → Shared → Prop} (hv : ∃ z u, v = .str z u) (hx : h.get? a = some o) (hc : o.cls = .type "re.Match") (hd : o.data = .fields vs) (h0 : vs[0]? = some v) (hq : Q v ⟨h, g, d, t + 1, os⟩) :
    wpAny (model prog w) A (getAttr (.ref a) "string" e) Q E ⟨h, g, d, t, os⟩ := by
  have hT : (⟨h, g, d, t + 1, os⟩ : Shared).TypeIs (.ref a) "re.Match" := ⟨_, hx, hc⟩
  have f2 := lk_ga
  have f3 := slot_mga.bind (.ref a)
  unfold getAttr
  repeat (any_goals (first | assumption | wp_step))
  rw [if_neg (by cases e <;> decide)]
  repeat (any_goals (first | assumption | wp_step))
  refine string_call hx hc hd h0 ?_
  repeat (any_goals (first | assumption | wp_step))
  all_goals (obtain ⟨z, u, rfl⟩ := hv; exact wpAny_pure hq)
end
section
variable {w : World} {h₀ : Heap} {os₀ : OsState} {A : Around} {Mt Mt' Mt'' : Ms} {pw : List Addr} {p p' p1 p2 : P} {s s' s'' : Shared} {x y v : V} {val b : Value} {env : Env} {sc inner : Scope} {me me' me'' : Me} {a : Addr} {mg mb : Str → Option Value}
theorem attr_ok {o : Expr} {pos : Pos} {t : Str} {b1 b2 : Nat} (hb : plainBase o = true) (J : Inv h₀ os₀ Mt pw p s) (ho : OkV w h₀ os₀ A Mt pw (eval o env) s (.mat t b1 b2) p1) : OkV w h₀ os₀ A Mt pw (eval (.Attribute o "string" pos) env) s (.str t) p1 := by
  intro E Q hQ
  refine PyProof.Rows.Attribute_any_ (ho E _ fun {M1} val s1 J1 K1 R1 => ?_) (by rw [arm_eval_Attribute, base_ok hb])
  cases R1 with
  | mat h1 h2 h5 h3 h4 =>
    exact string_attr ⟨_, _, rfl⟩ h3 rfl rfl rfl (hQ _ { s1 with toks := s1.toks + 1 } (J1.tok (t := s1.toks + 1)) K1 (.str _ _ h5))
theorem mat_ok {o : Expr} {name : Str} {apos pos : Pos} {args : List Expr} {t : Str} {b1 b2 : Nat} {l : List V} (hb : plainBase o = true) (hl : apos.endLine = pos.line) (h8 : args.length ≤ 8) (e3 : methV (.mat t b1 b2) name l p2 = some (v, p')) (J : Inv h₀ os₀ Mt pw p s)
    (ho : OkV w h₀ os₀ A Mt pw (eval o env) s (.mat t b1 b2) p1) (ha : ∀ {Mt' : Ms} s1, Inv h₀ os₀ Mt' pw p1 s1 → Kp pw Mt Mt' s.heap s1.heap → OkL w h₀ os₀ A Mt' pw (spliced (backTo pos (starEach args env))) s1 l p2)
    (hpl : (backTo pos (starEach args env)).any (·.1) = false) : OkV w h₀ os₀ A Mt pw (eval (.Call (.Attribute o name apos) args [] pos) env) s v p' := by
  refine matM_inv (G := fun name l v p' => (∀ {Mt' : Ms} s1, Inv h₀ os₀ Mt' pw p1 s1 → Kp pw Mt Mt' s.heap s1.heap → OkL w h₀ os₀ A Mt' pw (spliced (backTo pos (starEach args env))) s1 l p2) → OkV w h₀ os₀ A Mt pw (eval (.Call (.Attribute o name apos) args [] pos) env) s v p') ?_ ?_ (show matM t b1 b2 name l p2 = some (v, p') from e3) ha
  · intro ha E Q hQ
    refine wpAny_Call_method (T := "re.Match") (id := "re.Match.span") (base_ok hb) (few_ok hpl h8) (by simpa using hl) pa_match slot_span type_span ?_
    refine ho E _ fun {M1} val s1 J1 K1 R1 => ?_
    cases R1 with
    | mat h1 h2 h5 h3 h4 =>
      refine ⟨⟨_, h3, rfl⟩, fun a' q => (by cases q; exact ⟨_, h3, rfl⟩), ?_⟩
      refine callWith_machine (fun a q => by cases q) hpl ?_
      refine ha s1 J1 K1 E _ fun {M2} vs s2 J2 K2 R2 => ?_
      refine ex1_2 (R2.one) fun z q_131 hz => ?_
      subst q_131
      refine ex1_1 (hz.int') fun u q_141 => ?_
      subst q_141
      refine span_call (K2.keep _ _ (fun q => h1 (J1.pws _ q)) h3) (K2.keep _ _ (fun q => h2 (J1.pws _ q)) h4) ?_
      have J3 : Inv h₀ os₀ M2 pw p2 { s2 with toks := s2.toks + 1 + 1 } := J2.tok (t := s2.toks + 1 + 1)
      have R3 : VRs M2 pw s2.heap [V.int (b1 : Int), V.int (b2 : Int)] [Value.int b1 s2.toks, Value.int b2 (s2.toks + 1)] := .cons (.int _ _) (.cons (.int _ _) .nil)
      exact new_tup (s := { s2 with toks := s2.toks + 1 + 1 }) J3 R3 (fun val s4 J4 K4 R4 => hQ val s4 J4 ((K1.trans K2).trans K4) R4) rfl
  · intro z0 hz0 ha E Q hQ
    refine an2 (okS_eq hz0) fun q_200 hcap => ?_
    subst q_200
    refine wpAny_Call_method (T := "re.Match") (id := "re.Match.group") (base_ok hb) (few_ok hpl h8) (by simpa using hl) pa_match slot_group type_group ?_
    refine ho E _ fun {M1} val s1 J1 K1 R1 => ?_
    cases R1 with
    | mat h1 h2 h5 h3 h4 =>
      refine ⟨⟨_, h3, rfl⟩, fun a' q => (by cases q; exact ⟨_, h3, rfl⟩), ?_⟩
      refine callWith_machine (fun a q => by cases q) hpl ?_
      refine ha s1 J1 K1 E _ fun {M2} vs s2 J2 K2 R2 => ?_
      refine ex1_2 (R2.one) fun z q_281 hz => ?_
      subst q_281
      refine ex1_1 (hz.int') fun u q_291 => ?_
      subst q_291
      exact group_call (K2.keep _ _ (fun q => h1 (J1.pws _ q)) h3) (K2.keep _ _ (fun q => h2 (J1.pws _ q)) h4) (cap_line hcap) (hQ _ _ (J2.tok (t := s2.toks + 1)) (K1.trans K2) (.ustr _ _))
theorem search_ok {xpos apos pos : Pos} {a : Expr} {t : Str} {m : Option (Nat × Nat)} {pa ca : Addr} (RP : RePat h₀ mg pa ca) (T : Tp h₀ mg mb) (hl : apos.endLine = pos.line) (hst : starred a = false) (J : Inv h₀ os₀ Mt pw p s) (F : Fm env sc me Mt pw s.heap) (hg : glo sc "IPV4_RE" = true)
    (ha : OkV w h₀ os₀ A Mt pw (eval a env) s (.str t) p1) (hcap : t.cps.size ≤ cap) : reFind t = some m →
    OkV w h₀ os₀ A Mt pw (eval (.Call (.Attribute (.Name "IPV4_RE" xpos) "search" apos) [a] [] pos) env) s (match m with | some (a, b) => .mat t a b | none => .none) p1 := by
  intro hf E Q hQ
  refine ex2_1 (RP.pat) fun t0 t1 hp => ?_
  refine ex1_1 (RP.code) fun n hcd => ?_
  refine wpAny_Call_method (T := "re.Pattern") (id := "re.Pattern.search") (base_ok rfl) (few_one hst) (by simpa using hl) pa_pattern slot_search type_search ?_
  refine global_name T J F hg (by decide) (.inl RP.g) ⟨⟨_, J.base _ _ hp, rfl⟩, fun a' q => (by cases q; exact ⟨_, J.base _ _ hp, rfl⟩), ?_⟩
  refine callWith_machine (fun a q => by cases q) (by rw [back_one hst]; rfl) ?_
  refine wpAny_items_cons ?_ (not_starred hst)
  refine ha E _ fun {M1} val s1 J1 K1 R1 => ?_
  refine ex1_2 (R1.str') fun tk q_111 htk => ?_
  subst q_111
  refine wpAny_items_nil ?_
  refine search_call (J1.base _ _ hp) (J1.base _ _ hcd) hcap hf (fun hm => ?_) fun b e hm li => ?_
  · subst hm
    exact hQ _ s1 J1 K1 .none
  · subst hm
    have f1 := fresh_size s1.heap
    have k1 : ∀ b' o, s1.heap.get? b' = some o → (s1.heap.push { cls := .type "tuple", data := .seq #[rawInt (b : Nat), rawInt (e : Nat)] }).get? b' = some o := fun b' o e => Heap.get?_push_of_some _ e
    have f2 : (s1.heap.push { cls := .type "tuple", data := .seq #[rawInt (b : Nat), rawInt (e : Nat)] }).objs.size = s1.heap.objs.size + 1 := Heap.size_push ..
    have k2 : ∀ b' o, (s1.heap.push { cls := .type "tuple", data := .seq #[rawInt (b : Nat), rawInt (e : Nat)] }).get? b' = some o → ((s1.heap.push { cls := .type "tuple", data := .seq #[rawInt (b : Nat), rawInt (e : Nat)] }).push { cls := .type "re.Match", data := .fields #[.str t tk, .ref pa, rawInt 0, rawInt (t.cps.size : Nat), rawInt li, .ref s1.heap.objs.size] }).get? b' = some o := fun b' o e => Heap.get?_push_of_some _ e
    have fr : s1.heap.get? (s1.heap.objs.size + 1) = none := by
      cases q : s1.heap.get? (s1.heap.objs.size + 1) with
      | none => rfl
      | some o => exact absurd (Heap.lt_size q) (Nat.not_lt.mpr (Nat.le_succ _))
    refine hQ _ _ (J1.keeps (t := s1.toks) fun b' o e => k2 b' o (k1 b' o e)) (K1.trans (Kp.of_keeps fun b' o e => k2 b' o (k1 b' o e))) (.mat (pa := pa) (J1.fresh fr) (J1.fresh f1) htk (lim := (t.cps.size : Nat)) (li := li) ?_ ?_)
    · rw [← f2]; exact Heap.get?_push_size _ rfl
    · exact k2 _ _ (Heap.get?_push_size _ rfl)
end
end Mine
end
section
set_option genSizeOf false
set_option genSizeOfSpec false
set_option maxRecDepth 100000
namespace Mine
open PySem PySem.W PyProof.Rows
theorem slot_wd_get : Slot "wrapper_descriptor" "__get__" "wrapper_descriptor.__get__" :=
  .of (owner := "wrapper_descriptor") (n := "__get__") (by rw [typeLookup_type, builtinLookup_eq_fast]; kernel_rfl) (by decide +kernel) (by decide +kernel) (by decide +kernel)
    (by first | exact .inl (by decide +kernel) | exact .inr (by decide +kernel)) (by rw [isSubtype_type]; kernel_rfl)
theorem slot_mtd_get : Slot "method_descriptor" "__get__" "method_descriptor.__get__" :=
  .of (owner := "method_descriptor") (n := "__get__") (by rw [typeLookup_type, builtinLookup_eq_fast]; kernel_rfl) (by decide +kernel) (by decide +kernel) (by decide +kernel)
    (by first | exact .inl (by decide +kernel) | exact .inr (by decide +kernel)) (by rw [isSubtype_type]; kernel_rfl)
theorem entry_wd_get : entryFor table "wrapper_descriptor.__get__" = some Builtin.«wrapper_descriptor.__get__» := entryFor_of_tree (by kernel_rfl)
theorem entry_mtd_get : entryFor table "method_descriptor.__get__" = some Builtin.«method_descriptor.__get__» := entryFor_of_tree (by kernel_rfl)
theorem args_wd_get (a b c : Value) : argsOk "wrapper_descriptor.__get__" ⟨[a, b, c], []⟩ := by unfold argsOk; kernel_rfl
theorem args_mtd_get (a b c : Value) : argsOk "method_descriptor.__get__" ⟨[a, b, c], []⟩ := by unfold argsOk; kernel_rfl
theorem type_list_len' : typeOf (.builtin "list.__len__") = pure (.type "wrapper_descriptor") := by show builtinType _ = _; rw [builtinType_eq_fast]; kernel_rfl
theorem type_list_init' : typeOf (.builtin "list.__init__") = pure (.type "wrapper_descriptor") := by show builtinType _ = _; rw [builtinType_eq_fast]; kernel_rfl
section
variable {w : World} {A : Around} {E : Value → Shared → Prop} {h : Heap} {g : Array GenState} {d : Drawn} {t : Nat} {os : OsState}
theorem wd_get {x C : Addr} {ox : Obj} {id : String} {Q : Value → Shared → Prop} (hty : typeOf (.builtin id) = pure (.type "wrapper_descriptor")) (hx : h.get? x = some ox) (hc : ox.cls = .ref C) (hxC : x ≠ C)
    (hsub : Looks (model prog w) h (isSubtype (.ref C) (.type "list")) true) (hown : (".".intercalate (id.cutAt '.').dropLast) = "list")
    (hq : Q (.ref h.objs.size) ⟨h.push { cls := .type "method-wrapper", data := .fields #[.builtin id, .ref x] }, g, d, t, os⟩) :
    wpAny (model prog w) A (call (.builtin "wrapper_descriptor.__get__") [.builtin id, .ref x, .ref C]) Q E ⟨h, g, d, t, os⟩ := by
  have hT : (⟨h, g, d, t, os⟩ : Shared).TypeIs (.builtin id) "wrapper_descriptor" := hty
  refine wpAny_call_entry slot_wd_get hT entry_wd_get ?_ (args_wd_get _ _ _)
  unfold Builtin.«wrapper_descriptor.__get__»
  repeat (any_goals (first | assumption | (with_reducible refine Looks.at hsub ?_) | (with_reducible refine wpAny_loadPart_at hx ?_; rw [hc]) | wp_step))
  rw [hown]
  refine Looks.at hsub ?_
  repeat (any_goals (first | assumption | (with_reducible refine wpAny_newObj_type ?_ (by size_fits)) | wp_step))
  all_goals exact ⟨_, rfl, hq⟩
theorem mtd_get {x C : Addr} {ox oC : Obj} {cd : ClassData} {id : String} {Q : Value → Shared → Prop} (hty : typeOf (.builtin id) = pure (.type "method_descriptor")) (hx : h.get? x = some ox) (hc : ox.cls = .ref C) (hxC : x ≠ C)
    (hC : h.get? C = some oC) (hcd : oC.data = .cls cd)
    (hsub : Looks (model prog w) h (isSubtype (.ref C) (.type "list")) true) (hown : (".".intercalate (id.cutAt '.').dropLast) = "list")
    (hq : Q (.ref h.objs.size) ⟨h.push { cls := .type "builtin_function_or_method", data := .fields #[.builtin id, .ref x] }, g, d, t, os⟩) :
    wpAny (model prog w) A (call (.builtin "method_descriptor.__get__") [.builtin id, .ref x, .ref C]) Q E ⟨h, g, d, t, os⟩ := by
  have hT : (⟨h, g, d, t, os⟩ : Shared).TypeIs (.builtin id) "method_descriptor" := hty
  refine wpAny_call_entry slot_mtd_get hT entry_mtd_get ?_ (args_mtd_get _ _ _)
  unfold Builtin.«method_descriptor.__get__»
  repeat (any_goals (first | assumption | (with_reducible refine Looks.at hsub ?_) | (with_reducible refine ks_wpAny_isType_cls hC hcd ?_) | (with_reducible refine wpAny_loadPart_at hx ?_; rw [hc]) | wp_step))
  cases Manifest.toldItsClass.contains id
  all_goals (repeat (any_goals (first | assumption | (rw [hown]; with_reducible refine Looks.at hsub ?_) | (with_reducible refine ks_wpAny_isType_cls hC hcd ?_) | (with_reducible refine wpAny_loadPart_at hx ?_; rw [hc]) | (with_reducible refine wpAny_newObj_type ?_ (by size_fits)) | wp_step)))
  all_goals exact ⟨_, rfl, hq⟩
end
section
variable {w : World} {A : Around} {E : Value → Shared → Prop} {h : Heap} {g : Array GenState} {d : Drawn} {t : Nat} {os : OsState}
theorem super_ga {so D x C : Addr} {DT BT gid : String} {l₀ l : List Value} {K : Frag} {name : Str} {id : String} {tk : Tok} {Q : Fin → Shared → Prop}
    (hso : h.get? so = some { cls := .type "super", dict := none, data := .fields #[.ref D, .ref x, .ref C], slots := #[] }) (hno : Looks (model prog w) h (opaqueClassAbove (.ref C)) none)
    (hC : Looks (model prog w) h (mroOf (.ref C)) l₀) (hl : (l₀.dropWhile (· != .ref D)).drop 1 = l) (X : K.In h)
    (hf : alongIn K name l = some (some (.builtin id))) (hty : typeOf (.builtin id) = pure (.type DT)) (hlk : typeLookup (.type DT) "__get__" = pure (some (.builtin gid))) (hxC : x ≠ C) (hn : (name == ("__class__" : Str)) = false)
    (hget : ∀ {A : Around} {t : Nat} {Q : Value → Shared → Prop} {E : Value → Shared → Prop}, Q (.ref h.objs.size) ⟨h.push { cls := .type BT, data := .fields #[.builtin id, .ref x] }, g, d, t, os⟩ → wpAny (model prog w) A (call (.builtin gid) [.builtin id, .ref x, .ref C]) Q E ⟨h, g, d, t, os⟩)
    (hq : Q (.done (.ret (.ref h.objs.size))) ⟨h.push { cls := .type BT, data := .fields #[.builtin id, .ref x] }, g, d, t, os⟩) :
    wpAny (model prog w) A (Builtin.«super.__getattribute__» ⟨[.ref so, .str name tk], []⟩) Q E ⟨h, g, d, t, os⟩ := by
  have hne : (Value.ref x == Value.ref C) = false := by simp [hxC]
  have hTf : (⟨h, g, d, t, os⟩ : Shared).TypeIs (.builtin id) DT := hty
  have hdt : ({ cls := .type "super", dict := none, data := .fields #[.ref D, .ref x, .ref C], slots := #[] } : Obj).data = .fields #[.ref D, .ref x, .ref C] := rfl
  have f0 : (#[.ref D, .ref x, .ref C] : Array Value)[0]? = some (.ref D) := rfl
  have f1 : (#[.ref D, .ref x, .ref C] : Array Value)[1]? = some (.ref x) := rfl
  have f2 : (#[.ref D, .ref x, .ref C] : Array Value)[2]? = some (.ref C) := rfl
  unfold Builtin.«super.__getattribute__»
  repeat (first
    | (with_reducible refine wpAny_field hso hdt f0 ?_) | (with_reducible refine wpAny_field hso hdt f1 ?_) | (with_reducible refine wpAny_field hso hdt f2 ?_)
    | (with_reducible refine ks_wpAny_notOpaque hno ?_)
    | (with_reducible refine Looks.at hC ?_; rw [hl])
    | (refine ks_forIn_along X (fun _ _ => rfl) rfl ?_ hf)
    | (with_reducible refine wpAny_typeOf hTf ?_)
    | (with_reducible refine hget ?_)
    | (with_reducible refine ⟨_, rfl, ?_⟩)
    | (simp only [hn, hne, Bool.or_false, Bool.false_eq_true, if_false])
    | wp_step
    | dsimp only)
  all_goals exact hq
theorem getMethod_super {so D x C : Addr} {DT BT gid : String} {l₀ l : List Value} {K : Frag} {name : Str} {id : String} {pl : Sem Bool} {Q : Value × List Value → Shared → Prop}
    (hso : h.get? so = some { cls := .type "super", dict := none, data := .fields #[.ref D, .ref x, .ref C], slots := #[] }) (hno : Looks (model prog w) h (opaqueClassAbove (.ref C)) none)
    (hC : Looks (model prog w) h (mroOf (.ref C)) l₀) (hl : (l₀.dropWhile (· != .ref D)).drop 1 = l) (X : K.In h)
    (hf : alongIn K name l = some (some (.builtin id))) (hty : typeOf (.builtin id) = pure (.type DT)) (hlk : typeLookup (.type DT) "__get__" = pure (some (.builtin gid))) (hxC : x ≠ C) (hn : (name == ("__class__" : Str)) = false)
    (hget : ∀ {A : Around} {t : Nat} {Q : Value → Shared → Prop} {E : Value → Shared → Prop}, Q (.ref h.objs.size) ⟨h.push { cls := .type BT, data := .fields #[.builtin id, .ref x] }, g, d, t, os⟩ → wpAny (model prog w) A (call (.builtin gid) [.builtin id, .ref x, .ref C]) Q E ⟨h, g, d, t, os⟩)
    (hq : Q (.ref h.objs.size, []) ⟨h.push { cls := .type BT, data := .fields #[.builtin id, .ref x] }, g, d, t + 1, os⟩) :
    wpAny (model prog w) A (getMethod (.ref so) name pl) Q E ⟨h, g, d, t, os⟩ := by
  have hsl := F.ks_slot_super_ga.lookup
  have hcan := F.ks_canon_super_ga
  have hT : ∀ t', (⟨h, g, d, t', os⟩ : Shared).TypeIs (.ref so) "super" := fun _ => ⟨_, hso, rfl⟩
  unfold getMethod
  refine wpAny_bind (wpAny_specialOf (hT _) hsl ?_)
  show wpAny _ _ (if (Manifest.canonical "super.__getattribute__" != "object.__getattribute__") = true then _ else _) _ _ _
  rw [if_pos hcan]
  unfold getAttr getAttrBy
  refine wpAny_bind (wpAny_bind (wpAny_mkText (wpAny_holding (wpAny_bind (wpAny_typeOf (hT _) (wpAny_bind (wpAny_of_eq hsl ?_)))))))
  show wpAny _ _ (getAttrByItsOwn (.ref so) (.str name t) (.type "super") (.builtin "super.__getattribute__") true false) _ _ _
  unfold getAttrByItsOwn hookBefore callGetattribute boundAndCalled
  refine wpAny_bind (wpAny_of_eq (show (if onTheHeap (.type "super") then typeLookup (.type "super") "__getattr__" else pure none) = pure none from rfl) ?_)
  refine wpAny_bind (wpAny_attempt (wpAny_holding ?_))
  refine wpAny_bind (wpAny_of_eq (F.ks_slot_super_ga.bind _) ?_)
  refine wpAny_mono (Q := fun v s' => v = .ref h.objs.size ∧ s' = ⟨h.push { cls := .type BT, data := .fields #[.builtin id, .ref x] }, g, d, t + 1, os⟩) (E := fun _ _ => False)
    (wpAny_call_entry F.ks_slot_super_ga (hT _) F.ks_entry_super_ga (super_ga hso hno hC hl X hf hty hlk hxC hn hget ⟨_, rfl, rfl, rfl⟩) (F.ks_gaArgs_super _ _)) (fun v s' hv => ?_) fun _ _ z => z.elim
  obtain ⟨rfl, rfl⟩ := hv
  exact wpAny_pure (wpAny_pure hq)
end
end Mine
end
section
set_option genSizeOf false
set_option genSizeOfSpec false
set_option maxRecDepth 100000
namespace Mine
open PySem PySem.W PyProof.Rows
section
variable {w : World} {A : Around} {E : Value → Shared → Prop} {h : Heap} {g : Array GenState} {d : Drawn} {t : Nat} {os : OsState} {s : Shared}
theorem bound_call {b x : Addr} {BT id : String} {args : List Value} {R : Result → Shared → Prop} (hb : s.heap.get? b = some { cls := .type BT, data := .fields #[.builtin id, .ref x] }) (hBT : BT = "method-wrapper" ∨ BT = "builtin_function_or_method")
    (hck : ∀ (Q : Unit → Shared → Prop) (E : Value → Shared → Prop), Q () s → wpAny (model prog w) A.in1 (checkBoundCall id ⟨.ref x :: args, []⟩) Q E s) (hq : (Code.builtin id ⟨.ref x :: args, []⟩).quiet = true) (h : codeAny (model prog w) A (.builtin id ⟨.ref x :: args, []⟩) R s) :
    codeAny (model prog w) A (.call (.ref b) ⟨args, []⟩) R s := by
  refine codeAny_of_tree ?_
  show wpAny _ A.in1 (callAny (.ref b) ⟨args, []⟩) _ _ _
  unfold callAny
  refine wpAny_bind (wpAny_load hb ?_)
  rcases hBT with rfl | rfl
  · refine wpAny_bind (hck _ _ ?_)
    exact wpAny_pure ⟨hq, h⟩
  · refine wpAny_bind (hck _ _ ?_)
    exact wpAny_pure ⟨hq, h⟩
theorem callWith_bound {pos : Pos} {b x : Addr} {BT id : String} {l : List (Bool × Sem Value)} {Q : Value → Shared → Prop} (hBT : BT = "method-wrapper" ∨ BT = "builtin_function_or_method") (hp : l.any (·.1) = false)
    (h : wpAny (model prog w) A (spliced l) (fun vs s₁ => s₁.heap.get? b = some { cls := .type BT, data := .fields #[.builtin id, .ref x] } ∧ wpAny (model prog w) A (call (.ref b) vs) Q E s₁) E s) : wpAny (model prog w) A (callWith pos (.ref b) [] l []) Q E s := by
  unfold callWith
  refine wpAny_bind (wpAny_holding (wpAny_mono (args_ok (Q := fun a s₁ => s₁.heap.get? b = some { cls := .type BT, data := .fields #[.builtin id, .ref x] } ∧ wpAny (model prog w) A (call (.ref b) ([] ++ a.pos) a.kw) Q E s₁) hp h) (fun a s₁ h₁ => wpAny_bind (wpAny_standAt ?_)) fun _ _ x => x))
  simp only [hp, List.any_nil, Bool.or_false]
  obtain ⟨hb, h₁⟩ := h₁
  refine wpAny_bind (m := keeperOf (.ref b)) ?_
  unfold keeperOf
  refine wpAny_bind (wpAny_load hb ?_)
  rcases hBT with rfl | rfl
  · refine wpAny_pure ?_
    exact wpAny_bind (wpAny_mono h₁ (fun r s₂ hr => wpAny_bind (wpAny_holding (wpAny_point (wpAny_pure hr)))) fun _ _ x => x)
  · refine wpAny_pure ?_
    exact wpAny_bind (wpAny_mono h₁ (fun r s₂ hr => wpAny_bind (wpAny_holding (wpAny_point (wpAny_pure hr)))) fun _ _ x => x)
theorem ck_len (x : Value) : checkBoundCall "list.__len__" ⟨[x], []⟩ = pure () := by kernel_rfl
theorem ck_init (x : Value) : checkBoundCall "list.__init__" ⟨[x], []⟩ = pure () := by kernel_rfl
theorem ck_pop {x C : Addr} {ox oC : Obj} {cd : ClassData} (hx : h.get? x = some ox) (hc : ox.cls = .ref C) (hnc : ∀ c, ox.data ≠ .cls c) (hC : h.get? C = some oC) (hcd : oC.data = .cls cd) (hqn : cd.qualname = ("_Accumulator" : Str)) (hty : oC.cls = .type "type")
    (hm : Looks (model prog w) h (isSubtype (.ref C) (.type "module")) false)
    {Q : Unit → Shared → Prop} (hq : Q () ⟨h, g, d, t, os⟩) : wpAny (model prog w) A (checkBoundCall "list.pop" ⟨[.ref x], []⟩) Q E ⟨h, g, d, t, os⟩ := by
  unfold checkBoundCall
  repeat (any_goals (first | assumption | (with_reducible refine Looks.at hm ?_) | (with_reducible refine ks_wpAny_isType_inst hx hnc ?_) | (with_reducible refine ks_wpAny_isType_cls hC hcd ?_) | (with_reducible refine wpAny_loadPart_at hx ?_; rw [hc]) | (with_reducible refine wpAny_loadPart_at hC ?_; rw [hty]) | wp_step))
  rw [hcd]
  refine wpAny_pure ?_
  have hTC : (⟨h, g, d, t, os⟩ : Shared).TypeIs (.ref C) "type" := ⟨_, hC, hty⟩
  refine wpAny_bind (wpAny_typeOf hTC ?_)
  rw [if_pos (by simp)]
  rw [hqn]
  exact wpAny_of_eq (by kernel_rfl) hq
end
end Mine
end
section
set_option genSizeOf false
set_option genSizeOfSpec false
set_option maxRecDepth 100000
namespace Mine
open PySem PySem.W PyProof.Rows
section
variable {w : World} {A : Around} {E : Value → Shared → Prop} {h : Heap} {g : Array GenState} {d : Drawn} {t : Nat} {os : OsState} {s : Shared}
theorem len_code {x C : Addr} {dx : Option Addr} {vs : Array Value} {n : Nat} {sl : Array (Option Value)} {Q : Fin → Shared → Prop} (hx : h.get? x = some { cls := .ref C, dict := dx, data := .seq vs n, slots := sl }) (hq : Q (.done (.ret (.int vs.size t))) ⟨h, g, d, t + 1, os⟩) :
    wpAny (model prog w) A (Builtin.«list.__len__» ⟨[.ref x], []⟩) Q E ⟨h, g, d, t, os⟩ := by
  unfold Builtin.«list.__len__»
  repeat (any_goals (first | assumption | (with_reducible refine wpAny_seqItems hx rfl ?_) | (with_reducible refine wpAny_load hx ?_) | (with_reducible refine wpAny_loadPart_at hx ?_) | wp_step))
theorem init_code {x C : Addr} {dx : Option Addr} {n : Nat} {sl : Array (Option Value)} {Q : Fin → Shared → Prop} (hx : h.get? x = some { cls := .ref C, dict := dx, data := .seq #[] n, slots := sl }) (hq : ∀ h' n', h'.get? x = some { cls := .ref C, dict := dx, data := .seq #[] n', slots := sl } → Heap.SameBut x h h' → Q (.done (.ret .none)) ⟨h', g, d, t, os⟩) :
    wpAny (model prog w) A (Builtin.«list.__init__» ⟨[.ref x], []⟩) Q E ⟨h, g, d, t, os⟩ := by
  unfold Builtin.«list.__init__»
  repeat (any_goals (first | assumption | (with_reducible refine wpAny_seqItems hx rfl ?_) | (with_reducible refine wpAny_load hx ?_) | (with_reducible refine wpAny_loadPart_at hx ?_) | wp_step))
  exact hq _ _ (Heap.get?_update_self _ hx rfl) (Heap.SameBut.update ..)
theorem pop_code {x C : Addr} {dx : Option Addr} {vs : Array Value} {v : Value} {n : Nat} {sl : Array (Option Value)} {Q : Fin → Shared → Prop} (hx : h.get? x = some { cls := .ref C, dict := dx, data := .seq (vs.push v) n, slots := sl }) (hsz : vs.size ≤ 4096) (hq : ∀ h' n', h'.get? x = some { cls := .ref C, dict := dx, data := .seq vs n', slots := sl } → Heap.SameBut x h h' → Q (.done (.ret v)) ⟨h', g, d, t, os⟩) :
    wpAny (model prog w) A (Builtin.«list.pop» ⟨[.ref x], []⟩) Q E ⟨h, g, d, t, os⟩ := by
  unfold Builtin.«list.pop»
  repeat (any_goals (first | assumption | (with_reducible refine wpAny_seqItems hx rfl ?_) | (with_reducible refine wpAny_load hx ?_) | (with_reducible refine wpAny_loadPart_at hx ?_) | wp_step))
  have hidx : seqIndex? (-1) (vs.push v).size = some vs.size := by
    refine (place_idx (n := (vs.push v).size) (i := -1) (j := vs.size) ?_).1
    unfold place
    rw [if_neg (by decide), if_pos (by rw [Array.size_push]; lia), Array.size_push]
    congr 1; lia
  rw [hidx]
  simp only [Option.bind_some, Array.getElem?_push_size, Option.map_some]
  have he0 : True := trivial
  have he : (vs.push v).eraseIdxIfInBounds vs.size = vs := by
    apply Array.ext'
    rw [Array.eraseIdxIfInBounds_eq, dif_pos (by rw [Array.size_push]; lia)]
    simp [List.eraseIdx_append_of_length_le]
  have h1 := Heap.get?_update_self (Obj.mapSeq fun xs => xs.eraseIdxIfInBounds vs.size) hx rfl
  have hpl : (Obj.mapSeq (fun x => x.eraseIdxIfInBounds vs.size) { cls := Value.ref C, dict := dx, data := Data.seq (vs.push v) n, slots := sl }).data.pastItsLine = none := by
    show (Data.seq ((vs.push v).eraseIdxIfInBounds vs.size) _).pastItsLine = none
    rw [he]
    have : sizeLine = 16777216 := rfl
    unfold Data.pastItsLine
    simp
    lia
  repeat (any_goals (first | assumption | (with_reducible refine wpAny_update hx ?_) | wp_step))
  rw [hpl]
  refine wpAny_pure (wpAny_pure ?_)
  refine hq _ (if ((vs.push v).eraseIdxIfInBounds vs.size).size == (vs.push v).size then n else n + 1) ?_ (Heap.SameBut.update ..)
  rw [h1]
  show some ({ cls := Value.ref C, dict := dx, data := Data.seq ((vs.push v).eraseIdxIfInBounds vs.size) (if ((vs.push v).eraseIdxIfInBounds vs.size).size == (vs.push v).size then n else n + 1), slots := sl } : Obj) = _
  rw [he]
end
end Mine
end
section
open PySem PySem.W PySem.W.X PyProof.Rows
local macro_rules | `(tactic| k_head) => `(tactic| x_head)
set_option maxRecDepth 100000
set_option maxHeartbeats 0
namespace Mine
open_top hd for PySem.Challenge.rw_xl0009_01
end Mine
end
section
set_option genSizeOf false
set_option genSizeOfSpec false
set_option maxRecDepth 100000
namespace Mine
open PySem PySem.W PySem.W.X PyProof.Rows
noncomputable abbrev KK (w : World) : Frag := (Mine.hd.heap_39 w.params).filter fun p => p.1 != 113 && p.1 != 106
section
variable {w : World} {h : Heap}
theorem kk_opaque (X : (KK w).In h) : Looks (model prog w) h (opaqueClassAbove (.ref 144)) none := Looks.of_peek X (by kernel_rfl)
theorem kk_mro (X : (KK w).In h) : Looks (model prog w) h (mroOf (.ref 144)) [.ref 144, .type "list", .type "object"] := Looks.of_peek X (by kernel_rfl)
theorem kk_sub_list (X : (KK w).In h) : Looks (model prog w) h (isSubtype (.ref 144) (.type "list")) true := Looks.of_peek X (by kernel_rfl)
theorem kk_sub_self (X : (KK w).In h) : Looks (model prog w) h (isSubtype (.ref 144) (.ref 144)) true := Looks.of_peek X (by kernel_rfl)
theorem kk_sub_mod (X : (KK w).In h) : Looks (model prog w) h (isSubtype (.ref 144) (.type "module")) false := Looks.of_peek X (by kernel_rfl)
theorem along_len (w : World) : alongIn (KK w) "__len__" [.type "list", .type "object"] = some (some (.builtin "list.__len__")) := by kernel_rfl
theorem along_init (w : World) : alongIn (KK w) "__init__" [.type "list", .type "object"] = some (some (.builtin "list.__init__")) := by kernel_rfl
theorem along_pop (w : World) : alongIn (KK w) "pop" [.type "list", .type "object"] = some (some (.builtin "list.pop")) := by kernel_rfl
end
end Mine
end
section
set_option genSizeOf false
set_option genSizeOfSpec false
set_option maxRecDepth 100000
namespace Mine
open PySem PySem.W PySem.W.X PyProof.Rows
noncomputable def keysOk (es : Array DictEntry) : Bool := es.toList.all fun e => match e.key with | .str _ _ => true | _ => false
noncomputable def nsOk (K : Frag) (a : Addr) : Bool := match K.lookup a with | some ⟨_, _, .dict es _, _⟩ => keysOk es | _ => false
noncomputable def dictOf (K : Frag) (a : Addr) : Array DictEntry := match K.lookup a with | some ⟨_, _, .dict es _, _⟩ => es | _ => #[]
theorem ns_of {K : Frag} {h : Heap} (X : K.In h) {a : Addr} (e : nsOk K a = true) : h.Ns a (nsFind (dictOf K a)) := by
  unfold nsOk at e
  unfold dictOf
  split at e
  · rename_i c d es ep sl hK
    refine ⟨_, es, ep, X a _ hK, rfl, fun x hx => ?_, fun _ => rfl⟩
    have := List.all_eq_true.mp e x (Array.mem_toList_iff.mpr hx)
    split at this
    · rename_i s t hk; exact ⟨s, t, hk⟩
    · exact nf this
  · exact nf e
section
variable {w : World} {h : Heap}
theorem ok_g (w : World) : nsOk (KK w) mainGlobals = true := by kernel_rfl
theorem ok_b (w : World) : nsOk (KK w) builtinsNs = true := by kernel_rfl
theorem ok_s (w : World) : nsOk (KK w) cStatics = true := by kernel_rfl
noncomputable def mgK (w : World) : Str → Option Value := nsFind (dictOf (KK w) mainGlobals)
noncomputable def mbK (w : World) : Str → Option Value := nsFind (dictOf (KK w) builtinsNs)
theorem g_len (w : World) : mgK w "len" = none ∧ mbK w "len" = some (.builtin "len") := ⟨by kernel_rfl, by kernel_rfl⟩
theorem g_sum (w : World) : mgK w "sum" = none ∧ mbK w "sum" = some (.builtin "sum") := ⟨by kernel_rfl, by kernel_rfl⟩
theorem g_list (w : World) : mgK w "list" = none ∧ mbK w "list" = some (.type "list") := ⟨by kernel_rfl, by kernel_rfl⟩
theorem g_sorted (w : World) : mgK w "sorted" = none ∧ mbK w "sorted" = some (.builtin "sorted") := ⟨by kernel_rfl, by kernel_rfl⟩
theorem g_max (w : World) : mgK w "max" = none ∧ mbK w "max" = some (.builtin "max") := ⟨by kernel_rfl, by kernel_rfl⟩
theorem tp_K (X : (KK w).In h) : Tp h (mgK w) (mbK w) where
  g := ns_of X (ok_g w)
  b := ns_of X (ok_b w)
  lim := ⟨_, ns_of X (ok_s w), by kernel_rfl⟩
  nb := ⟨_, ns_of X (ok_s w), by kernel_rfl⟩
  blt := fun f fv hf => by
    unfold bltV at hf
    by_cases q1 : f = ("len" : Str)
    · rw [if_pos q1] at hf; apply sm1 hf; subst q1; exact g_len w
    rw [if_neg q1] at hf
    by_cases q2 : f = ("sum" : Str)
    · rw [if_pos q2] at hf; apply sm1 hf; subst q2; exact g_sum w
    rw [if_neg q2] at hf
    by_cases q3 : f = ("list" : Str)
    · rw [if_pos q3] at hf; apply sm1 hf; subst q3; exact g_list w
    rw [if_neg q3] at hf
    by_cases q4 : f = ("sorted" : Str)
    · rw [if_pos q4] at hf; apply sm1 hf; subst q4; exact g_sorted w
    rw [if_neg q4] at hf
    by_cases q5 : f = ("max" : Str)
    · rw [if_pos q5] at hf; apply sm1 hf; subst q5; exact g_max w
    rw [if_neg q5] at hf; exact nn hf
  range := ⟨by kernel_rfl, by kernel_rfl⟩
  str := ⟨by kernel_rfl, by kernel_rfl⟩
  enum := ⟨by kernel_rfl, by kernel_rfl⟩
theorem re_K (X : (KK w).In h) : RePat h (mgK w) 50 49 where
  g := by kernel_rfl
  pat := ⟨301, 328, X 50 _ (by kernel_rfl)⟩
  code := ⟨0, X 49 _ (by kernel_rfl)⟩
end
end Mine
end
section
set_option genSizeOf false
set_option genSizeOfSpec false
set_option maxRecDepth 100000
namespace Mine
open PySem PySem.W PySem.W.X PyProof.Rows
noncomputable def fdOf (K : Frag) (a : Addr) : Option FuncData := match K.lookup a with | some ⟨_, _, .func fd, _⟩ => some fd | _ => none
noncomputable def recOk (K : Frag) (fd : FuncData) : Bool := match fd.code with
  | .ref c => match K.lookup c with
    | some ⟨_, _, .fields vs, _⟩ => match vs[1]? with
      | some (Value.str q _) => decide (q = fd.qualname)
      | _ => false
    | _ => false
  | _ => false
theorem rec_of {K : Frag} {h : Heap} (X : K.In h) {fd : FuncData} (e : recOk K fd = true) : h.CodeRec fd.code fd.qualname := by
  unfold recOk at e
  split at e
  · rename_i c hc
    split at e
    · rename_i hK
      split at e
      · rename_i q t hv
        have := of_decide_eq_true e
        subst this
        exact ⟨c, _, _, t, hc, X c _ hK, rfl, hv⟩
      · exact nf e
    · exact nf e
  · exact nf e
section
variable {w : World} {h : Heap}
theorem fn_of {f : Str} {a : Addr} {d : Df} (X : (KK w).In h) (hm : mgK w f = some (.ref a)) (hd : df? f = some d)
    (e1 : (fdOf (KK w) a).map (fun fd => (fd.body, fd.scope, fd.closure, fd.globals, fd.builtins)) = (df? f).map fun d => (FuncBody.stmts d.body, d.scope, [], mainGlobals, builtinsNs)) (e2 : ((fdOf (KK w) a).any (recOk (KK w))) = true)
    (e3 : ∀ vals : List Value, vals.length = d.params.length → (fdOf (KK w) a).map (fun fd => bindArgs fd ⟨vals, []⟩) = some (pure (d.params.zip vals))) : ∃ a o fd, mgK w f = some (.ref a) ∧ FnIs h d a o fd := by
  rw [hd] at e1
  unfold fdOf at e1 e2 e3
  split at e1
  · rename_i c dd fd sl hK
    rw [hK] at e2 e3
    simp only [Option.map_some, Option.some.injEq, Prod.mk.injEq] at e1
    refine an5 (e1) fun q1 q2 q3 q4 q5 => ?_
    exact ⟨a, _, fd, hm, ⟨X a _ hK, rfl, q1, q2, q3, q4, q5, rec_of X (by simpa using e2), fun vals hl => by simpa using e3 vals hl⟩⟩
  · exact nn e1
theorem fn_unmatched (X : (KK w).In h) {d : Df} (hd : df? "unmatched" = some d) : ∃ a o fd, mgK w "unmatched" = some (.ref a) ∧ FnIs h d a o fd := by
  have e : mgK w "unmatched" = some (.ref 45) := by kernel_rfl
  refine fn_of X e hd (by kernel_rfl) (by kernel_rfl) fun vals hl => ?_
  have hp : d.params = [("match" : Str)] := by
    have : (df? "unmatched").map (·.params) = some [("match" : Str)] := by kernel_rfl
    rw [hd] at this; exact Option.some.inj this
  rw [hp] at hl ⊢
  obtain ⟨v0, rfl⟩ := len_1 hl
  kernel_rfl
theorem fn_liberal_is_HDN (X : (KK w).In h) {d : Df} (hd : df? "liberal_is_HDN" = some d) : ∃ a o fd, mgK w "liberal_is_HDN" = some (.ref a) ∧ FnIs h d a o fd := by
  have e : mgK w "liberal_is_HDN" = some (.ref 57) := by kernel_rfl
  refine fn_of X e hd (by kernel_rfl) (by kernel_rfl) fun vals hl => ?_
  have hp : d.params = [("text" : Str)] := by
    have : (df? "liberal_is_HDN").map (·.params) = some [("text" : Str)] := by kernel_rfl
    rw [hd] at this; exact Option.some.inj this
  rw [hp] at hl ⊢
  obtain ⟨v0, rfl⟩ := len_1 hl
  kernel_rfl
theorem fn_strip_exception_details (X : (KK w).In h) {d : Df} (hd : df? "_strip_exception_details" = some d) : ∃ a o fd, mgK w "_strip_exception_details" = some (.ref a) ∧ FnIs h d a o fd := by
  have e : mgK w "_strip_exception_details" = some (.ref 64) := by kernel_rfl
  refine fn_of X e hd (by kernel_rfl) (by kernel_rfl) fun vals hl => ?_
  have hp : d.params = [("msg" : Str)] := by
    have : (df? "_strip_exception_details").map (·.params) = some [("msg" : Str)] := by kernel_rfl
    rw [hd] at this; exact Option.some.inj this
  rw [hp] at hl ⊢
  obtain ⟨v0, rfl⟩ := len_1 hl
  kernel_rfl
theorem fn_gt (X : (KK w).In h) {d : Df} (hd : df? "gt" = some d) : ∃ a o fd, mgK w "gt" = some (.ref a) ∧ FnIs h d a o fd := by
  have e : mgK w "gt" = some (.ref 155) := by kernel_rfl
  refine fn_of X e hd (by kernel_rfl) (by kernel_rfl) fun vals hl => ?_
  have hp : d.params = [("a" : Str), ("b" : Str)] := by
    have : (df? "gt").map (·.params) = some [("a" : Str), ("b" : Str)] := by kernel_rfl
    rw [hd] at this; exact Option.some.inj this
  rw [hp] at hl ⊢
  obtain ⟨v0, v1, rfl⟩ := len_2 hl
  kernel_rfl
theorem fn_add (X : (KK w).In h) {d : Df} (hd : df? "add" = some d) : ∃ a o fd, mgK w "add" = some (.ref a) ∧ FnIs h d a o fd := by
  have e : mgK w "add" = some (.ref 162) := by kernel_rfl
  refine fn_of X e hd (by kernel_rfl) (by kernel_rfl) fun vals hl => ?_
  have hp : d.params = [("a" : Str), ("b" : Str)] := by
    have : (df? "add").map (·.params) = some [("a" : Str), ("b" : Str)] := by kernel_rfl
    rw [hd] at this; exact Option.some.inj this
  rw [hp] at hl ⊢
  obtain ⟨v0, v1, rfl⟩ := len_2 hl
  kernel_rfl
theorem fn_contains (X : (KK w).In h) {d : Df} (hd : df? "contains" = some d) : ∃ a o fd, mgK w "contains" = some (.ref a) ∧ FnIs h d a o fd := by
  have e : mgK w "contains" = some (.ref 169) := by kernel_rfl
  refine fn_of X e hd (by kernel_rfl) (by kernel_rfl) fun vals hl => ?_
  have hp : d.params = [("a" : Str), ("b" : Str)] := by
    have : (df? "contains").map (·.params) = some [("a" : Str), ("b" : Str)] := by kernel_rfl
    rw [hd] at this; exact Option.some.inj this
  rw [hp] at hl ⊢
  obtain ⟨v0, v1, rfl⟩ := len_2 hl
  kernel_rfl
theorem fn_countOf (X : (KK w).In h) {d : Df} (hd : df? "countOf" = some d) : ∃ a o fd, mgK w "countOf" = some (.ref a) ∧ FnIs h d a o fd := by
  have e : mgK w "countOf" = some (.ref 176) := by kernel_rfl
  refine fn_of X e hd (by kernel_rfl) (by kernel_rfl) fun vals hl => ?_
  have hp : d.params = [("a" : Str), ("b" : Str)] := by
    have : (df? "countOf").map (·.params) = some [("a" : Str), ("b" : Str)] := by kernel_rfl
    rw [hd] at this; exact Option.some.inj this
  rw [hp] at hl ⊢
  obtain ⟨v0, v1, rfl⟩ := len_2 hl
  kernel_rfl
theorem fn_indexOf (X : (KK w).In h) {d : Df} (hd : df? "indexOf" = some d) : ∃ a o fd, mgK w "indexOf" = some (.ref a) ∧ FnIs h d a o fd := by
  have e : mgK w "indexOf" = some (.ref 183) := by kernel_rfl
  refine fn_of X e hd (by kernel_rfl) (by kernel_rfl) fun vals hl => ?_
  have hp : d.params = [("a" : Str), ("b" : Str)] := by
    have : (df? "indexOf").map (·.params) = some [("a" : Str), ("b" : Str)] := by kernel_rfl
    rw [hd] at this; exact Option.some.inj this
  rw [hp] at hl ⊢
  obtain ⟨v0, v1, rfl⟩ := len_2 hl
  kernel_rfl
theorem fn_law_row (X : (KK w).In h) {d : Df} (hd : df? "_law_row" = some d) : ∃ a o fd, mgK w "_law_row" = some (.ref a) ∧ FnIs h d a o fd := by
  have e : mgK w "_law_row" = some (.ref 190) := by kernel_rfl
  refine fn_of X e hd (by kernel_rfl) (by kernel_rfl) fun vals hl => ?_
  have hp : d.params = [("signs" : Str), ("number" : Str)] := by
    have : (df? "_law_row").map (·.params) = some [("signs" : Str), ("number" : Str)] := by kernel_rfl
    rw [hd] at this; exact Option.some.inj this
  rw [hp] at hl ⊢
  obtain ⟨v0, v1, rfl⟩ := len_2 hl
  kernel_rfl
theorem fn_law_names (X : (KK w).In h) {d : Df} (hd : df? "_law_names" = some d) : ∃ a o fd, mgK w "_law_names" = some (.ref a) ∧ FnIs h d a o fd := by
  have e : mgK w "_law_names" = some (.ref 197) := by kernel_rfl
  refine fn_of X e hd (by kernel_rfl) (by kernel_rfl) fun vals hl => ?_
  have hp : d.params = [("row" : Str), ("tail" : Str)] := by
    have : (df? "_law_names").map (·.params) = some [("row" : Str), ("tail" : Str)] := by kernel_rfl
    rw [hd] at this; exact Option.some.inj this
  rw [hp] at hl ⊢
  obtain ⟨v0, v1, rfl⟩ := len_2 hl
  kernel_rfl
theorem fn_law_figures (X : (KK w).In h) {d : Df} (hd : df? "_law_figures" = some d) : ∃ a o fd, mgK w "_law_figures" = some (.ref a) ∧ FnIs h d a o fd := by
  have e : mgK w "_law_figures" = some (.ref 202) := by kernel_rfl
  refine fn_of X e hd (by kernel_rfl) (by kernel_rfl) fun vals hl => ?_
  have hp : d.params = [("sign" : Str), ("row" : Str), ("tail" : Str)] := by
    have : (df? "_law_figures").map (·.params) = some [("sign" : Str), ("row" : Str), ("tail" : Str)] := by kernel_rfl
    rw [hd] at this; exact Option.some.inj this
  rw [hp] at hl ⊢
  obtain ⟨v0, v1, v2, rfl⟩ := len_3 hl
  kernel_rfl
theorem fn_law_pairings (X : (KK w).In h) {d : Df} (hd : df? "_law_pairings" = some d) : ∃ a o fd, mgK w "_law_pairings" = some (.ref a) ∧ FnIs h d a o fd := by
  have e : mgK w "_law_pairings" = some (.ref 209) := by kernel_rfl
  refine fn_of X e hd (by kernel_rfl) (by kernel_rfl) fun vals hl => ?_
  have hp : d.params = [("pile" : Str), ("left" : Str)] := by
    have : (df? "_law_pairings").map (·.params) = some [("pile" : Str), ("left" : Str)] := by kernel_rfl
    rw [hd] at this; exact Option.some.inj this
  rw [hp] at hl ⊢
  obtain ⟨v0, v1, rfl⟩ := len_2 hl
  kernel_rfl
theorem fn_law_steady (X : (KK w).In h) {d : Df} (hd : df? "_law_steady" = some d) : ∃ a o fd, mgK w "_law_steady" = some (.ref a) ∧ FnIs h d a o fd := by
  have e : mgK w "_law_steady" = some (.ref 216) := by kernel_rfl
  refine fn_of X e hd (by kernel_rfl) (by kernel_rfl) fun vals hl => ?_
  have hp : d.params = [("pairing" : Str), ("front" : Str), ("worth" : Str)] := by
    have : (df? "_law_steady").map (·.params) = some [("pairing" : Str), ("front" : Str), ("worth" : Str)] := by kernel_rfl
    rw [hd] at this; exact Option.some.inj this
  rw [hp] at hl ⊢
  obtain ⟨v0, v1, v2, rfl⟩ := len_3 hl
  kernel_rfl
theorem fn_law_taken (X : (KK w).In h) {d : Df} (hd : df? "_law_taken" = some d) : ∃ a o fd, mgK w "_law_taken" = some (.ref a) ∧ FnIs h d a o fd := by
  have e : mgK w "_law_taken" = some (.ref 223) := by kernel_rfl
  refine fn_of X e hd (by kernel_rfl) (by kernel_rfl) fun vals hl => ?_
  have hp : d.params = [("row" : Str), ("column" : Str), ("place" : Str)] := by
    have : (df? "_law_taken").map (·.params) = some [("row" : Str), ("column" : Str), ("place" : Str)] := by kernel_rfl
    rw [hd] at this; exact Option.some.inj this
  rw [hp] at hl ⊢
  obtain ⟨v0, v1, v2, rfl⟩ := len_3 hl
  kernel_rfl
theorem fn_law (X : (KK w).In h) {d : Df} (hd : df? "law" = some d) : ∃ a o fd, mgK w "law" = some (.ref a) ∧ FnIs h d a o fd := by
  have e : mgK w "law" = some (.ref 228) := by kernel_rfl
  refine fn_of X e hd (by kernel_rfl) (by kernel_rfl) fun vals hl => ?_
  have hp : d.params = [("script" : Str)] := by
    have : (df? "law").map (·.params) = some [("script" : Str)] := by kernel_rfl
    rw [hd] at this; exact Option.some.inj this
  rw [hp] at hl ⊢
  obtain ⟨v0, rfl⟩ := len_1 hl
  kernel_rfl
theorem fns_K (X : (KK w).In h) : Fns h (mgK w) := by
  intro f d hd
  have hd' := hd
  unfold df? at hd'
  split at hd'
  · rename_i i hi
    have hm := mem_of_lookup hi
    simp only [fnAt, List.mem_cons, Prod.mk.injEq, List.not_mem_nil, or_false] at hm
    rcases hm with ⟨rfl, _⟩ | ⟨rfl, _⟩ | ⟨rfl, _⟩ | ⟨rfl, _⟩ | ⟨rfl, _⟩ | ⟨rfl, _⟩ | ⟨rfl, _⟩ | ⟨rfl, _⟩ | ⟨rfl, _⟩ | ⟨rfl, _⟩ | ⟨rfl, _⟩ | ⟨rfl, _⟩ | ⟨rfl, _⟩ | ⟨rfl, _⟩ | ⟨rfl, _⟩
    · exact fn_unmatched X hd
    · exact fn_liberal_is_HDN X hd
    · exact fn_strip_exception_details X hd
    · exact fn_gt X hd
    · exact fn_add X hd
    · exact fn_contains X hd
    · exact fn_countOf X hd
    · exact fn_indexOf X hd
    · exact fn_law_row X hd
    · exact fn_law_names X hd
    · exact fn_law_figures X hd
    · exact fn_law_pairings X hd
    · exact fn_law_steady X hd
    · exact fn_law_taken X hd
    · exact fn_law X hd
  · exact nn hd'
end
end Mine
end
section
set_option genSizeOf false
set_option genSizeOfSpec false
set_option maxRecDepth 100000
namespace Mine
open PySem PySem.W PySem.W.X PyProof.Rows
noncomputable def clsBody : List Stmt := match prog.main.body[10]? with | some (Stmt.ClassDef _ _ _ b _ _ _ _ _ _ _) => b | _ => []
noncomputable def fnBody (i : Nat) : List Stmt := match clsBody[i]? with | some (Stmt.FunctionDef _ _ b _ _ _ _ _ _ _) => b | _ => []
noncomputable abbrev bPart : List Stmt := fnBody 8
section
variable {w : World} {h : Heap}
structure MethS (K : Frag) (f cc : Addr) (body : List Stmt) (o : Obj) (fd : FuncData) : Prop where
  at' : K.lookup f = some o
  data : o.data = .func fd
  body : fd.body = .stmts body
  clo : fd.closure = [(("__class__" : Str), (68 : Addr))]
  glob : fd.globals = mainGlobals
  blt : fd.builtins = builtinsNs
  code : fd.code = .ref cc
  sup : fd.scope.names.lookup ("super" : Str) = some NameKind.globalImplicit
  cls : fd.scope.names.lookup ("__class__" : Str) = some NameKind.free
  self : fd.scope.names.lookup ("self" : Str) = some NameKind.local
  nocell : ∀ x ∈ fd.scope.names, x.2 ≠ .cell
  kind : fd.scope.kind = .function
  co : fd.scope.isCoroutine = false
  gen : fd.scope.isGenerator = false
  par : (fd.params.posonlyargs ++ fd.params.args).head?.map (·.arg) = some ("self" : Str)
  rec' : recOk K fd = true
structure Meth (K : Frag) (f cc : Addr) (body : List Stmt) (o : Obj) (fd : FuncData) : Prop extends MethS K f cc body o fd where
  bind : ∀ v, bindArgs fd ⟨[v], []⟩ = pure [(("self" : Str), v)]
noncomputable def methChk (K : Frag) (fd : FuncData) : Bool := fd.scope.names.all (fun x => x.2 != .cell) && fd.scope.kind == .function && !fd.scope.isCoroutine && !fd.scope.isGenerator && recOk K fd
theorem meth_part (w : World) : ∃ o fd, Meth (KK w) 141 140 bPart o fd := by
  have e : (fdOf (KK w) 141).map (fun fd => (fd.body, fd.closure, fd.globals, fd.builtins, fd.code, fd.scope.names.lookup ("super" : Str), fd.scope.names.lookup ("__class__" : Str), fd.scope.names.lookup ("self" : Str), (fd.params.posonlyargs ++ fd.params.args).head?.map (·.arg), methChk (KK w) fd)) =
      some (FuncBody.stmts bPart, [(("__class__" : Str), (68 : Addr))], mainGlobals, builtinsNs, Value.ref 140, some NameKind.globalImplicit, some NameKind.free, some NameKind.local, some ("self" : Str), true) := by kernel_rfl
  have e3 : ∀ v : Value, (fdOf (KK w) 141).map (fun fd => bindArgs fd ⟨[v], []⟩) = some (pure [(("self" : Str), v)]) := fun v => by kernel_rfl
  unfold fdOf at e e3
  split at e
  · rename_i c dd fd sl hK
    rw [hK] at e3
    simp only [Option.map_some, Option.some.injEq, Prod.mk.injEq] at e
    obtain ⟨q1, q2, q3, q4, q5, q6, q7, q8, q9, q10⟩ := e
    unfold methChk at q10
    simp only [Bool.and_eq_true, Bool.not_eq_true'] at q10
    obtain ⟨⟨⟨⟨r1, r2⟩, r3⟩, r4⟩, r5⟩ := q10
    exact ⟨_, fd, ⟨hK, rfl, q1, q2, q3, q4, q5, q6, q7, q8, fun x hx => by have := List.all_eq_true.mp r1 x hx; simpa using this, by simpa using r2, r3, r4, q9, r5⟩, fun v => by simpa using e3 v⟩
  · exact nn e
end
end Mine
end
section
set_option genSizeOf false
set_option genSizeOfSpec false
set_option maxRecDepth 100000
namespace Mine
open PySem PySem.W PySem.W.X PyProof.Rows
noncomputable def clsAt (K : Frag) : Option ClassData := match K.lookup 144 with | some ⟨c, _, .cls cd, _⟩ => if c == .type "type" then some cd else none | _ => none
theorem cls_ok (w : World) : (clsAt (KK w)).map (·.qualname) = some ("_Accumulator" : Str) := by kernel_rfl
theorem cls_of {w : World} {h : Heap} (X : (KK w).In h) : ∃ oC cd, h.get? 144 = some oC ∧ oC.data = .cls cd ∧ oC.cls = .type "type" ∧ cd.qualname = ("_Accumulator" : Str) := by
  have e := cls_ok w
  unfold clsAt at e
  split at e
  · rename_i c d cd sl hK
    split at e
    · rename_i hc
      exact ⟨_, cd, X 144 _ hK, rfl, by simpa using hc, by simpa using e⟩
    · exact nn e
  · exact nn e
noncomputable def fileOk (K : Frag) (cc : Addr) : Bool := match K.lookup cc with
  | some ⟨_, _, .fields vs, _⟩ => match vs[2]? with
    | some (Value.str f _) => (prog.main.file : Str) == f
    | _ => false
  | _ => false
theorem file_of {w : World} {h : Heap} {cc : Addr} (X : (KK w).In h) (e : fileOk (KK w) cc = true) : ∃ oc vs file tf, h.get? cc = some oc ∧ oc.data = .fields vs ∧ vs[2]? = some (.str file tf) ∧ ((prog.main.file : Str) == file) = true := by
  unfold fileOk at e
  split at e
  · rename_i c d vs sl hK
    split at e
    · rename_i f tf hv
      exact ⟨_, vs, f, tf, X cc _ hK, rfl, hv, e⟩
    · exact nf e
  · exact nf e
theorem no_super : (prog.main.scope.names.lookup ("super" : Str)).isSome = false := by kernel_rfl
theorem g_super (w : World) : mgK w "super" = none ∧ mbK w "super" = some (.type "super") := ⟨by kernel_rfl, by kernel_rfl⟩
theorem cell68 (w : World) : ((KK w).lookup 68).map (·.data) = some (Data.cell (some (.ref 144))) := by kernel_rfl
theorem cell_of {w : World} {h : Heap} (X : (KK w).In h) : h.IsCell 68 (some (.ref 144)) := by
  have e := cell68 w
  obtain ⟨o, ho, hd⟩ := Option.map_eq_some_iff.mp e
  exact ⟨o, X 68 o ho, hd⟩
section
variable {w : World} {A : Around} {E : Value → Shared → Prop} {h : Heap} {g : Array GenState} {d : Drawn} {t : Nat} {os : OsState}
theorem super_base {f cc L x : Addr} {ox : Obj} {body : List Stmt} {o : Obj} {fd : FuncData} {p0 p1 : Pos} {attr : Str} {whole : Sem Value} {mm : Str → Option Value} {Q : Value → Shared → Prop} (m : MethS (KK w) f cc body o fd) (X : (KK w).In h) (hfile : fileOk (KK w) cc = true)
    (hat : (attr == ("__class__" : Str)) = false) (hns : h.Ns L mm) (hself : mm ("self" : Str) = some (.ref x)) (hx : h.get? x = some ox) (hxc : ox.cls = .ref 144) (hnc : ∀ c, ox.data ≠ .cls c)
    (hq : ∀ h', h'.get? h.objs.size = some { cls := .type "super", dict := none, data := .fields #[.ref 144, .ref x, .ref 144], slots := #[] } → (∀ y o, h.get? y = some o → h'.get? y = some o) → Q (.ref h.objs.size) ⟨h', g, d, t, os⟩) :
    PySem.wpAt (model prog w) A (.func body (callEnv fd L f)) (attributeBase (.Call (.Name "super" p0) [] [] p1) attr (callEnv fd L f) whole) Q E ⟨h, g, d, t, os⟩ := by
  refine ex2_4 (cls_of X) fun oC cd hC hcd hcc hqn => ?_
  refine ex4_4 (file_of X hfile) fun oc vs file tf k1 k2 k3 k4 => ?_
  have hkind : (callEnv fd L f).scope.kind = .function := m.kind
  obtain ⟨ar, har, hself'⟩ : ∃ ar, (fd.params.posonlyargs ++ fd.params.args).head? = some ar ∧ ar.arg = ("self" : Str) := by
    have := m.par
    refine omap this fun ar h1 h2 => ?_
    exact ⟨ar, h1, h2⟩
  have hsup : (callEnv fd L f).kindOf ("super" : Str) = some .globalImplicit := m.sup
  have hcl : (callEnv fd L f).kindOf ("__class__" : Str) = some .free := m.cls
  have hse : (callEnv fd L f).kindOf ("self" : Str) = some .local := m.self
  have hglob : (callEnv fd L f).globals = mainGlobals := m.glob
  have hbl : (callEnv fd L f).builtins = builtinsNs := m.blt
  have hcells : (callEnv fd L f).cells.lookup ("__class__" : Str) = some 68 := by
    show fd.closure.lookup _ = _
    rw [m.clo]; rfl
  refine ks_wpAt_super_base (env := callEnv fd L f) (f := f) (cc := cc) (ar := ar) hsup hcl hat rfl (X f o m.at') m.data har (show (callEnv fd L f).code = .ref cc from m.code) k1 k2 k3 k4 no_super ?_
  have load : ∀ Q' : Value → Shared → Prop, Q' (.type "super") ⟨h, g, d, t, os⟩ → wpAny (model prog w) A (loadName (callEnv fd L f) "super") Q' E ⟨h, g, d, t, os⟩ := fun Q' hq' => by
    unfold loadName
    simp only [Env.blockKind, hkind, hsup, ScopeKind.isAnnotationScope, Bool.false_and, Bool.false_eq_true, if_false]
    exact Calls.loadGlobal_builtin (hglob ▸ ns_of X (ok_g w)) (g_super w).1 (hbl ▸ ns_of X (ok_b w)) (g_super w).2 hq'
  refine load _ ⟨rfl, ?_⟩
  refine wpAny_loadName_free hkind hcl hcells (cell_of X) ?_
  rw [hself']
  refine wpAny_loadName_local hkind hse (show h.Ns (callEnv fd L f).locals mm from hns) hself ?_
  refine ks_wpAny_isType_cls hC hcd ⟨rfl, ?_⟩
  exact ks_wpAny_call_super hC hcd hx hxc hnc (kk_sub_self X) hq
end
end Mine
end
section
set_option genSizeOf false
set_option genSizeOfSpec false
set_option maxRecDepth 100000
namespace Mine
open PySem PySem.W PySem.W.X PyProof.Rows
theorem entry_len' : entryFor table "list.__len__" = some Builtin.«list.__len__» := entryFor_of_tree (by kernel_rfl)
theorem own_len : (".".intercalate ("list.__len__".cutAt '.').dropLast) = "list" := by
  have e0 : "list.__len__".cutAt '.' = ["list", "__len__"] := by first | rfl | decide +kernel
  rw [e0]; decide +kernel
section
variable {w : World} {A : Around} {E : Value → Shared → Prop} {s : Shared}
theorem part_call {x : Addr} {dx : Option Addr} {vs : Array Value} {n : Nat} {sl : Array (Option Value)} {Q : Value → Shared → Prop} (hroom : A.depth < recursionLimit) (X : (KK w).In s.heap)
    (hx : s.heap.get? x = some { cls := .ref 144, dict := dx, data := .seq vs n, slots := sl })
    (hq : ∀ h' t t', (∀ b o, s.heap.get? b = some o → h'.get? b = some o) → Q (.int vs.size t) { s with heap := h', toks := t' }) : wpAny (model prog w) A (call (.ref 141) [.ref x]) Q E s := by
  refine ex2_1 (meth_part w) fun o fd m => ?_
  refine wpAny_call (ks_codeAny_call_defAt hroom (X _ _ m.at') m.data (tp_K X).lim (rec_of X m.rec') m.body (BindsTo.of_eq (m.bind _)) m.nocell (fun y hy => by
    have : y = (("self" : Str), Value.ref x) := by simpa using hy
    subst this; exact m.self) (fun h0 hns hk => ?_) m.co m.gen m.kind)
  have X0 := X.keeps hk
  have hx0 := hk _ _ hx
  refine ks_wpAt_execs_cons (ks_wpAt_Return_some (ks_wpAt_MethodCall ?_))
  refine super_base m.toMethS X0 (by kernel_rfl) (by decide) hns (by simp) hx0 rfl (fun c q => by cases q) fun h1 hso hk1 => ?_
  have X1 := X0.keeps hk1
  have hx1 := hk1 _ _ hx0
  have hne : x ≠ 144 := fun q => by
    refine ex2_3 (cls_of X1) fun oC cd hC hcd _ => ?_
    subst q; rw [hC] at hx1; cases hx1; cases hcd
  refine getMethod_super hso (kk_opaque X1) (kk_mro X1) rfl X1 (along_len w) type_list_len' slot_wd_get.lookup hne (by decide) (fun hq' => wd_get type_list_len' hx1 rfl hne (kk_sub_list X1) own_len hq') ?_
  dsimp only
  have hk2 : ∀ b o, h1.get? b = some o → (h1.push { cls := .type "method-wrapper", data := .fields #[.builtin "list.__len__", .ref x] }).get? b = some o := fun b o e => Heap.get?_push_of_some _ e
  have hb : (h1.push { cls := .type "method-wrapper", data := .fields #[.builtin "list.__len__", .ref x] }).get? h1.objs.size = some { cls := .type "method-wrapper", data := .fields #[.builtin "list.__len__", .ref x] } := Heap.get?_push_size _ rfl
  refine callWith_bound (.inl rfl) rfl (wpAny_items_nil ⟨hb, ?_⟩)
  refine wpAny_call (bound_call hb (.inl rfl) (fun Q' E' hq' => wpAny_of_eq (ck_len _) hq') (Code.quiet_builtin _ (by decide +kernel)) (codeAny_builtin entry_len' ?_))
  refine len_code (hk2 _ _ hx1) ?_
  exact hq _ _ _ fun b o e => hk2 b o (hk1 b o (hk b o e))
end
end Mine
end
section
set_option genSizeOf false
set_option genSizeOfSpec false
set_option maxRecDepth 100000
namespace Mine
open PySem PySem.W PySem.W.X PyProof.Rows
section
variable {w : World} {A : Around} {E : Value → Shared → Prop} {h : Heap} {g : Array GenState} {d : Drawn} {t : Nat} {os : OsState}
theorem kk_ga (X : (KK w).In h) : Looks (model prog w) h (typeLookup (.ref 144) "__getattribute__") (some (.builtin "list.__getattribute__")) := Looks.of_peek X (by kernel_rfl)
theorem kk_gattr (X : (KK w).In h) : Looks (model prog w) h (typeLookup (.ref 144) "__getattr__") none := Looks.of_peek X (by kernel_rfl)
theorem kk_part (X : (KK w).In h) : Looks (model prog w) h (typeLookup (.ref 144) "part_count") (some (.ref 141)) := Looks.of_peek X (by kernel_rfl)
theorem kk_push (X : (KK w).In h) : Looks (model prog w) h (typeLookup (.ref 144) "push") (some (.ref 88)) := Looks.of_peek X (by kernel_rfl)
theorem kk_pop (X : (KK w).In h) : Looks (model prog w) h (typeLookup (.ref 144) "pop") (some (.ref 104)) := Looks.of_peek X (by kernel_rfl)
theorem kk_only (X : (KK w).In h) : Looks (model prog w) h (typeLookup (.ref 144) "is_onlyws") (some (.ref 133)) := Looks.of_peek X (by kernel_rfl)
theorem canon_list : (Manifest.canonical "list.__getattribute__" != "object.__getattribute__") = false := by decide +kernel
theorem spec_of {x : Addr} {ox : Obj} {name : Str} {r : Option Value} {Q : Option Value → Shared → Prop} (hx : h.get? x = some ox) (hc : ox.cls = .ref 144) (hl : Looks (model prog w) h (typeLookup (.ref 144) name) r) (hq : Q r ⟨h, g, d, t, os⟩) :
    wpAny (model prog w) A (specialOf (.ref x) name) Q E ⟨h, g, d, t, os⟩ := by
  unfold specialOf typeOf
  refine wpAny_bind ?_
  repeat (any_goals (first | (with_reducible refine wpAny_loadPart_at hx ?_; rw [hc]) | wp_step))
  all_goals exact Looks.at hl hq
theorem inst_method {x dx f : Addr} {ox of : Obj} {name : Str} {mm : Str → Option Value} {pl : Sem Bool} {Q : Value × List Value → Shared → Prop} (X : (KK w).In h) (hx : h.get? x = some ox) (hc : ox.cls = .ref 144) (hd : ox.dict = some dx) (hns : h.Ns dx mm) (hn : mm name = none)
    (hl : Looks (model prog w) h (typeLookup (.ref 144) name) (some (.ref f))) (hf : h.get? f = some of) (hfc : of.cls = .type "function")
    (hq : Q (.ref f, [.ref x]) ⟨h, g, d, t, os⟩) : wpAny (model prog w) A (getMethod (.ref x) name pl) Q E ⟨h, g, d, t, os⟩ := by
  have hTf : (⟨h, g, d, t, os⟩ : Shared).TypeIs (.ref f) "function" := ⟨_, hf, hfc⟩
  have hcan := canon_list
  unfold getMethod
  refine wpAny_bind (spec_of hx hc (kk_ga X) ?_)
  show wpAny _ _ (if (Manifest.canonical "list.__getattribute__" != "object.__getattribute__") = true then _ else _) _ _ _
  rw [hcan, if_neg Bool.false_ne_true]
  refine wpAny_bind (spec_of hx hc (kk_gattr X) ?_)
  show wpAny _ _ (if (none : Option Value).isSome = true then _ else _) _ _ _
  rw [if_neg (by decide)]
  refine wpAny_bind (spec_of hx hc hl ?_)
  refine wpAny_bind (wpAny_typeOf hTf ?_)
  rw [if_neg (by decide)]
  refine wpAny_bind (wpAny_loadPart_at hx ?_)
  rw [hd]
  refine wpAny_bind (wpAny_nsGet hns ?_)
  rw [hn]
  rw [if_neg (by decide)]
  exact wpAny_bind (wpAny_rule (wpAny_pure hq))
end
end Mine
end
section
set_option genSizeOf false
set_option genSizeOfSpec false
set_option maxRecDepth 100000
namespace Mine
open PySem PySem.W PySem.W.X PyProof.Rows
section
variable {w : World} {A : Around} {E : Value → Shared → Prop} {s : Shared} {env : Env}
theorem meth_eval {M : Model} {o : Expr} {name : Str} {apos pos : Pos} {args : List Expr} {pl : Sem Bool} {Q : Value → Shared → Prop}
    (h : wpAny M A (attributeBase o name env (eval o env)) (fun ov s₁ => wpAny M A (getMethod ov name pl) (fun fx s₂ => wpAny M A (callWith pos fx.1 fx.2 (backTo pos (starEach args env)) []) Q E s₂) E s₁) E s)
    (he : eval (.Call (.Attribute o name apos) args [] pos) env = (do
      let ov ← attributeBase o name env (eval o env)
      standAt apos.atName
      let (f, first) ← holding [ov] (getMethod ov name pl)
      callWith pos f first (backTo pos (starEach args env)) []) := by rfl) :
    wpAny M A (eval (.Call (.Attribute o name apos) args [] pos) env) Q E s := by
  rw [he]
  exact wpAny_bind (wpAny_mono h (fun ov s₁ h₁ => wpAny_bind (wpAny_standAt (wpAny_bind (wpAny_holding (wpAny_mono h₁ (fun fx s₂ h₂ => h₂) fun _ _ x => x))))) fun _ _ x => x)
noncomputable abbrev bPop : List Stmt := fnBody 3
theorem meth_pop (w : World) : ∃ o fd, Meth (KK w) 104 103 bPop o fd := by
  have e : (fdOf (KK w) 104).map (fun fd => (fd.body, fd.closure, fd.globals, fd.builtins, fd.code, fd.scope.names.lookup ("super" : Str), fd.scope.names.lookup ("__class__" : Str), fd.scope.names.lookup ("self" : Str), (fd.params.posonlyargs ++ fd.params.args).head?.map (·.arg), methChk (KK w) fd)) =
      some (FuncBody.stmts bPop, [(("__class__" : Str), (68 : Addr))], mainGlobals, builtinsNs, Value.ref 103, some NameKind.globalImplicit, some NameKind.free, some NameKind.local, some ("self" : Str), true) := by kernel_rfl
  have e3 : ∀ v : Value, (fdOf (KK w) 104).map (fun fd => bindArgs fd ⟨[v], []⟩) = some (pure [(("self" : Str), v)]) := fun v => by kernel_rfl
  unfold fdOf at e e3
  split at e
  · rename_i c dd fd sl hK
    rw [hK] at e3
    simp only [Option.map_some, Option.some.injEq, Prod.mk.injEq] at e
    obtain ⟨q1, q2, q3, q4, q5, q6, q7, q8, q9, q10⟩ := e
    unfold methChk at q10
    simp only [Bool.and_eq_true, Bool.not_eq_true'] at q10
    obtain ⟨⟨⟨⟨r1, r2⟩, r3⟩, r4⟩, r5⟩ := q10
    exact ⟨_, fd, ⟨hK, rfl, q1, q2, q3, q4, q5, q6, q7, q8, fun x hx => by have := List.all_eq_true.mp r1 x hx; simpa using this, by simpa using r2, r3, r4, q9, r5⟩, fun v => by simpa using e3 v⟩
  · exact nn e
theorem fn_cls {w : World} {f cc : Addr} {body : List Stmt} {o : Obj} {fd : FuncData} (m : MethS (KK w) f cc body o fd) (hc : ((KK w).lookup f).map (·.cls) = some (.type "function")) : o.cls = .type "function" := by
  rw [m.at'] at hc; simpa using hc
end
end Mine
end
section
set_option genSizeOf false
set_option genSizeOfSpec false
set_option maxRecDepth 100000
namespace Mine
open PySem PySem.W PySem.W.X PyProof.Rows
theorem entry_pop' : entryFor table "list.pop" = some Builtin.«list.pop» := entryFor_of_tree (by kernel_rfl)
theorem own_pop : (".".intercalate ("list.pop".cutAt '.').dropLast) = "list" := by
  have e0 : "list.pop".cutAt '.' = ["list", "pop"] := by first | rfl | decide +kernel
  rw [e0]; decide +kernel
theorem type_pop' : typeOf (.builtin "list.pop") = pure (.type "method_descriptor") := by show builtinType _ = _; rw [builtinType_eq_fast]; kernel_rfl
section
variable {w : World} {A : Around} {E : Value → Shared → Prop} {s : Shared}
theorem pop_call {x dx : Addr} {vs : Array Value} {v : Value} {n : Nat} {sl : Array (Option Value)} {mm : Str → Option Value} {Q : Value → Shared → Prop} (hroom : A.depth + 1 < recursionLimit) (hh : A.handled = none) (X : (KK w).In s.heap)
    (hx : s.heap.get? x = some { cls := .ref 144, dict := some dx, data := .seq (vs.push v) n, slots := sl }) (hns : s.heap.Ns dx mm) (hmm : mm ("part_count" : Str) = none) (hsz : vs.size ≤ 4096)
    (hq : ∀ h' t' n', h'.get? x = some { cls := .ref 144, dict := some dx, data := .seq vs n', slots := sl } → (∀ b o, b ≠ x → s.heap.get? b = some o → h'.get? b = some o) → Q v { s with heap := h', toks := t' }) : wpAny (model prog w) A (call (.ref 104) [.ref x]) Q E s := by
  refine ex2_1 (meth_pop w) fun o fd m => ?_
  refine ex2_1 (meth_part w) fun op fp mp => ?_
  refine wpAny_call (ks_codeAny_call_defAt (Nat.lt_of_succ_lt hroom) (X _ _ m.at') m.data (tp_K X).lim (rec_of X m.rec') m.body (BindsTo.of_eq (m.bind _)) m.nocell (fun y hy => by
    have : y = (("self" : Str), Value.ref x) := by simpa using hy
    subst this; exact m.self) (fun h0 hns0 hk => ?_) m.co m.gen m.kind)
  have X0 := X.keeps hk
  have hx0 := hk _ _ hx
  have hkind : (callEnv fd s.heap.objs.size 104).scope.kind = .function := m.kind
  have hse : (callEnv fd s.heap.objs.size 104).kindOf ("self" : Str) = some .local := m.self
  refine ks_wpAt_execs_cons (ks_wpAt_If ?_)
  refine wpAt_of_wpAny (wpAny_isTrue_Compare1 ?_ rfl)
  refine meth_eval (wpAny_Name (wpAny_loadName_local (v := .ref x) hkind hse hns0 (by simp) ?_) (by decide))
  refine inst_method X0 hx0 rfl rfl (hns.keeps hk) hmm (kk_part X0) (X0 _ _ mp.at') (fn_cls mp.toMethS (by kernel_rfl)) ?_
  refine Calls.callWith_function (o := op) (fd := fp) (args_ok rfl (wpAny_items_nil ⟨⟨X0 _ _ mp.at', mp.data⟩, ?_⟩))
  refine part_call (s := { s with heap := h0, toks := _ }) hroom X0 hx0 fun h1 t1 t2 hk1 => ?_
  refine wpAny_Constant_int ?_
  refine eq_int ?_
  refine wpAny_truthy_bool ?_
  have hne0 : ((((vs.push v).size : Int)) == 0) = false := by
    rw [Array.size_push]; simp; lia
  rw [hne0, if_neg Bool.false_ne_true]
  refine wpAt_of_wpAny (wpAny_execs_nil ?_)
  dsimp only
  refine ks_wpAt_execs_cons (ks_wpAt_Return_some (ks_wpAt_MethodCall ?_))
  have X1 := X0.keeps hk1
  have hx1 := hk1 _ _ hx0
  have hns1 := hns0.keeps hk1
  refine super_base m.toMethS X1 (by kernel_rfl) (by decide) hns1 (by simp) hx1 rfl (fun c q => by cases q) fun h2 hso hk2 => ?_
  have X2 := X1.keeps hk2
  have hx2 := hk2 _ _ hx1
  refine ex2_4 (cls_of X2) fun oC cd hC hcd hcc hqn => ?_
  have hne : x ≠ 144 := fun q => by
    subst q; rw [hC] at hx2; cases hx2; cases hcd
  refine getMethod_super hso (kk_opaque X2) (kk_mro X2) rfl X2 (along_pop w) type_pop' slot_mtd_get.lookup hne (by decide) (fun hq' => mtd_get type_pop' hx2 rfl hne hC hcd (kk_sub_list X2) own_pop hq') ?_
  dsimp only
  have hk3 : ∀ b o, h2.get? b = some o → (h2.push { cls := .type "builtin_function_or_method", data := .fields #[.builtin "list.pop", .ref x] }).get? b = some o := fun b o e => Heap.get?_push_of_some _ e
  have hb : (h2.push { cls := .type "builtin_function_or_method", data := .fields #[.builtin "list.pop", .ref x] }).get? h2.objs.size = some { cls := .type "builtin_function_or_method", data := .fields #[.builtin "list.pop", .ref x] } := Heap.get?_push_size _ rfl
  refine callWith_bound (.inr rfl) rfl (wpAny_items_nil ⟨hb, ?_⟩)
  have hx3 := hk3 _ _ hx2
  refine wpAny_call (bound_call hb (.inr rfl) (fun Q' E' hq' => ck_pop hx3 rfl (fun c q => by cases q) (hk3 _ _ hC) hcd hqn hcc ((kk_sub_mod X2).keeps hk3) hq') (Code.quiet_builtin _ (by decide +kernel)) (codeAny_builtin entry_pop' ?_))
  refine pop_code hx3 hsz fun h4 n4 hx4 hs4 => ?_
  exact hq h4 _ n4 hx4 fun b o hbx e => (hs4.2 b hbx).trans (hk3 b o (hk2 b o (hk1 b o (hk b o e))))
end
end Mine
end
section
set_option genSizeOf false
set_option genSizeOfSpec false
set_option maxRecDepth 100000
namespace Mine
open PySem PySem.W PySem.W.X PyProof.Rows
noncomputable abbrev bPush : List Stmt := fnBody 1
section
variable {w : World} {A : Around} {E : Value → Shared → Prop} {h : Heap} {g : Array GenState} {d : Drawn} {t : Nat} {os : OsState}
theorem kk_append (X : (KK w).In h) : Looks (model prog w) h (typeLookup (.ref 144) "append") (some (.builtin "list.append")) := Looks.of_peek X (by kernel_rfl)
theorem kk_cknew (X : (KK w).In h) : Looks (model prog w) h (checkBuiltinCall "list.__new__" ⟨[.ref 144], []⟩) () := Looks.of_peek X (by kernel_rfl)
theorem kk_ckinit (X : (KK w).In h) : Looks (model prog w) h (checkBuiltinCall "type.__call__" ⟨[.ref 144], []⟩) () := Looks.of_peek X (by kernel_rfl)
theorem kk_init (X : (KK w).In h) : Looks (model prog w) h (typeLookup (.ref 144) "__init__") (some (.ref 81)) := Looks.of_peek X (by kernel_rfl)
theorem cls_del (w : World) : (clsAt (KK w)).map (fun cd => (cd.hasDel, cd.abstract, cd.mro.isEmpty, cd.hasDict)) = some (false, false, false, true) := by kernel_rfl
theorem cls_of2 {w : World} {h : Heap} (X : (KK w).In h) : ∃ oC cd, h.get? 144 = some oC ∧ oC.data = .cls cd ∧ oC.cls = .type "type" ∧ cd.hasDel = false ∧ cd.abstract = false ∧ cd.mro.isEmpty = false := by
  have e := cls_del w
  unfold clsAt at e
  split at e
  · rename_i c d cd sl hK
    split at e
    · rename_i hc
      simp only [Option.map_some, Option.some.injEq, Prod.mk.injEq] at e
      exact ⟨_, cd, X 144 _ hK, rfl, by simpa using hc, e.1, e.2.1, e.2.2.1⟩
    · exact nn e
  · exact nn e
theorem new_inst (X : (KK w).In h) {R : Result → Shared → Prop} (hq : ∀ h' x dx, h.get? x = none → h.get? dx = none → x ≠ dx → h'.get? x = some { cls := .ref 144, dict := some dx, data := .seq #[] } → h'.get? dx = some { cls := .type "dict", data := .dict #[] } → (∀ b o, h.get? b = some o → h'.get? b = some o) → R (.ok (.ret (.ref x))) ⟨h', g, d, t, os⟩) :
    codeAny (model prog w) A (.call (.builtin "list.__new__") ⟨[.ref 144], []⟩) R ⟨h, g, d, t, os⟩ := by
  refine ex2_6 (cls_of2 X) fun oC cd hC hcd hcc hdel _ _ => ?_
  refine codeAny_of_tree ?_
  show wpAny _ A.in1 (do checkBuiltinCall "list.__new__" ⟨[.ref 144], []⟩; again (.builtin "list.__new__" ⟨[.ref 144], []⟩)) _ _ _
  refine wpAny_bind (Looks.at (kk_cknew X) (wpAny_pure ⟨plainId_quiet PySem.F.plain_list_new _, codeAny_builtin_stack PySem.F.entry_list_new rfl fun p st => ?_⟩))
  rw [Around.under_plainId PySem.F.plain_list_new _]
  have how := owner_list_new
  repeat (any_goals (first | assumption | (rw [how]) | (with_reducible refine Looks.at (kk_sub_list X) ?_) | (with_reducible refine ks_wpAny_isType_cls hC hcd ?_) | wp_step))
  rw [hcd]
  refine wpAny_pure ?_
  rw [hdel]
  rw [if_neg Bool.false_ne_true]
  refine wpAny_pure (wpAny_pure ?_)
  have hsz : (h.push { cls := Value.type "dict", data := Data.dict #[] }).objs.size = h.objs.size + 1 := Heap.size_push ..
  have f1 : h.get? (h.objs.size + 1) = none := by
    cases q : h.get? (h.objs.size + 1) with
    | none => rfl
    | some o => exact absurd (Heap.lt_size q) (Nat.not_lt.mpr (Nat.le_succ _))
  have hx : ((h.push { cls := Value.type "dict", data := Data.dict #[] }).push { cls := Value.ref 144, dict := some h.objs.size, data := Data.seq #[] }).get? (h.objs.size + 1) = some { cls := Value.ref 144, dict := some h.objs.size, data := Data.seq #[] } := by
    rw [← hsz]; exact Heap.get?_push_size _ rfl
  rw [hsz]
  exact hq _ (h.objs.size + 1) h.objs.size f1 (fresh_size h) (Nat.succ_ne_self _) hx (Heap.get?_push_of_some _ (Heap.get?_push_size _ rfl)) fun b o e => Heap.get?_push_of_some _ (Heap.get?_push_of_some _ e)
end
end Mine
end
section
set_option genSizeOf false
set_option genSizeOfSpec false
set_option maxRecDepth 100000
namespace Mine
open PySem PySem.W PySem.W.X PyProof.Rows
section
variable {w : World} {A : Around} {E : Value → Shared → Prop} {h : Heap} {g : Array GenState} {d : Drawn} {t : Nat} {os : OsState}
theorem kk_made (X : (KK w).In h) : Looks (model prog w) h (Bind.madeBy (.ref 144)) (some "list.__new__") := Looks.of_peek X (by kernel_rfl)
theorem kk_call (X : (KK w).In h) : Looks (model prog w) h (specialOf (.ref 144) "__call__") (some (.builtin "type.__call__")) := Looks.of_peek X (by kernel_rfl)
theorem kk_bind81 (X : (KK w).In h) (self : Value) : Looks (model prog w) h (bindSpecial (.ref 81) self) (.ref 81, [self]) := Looks.of_peek X (by kernel_rfl)
theorem make_call (X : (KK w).In h) {Q : Value → Shared → Prop}
    (hi : ∀ B : Around, B = A.under (.builtin "type.__call__" ⟨[.ref 144], []⟩) → ∀ h' x dx, h.get? x = none → h.get? dx = none → x ≠ dx → h'.get? x = some { cls := .ref 144, dict := some dx, data := .seq #[] } → h'.get? dx = some { cls := .type "dict", data := .dict #[] } → (∀ b o, h.get? b = some o → h'.get? b = some o) →
      wpAny (model prog w) B (call (.ref 81) [.ref x]) (fun v s' => v = .none ∧ Q (.ref x) s') E ⟨h', g, d, t, os⟩) : wpAny (model prog w) A (call (.ref 144) []) Q E ⟨h, g, d, t, os⟩ := by
  refine ex2_6 (cls_of2 X) fun oC cd hC hcd hcc hdel _ _ => ?_
  refine wpAny_call (codeAny_of_tree ?_)
  show wpAny _ A.in1 (callAny (.ref 144) ⟨[], []⟩) _ _ _
  unfold callAny
  refine wpAny_bind (wpAny_load hC ?_)
  rw [hcd]
  unfold callAny.viaDunder
  refine wpAny_bind (Looks.at (kk_call X) ?_)
  dsimp only
  rw [tc_bind]
  refine wpAny_bind (wpAny_pure (wpAny_bind (wpAny_pure ?_)))
  refine wpAny_pure (a := Fin.again (.call (.builtin "type.__call__") ⟨[.ref 144], []⟩)) (And.intro rfl ?_)
  refine codeAny_call_builtin_at (Code.quiet_builtin _ (by decide +kernel)) entry_typeCall (Looks.at (kk_ckinit X) ?_)
  unfold Builtin.«type.__call__»
  have hm := kk_mro X
  have hmade := kk_made X
  repeat (any_goals (first | assumption | (with_reducible refine Looks.at hm ?_) | (with_reducible refine Looks.at hmade ?_) | wp_step))
  refine new_inst X fun h' x dx f1 f2 hne hx hdx hk => ?_
  have X' := X.keeps hk
  have Tx : Looks (model prog w) h' (typeOf (.ref x)) (.ref 144) := (Looks.ld hx).andThen .now
  have hI : Looks (model prog w) h' (isInstance (.ref x) (.ref 144)) true := Tx.andThen (kk_sub_self X')
  refine wpAny_bind (Looks.at hI ?_)
  rw [if_neg (by decide)]
  unfold callSpecial? specialOf
  refine wpAny_bind (wpAny_holding (wpAny_bind (wpAny_bind (Looks.at Tx (Looks.at (kk_init X') ?_)))))
  refine wpAny_holding (wpAny_bind (Looks.at (kk_bind81 X' _) ?_))
  refine wpAny_bind (wpAny_mono (hi _ rfl h' x dx f1 f2 hne hx hdx hk) (fun v s' hv => ?_) fun _ _ z => z)
  refine an2 (hv) fun q_330 hq => ?_
  subst q_330
  refine wpAny_pure ?_
  dsimp only
  rw [if_neg (by decide)]
  exact wpAny_pure hq
end
end Mine
end
section
set_option genSizeOf false
set_option genSizeOfSpec false
set_option maxRecDepth 100000
namespace Mine
open PySem PySem.W PySem.W.X PyProof.Rows PySem.Builtin PySem.Builtin.ObjectAttr
theorem own_sa : classOwn (.type "list") "__setattr__" = pure none := by kernel_rfl
theorem refuse_list (self : Value) (l : List Value) : refuseLoop self "__setattr__" (.type "list" :: l) = refuseLoop self "__setattr__" l := by
  unfold refuseLoop
  simp only [List.forIn_cons]
  rw [own_sa]
  rw [if_neg (by decide), if_neg (by decide)]
  rfl
section
variable {w : World} {A : Around} {E : Value → Shared → Prop} {h : Heap} {g : Array GenState} {d : Drawn} {t : Nat} {os : OsState}
theorem pass_list (self : Value) : refuseLoop self "__setattr__" [.type "list", .type "object"] = pure () := by
  rw [refuse_list]; exact PySem.F.store_object.passes self
theorem cls_dict {w : World} {h : Heap} (X : (KK w).In h) : ∃ oC cd, h.get? 144 = some oC ∧ oC.data = .cls cd ∧ cd.hasDict = true := by
  have e := cls_del w
  unfold clsAt at e
  split at e
  · rename_i c d cd sl hK
    split at e
    · rename_i hc
      simp only [Option.map_some, Option.some.injEq, Prod.mk.injEq] at e
      exact ⟨_, cd, X 144 _ hK, rfl, e.2.2.2⟩
    · exact nn e
  · exact nn e
theorem set_size {x dx : Addr} {v : Value} {Q : Unit → Shared → Prop} (X : (KK w).In h) (hx : h.get? x = some { cls := .ref 144, dict := some dx, data := .seq #[] }) (hd : h.get? dx = some { cls := .type "dict", data := .dict #[] })
    (hq : ∀ h' hs tk n t', h'.get? dx = some { cls := .type "dict", data := .dict #[⟨hs, .str "_initial_size" tk, v⟩] n } → (∀ b o, b ≠ dx → h.get? b = some o → h'.get? b = some o) → t ≤ t' → Q () ⟨h', g, d, t', os⟩) :
    wpAny (model prog w) A (setAttr (.ref x) "_initial_size" v) Q E ⟨h, g, d, t, os⟩ := by
  have Tx : Looks (model prog w) h (typeOf (.ref x)) (.ref 144) := (Looks.ld hx).andThen .now
  have hsa : Looks (model prog w) h (typeLookup (.ref 144) "__setattr__") (some (.builtin "object.__setattr__")) := Looks.of_peek X (by kernel_rfl)
  have SF := PySem.F.store_object
  have hbs : ∀ self, Looks (model prog w) h (bindSpecial (.builtin "object.__setattr__") self) (.builtin "object.__setattr__", [self]) := fun self => Looks.of_peek X (by kernel_rfl)
  have hck : Looks (model prog w) h (isSubtype (.ref 144) (.type "object")) true := Looks.of_peek X (by kernel_rfl)
  have hI : Looks (model prog w) h (isInstance (.ref x) (.type "object")) true := Tx.andThen hck
  have c3 : Looks (model prog w) h (typeLookup (.ref 144) "_initial_size") none := Looks.of_peek X (by kernel_rfl)
  have hmro := kk_mro X
  refine ex2_3 (cls_dict X) fun oC cd hC hcd hdict => ?_
  unfold setAttr callSpecial? specialOf
  refine wpAny_bind (wpAny_mkText ?_)
  refine wpAny_bind (wpAny_bind (wpAny_bind (Looks.at Tx (Looks.at hsa ?_))))
  refine wpAny_holding (wpAny_bind (Looks.at (hbs _) ?_))
  refine wpAny_bind (wpAny_call ?_)
  refine codeAny_call_builtin SF.slot.plain SF.entry (@check_slot (model prog w) _ _ ⟨h, g, d, t + 1, os⟩ "object.__setattr__" "object" "__setattr__" (.ref x) [.str "_initial_size" t, v] [] _ SF.kind SF.split hI (SF.args (.ref x) (.str "_initial_size" t) v) ?_)
  show wpAny _ _ (Builtin.«object.__setattr__» ⟨[.ref x, .str "_initial_size" t, v], []⟩) _ _ _
  rw [osa_eq, refuse_eq]
  refine wpAny_bind (wpAny_bind (Looks.at Tx (wpAny_bind (Looks.at hmro ?_))))
  rw [refuseLoop_ref, pass_list]
  refine wpAny_pure (wpAny_bind (Looks.at Tx (wpAny_bind (Looks.at c3 (wpAny_bind (Looks.at .now ?_))))))
  refine wpAny_bind (wpAny_pure (wpAny_bind (wpAny_bind (wpAny_loadPart hx ?_))))
  dsimp only
  refine wpAny_bind (Looks.at (((Looks.ld (part := none) hC).andThen (by rw [hcd]; exact .now))) ?_)
  rw [hdict]
  refine wpAny_pure (a := some dx) (wpAny_bind (wpAny_pure (wpAny_bind ?_)))
  unfold nsSet
  refine wpAny_bind (wpAny_bind (wpAny_askSetting (wpAny_pure (wpAny_bind (wpAny_mkText (wpAny_bind (wpAny_loadPart hd ?_)))))))
  dsimp only
  rw [aRefKeyMayBeTheName_at]
  rw [if_neg (by simp)]
  have hu := Heap.get?_update_self (Obj.putName "_initial_size" (PyData.keyHash w.params "_initial_size") (.str "_initial_size" (t + 1)) v) hd rfl
  refine wpAny_updatePart hd ?_
  refine wpAny_bind (wpAny_lookBehind hu (by rfl) ?_)
  exact wpAny_pure (wpAny_pure (wpAny_pure (hq _ _ _ _ (t + 1 + 1) hu (fun b o hb e => (Heap.get?_update_ne _ _ _ _ hb).trans e) (by lia))))
end
end Mine
end
section
set_option genSizeOf false
set_option genSizeOfSpec false
set_option maxRecDepth 100000
namespace Mine
open PySem PySem.W PySem.W.X PyProof.Rows PySem.Builtin PySem.Builtin.ObjectAttr
noncomputable abbrev bInit : List Stmt := fnBody 0
noncomputable def dflt0 (K : Frag) : Tok := match K.lookup 73 with | some ⟨_, _, .seq vs _, _⟩ => (match vs[0]? with | some (Value.int _ t) => t | _ => 0) | _ => 0
theorem meth_init (w : World) : ∃ o fd, MethS (KK w) 81 80 bInit o fd ∧ (∀ (v : Value) S, peek (KK w) S (bindArgs fd ⟨[v], []⟩) = some [(("self" : Str), v), (("initial_size" : Str), Value.int 0 (dflt0 (KK w)))]) ∧ fd.scope.names.lookup ("initial_size" : Str) = some NameKind.local := by
  have e : (fdOf (KK w) 81).map (fun fd => (fd.body, fd.closure, fd.globals, fd.builtins, fd.code, fd.scope.names.lookup ("super" : Str), fd.scope.names.lookup ("__class__" : Str), fd.scope.names.lookup ("self" : Str), (fd.params.posonlyargs ++ fd.params.args).head?.map (·.arg), methChk (KK w) fd, fd.scope.names.lookup ("initial_size" : Str))) =
      some (FuncBody.stmts bInit, [(("__class__" : Str), (68 : Addr))], mainGlobals, builtinsNs, Value.ref 80, some NameKind.globalImplicit, some NameKind.free, some NameKind.local, some ("self" : Str), true, some NameKind.local) := by kernel_rfl
  have e3 : ∀ (v : Value) S, (fdOf (KK w) 81).map (fun fd => peek (KK w) S (bindArgs fd ⟨[v], []⟩)) = some (some [(("self" : Str), v), (("initial_size" : Str), Value.int 0 (dflt0 (KK w)))]) := fun v S => by kernel_rfl
  unfold fdOf at e e3
  split at e
  · rename_i c dd fd sl hK
    rw [hK] at e3
    simp only [Option.map_some, Option.some.injEq, Prod.mk.injEq] at e
    obtain ⟨q1, q2, q3, q4, q5, q6, q7, q8, q9, q10, q11⟩ := e
    unfold methChk at q10
    simp only [Bool.and_eq_true, Bool.not_eq_true'] at q10
    obtain ⟨⟨⟨⟨r1, r2⟩, r3⟩, r4⟩, r5⟩ := q10
    exact ⟨_, fd, ⟨hK, rfl, q1, q2, q3, q4, q5, q6, q7, q8, fun x hx => by have := List.all_eq_true.mp r1 x hx; simpa using this, by simpa using r2, r3, r4, q9, r5⟩, fun v S => by simpa using e3 v S, q11⟩
  · exact nn e
theorem entry_linit : entryFor table "list.__init__" = some Builtin.«list.__init__» := entryFor_of_tree (by kernel_rfl)
theorem own_linit : (".".intercalate ("list.__init__".cutAt '.').dropLast) = "list" := by
  have e0 : "list.__init__".cutAt '.' = ["list", "__init__"] := by first | rfl | decide +kernel
  rw [e0]; decide +kernel
section
variable {w : World} {A : Around} {E : Value → Shared → Prop} {s : Shared}
theorem init_call {x dx : Addr} {Q : Value → Shared → Prop} (hroom : A.depth < recursionLimit) (X : (KK w).In s.heap) (hne : x ≠ dx)
    (hx : s.heap.get? x = some { cls := .ref 144, dict := some dx, data := .seq #[] }) (hd : s.heap.get? dx = some { cls := .type "dict", data := .dict #[] }) (hK : (KK w).lookup dx = none) (hKx : (KK w).lookup x = none)
    (hq : ∀ h' t' n' hs tk tk' n, h'.get? x = some { cls := .ref 144, dict := some dx, data := .seq #[] n' } → h'.get? dx = some { cls := .type "dict", data := .dict #[⟨hs, .str "_initial_size" tk, .int 0 tk'⟩] n } → (∀ b o, b ≠ x → b ≠ dx → s.heap.get? b = some o → h'.get? b = some o) → s.toks ≤ t' → Q .none { s with heap := h', toks := t' }) :
    wpAny (model prog w) A (call (.ref 81) [.ref x]) Q E s := by
  refine ex2_3 (meth_init w) fun o fd m hb hloc => ?_
  refine wpAny_call (ks_codeAny_call_defAt hroom (X _ _ m.at') m.data (tp_K X).lim (rec_of X m.rec') m.body (kp_binds X (hb _)) m.nocell (fun y hy => by
    simp only [List.mem_cons, List.not_mem_nil, or_false] at hy
    rcases hy with rfl | rfl
    · exact m.self
    · exact hloc) (fun h0 hns0 hk => ?_) m.co m.gen m.kind)
  have X0 := X.keeps hk
  have hx0 := hk _ _ hx
  have hd0 := hk _ _ hd
  have hkind : (callEnv fd s.heap.objs.size 81).scope.kind = .function := m.kind
  have hse : (callEnv fd s.heap.objs.size 81).kindOf ("self" : Str) = some .local := m.self
  have hsz : (callEnv fd s.heap.objs.size 81).kindOf ("initial_size" : Str) = some .local := hloc
  refine ks_wpAt_execs_cons (ks_wpAt_Assign_Attr ?_)
  refine wpAt_of_wpAny (wpAny_Name (wpAny_loadName_local (v := .int 0 (dflt0 (KK w))) hkind hsz hns0 rfl ?_) (by decide))
  refine wpAny_Name (wpAny_loadName_local (v := .ref x) hkind hse hns0 rfl ?_) (by decide)
  refine set_size X0 hx0 hd0 fun h1 hs tk n t1 hdx hk1 ht1 => ?_
  have X1 : (KK w).In h1 := fun a o e => hk1 a o (fun q => by subst q; rw [hK] at e; cases e) (X0 a o e)
  have hx1 := hk1 _ _ hne hx0
  have hns1 : h1.Ns s.heap.objs.size _ := hns0.at' fun o e => hk1 _ _ (fun q => by
    have := Heap.lt_size hd; rw [← q] at this; exact absurd this (Nat.lt_irrefl _)) e
  refine ks_wpAt_execs_cons (ks_wpAt_Expr_any (hi := by unfold interactive; rw [hkind]; rfl) (ks_wpAt_MethodCall ?_))
  refine super_base m X1 (by kernel_rfl) (by decide) hns1 rfl hx1 rfl (fun c q => by cases q) fun h2 hso hk2 => ?_
  have X2 := X1.keeps hk2
  have hx2 := hk2 _ _ hx1
  have hne2 : x ≠ 144 := fun q => by
    refine ex2_3 (cls_of X2) fun oC cd hC hcd _ => ?_
    subst q; rw [hC] at hx2; cases hx2; cases hcd
  refine getMethod_super hso (kk_opaque X2) (kk_mro X2) rfl X2 (along_init w) type_list_init' slot_wd_get.lookup hne2 (by decide) (fun hq' => wd_get type_list_init' hx2 rfl hne2 (kk_sub_list X2) own_linit hq') ?_
  have hk3 : ∀ b o, h2.get? b = some o → (h2.push { cls := .type "method-wrapper", data := .fields #[.builtin "list.__init__", .ref x] }).get? b = some o := fun b o e => Heap.get?_push_of_some _ e
  have hb : (h2.push { cls := .type "method-wrapper", data := .fields #[.builtin "list.__init__", .ref x] }).get? h2.objs.size = some { cls := .type "method-wrapper", data := .fields #[.builtin "list.__init__", .ref x] } := Heap.get?_push_size _ rfl
  refine callWith_bound (.inl rfl) rfl (wpAny_items_nil ⟨hb, ?_⟩)
  refine wpAny_call (bound_call hb (.inl rfl) (fun Q' E' hq' => wpAny_of_eq (ck_init _) hq') (Code.quiet_builtin _ (by decide +kernel)) (codeAny_builtin entry_linit ?_))
  refine init_code (hk3 _ _ hx2) fun h4 n4 hx4 hs4 => ?_
  have hdx4 : h4.get? dx = some _ := (hs4.2 dx (Ne.symm hne)).trans (hk3 _ _ (hk2 _ _ hdx))
  refine wpAt_of_wpAny (wpAny_execs_nil ?_)
  refine hq h4 _ n4 hs tk _ n hx4 hdx4 (fun b o hbx hbd e => (hs4.2 b hbx).trans (hk3 b o (hk2 b o (hk1 b o hbd (hk b o e))))) ?_
  have : s.toks ≤ s.toks + 2 := by lia
  simp at ht1 ⊢
  lia
end
end Mine
end
section
set_option genSizeOf false
set_option genSizeOfSpec false
set_option maxRecDepth 100000
namespace Mine
open PySem PySem.W PySem.W.X PyProof.Rows
theorem g_acc (w : World) : mgK w "_Accumulator" = some (.ref 144) := by kernel_rfl
section
variable {w : World} {h₀ : Heap} {os₀ : OsState} {A : Around} {E : Value → Shared → Prop} {s : Shared} {h : Heap} {g : Array GenState} {d : Drawn} {t : Nat} {os : OsState}
theorem kk_in (X : (KK w).In h₀) {Mt : Ms} {pw : List Addr} {p : P} (J : Inv h₀ os₀ Mt pw p s) : (KK w).In s.heap := X.keeps J.base
theorem callWith_cls {pos : Pos} {env : Env} {Q : Value → Shared → Prop} (X : (KK w).In s.heap)
    (h : wpAny (model prog w) A (call (.ref 144) []) Q E s) : wpAny (model prog w) A (callWith pos (.ref 144) [] (backTo pos (starEach [] env)) []) Q E s := by
  refine ex2_3 (cls_of X) fun oC cd hC hcd _ => ?_
  unfold callWith
  refine wpAny_bind (wpAny_holding (wpAny_mono (args_ok (Q := fun a s₁ => (KK w).In s₁.heap ∧ wpAny (model prog w) A (call (.ref 144) ([] ++ a.pos) a.kw) Q E s₁) rfl (wpAny_items_nil ⟨X, h⟩)) (fun a s₁ h₁ => wpAny_bind (wpAny_standAt ?_)) fun _ _ x => x))
  refine an2 (h₁) fun X1 h1 => ?_
  have hk : Looks (model prog w) s₁.heap (keeperOf (.ref 144)) Keeper.machine := by
    unfold keeperOf
    exact Looks.of_peek X1 (by kernel_rfl)
  refine wpAny_bind (hk.here ?_)
  exact wpAny_bind (wpAny_mono h1 (fun r s₂ hr => wpAny_bind (wpAny_holding (wpAny_point (wpAny_pure hr)))) fun _ _ x => x)
theorem look_none {K : Frag} {h : Heap} (X : K.In h) {a : Addr} (e : h.get? a = none) : K.lookup a = none := by
  cases q : K.lookup a with
  | none => rfl
  | some o => rw [X a o q] at e; cases e
theorem acc_ok (X : (KK w).In h₀) : AccOk w h₀ os₀ := by
  intro A Mt s env sc me fpos pos hh R hg J F E Q hQ
  have X1 := kk_in X J
  refine wpAny_Call_NameR (global_name (tp_K X) J F hg (by decide) (.inl (g_acc w)) ?_)
  refine callWith_cls X1 ?_
  obtain ⟨hp, gn, dr, tk, os⟩ := s
  refine make_call X1 fun B hB h1 x dx f1 f2 hne hx hdx hk => ?_
  subst hB
  have X2 := X1.keeps hk
  refine init_call (s := ⟨h1, gn, dr, tk, os⟩) ?_ X2 hne hx hdx (look_none X1 f2) (look_none X1 f1) fun h2 t2 n2 hs tk1 tk2 n hx2 hd2 hk2 ht => ?_
  · show A.depth + (Code.builtin "type.__call__" ⟨[.ref 144], []⟩).weight < _
    have hw : (Code.builtin "type.__call__" ⟨[.ref 144], []⟩).weight = 1 := by decide +kernel
    rw [hw]; have := R.2.1; lia
  · refine ⟨rfl, ?_⟩
    have hold : ∀ b o, hp.get? b = some o → h2.get? b = some o := fun b o e => hk2 b o (fun q => by subst q; rw [f1] at e; cases e) (fun q => by subst q; rw [f2] at e; cases e) (hk b o e)
    have n0 : ∀ a, hp.get? a = none → h₀.get? a = none := fun a e => by
      cases q : h₀.get? a with
      | none => rfl
      | some o => have := J.base a o q; rw [show (⟨hp, gn, dr, tk, os⟩ : Shared).heap = hp from rfl, e] at this; exact nn this
    refine hQ x Mt.G ⟨h2, gn, dr, t2, os⟩ ⟨fun b o e => hold b o (J.base b o e), fun a ha => ?_, fun a ha => ?_, ⟨fun P hP => let ⟨ps, e, r⟩ := J.pile.1 P hP; ⟨ps, hold _ _ e, r⟩, ?_⟩, J.os, J.gens, fun u z e => ?_, ?_⟩ f1 (fun t z e => e) hold
    · rcases ha with ha | rfl
      · obtain ⟨q1, o, q2⟩ := J.mt a ha
        exact ⟨q1, o, hold a o q2⟩
      · exact ⟨n0 _ f1, _, hx2⟩
    · rcases List.mem_cons.mp ha with ha | ha
      · exact .inr ha
      · exact .inl (J.pws a ha)
    · refine ⟨x, dx, #[], n2, _, rfl, hx2, Ne.symm hne, ?_, hd2, rfl, rfl, ⟨hs, tk1, tk2, n, rfl⟩, ?_⟩
      · rintro (q | q)
        · obtain ⟨_, o, q2⟩ := J.mt dx q
          rw [show (⟨hp, gn, dr, tk, os⟩ : Shared).heap = hp from rfl, f2] at q2; exact nn q2
        · exact hne q.symm
      · exact VRs.nil
    · refine an2 (J.tk u z e) fun q1 q2 => ?_
      exact ⟨q1, Nat.lt_of_lt_of_le q2 ht⟩
    · exact Nat.lt_of_lt_of_le J.pos ht
end
end Mine
end
section
set_option genSizeOf false
set_option genSizeOfSpec false
set_option maxRecDepth 100000
namespace Mine
open PySem PySem.W PySem.W.X PyProof.Rows
theorem check_method {M : Model} {A : Around} {E : Value → Shared → Prop} {s : Shared} {i owner n : String} {self : Value} {rest : List Value} {kw : List (Str × Value)} {Q : Unit → Shared → Prop}
    (hk : builtinKind i = some .method) (hs : splitId i = some (owner, n)) (hi : Looks M s.heap (isInstance self (.type owner)) true) (ha : argsOk i ⟨self :: rest, kw⟩) (q : Q () s) :
    wpAny M A (checkBuiltinCall i ⟨self :: rest, kw⟩) Q E s := by
  simp only [checkBuiltinCall, hk, hs]
  refine wpAny_bind (hi.here ?_)
  cases hsig : Manifest.signature? i with
  | none => exact wpAny_pure q
  | some sig =>
    simp only [argsOk, hsig] at ha
    have h2 : Bind.checkArgs i sig ⟨self :: rest, kw⟩ = pure () := ha
    show wpAny M A (Bind.checkArgs i sig ⟨self :: rest, kw⟩) Q E s
    rw [h2]; exact wpAny_pure q
theorem app_kind : builtinKind "list.append" = some .method := by decide +kernel
theorem app_split : splitId "list.append" = some ("list", "append") := by decide +kernel
theorem app_plain : plainId "list.append" = true := by decide +kernel
theorem entry_app : entryFor table "list.append" = some Builtin.«list.append» := entryFor_of_tree (by kernel_rfl)
theorem owner_list' : Manifest.owners.lookup (String.ofList ['t', 's', 'i', 'l'].reverse) = some Manifest.sig_list := by kernel_rfl
theorem args_app (a b : Value) : argsOk "list.append" ⟨[a, b], []⟩ := by
  unfold argsOk; rw [signature?_of (id := "list.append") (n := ['d', 'n', 'e', 'p', 'p', 'a']) (o := ['t', 's', 'i', 'l']) (by kernel_rfl) owner_list']; kernel_rfl
theorem type_app : typeOf (.builtin "list.append") = pure (.type "method_descriptor") := by show builtinType _ = _; rw [builtinType_eq_fast]; kernel_rfl
section
variable {w : World} {A : Around} {E : Value → Shared → Prop} {s : Shared} {h : Heap} {g : Array GenState} {d : Drawn} {t : Nat} {os : OsState}
theorem append_code {x C : Addr} {dx : Option Addr} {vs : Array Value} {v : Value} {n : Nat} {sl : Array (Option Value)} {Q : Fin → Shared → Prop} (hx : h.get? x = some { cls := .ref C, dict := dx, data := .seq vs n, slots := sl }) (hsz : vs.size ≤ 4096) (hq : ∀ h' n', h'.get? x = some { cls := .ref C, dict := dx, data := .seq (vs.push v) n', slots := sl } → Heap.SameBut x h h' → Q (.done (.ret .none)) ⟨h', g, d, t, os⟩) :
    wpAny (model prog w) A (Builtin.«list.append» ⟨[.ref x, v], []⟩) Q E ⟨h, g, d, t, os⟩ := by
  unfold Builtin.«list.append»
  have h1 := Heap.get?_update_self (Obj.mapSeq fun xs => xs.push v) hx rfl
  have hpl : (Obj.mapSeq (fun x => x.push v) { cls := Value.ref C, dict := dx, data := Data.seq vs n, slots := sl }).data.pastItsLine = none := by
    show (Data.seq (vs.push v) _).pastItsLine = none
    have : sizeLine = 16777216 := rfl
    unfold Data.pastItsLine
    simp
    lia
  repeat (any_goals (first | assumption | (with_reducible refine wpAny_seqItems hx rfl ?_) | (with_reducible refine wpAny_load hx ?_) | (with_reducible refine wpAny_loadPart_at hx ?_) | (with_reducible refine wpAny_update hx ?_) | wp_step))
  rw [hpl]
  refine wpAny_pure (wpAny_pure ?_)
  exact hq _ _ h1 (Heap.SameBut.update ..)
theorem append_call {x : Addr} {dx : Option Addr} {vs : Array Value} {v : Value} {n : Nat} {sl : Array (Option Value)} {Q : Value → Shared → Prop} (X : (KK w).In s.heap) (hx : s.heap.get? x = some { cls := .ref 144, dict := dx, data := .seq vs n, slots := sl }) (hsz : vs.size ≤ 4096)
    (hq : ∀ h' n', h'.get? x = some { cls := .ref 144, dict := dx, data := .seq (vs.push v) n', slots := sl } → Heap.SameBut x s.heap h' → Q .none { s with heap := h' }) : wpAny (model prog w) A (call (.builtin "list.append") [.ref x, v]) Q E s := by
  obtain ⟨hp, gn, dr, tk, os⟩ := s
  have Tx : Looks (model prog w) hp (typeOf (.ref x)) (.ref 144) := (Looks.ld hx).andThen .now
  have hI : Looks (model prog w) hp (isInstance (.ref x) (.type "list")) true := Tx.andThen (kk_sub_list X)
  refine wpAny_call ?_
  refine codeAny_call_builtin app_plain entry_app (@check_method (model prog w) _ _ ⟨hp, gn, dr, tk, os⟩ "list.append" "list" "append" (.ref x) [v] [] _ app_kind app_split hI (args_app _ _) ?_)
  exact append_code hx hsz hq
theorem inst_builtin {x dx : Addr} {ox : Obj} {id : String} {T : String} {name : Str} {mm : Str → Option Value} {pl : Sem Bool} {Q : Value × List Value → Shared → Prop} (X : (KK w).In h) (hx : h.get? x = some ox) (hc : ox.cls = .ref 144) (hd : ox.dict = some dx) (hns : h.Ns dx mm) (hn : mm name = none)
    (hl : Looks (model prog w) h (typeLookup (.ref 144) name) (some (.builtin id))) (hty : typeOf (.builtin id) = pure (.type T)) (hT : (T != "function" && T != "method_descriptor" && T != "wrapper_descriptor") = false)
    (hq : Q (.builtin id, [.ref x]) ⟨h, g, d, t, os⟩) : wpAny (model prog w) A (getMethod (.ref x) name pl) Q E ⟨h, g, d, t, os⟩ := by
  have hTf : (⟨h, g, d, t, os⟩ : Shared).TypeIs (.builtin id) T := hty
  have hcan := canon_list
  unfold getMethod
  refine wpAny_bind (spec_of hx hc (kk_ga X) ?_)
  show wpAny _ _ (if (Manifest.canonical "list.__getattribute__" != "object.__getattribute__") = true then _ else _) _ _ _
  rw [hcan, if_neg Bool.false_ne_true]
  refine wpAny_bind (spec_of hx hc (kk_gattr X) ?_)
  show wpAny _ _ (if (none : Option Value).isSome = true then _ else _) _ _ _
  rw [if_neg (by decide)]
  refine wpAny_bind (spec_of hx hc hl ?_)
  refine wpAny_bind (wpAny_typeOf hTf ?_)
  have hT' : (Value.type T != .type "function" && Value.type T != .type "method_descriptor" && Value.type T != .type "wrapper_descriptor") = false := by
    simpa using hT
  rw [hT', if_neg (by decide)]
  refine wpAny_bind (wpAny_loadPart_at hx ?_)
  rw [hd]
  refine wpAny_bind (wpAny_nsGet hns ?_)
  rw [hn]
  rw [if_neg (by decide)]
  exact wpAny_bind (wpAny_rule (wpAny_pure hq))
end
end Mine
end
section
set_option genSizeOf false
set_option genSizeOfSpec false
set_option maxRecDepth 100000
namespace Mine
open PySem PySem.W PySem.W.X PyProof.Rows
structure MethG (K : Frag) (f : Addr) (body : List Stmt) (o : Obj) (fd : FuncData) : Prop where
  at' : K.lookup f = some o
  data : o.data = .func fd
  body : fd.body = .stmts body
  glob : fd.globals = mainGlobals
  blt : fd.builtins = builtinsNs
  nocell : ∀ x ∈ fd.scope.names, x.2 ≠ .cell
  kind : fd.scope.kind = .function
  co : fd.scope.isCoroutine = false
  gen : fd.scope.isGenerator = false
  rec' : recOk K fd = true
  cls : o.cls = .type "function"
noncomputable def fnOf (K : Frag) (a : Addr) : Option FuncData := match K.lookup a with | some ⟨c, _, .func fd, _⟩ => if c == .type "function" then some fd else none | _ => none
theorem methG_of {K : Frag} {f : Addr} {body : List Stmt} (e : (fnOf K f).map (fun fd => (fd.body, fd.globals, fd.builtins, methChk K fd)) = some (FuncBody.stmts body, mainGlobals, builtinsNs, true)) : ∃ o fd, MethG K f body o fd ∧ fnOf K f = some fd := by
  have e0 := e
  unfold fnOf at e
  split at e
  · rename_i c dd fd sl hK
    split at e
    · rename_i hc
      simp only [Option.map_some, Option.some.injEq, Prod.mk.injEq] at e
      refine an4 (e) fun q1 q2 q3 q10 => ?_
      unfold methChk at q10
      simp only [Bool.and_eq_true, Bool.not_eq_true'] at q10
      refine an2 (q10) fun t_110 r5 => ?_
      refine an2 (t_110) fun t_120 r4 => ?_
      obtain ⟨⟨r1, r2⟩, r3⟩ := t_120
      refine ⟨_, fd, ⟨hK, rfl, q1, q2, q3, fun x hx => by have := List.all_eq_true.mp r1 x hx; simpa using this, by simpa using r2, r3, r4, r5, by simpa using hc⟩, ?_⟩
      unfold fnOf
      rw [hK]
      simp only [hc, if_true]
    · exact nn e
  · exact nn e
theorem fn_map {α : Type} {K : Frag} {f : Addr} {fd : FuncData} (h : fnOf K f = some fd) {g : FuncData → α} {r : α} (e : (fnOf K f).map g = some r) : g fd = r := by
  rw [h] at e; exact Option.some.inj e
section
variable {w : World} {A : Around} {E : Value → Shared → Prop} {s : Shared}
theorem push_call {x dx : Addr} {va vb : Value} {vs : Array Value} {n : Nat} {sl : Array (Option Value)} {mm : Str → Option Value} {Q : Value → Shared → Prop} (hroom : A.depth < recursionLimit) (X : (KK w).In s.heap)
    (hx : s.heap.get? x = some { cls := .ref 144, dict := some dx, data := .seq vs n, slots := sl }) (hns : s.heap.Ns dx mm) (hmm : mm ("append" : Str) = none) (hsz : vs.size ≤ 4096)
    (hq : ∀ h' t' n' tp, s.heap.get? tp = none → h'.get? tp = some { cls := .type "tuple", data := .seq #[va, vb] } → h'.get? x = some { cls := .ref 144, dict := some dx, data := .seq (vs.push (.ref tp)) n', slots := sl } → (∀ b o, b ≠ x → s.heap.get? b = some o → h'.get? b = some o) → s.toks ≤ t' → Q .none { s with heap := h', toks := t' }) :
    wpAny (model prog w) A (call (.ref 88) [.ref x, va, vb]) Q E s := by
  refine ex2_2 (methG_of (K := KK w) (f := 88) (body := bPush) (by kernel_rfl)) fun o fd m hfd => ?_
  have l1 : fd.scope.names.lookup ("self" : Str) = some NameKind.local := fn_map hfd (g := fun fd => fd.scope.names.lookup ("self" : Str)) (by kernel_rfl)
  have l2 : fd.scope.names.lookup ("fws" : Str) = some NameKind.local := fn_map hfd (g := fun fd => fd.scope.names.lookup ("fws" : Str)) (by kernel_rfl)
  have l3 : fd.scope.names.lookup ("string" : Str) = some NameKind.local := fn_map hfd (g := fun fd => fd.scope.names.lookup ("string" : Str)) (by kernel_rfl)
  have hb : bindArgs fd ⟨[.ref x, va, vb], []⟩ = pure [(("self" : Str), .ref x), (("fws" : Str), va), (("string" : Str), vb)] := fn_map hfd (g := fun fd => bindArgs fd ⟨[.ref x, va, vb], []⟩) (by kernel_rfl)
  refine wpAny_call (ks_codeAny_call_defAt hroom (X _ _ m.at') m.data (tp_K X).lim (rec_of X m.rec') m.body (BindsTo.of_eq hb) m.nocell (fun y hy => by
    simp only [List.mem_cons, List.not_mem_nil, or_false] at hy
    rcases hy with rfl | rfl | rfl <;> assumption) (fun h0 hns0 hk => ?_) m.co m.gen m.kind)
  have X0 := X.keeps hk
  have hx0 := hk _ _ hx
  have hkind : (callEnv fd s.heap.objs.size 88).scope.kind = .function := m.kind
  have hk1 : (callEnv fd s.heap.objs.size 88).kindOf ("self" : Str) = some .local := l1
  have hk2 : (callEnv fd s.heap.objs.size 88).kindOf ("fws" : Str) = some .local := l2
  have hk3 : (callEnv fd s.heap.objs.size 88).kindOf ("string" : Str) = some .local := l3
  refine ks_wpAt_execs_cons (ks_wpAt_Expr_any (hi := by unfold interactive; rw [hkind]; rfl) (ks_wpAt_MethodCall ?_))
  refine wpAt_of_wpAny ?_
  refine wpAny_Name (wpAny_loadName_local (v := .ref x) hkind hk1 hns0 rfl ?_) (by decide)
  refine inst_builtin X0 hx0 rfl rfl (hns.keeps hk) hmm (kk_append X0) type_app (by decide) ?_
  refine callWith_machine (fun a q => by cases q) rfl ?_
  refine wpAny_items_cons ?_ rfl
  refine wpAny_Tuple ?_
  refine wpAny_items_cons (wpAny_Name (wpAny_loadName_local (v := va) hkind hk2 hns0 rfl ?_) (by decide)) rfl
  refine wpAny_items_cons (wpAny_Name (wpAny_loadName_local (v := vb) hkind hk3 hns0 rfl ?_) (by decide)) rfl
  refine wpAny_items_nil ⟨by show 2 ≤ sizeLine; decide, ?_⟩
  refine wpAny_items_nil ?_
  have hk4 : ∀ b o, h0.get? b = some o → (h0.push { cls := .type "tuple", data := .seq #[va, vb] }).get? b = some o := fun b o e => Heap.get?_push_of_some _ e
  refine append_call (X0.keeps hk4) (hk4 _ _ hx0) hsz fun h2 n2 hx2 hs2 => ?_
  refine wpAt_of_wpAny (wpAny_execs_nil ?_)
  have hnew : h0.get? h0.objs.size = none := fresh_size h0
  have hne : h0.objs.size ≠ x := fun q => by rw [q] at hnew; rw [hnew] at hx0; exact nn hx0
  refine hq h2 _ n2 h0.objs.size ?_ ?_ hx2 (fun b o hb e => (hs2.2 b hb).trans (hk4 b o (hk b o e))) (by simp)
  · cases q : s.heap.get? h0.objs.size with
    | none => rfl
    | some o => rw [hk _ _ q] at hnew; cases hnew
  · exact (hs2.2 _ hne).trans (Heap.get?_push_size _ rfl)
end
end Mine
end
section
set_option genSizeOf false
set_option genSizeOfSpec false
set_option maxRecDepth 100000
namespace Mine
open PySem PySem.W PySem.W.X PyProof.Rows
noncomputable def HasS (h : Heap) (x : Addr) (items : Array Value) : Prop := ∃ o n, h.get? x = some o ∧ o.data = .seq items n
theorem HasS.at {h h' : Heap} {x : Addr} {items : Array Value} (H : HasS h x items) (k : ∀ o, h.get? x = some o → h'.get? x = some o) : HasS h' x items :=
  let ⟨o, n, e, d⟩ := H; ⟨o, n, k o e, d⟩
theorem plain_liter : plainId "list.__iter__" = true := by decide +kernel
theorem kind_liter : builtinKind "list.__iter__" = some .slot := by decide +kernel
theorem split_liter : splitId "list.__iter__" = some ("list", "__iter__") := by decide +kernel
theorem args_liter (a : Value) : argsOk "list.__iter__" ⟨[a], []⟩ := by unfold argsOk; kernel_rfl
theorem entry_liter : entryFor table "list.__iter__" = some Builtin.«list.__iter__» := entryFor_of_tree (by kernel_rfl)
section
variable {w : World} {A : Around} {E : Value → Shared → Prop} {s : Shared}
theorem walk_item {it x : Addr} {i : Nat} {items : Array Value} {v : Value} {Q : Option Value → Shared → Prop} (hit : s.heap.IsListIter it x i) (hl : HasS s.heap x items) (hv : items[i]? = some v)
    (hQ : ∀ h', h'.IsListIter it x (i + 1) → Heap.SameBut it s.heap h' → Q (some v) { s with heap := h' }) : wpAny (model prog w) A (pyNext (.ref it)) Q E s := by
  have ht := hit.typeIs
  refine ex1_3 (hit) fun oi h1 h2 h3 => ?_
  refine ex2_2 (hl) fun ox n k1 k2 => ?_
  unfold pyNext
  refine wpAny_bind (wpAny_attempt (wpAny_callSpecial?_slot (name := Str.ofString "__next__") ht slot_listiter_next (wpAny_call_entry slot_listiter_next ht entry_listiter_next ?_ (args_listiter_next _))))
  show wpAny _ _ (field (.ref it) 0 >>= _) _ _ s
  refine wpAny_bind (wpAny_field h1 h3 (x := .ref x) rfl ?_)
  refine (if_neg (show ¬ ((Value.ref x == Value.none) = true) from Bool.false_ne_true)).symm ▸ ?_
  refine wpAny_bind (wpAny_field h1 h3 (x := .int i 0) rfl ?_)
  refine wpAny_bind (wpAny_seqItems k1 k2 ?_)
  simp only [Int.toNat_natCast, hv]
  refine wpAny_bind (wpAny_setField h1 h3 (by simp) (wpAny_pure ⟨v, rfl, wpAny_pure (hQ _ ⟨_, Heap.get?_update_self _ h1 (Obj.isFreed_of_fields (Obj.data_mapFields h3 _)), (Obj.cls_mapFields ..).trans h2, ?_⟩ (Heap.SameBut.update ..))⟩))
  rw [Obj.data_mapFields h3]; simp [rawInt]
end
end Mine
namespace Mine
open PySem PySem.W PySem.W.X PyProof.Rows
section
variable {w : World} {A : Around} {E : Value → Shared → Prop} {s : Shared}
theorem walk_end {it x : Addr} {i : Nat} {items : Array Value} {Q : Option Value → Shared → Prop} (hh : A.handled = none) (hit : s.heap.IsListIter it x i) (hl : HasS s.heap x items) (hv : items[i]? = none)
    (hQ : ∀ h', Heap.ExtBut it s.heap h' → Q none { s with heap := h' }) : wpAny (model prog w) A (pyNext (.ref it)) Q E s := by
  have ht := hit.typeIs
  refine ex1_3 (hit) fun oi h1 h2 h3 => ?_
  refine ex2_2 (hl) fun ox n k1 k2 => ?_
  unfold pyNext
  refine wpAny_bind (wpAny_attempt (wpAny_callSpecial?_slot (name := Str.ofString "__next__") ht slot_listiter_next (wpAny_call_entry slot_listiter_next ht entry_listiter_next ?_ (args_listiter_next _))))
  show wpAny _ _ (field (.ref it) 0 >>= _) _ _ s
  refine wpAny_bind (wpAny_field h1 h3 (x := .ref x) rfl ?_)
  refine (if_neg (show ¬ ((Value.ref x == Value.none) = true) from Bool.false_ne_true)).symm ▸ ?_
  refine wpAny_bind (wpAny_field h1 h3 (x := .int i 0) rfl ?_)
  refine wpAny_bind (wpAny_seqItems k1 k2 ?_)
  simp only [Int.toNat_natCast, hv]
  refine wpAny_bind (wpAny_rule (wpAny_bind (wpAny_setField h1 h3 (by simp) ?_)))
  refine wpAny_bind (wpAny_bind (wpAny_newObj_type ?_ (by size_fits)))
  refine wpAny_bind (m := firstArgMember _ _) (wpAny_of_eq (a := Value.none) (by first | rfl | (simp only [firstArgMember]; rfl)) ?_)
  refine wpAny_newObj_type ?_ (by size_fits)
  refine wpAny_bind (wpAny_handled ?_)
  rw [show A.in1.handled = none from hh]
  refine wpAny_bind (wpAny_pure (wpAny_throw ?_))
  refine wpAny_bind (wpAny_isInstance (T := "StopIteration") (b := true) ⟨_, Heap.get?_push_size _ rfl, rfl⟩ isSubtype_stop ?_)
  exact wpAny_pure (hQ _ (((Heap.SameBut.update ..).extBut.push _).push _))
theorem walk_pile (hh : A.handled = none) (I x : Addr) (hne : x ≠ I) (items : Array Value) (Ts : Nat → Addr) (vals : Nat → Array Value) (hit : ∀ j, j < items.size → items[j]? = some (.ref (Ts j))) (hTI : ∀ j, j < items.size → Ts j ≠ I) :
    WalksU prog w A I (I :: x :: (List.range items.size).map Ts) [I] items.size (fun j v => j < items.size ∧ v = vals j)
      (fun j h => h.IsListIter I x j ∧ HasS h x items ∧ ∀ k, k < items.size → h.IsTuple (Ts k) (vals k))
      (fun j T h => (j < items.size ∧ T = Ts j) ∧ h.IsListIter I x (j + 1) ∧ HasS h x items ∧ ∀ k, k < items.size → h.IsTuple (Ts k) (vals k)) where
  sub := fun b hb => by
    have : b = I := by simpa using hb
    subst this; exact List.mem_cons_self
  frame := fun j h h' st hk => ⟨st.1.at fun o e => hk I (by simp) o e, st.2.1.at fun o e => hk x (by simp) o e,
    fun k hlt => (st.2.2 k hlt).at fun o e => hk (Ts k) (List.mem_cons_of_mem _ (List.mem_cons_of_mem _ (List.mem_map_of_mem (List.mem_range.mpr hlt)))) o e⟩
  item := fun j s Q E hj st hQ => by
    refine walk_item st.1 st.2.1 (hit j hj) fun h' hI' hs => ?_
    have tup : ∀ k, k < items.size → h'.IsTuple (Ts k) (vals k) := fun k hlt => (st.2.2 k hlt).extBut hs.extBut (hTI k hlt)
    exact hQ (Ts j) (vals j) h' s.toks ⟨hj, rfl⟩ (tup j hj) ⟨⟨hj, rfl⟩, hI', st.2.1.at fun o e => (hs.2 x hne).trans e, tup⟩ fun b o hb e => hs.extBut b o (fun z => hb (by simp [z])) e
  go := fun elts k pos j T s Q E hm hQ => wpAny_letOwnedTupleGo_listiter hm.2.1 (hQ s.heap hm.2 fun _ _ _ e => e)
  apart := fun j T h hm hmem => by
    have : T = I := by simpa using hmem
    exact hTI j hm.1.1 (hm.1.2 ▸ this)
  done := fun s Q E st hQ => walk_end hh st.1 st.2.1 (by simp) fun h' he => hQ h' s.toks fun b o hb e => he b o (fun z => hb (by simp [z])) e
  self := fun j s Q E st hQ => wpAny_pyIter_listiter st.1 hQ
theorem kk_iter {h : Heap} (X : (KK w).In h) : Looks (model prog w) h (typeLookup (.ref 144) "__iter__") (some (.builtin "list.__iter__")) := Looks.of_peek X (by kernel_rfl)
theorem iter_pile {x : Addr} {dx : Option Addr} {items : Array Value} {n : Nat} {sl : Array (Option Value)} {Q : Value → Shared → Prop} (X : (KK w).In s.heap) (hx : s.heap.get? x = some { cls := .ref 144, dict := dx, data := .seq items n, slots := sl })
    (hQ : Q (.ref s.heap.objs.size) { s with heap := s.heap.push { cls := .type "list_iterator", data := .fields #[.ref x, .int 0 0] } }) : wpAny (model prog w) A (pyIter (.ref x)) Q E s := by
  obtain ⟨hp, gn, dr, tk, os⟩ := s
  have Tx : Looks (model prog w) hp (typeOf (.ref x)) (.ref 144) := (Looks.ld hx).andThen .now
  have hS : Looks (model prog w) hp (specialOf (.ref x) "__iter__") (some (.builtin "list.__iter__")) := Tx.andThen (kk_iter X)
  have hI : Looks (model prog w) hp (isInstance (.ref x) (.type "list")) true := Tx.andThen (kk_sub_list X)
  have hbs : Looks (model prog w) hp (bindSpecial (.builtin "list.__iter__") (.ref x)) (.builtin "list.__iter__", [.ref x]) := Looks.of_peek X (by kernel_rfl)
  have hcall : ∀ {B : Around} {Q' : Value → Shared → Prop} {E' : Value → Shared → Prop}, Q' (.ref hp.objs.size) ⟨hp.push { cls := .type "list_iterator", data := .fields #[.ref x, .int 0 0] }, gn, dr, tk, os⟩ → wpAny (model prog w) B (call (.builtin "list.__iter__") [.ref x]) Q' E' ⟨hp, gn, dr, tk, os⟩ := fun {B Q' E'} hq => by
    refine wpAny_call (codeAny_call_builtin plain_liter entry_liter (@check_slot (model prog w) _ _ ⟨hp, gn, dr, tk, os⟩ "list.__iter__" "list" "__iter__" (.ref x) [] [] _ kind_liter split_liter hI (args_liter _) ?_))
    show wpAny _ _ (do ret (← newFields "list_iterator" [.ref x, rawInt 0])) _ _ _
    exact wpAny_bind (wpAny_newObj_type (wpAny_pure hq))
  unfold pyIter
  refine wpAny_bind (Looks.at hS ?_)
  unfold callSpecialIfBoundUnlessNone?
  refine wpAny_bind (wpAny_holding ?_)
  unfold bindSpecialIfBound?
  refine wpAny_bind (wpAny_bind (Looks.at hS ?_))
  refine wpAny_bind (wpAny_askSetting ?_)
  have bnd : ∀ {Q' : Option (Value × List Value) → Shared → Prop} {E' : Value → Shared → Prop}, Q' (some (.builtin "list.__iter__", [.ref x])) ⟨hp, gn, dr, tk, os⟩ → wpAny (model prog w) A (do return some (← bindSpecial (.builtin "list.__iter__") (.ref x))) Q' E' ⟨hp, gn, dr, tk, os⟩ := fun hq => wpAny_bind (Looks.at hbs (wpAny_pure hq))
  have go : ∀ {E' : Value → Shared → Prop}, wpAny (model prog w) A (call (.builtin "list.__iter__") [.ref x]) (fun it s' => it = .ref hp.objs.size ∧ s' = ⟨hp.push { cls := .type "list_iterator", data := .fields #[.ref x, .int 0 0] }, gn, dr, tk, os⟩) E' ⟨hp, gn, dr, tk, os⟩ := hcall ⟨rfl, rfl⟩
  have fin : wpAny (model prog w) A (specialOf (.ref hp.objs.size) "__next__") (fun r s' => match r with
      | none => False
      | some _ => Q (.ref hp.objs.size) s') E ⟨hp.push { cls := .type "list_iterator", data := .fields #[.ref x, .int 0 0] }, gn, dr, tk, os⟩ :=
    wpAny_specialOf (T := "list_iterator") ⟨_, Heap.get?_push_size _ rfl, rfl⟩ slot_listiter_next.lookup hQ
  have rest : wpAny (model prog w) A (do
      if (Value.builtin "list.__iter__" == Value.none) = true then return some (← (do rule "iter.none"; raiseError "TypeError" s!"'{← typeNameOf (.ref x)}' object is not iterable"))
      return some (← call (.builtin "list.__iter__") [.ref x]) : Sem (Option Value)) (fun r s' => r = some (.ref hp.objs.size) ∧ s' = ⟨hp.push { cls := .type "list_iterator", data := .fields #[.ref x, .int 0 0] }, gn, dr, tk, os⟩) E ⟨hp, gn, dr, tk, os⟩ := by
    rw [if_neg (show ¬ ((Value.builtin "list.__iter__" == Value.none) = true) from Bool.false_ne_true)]
    exact wpAny_bind (wpAny_mono go (fun v s' hv => by obtain ⟨rfl, rfl⟩ := hv; exact wpAny_pure ⟨rfl, rfl⟩) fun _ _ z => z)
  split
  · refine bnd ?_
    refine wpAny_mono rest (fun r s' hr => ?_) fun _ _ z => z
    obtain ⟨rfl, rfl⟩ := hr
    refine wpAny_bind (wpAny_mono fin (fun r s' hr => ?_) fun _ _ z => z)
    cases r with
    | none => exact hr.elim
    | some _ => exact wpAny_pure hr
  · refine wpAny_tryCatch (bnd ?_)
    refine wpAny_mono rest (fun r s' hr => ?_) fun _ _ z => z
    obtain ⟨rfl, rfl⟩ := hr
    refine wpAny_bind (wpAny_mono fin (fun r s' hr => ?_) fun _ _ z => z)
    cases r with
    | none => exact hr.elim
    | some _ => exact wpAny_pure hr
end
end Mine
end
section
set_option genSizeOf false
set_option genSizeOfSpec false
set_option maxRecDepth 100000
namespace Mine
open PySem PySem.W PySem.W.X PyProof.Rows
noncomputable def codeOk (K : Frag) (c P : Addr) : Bool := match K.lookup c with
  | some ⟨cls, _, .fields vs, _⟩ => cls == .type "code" && vs[11]? == some (.ref P) && (match vs.getD 18 .none with | .str _ _ => true | _ => false) && (match vs.getD 7 .none with | .int _ _ => true | _ => false) &&
      (match vs.getD 9 .none with | .bool _ => true | _ => false) && (match vs.getD 10 .none with | .int _ _ => true | _ => false) && c != P
  | _ => false
theorem code_of {K : Frag} {h : Heap} {c P : Addr} {ps : Array Value} (X : K.In h) (e : codeOk K c P = true) (hP : h.get? P = some { cls := .none, data := .fields ps }) (ht : TriplesOk ps.toList) : h.IsCode c P ps ∧ h.TableAt c P ps := by
  unfold codeOk at e
  split at e
  · rename_i cls d vs sl hK
    simp only [Bool.and_eq_true] at e
    obtain ⟨⟨⟨⟨⟨⟨e1, e2⟩, e3⟩, e4⟩, e5⟩, e6⟩, e7⟩ := e
    have ho := X c _ hK
    have e2' : vs[11]? = some (.ref P) := by simpa using e2
    have g11 : vs.getD 11 .none = .ref P := by
      rw [Array.getD_eq_getD_getElem?, e2']; rfl
    split at e3
    · rename_i f tf h18
      split at e4
      · rename_i fl tg h7
        split at e5
        · rename_i bf h9
          split at e6
          · rename_i tx tt h10
            exact ⟨⟨_, vs, f, tf, fl, tg, bf, tx, tt, _, ho, rfl, g11, h18, h7, h9, h10, hP, rfl, ht, by simpa using e7⟩, ⟨_, vs, ho, by simpa using e1, rfl, e2'⟩, hP⟩
          · exact nf e6
        · exact nf e5
      · exact nf e4
    · exact nf e3
  · exact nf e
theorem code_str (w : World) : codeOk (KK w) 117 113 = true := by kernel_rfl
theorem code_len (w : World) : codeOk (KK w) 110 106 = true := by kernel_rfl
theorem not_in (w : World) : ∀ P ∈ tabs, (KK w).lookup P = none := by
  intro P hP
  simp only [tabs, List.mem_cons, List.not_mem_nil, or_false] at hP
  rcases hP with rfl | rfl <;> kernel_rfl
section
variable {w : World} {A : Around} {E : Value → Shared → Prop} {s : Shared}
theorem gen_code {env : Env} {c P : Addr} {pos : Pos} {q : Str} {scope : Scope} {Q : Value → Shared → Prop} (X : (KK w).In s.heap) (hT : TabsAt s.heap) (hP : P ∈ tabs) (hc : codeOk (KK w) c P = true) (hcode : env.code = .ref c)
    (h : ∀ code h' tk, Heap.ExtBut P s.heap h' → TabsAt h' → Q code { s with heap := h', toks := tk }) : wpAny (model prog w) A (genexprCode env pos q scope) Q E s := by
  refine ex1_2 (hT P hP) fun ps e r => ?_
  refine an2 (code_of X hc e r) fun k1 k2 => ?_
  cases hf : codeAmong pos ps.toList with
  | some c' => exact wpAny_genexprCode_hit hcode k1 hf (h c' s.heap s.toks (Heap.ExtBut.refl _ _) hT)
  | none =>
    refine wpAny_genexprCodeX hcode k1 k2 hf fun c' h' tk hx _ _ hcode' _ htab _ => h _ h' tk hx fun P' hP' => ?_
    by_cases z : P' = P
    · subst z
      refine ⟨_, htab.2, ?_⟩
      obtain ⟨_, _, _, _, _, _, _, _, _, op, _, _, _, _, _, _, _, q1, q2, q3, _⟩ := hcode'
      rw [Array.toList_append]
      exact TriplesOk_snoc _ _ _ _ r
    · refine ex1_2 (hT P' hP') fun ps' e' r' => ?_
      exact ⟨ps', hx P' _ z e', r'⟩
theorem blt_for {h : Heap} (X : (KK w).In h) : Looks (model prog w) h (builtinsFor mainGlobals builtinsNs) builtinsNs := Looks.of_peek X (by kernel_rfl)
end
end Mine
end
section
set_option genSizeOf false
set_option genSizeOfSpec false
set_option maxRecDepth 100000
namespace Mine
open PySem PySem.W PySem.W.X PyProof.Rows
theorem pass_eq (n : Nat) : passing (fun _ => true) n 0 = List.range n := by unfold passing; simp
theorem pass_all : ∀ (n i : Nat), (passing (fun _ => true) n 0)[i]? = (if i < n then some i else none) := by
  intro n i
  have : passing (fun _ => true) n 0 = List.range n := by unfold passing; simp
  rw [this]
  by_cases h : i < n
  · rw [if_pos h]; simp [h]
  · rw [if_neg h]; simp; omega
theorem pass_len (n : Nat) : (passing (fun _ => true) n 0).length = n := by rw [pass_eq, List.length_range]
theorem walks_imp {prog : Program} {w : World} {A : Around} {I : Addr} {fp wr : List Addr} {G : Array GenState → Array GenState → Prop} {n : Nat} {P P' : Nat → Value → Prop} {St : Nat → Shared → Prop} (W : WalksS prog w A I fp wr G n P St) (h : ∀ i v, i < n → P i v → P' i v) : WalksS prog w A I fp wr G n P' St :=
  { sub := W.sub, grefl := W.grefl, gtrans := W.gtrans, frame := W.frame, done := W.done, self := W.self
    item := fun i s Q E hi st hQ => W.item i s Q E hi st fun v s' hv => hQ v s' (h i v hi hv) }
structure GenP (w : World) (A : Around) (a : Addr) (n : Nat) (F : Nat → Value → Prop) (P : Addr) (s s₅ : Shared) : Prop where
  gen : ∃ fp wr g St, WalksS prog w A.in4 a fp wr (GenOnlyQ g) n F St ∧ St 0 s₅ ∧ (∀ i s', St i s' → s'.TypeIs (.ref a) "generator") ∧ a ∈ fp ∧ (∀ b ∈ fp, b < s₅.heap.objs.size) ∧ ∀ b ∈ wr, s.heap.get? b = none ∧ b ∉ tabs
  keep : ∀ b o, b ≠ P → s.heap.get? b = some o → s₅.heap.get? b = some o
  tabs : TabsAt s₅.heap
  bare : AllBare s.gens → AllBare s₅.gens
  os : s₅.os = s.os
  toks : s.toks ≤ s₅.toks
section
variable {w : World} {A : Around} {E : Value → Shared → Prop} {s : Shared}
theorem gen_pile {env : Env} {elt iter : Expr} {xa xb : Str} {pa pb pt pos : Pos} {kt : Nat} {scope : Scope} {c P x : Addr} {dx : Option Addr} {items : Array Value} {n : Nat} {sl : Array (Option Value)} {Ts : Nat → Addr} {vals : Nat → Array Value} {F : Nat → Value → Prop} {Q : Value → Shared → Prop}
    (X : (KK w).In s.heap) (hT : TabsAt s.heap) (hP : P ∈ tabs) (hc : codeOk (KK w) c P = true) (hcode : env.code = .ref c) (hglob : env.globals = mainGlobals) (hblt : env.builtins = builtinsNs)
    (hh : A.handled = none) (hco : scope.isCoroutine = false) (hclos : closureFor scope env = pure []) (hcell : ∀ y ∈ scope.names, y.2 ≠ .cell) (h0 : scope.names.lookup (".0" : Str) = some NameKind.local)
    (hxa : scope.names.lookup xa = some .local) (hxb : scope.names.lookup xb = some .local) (hab : xa ≠ xb) (hkind : scope.kind = .function) (hroom : A.depth < recursionLimit)
    (hiter : ∀ (Q' : Value → Shared → Prop) (E' : Value → Shared → Prop), Q' (.ref x) s → wpAny (model prog w) A (eval iter env) Q' E' s)
    (hx : s.heap.get? x = some { cls := .ref 144, dict := dx, data := .seq items n, slots := sl }) (hxP : x ≠ P)
    (hit : ∀ j, j < items.size → items[j]? = some (.ref (Ts j))) (htup : ∀ k, k < items.size → s.heap.IsTuple (Ts k) (vals k)) (hTP : ∀ k, k < items.size → Ts k ≠ P) (hpair : ∀ j, j < items.size → ∃ va vb, vals j = #[va, vb])
    (helt : ∀ (A' : Around) (cenv : Env) (E' : Value → Shared → Prop) i va vb (s₂ : Shared) m₂, A'.handled = none → cenv.scope = scope → cenv.globals = mainGlobals → cenv.builtins = builtinsNs → i < items.size → vals i = #[va, vb] → s₂.heap.Ns cenv.locals m₂ → m₂ xa = some va → m₂ xb = some vb → (KK w).In s₂.heap →
      wpAny (model prog w) A' (eval elt cenv) (fun y s₃ => F i y ∧ Keeps s₂ s₃) E' s₂)
    (hq : ∀ a s₅, GenP w A a items.size F P s s₅ → Q (.ref a) s₅)
    (hs : ∀ x, genFold iter env x = pure x) :
    wpAny (model prog w) A (eval (.GeneratorExp elt [⟨.Tuple [.Name xa pa, .Name xb pb] kt pt, iter, [], 0⟩] scope pos) env) Q E s := by
  refine wpAny_with_toks (Nat.le_refl s.toks) ?_
  refine wpAny_GeneratorExp_walksQT hh hco hclos hcell h0 hxa hxb hab hkind hroom (hiter _ _ ?_) hs
  refine iter_pile X hx ?_
  have k1 : ∀ b o, s.heap.get? b = some o → (s.heap.push { cls := .type "list_iterator", data := .fields #[.ref x, .int 0 0] }).get? b = some o := fun b o e => Heap.get?_push_of_some _ e
  have X1 := X.keeps k1
  refine ⟨(tp_K X1).lim, ?_⟩
  have hT1 : TabsAt (s.heap.push { cls := .type "list_iterator", data := .fields #[.ref x, .int 0 0] }) := fun P' hP' => let ⟨ps, e, r⟩ := hT P' hP'; ⟨ps, k1 _ _ e, r⟩
  refine gen_code (s := { s with heap := s.heap.push { cls := .type "list_iterator", data := .fields #[.ref x, .int 0 0] } }) X1 hT1 hP hc hcode fun code h3 tk3 hx3 hT3 => ?_
  have hX3 : (KK w).In h3 := fun a o e => hx3 a o (fun z => by subst z; rw [not_in w _ hP] at e; cases e) (X1 a o e)
  rw [hglob, hblt]
  refine (blt_for hX3).here ?_
  have fresh : s.heap.get? s.heap.objs.size = none := fresh_size s.heap
  have hIP : s.heap.objs.size ≠ P := fun z => by
    refine ex1_2 (hT P hP) fun ps e _ => ?_
    rw [← z, fresh] at e; exact nn e
  have keep3 : ∀ b o, b ≠ P → s.heap.get? b = some o → h3.get? b = some o := fun b o hb e => hx3 b o hb (k1 b o e)
  have hxI : x ≠ s.heap.objs.size := fun z => by rw [z, fresh] at hx; exact nn hx
  have hTI : ∀ j, j < items.size → Ts j ≠ s.heap.objs.size := fun j hj z => by
    refine ex1_2 (htup j hj) fun o e _ => ?_
    rw [z, fresh] at e; exact nn e
  have hI3 : h3.get? s.heap.objs.size = some { cls := .type "list_iterator", data := .fields #[.ref x, .int 0 0] } := hx3 _ _ hIP (Heap.get?_push_size _ rfl)
  have hx3' := keep3 _ _ hxP hx
  have tup3 : ∀ k, k < items.size → h3.IsTuple (Ts k) (vals k) := fun k hk => (htup k hk).at fun o e => keep3 _ o (hTP k hk) e
  have lt3 : ∀ b o, h3.get? b = some o → b < h3.objs.size := fun b o e => Heap.lt_size e
  have hcI : cStatics ≠ s.heap.objs.size := fun z => by
    refine ex1_2 ((tp_K X).lim) fun mm hn _ => ?_
    have := hn.lt
    rw [z] at this; exact absurd this (Nat.lt_irrefl _)
  refine ⟨s.heap.objs.size, _, [s.heap.objs.size], items.size, _, _, _, fun _ => true, F, rfl, fun A' hA' => walk_pile hA' s.heap.objs.size x hxI items Ts vals hit hTI, fun i vs hv => ?_, ⟨⟨_, hI3, rfl, rfl⟩, ⟨_, _, hx3', rfl⟩, tup3⟩, fun b hb => ?_, (tp_K hX3).lim, ?_, fun href hr => ⟨fun A' E' i va vb s₂ m₂ _ _ _ _ _ _ => ?_, fun A' E' i va vb s₂ m₂ hA' hPt _ hn h1 h2 hk => ?_⟩, fun a h₅ tk gs hgs ha hsz hk5 W hat htk => ?_⟩
  · refine an2 (hv) fun hi q_411 => ?_
    subst q_411
    exact hpair i hi
  · rcases List.mem_cons.mp hb with rfl | hb
    · exact lt3 _ _ hI3
    · rcases List.mem_cons.mp hb with rfl | hb
      · exact lt3 _ _ hx3'
      · refine ex1_2 (List.mem_map.mp hb) fun k hk q_472 => ?_
        subst q_472
        refine ex1_2 (tup3 k (List.mem_range.mp hk)) fun o e _ => ?_
        exact lt3 _ _ e
  · intro z
    exact hcI (by simpa using z)
  · rw [List.forIn_nil]
    exact wpAny_pure ⟨rfl, s₂.heap, s₂.toks, rfl, fun _ _ e => e⟩
  · refine an2 (hPt) fun hi hv => ?_
    refine helt A' _ E' i va vb s₂ m₂ hA' rfl hglob rfl hi hv.symm hn h1 h2 fun b o e => ?_
    have e3 := hX3 b o e
    refine hk b (List.mem_range.mpr (lt3 _ _ e3)) (fun z => ?_) o (hr b o e3)
    have : b = s.heap.objs.size := by simpa using z
    subst this
    rw [X _ _ e] at fresh; cases fresh
  · rw [pass_len] at W
    have W' := walks_imp (P' := F) W fun i v hi hv => by
      refine ex1_2 (hv) fun j hj hF => ?_
      rw [pass_all, if_pos hi] at hj
      cases hj; exact hF
    refine hq a _ ⟨⟨_, _, _, _, W', hat, fun i s' st => st.1.typeIs, List.mem_cons_self, fun b hb => ?_, fun b hb => ?_⟩, fun b o hb e => hk5 b o (keep3 b o hb e), fun P' hP' => let ⟨ps, e, r⟩ := hT3 P' hP'; ⟨ps, hk5 _ _ e, r⟩, fun hg => hg.push hgs, rfl, htk⟩
    · show b < h₅.objs.size
      rw [hsz]
      rcases List.mem_cons.mp hb with rfl | hb
      · exact Nat.lt_succ_self _
      · rcases List.mem_cons.mp hb with rfl | hb
        · exact Nat.lt_succ_of_lt ha
        · exact Nat.lt_succ_of_lt (Nat.lt_trans (List.mem_range.mp hb) ha)
    · have hn3 : ∀ b, h3.get? b = none → s.heap.get? b = none ∧ b ∉ tabs := fun b e => by
        have q : b ∉ tabs := fun z => by obtain ⟨ps, e', _⟩ := hT3 b z; rw [e] at e'; exact nn e'
        refine ⟨?_, q⟩
        cases z : s.heap.get? b with
        | none => rfl
        | some o => rw [keep3 b o (fun y => q (y ▸ hP)) z] at e; cases e
      rcases List.mem_cons.mp hb with rfl | hb
      · exact hn3 _ (fresh_size h3)
      · have : b = s.heap.objs.size := by simpa using hb
        subst this
        refine ⟨fresh, fun z => ?_⟩
        refine ex1_2 (hT _ z) fun ps e _ => ?_
        rw [fresh] at e; exact nn e
end
end Mine
end
section
set_option genSizeOf false
set_option genSizeOfSpec false
set_option maxRecDepth 100000
namespace Mine
open PySem PySem.W PySem.W.X PyProof.Rows
theorem str_assoc (a b c : Str) : a ++ b ++ c = a ++ (b ++ c) := by
  obtain ⟨a⟩ := a; obtain ⟨b⟩ := b; obtain ⟨c⟩ := c
  show Str.mk (a ++ b ++ c) = Str.mk (a ++ (b ++ c))
  rw [Array.append_assoc]
theorem emp_left (a : Str) : (⟨#[]⟩ : Str) ++ a = a := by
  obtain ⟨a⟩ := a
  show Str.mk (#[] ++ a) = _
  rw [Array.empty_append]
theorem emp_right (a : Str) : a ++ (⟨#[]⟩ : Str) = a := by
  obtain ⟨a⟩ := a
  show Str.mk (a ++ #[]) = _
  rw [Array.append_empty]
theorem join_foldl : ∀ (l : List Str) (acc : Str), l.foldl (fun a x => a ++ x) acc = acc ++ Str.join ⟨#[]⟩ l
  | [], acc => (emp_right acc).symm
  | [x], acc => rfl
  | x :: y :: r, acc => by
    show (y :: r).foldl (fun a x => a ++ x) (acc ++ x) = acc ++ (x ++ ⟨#[]⟩ ++ Str.join ⟨#[]⟩ (y :: r))
    rw [join_foldl (y :: r) (acc ++ x), emp_right, str_assoc]
theorem empty_eq : ("" : Str) = ⟨#[]⟩ := by decide
theorem join_pile (l : List (Str × Str)) : Txt.join ("" : Str) (l.map fun e => e.1 ++ e.2) = pileText l := by
  have : Txt.join ("" : Str) (l.map fun e => e.1 ++ e.2) = Str.join ("" : Str) (l.map fun e => e.1 ++ e.2) := StrLaws.glued_eq_join _ _
  rw [this, empty_eq]
  have h := join_foldl (l.map fun e => e.1 ++ e.2) ⟨#[]⟩
  rw [emp_left] at h
  rw [← h, List.foldl_map]; rfl
theorem join_two (a b : Str) : Txt.join ("" : Str) [a, b] = a ++ b := by
  have h := join_pile [(a, b)]
  have : Txt.join ("" : Str) [a, b] = Str.join ("" : Str) [a, b] := StrLaws.glued_eq_join _ _
  rw [this, empty_eq]
  show a ++ ⟨#[]⟩ ++ b = a ++ b
  rw [emp_right]
theorem len_app (a b : Str) : (a ++ b).length = a.length + b.length := (str_len a b).symm
theorem fold_len : ∀ (l : List (Str × Str)) (acc : Str), (l.foldl (fun a x => a ++ (x.1 ++ x.2)) acc).length = acc.length + (l.map fun e => e.1.length + e.2.length).sum
  | [], acc => by simp
  | x :: r, acc => by
    rw [List.foldl_cons, fold_len r, len_app, len_app, List.map_cons, List.sum_cons]; omega
theorem pile_len (l : List (Str × Str)) : (pileText l).length = (l.map fun e => e.1.length + e.2.length).sum := by
  show (l.foldl (fun (a : Str) (x : Str × Str) => a ++ (x.1 ++ x.2)) (⟨#[]⟩ : Str)).length = _
  rw [fold_len]
  show 0 + _ = _
  omega
theorem part_len : ∀ {l : List (Str × Str)} {e : Str × Str}, e ∈ l → e.1.length + e.2.length ≤ (l.map fun e => e.1.length + e.2.length).sum
  | x :: r, e, h => by
    rw [List.map_cons, List.sum_cons]
    rcases List.mem_cons.mp h with rfl | h
    · omega
    · have := part_len h; omega
noncomputable def isEmptyStr : Value → Bool | .str s _ => s == ("" : Str) | _ => false
theorem g_empty (w : World) : ∃ t, mgK w "EMPTYSTRING" = some (.str "" t) := by
  have e : (mgK w "EMPTYSTRING").map isEmptyStr = some true := by kernel_rfl
  refine omap e fun v h1 h2 => ?_
  unfold isEmptyStr at h2
  split at h2
  · rename_i s t
    have : s = "" := by simpa using h2
    subst this; exact ⟨t, h1⟩
  · exact nf h2
section
variable {w : World} {A : Around} {E : Value → Shared → Prop} {s : Shared}
theorem name_g {env : Env} {f : Str} {fv : Value} {pos : Pos} {Q : Value → Shared → Prop} (X : (KK w).In s.heap) (hkind : env.scope.kind = .function) (hk : env.kindOf f = some .globalImplicit) (hg : env.globals = mainGlobals) (hb : env.builtins = builtinsNs) (hd : (f == ("__debug__" : Str)) = false)
    (hv : mgK w f = some fv ∨ (mgK w f = none ∧ mbK w f = some fv)) (hQ : Q fv s) : wpAny (model prog w) A (eval (.Name f pos) env) Q E s := by
  refine Calls.Name_function_global hkind hk ?_ hd
  have g : s.heap.Ns env.globals (mgK w) := hg ▸ (tp_K X).g
  have b : s.heap.Ns env.builtins (mbK w) := hb ▸ (tp_K X).b
  rcases hv with hv | ⟨h1, h2⟩
  · exact Calls.loadGlobal_global g hv hQ
  · exact Calls.loadGlobal_builtin g h1 b h2 hQ
theorem join_pair {a b : Str} {t ta tb : Tok} {T : Addr} {Q : Value → Shared → Prop} (hT : s.heap.get? T = some { cls := .type "tuple", data := .seq #[.str a ta, .str b tb] }) (hlen : a.length + b.length ≤ 4096)
    (hq : ∀ t' k, Q (.str (a ++ b) t') { s with toks := k }) : wpAny (model prog w) A (call (.builtin "str.join") [.str "" t, .ref T]) Q E s := by
  refine wpAny_call (codeAny_call_builtin PySem.F.slot_str_join.plain PySem.F.entry_str_join (PySem.F.slot_str_join.check _ _ _ _ _ _ _ _ (PySem.typeIs_str _ _ _) (PySem.F.args_str_join_2 _ _) ?_))
  rw [join_tree_other]
  refine wpAny_bind (wpAny_typeOf (T := "tuple") ⟨_, hT, rfl⟩ ?_)
  rw [if_pos (by decide)]
  refine wpAny_bind (wpAny_seqItems hT rfl ?_)
  have hv : (#[Value.str a ta, Value.str b tb] : Array Value).toList = strValues [(a, ta), (b, tb)] := rfl
  have hok : JoinOk ("" : Str) [a, b] = true := joinOk_of (by
    have : (("" : Str)).length = 0 := by decide
    rw [this]; simp; lia)
  have hok' := hok
  unfold JoinOk at hok'
  rw [Bool.not_eq_true'] at hok'
  have g : Gives (joinTail ("" : Str) (strValues [(a, ta), (b, tb)])) (joinMade ("" : Str) [(a, ta), (b, tb)]) := gives_joinTail ("" : Str) [(a, ta), (b, tb)] hok'
  refine g prog w A (wants Q E) s (post_join [(a, ta), (b, tb)] ⟨joinFit_length hok', fun t' k => ?_⟩)
  have e : Txt.join ("" : Str) ([(a, ta), (b, tb)].map (·.1)) = a ++ b := join_two a b
  rw [e]
  exact hq t' k
end
end Mine
end
section
set_option genSizeOf false
set_option genSizeOfSpec false
set_option maxRecDepth 100000
namespace Mine
open PySem PySem.W PySem.W.X PyProof.Rows
structure Sh (s s' : Shared) : Prop where
  keep : ∀ b o, b ∉ tabs → s.heap.get? b = some o → s'.heap.get? b = some o
  tabs : TabsAt s'.heap
  bare : AllBare s.gens → AllBare s'.gens
  os : s'.os = s.os
  toks : s.toks ≤ s'.toks
theorem Sh.trans {s s' s'' : Shared} (x : Sh s s') (y : Sh s' s'') : Sh s s'' := ⟨fun b o h e => y.keep b o h (x.keep b o h e), y.tabs, fun h => y.bare (x.bare h), y.os.trans x.os, Nat.le_trans x.toks y.toks⟩
theorem Sh.kk {w : World} {s s' : Shared} (x : Sh s s') (X : (KK w).In s.heap) : (KK w).In s'.heap := fun a o e => x.keep a o (fun z => by rw [not_in w a z] at e; cases e) (X a o e)
theorem Sh.keeps {s : Shared} {h' : Heap} {t : Nat} (hT : TabsAt s.heap) (hk : ∀ b o, s.heap.get? b = some o → h'.get? b = some o) (ht : s.toks ≤ t) : Sh s { s with heap := h', toks := t } :=
  ⟨fun b o _ e => hk b o e, fun P hP => let ⟨ps, e, r⟩ := hT P hP; ⟨ps, hk _ _ e, r⟩, fun x => x, rfl, ht⟩
structure Pairs (l : List (Str × Str)) (h : Heap) (items : Array Value) (Ts : Nat → Addr) (ta tb : Nat → Tok) : Prop where
  size : items.size = l.length
  it : ∀ j, j < l.length → items[j]? = some (.ref (Ts j))
  tup : ∀ j, j < l.length → ∃ n, h.get? (Ts j) = some { cls := .type "tuple", data := .seq #[.str (l.getD j default).1 (ta j), .str (l.getD j default).2 (tb j)] n }
theorem Pairs.out {l : List (Str × Str)} {h : Heap} {items : Array Value} {Ts : Nat → Addr} {ta tb : Nat → Tok} (H : Pairs l h items Ts ta tb) (hT : TabsAt h) {j : Nat} (hj : j < l.length) : Ts j ∉ tabs := fun z => by
  obtain ⟨n, e⟩ := H.tup j hj
  obtain ⟨ps, e', _⟩ := hT _ z
  rw [e] at e'; cases e'
theorem Pairs.sh {l : List (Str × Str)} {s s' : Shared} {items : Array Value} {Ts : Nat → Addr} {ta tb : Nat → Tok} (H : Pairs l s.heap items Ts ta tb) (hT : TabsAt s.heap) (x : Sh s s') : Pairs l s'.heap items Ts ta tb :=
  ⟨H.size, H.it, fun j hj => let ⟨n, e⟩ := H.tup j hj; ⟨n, x.keep _ _ (H.out hT hj) e⟩⟩
theorem pairs_of {Mt : Ms} {pw : List Addr} {h : Heap} {l : List (Str × Str)} {items : Array Value} (R : VRs Mt pw h (l.map fun e => .tup [.str e.1, .str e.2]) items.toList) : ∃ Ts ta tb, Pairs l h items Ts ta tb := by
  have hs : items.size = l.length := by have := R.1; simpa using this
  have key : ∀ j, ∃ q : Addr × Tok × Tok, j < l.length → items[j]? = some (.ref q.1) ∧ ∃ n, h.get? q.1 = some { cls := .type "tuple", data := .seq #[.str (l.getD j default).1 q.2.1, .str (l.getD j default).2 q.2.2] n } := fun j => by
    by_cases hj : j < l.length
    · refine ex1_2 (R.get (i := j) (y := .tup [.str l[j].1, .str l[j].2]) (by simp [hj])) fun u hu hv => ?_
      refine ex3_5 (hv.tup') fun a vs n q_53 _ ha hl hi => ?_
      subst q_53
      have h0 : vs[0]? = some vs[0]! := by
        have : 0 < vs.size := by rw [hl]; simp
        simp [this]
      have h1 : vs[1]? = some vs[1]! := by
        have : 1 < vs.size := by rw [hl]; simp
        simp [this]
      refine ex1_2 ((hi 0 _ _ rfl h0).str') fun t0 e0 _ => ?_
      refine ex1_2 ((hi 1 _ _ rfl h1).str') fun t1 e1 _ => ?_
      rw [e0] at h0; rw [e1] at h1
      have hvs : vs = #[.str l[j].1 t0, .str l[j].2 t1] := by
        apply Array.ext'
        have := two_of (l := vs.toList) (by simpa using hl) (by simpa using h0) (by simpa using h1)
        simpa using this
      have hg : l.getD j default = l[j] := by rw [List.getD_eq_getElem?_getD]; simp [hj]
      refine ⟨(a, t0, t1), fun _ => ⟨by simpa using hu, n, ?_⟩⟩
      rw [hg, ha, hvs]
    · exact ⟨default, fun h => absurd h hj⟩
  refine ex1_1 (Classical.axiomOfChoice key) fun f hf => ?_
  exact ⟨fun j => (f j).1, fun j => (f j).2.1, fun j => (f j).2.2, hs, fun j hj => (hf j hj).1, fun j hj => (hf j hj).2⟩
end Mine
end
section
set_option genSizeOf false
set_option genSizeOfSpec false
set_option maxRecDepth 100000
namespace Mine
open PySem PySem.W PySem.W.X PyProof.Rows
theorem len_of {l : List (Str × Str)} {items : Array Value} {i : Nat} (h1 : items.size = l.length) (hlen : (pileText l).length ≤ 4096) (hi : i < items.size) : (l.getD i default).1.length + (l.getD i default).2.length ≤ 4096 := by
  have hi' : i < l.length := h1 ▸ hi
  have hm : l.getD i default ∈ l := by
    rw [List.getD_eq_getElem?_getD, List.getElem?_eq_getElem hi']; exact List.getElem_mem hi'
  have := part_len hm
  rw [pile_len] at hlen
  omega
theorem texts_of {l : List (Str × Str)} {items : Array Value} {lt : List (Str × Tok)} (h1 : items.size = l.length) (hit : ItemsOf (fun j v => ∃ t, v = .str ((l.getD j default).1 ++ (l.getD j default).2) t) (strValues lt).toArray items.size) : lt.map (·.1) = l.map fun e => e.1 ++ e.2 := by
  refine an2 (hit) fun q1 q2 => ?_
  have hlen : lt.length = l.length := by
    have : (strValues lt).length = lt.length := by unfold strValues; simp
    rw [← this, ← h1, ← q1]; simp
  apply List.ext_getElem?
  intro j
  by_cases hj : j < l.length
  · have hj' : j < lt.length := hlen ▸ hj
    refine ex1_1 (q2 j (.str lt[j].1 lt[j].2) (by unfold strValues; simp [hj'])) fun t ht => ?_
    have e : l.getD j default = l[j] := by rw [List.getD_eq_getElem?_getD]; simp [hj]
    rw [e] at ht
    simp only [List.getElem?_map, List.getElem?_eq_getElem hj', List.getElem?_eq_getElem hj, Option.map_some]
    injection ht with ht1 ht2
    rw [ht1]
  · rw [List.getElem?_eq_none (by simp; lia), List.getElem?_eq_none (by simp; lia)]
section
variable {w : World} {A : Around} {E : Value → Shared → Prop} {s : Shared}
theorem str_call {x : Addr} {dx : Option Addr} {items : Array Value} {n : Nat} {sl : Array (Option Value)} {l : List (Str × Str)} {Ts : Nat → Addr} {ta tb : Nat → Tok} {Q : Value → Shared → Prop} (hroom : A.depth + 3 < recursionLimit) (hh : A.handled = none) (X : (KK w).In s.heap) (hT : TabsAt s.heap)
    (hx : s.heap.get? x = some { cls := .ref 144, dict := dx, data := .seq items n, slots := sl }) (hp : Pairs l s.heap items Ts ta tb) (hl : l.length ≤ 8) (hlen : (pileText l).length ≤ 4096)
    (hq : ∀ s' t, Sh s s' → Q (.str (pileText l) t) s') : wpAny (model prog w) A (call (.ref 118) [.ref x]) Q E s := by
  refine ex2_2 (methG_of (K := KK w) (f := 118) (body := fnBody 5) (by kernel_rfl)) fun o fd m hfd => ?_
  have l1 : fd.scope.names.lookup ("self" : Str) = some NameKind.local := fn_map hfd (g := fun fd => fd.scope.names.lookup ("self" : Str)) (by kernel_rfl)
  have l2 : fd.scope.names.lookup ("EMPTYSTRING" : Str) = some NameKind.globalImplicit := fn_map hfd (g := fun fd => fd.scope.names.lookup ("EMPTYSTRING" : Str)) (by kernel_rfl)
  have l3 : fd.code = .ref 117 := fn_map hfd (g := fun fd => fd.code) (by kernel_rfl)
  have hb : bindArgs fd ⟨[.ref x], []⟩ = pure [(("self" : Str), .ref x)] := fn_map hfd (g := fun fd => bindArgs fd ⟨[.ref x], []⟩) (by kernel_rfl)
  refine wpAny_with_toks (Nat.le_refl s.toks) ?_
  refine wpAny_call (ks_codeAny_call_defAt (by lia) (X _ _ m.at') m.data (tp_K X).lim (rec_of X m.rec') m.body (BindsTo.of_eq hb) m.nocell (fun y hy => by
    have : y = (("self" : Str), Value.ref x) := by simpa using hy
    subst this; exact l1) (fun h0 hns0 hk => ?_) m.co m.gen m.kind)
  have X0 := X.keeps hk
  have hx0 := hk _ _ hx
  have S0 : Sh s { s with heap := h0, toks := s.toks + [(("self" : Str), Value.ref x)].length } := Sh.keeps hT hk (Nat.le_add_right _ _)
  have hp0 := hp.sh hT S0
  have hkind : (callEnv fd s.heap.objs.size 118).scope.kind = .function := m.kind
  have hse : (callEnv fd s.heap.objs.size 118).kindOf ("self" : Str) = some .local := l1
  have hem : (callEnv fd s.heap.objs.size 118).kindOf ("EMPTYSTRING" : Str) = some .globalImplicit := l2
  refine ex1_1 (g_empty w) fun te hge => ?_
  refine ks_wpAt_execs_cons (ks_wpAt_Return_some (wpAt_of_wpAny (meth_eval ?_)))
  refine name_g X0 hkind hem m.glob m.blt (by decide) (.inl hge) ?_
  refine GM.join ?_
  dsimp only
  refine callWith_machine (fun a q => by cases q) rfl ?_
  refine wpAny_items_cons ?_ rfl
  have hxt : x ∉ tabs := fun z => by
    refine ex1_2 (hT x z) fun ps e _ => ?_
    rw [hx] at e; cases e
  refine gen_pile (P := 113) (c := 117) (x := x) (items := items) (Ts := Ts) (vals := fun j => #[.str (l.getD j default).1 (ta j), .str (l.getD j default).2 (tb j)]) (F := fun j v => ∃ t, v = .str ((l.getD j default).1 ++ (l.getD j default).2) t) X0 S0.tabs (by decide) (code_str w) l3 m.glob m.blt hh rfl rfl (by decide) (by decide) (by decide) (by decide) (by decide) rfl (by show A.depth + 1 < _; lia) (fun Q' E' hq' => ?_) hx0 (fun z => hxt (by rw [z]; decide))
    (fun j hj => hp0.it j (hp0.size ▸ hj)) (fun j hj => ?_) (fun j hj z => hp0.out S0.tabs (hp0.size ▸ hj) (by rw [z]; decide)) (fun j hj => ⟨_, _, rfl⟩) (fun A' cenv E' i va vb s₂ m₂ hA' hsc hg hbl hi hv hn h1 h2 X2 => ?_) (fun a s₅ G => ?_) (fun v => rfl)
  · exact wpAny_Name (wpAny_loadName_local (v := .ref x) hkind hse hns0 (by simp) hq') (by decide)
  · refine ex1_1 (hp0.tup j (hp0.size ▸ hj)) fun k e => ?_
    exact ⟨_, e, rfl, k, rfl⟩
  · have e1 : va = .str (l.getD i default).1 (ta i) := by have := congrArg (fun a : Array Value => a[0]?) hv; simpa using this.symm
    have e2 : vb = .str (l.getD i default).2 (tb i) := by have := congrArg (fun a : Array Value => a[1]?) hv; simpa using this.symm
    subst e1 e2
    have hkc : cenv.scope.kind = .function := by rw [hsc]
    have kE : cenv.kindOf ("EMPTYSTRING" : Str) = some .globalImplicit := by show cenv.scope.names.lookup _ = _; rw [hsc]; decide
    have kF : cenv.kindOf ("fws" : Str) = some .local := by show cenv.scope.names.lookup _ = _; rw [hsc]; decide
    have kP : cenv.kindOf ("part" : Str) = some .local := by show cenv.scope.names.lookup _ = _; rw [hsc]; decide
    refine meth_eval (name_g X2 hkc kE hg hbl (by decide) (.inl hge) ?_)
    refine GM.join ?_
    dsimp only
    refine callWith_machine (fun a q => by cases q) rfl ?_
    refine wpAny_items_cons ?_ rfl
    refine wpAny_Tuple ?_
    refine wpAny_items_cons (wpAny_Name (wpAny_loadName_local hkc kF hn h1 ?_) (by decide)) rfl
    refine wpAny_items_cons (wpAny_Name (wpAny_loadName_local hkc kP hn h2 ?_) (by decide)) rfl
    refine wpAny_items_nil ⟨by show 2 ≤ sizeLine; decide, ?_⟩
    refine wpAny_items_nil ?_
    refine join_pair (Heap.get?_push_size _ rfl) (len_of hp0.size hlen hi) fun t' k => ⟨⟨t', rfl⟩, _, k, rfl, fun b o e => Heap.get?_push_of_some _ e⟩
  · refine ex4_6 (G.gen) fun fp wr g St W hst hty ha hfp hwr => ?_
    refine wpAny_items_nil ?_
    refine SC.joinGen (W.in4_2) hty hst hfp ha (fun i v hv => ⟨_, hv⟩) (fun s' lt hm hit => ?_) (Nat.le_trans (Nat.le_trans (Nat.le_of_eq hp0.size) hl) (by decide))
    have htx := texts_of hp0.size hit
    have hok : JoinOk ("" : Str) (lt.map (·.1)) = true := by
      rw [htx]
      refine joinOk_of ?_
      have h0 : (("" : Str)).length = 0 := by decide
      have h1 := pile_len l
      have h2 : (List.map (fun x : Str => x.length) (List.map (fun e : Str × Str => e.1 ++ e.2) l)).sum = (l.map fun e => e.1.length + e.2.length).sum := by
        rw [List.map_map]; congr 1; exact List.map_congr_left fun e _ => len_app _ _
      rw [h2, h0]; lia
    refine ⟨hok, fun t' k htk => ?_⟩
    rw [htx, join_pile]
    have S1 : Sh s { s' with toks := k } := by
      refine ⟨fun b o hb e => hm.heap b o (fun z => ?_) (G.keep b o (fun z => hb (by rw [z]; decide)) (S0.keep b o hb e)), fun P hP => ?_, fun hg => ?_, hm.os.trans (G.os.trans S0.os), htk⟩
      · have := (hwr b z).1
        rw [S0.keep b o hb e] at this; cases this
      · refine ex1_2 (G.tabs P hP) fun ps e r => ?_
        exact ⟨ps, hm.heap P _ (fun z => (hwr P z).2 hP) e, r⟩
      · exact (G.bare (S0.bare hg)).moved hm.gens
    exact hq _ _ S1
end
end Mine
end
section
set_option genSizeOf false
set_option genSizeOfSpec false
set_option maxRecDepth 100000
namespace Mine
open PySem PySem.W PySem.W.X PyProof.Rows
theorem lga_plain : plainId "list.__getattribute__" = true := by decide +kernel
theorem lga_kind : builtinKind "list.__getattribute__" = some .slot := by decide +kernel
theorem lga_split : splitId "list.__getattribute__" = some ("list", "__getattribute__") := by decide +kernel
theorem lga_entry : entryFor table "list.__getattribute__" = some Builtin.«object.__getattribute__» := entryFor_alias (id' := "object.__getattribute__") (by kernel_rfl) (by first | rfl | decide +kernel) (by decide +kernel) (by kernel_rfl)
theorem lga_args (a b : Value) : argsOk "list.__getattribute__" ⟨[a, b], []⟩ := by unfold argsOk; kernel_rfl
section
variable {w : World} {A : Around} {E : Value → Shared → Prop} {s : Shared} {h : Heap} {g : Array GenState} {d : Drawn} {t : Nat} {os : OsState}
theorem get_size {x dx : Addr} {items : Array Value} {k : Nat} {sl sl' : Array (Option Value)} {dd : Option Addr} {hs : Int} {tk tk' : Tok} {n : Nat} {expr : Bool} {Q : Value → Shared → Prop} (X : (KK w).In h) (hx : h.get? x = some { cls := .ref 144, dict := some dx, data := .seq items k, slots := sl })
    (hd : h.get? dx = some { cls := .type "dict", dict := dd, data := .dict #[⟨hs, .str "_initial_size" tk, .int 0 tk'⟩] n, slots := sl' }) (hq : Q (.int 0 tk') ⟨h, g, d, t + 1, os⟩) : wpAny (model prog w) A (getAttr (.ref x) "_initial_size" expr) Q E ⟨h, g, d, t, os⟩ := by
  have I : InstAt h x { cls := .ref 144, dict := some dx, data := .seq items k, slots := sl } 144 (some { cls := .type "dict", dict := dd, data := .dict #[⟨hs, .str "_initial_size" tk, .int 0 tk'⟩] n, slots := sl' }) := ⟨hx, rfl, rfl, hd⟩
  have Tx : Looks (model prog w) h (typeOf (.ref x)) (.ref 144) := (Looks.ld hx).andThen .now
  have hF : Looks (model prog w) h (Builtin.ObjectAttr.find (.ref x) (.ref 144) "_initial_size") (.value (.int 0 tk')) := looks_find X I (by kernel_rfl)
  have hI : Looks (model prog w) h (isInstance (.ref x) (.type "list")) true := Tx.andThen (kk_sub_list X)
  have hbs : Looks (model prog w) h (bindSpecial (.builtin "list.__getattribute__") (.ref x)) (.builtin "list.__getattribute__", [.ref x]) := Looks.of_peek X (by kernel_rfl)
  unfold getAttr getAttrBy
  refine wpAny_bind (wpAny_mkText (wpAny_holding (wpAny_bind (Looks.at Tx (wpAny_bind (Looks.at (kk_ga X) ?_))))))
  dsimp only
  rw [if_neg (by decide)]
  unfold getAttrByItsOwn hookBefore
  refine wpAny_bind ?_
  rw [if_pos (by decide)]
  refine Looks.at (kk_gattr X) ?_
  refine wpAny_bind (wpAny_attempt (wpAny_holding ?_))
  unfold callGetattribute
  rw [if_neg (by cases expr <;> decide)]
  unfold boundAndCalled
  refine wpAny_bind (Looks.at hbs ?_)
  refine wpAny_call (codeAny_call_builtin lga_plain lga_entry (@check_slot (model prog w) _ _ ⟨h, g, d, t + 1, os⟩ "list.__getattribute__" "list" "__getattribute__" (.ref x) [.str "_initial_size" t] [] _ lga_kind lga_split hI (lga_args _ _) ?_))
  refine wpAny_bind (wpAny_pure ?_)
  refine wpAny_bind (wpAny_pure (wpAny_bind (Looks.at Tx (wpAny_bind (Looks.at hF ?_)))))
  refine wpAny_pure ?_
  exact wpAny_pure hq
end
section
variable {w : World} {A : Around} {E : Value → Shared → Prop} {s : Shared}
theorem sum_gen {a : Addr} {tk : Tok} {fp wr : List Addr} {G : Array GenState → Array GenState → Prop} {n : Nat} {P : Nat → Value → Prop} {St : Nat → Shared → Prop} {val : Nat → Int} {Q : Value → Shared → Prop} (W : WalksS prog w A.in1 a fp wr G n P St) (hst : St 0 s) (hfp : ∀ b ∈ fp, b < s.heap.objs.size)
    (hval : ∀ i v, P i v → ∃ t, v = .int (val i) t) (hq : ∀ s' t', Moved wr G s s' → Q (.int (preSum val n) t') s') : wpAny (model prog w) A (call (.builtin "sum") [.ref a, .int 0 tk]) Q E s := by
  refine call_function_tree PySem.F.kind_sum PySem.F.plain_sum PySem.F.entry_sum (by unfold argsOk; kernel_rfl) ?_
  unfold Builtin.«sum»
  simp only [List.length_cons, List.length_nil]
  rw [if_neg (by decide)]
  refine wpAny_bind (wpAny_of_eq (show Builtin.Builtins.bindParams "sum" ["start"] 0 ⟨[.int 0 tk], []⟩ = pure [some (.int 0 tk)] from rfl) ?_)
  refine wpAny_bind (W.self 0 s _ _ hst ?_)
  dsimp only
  split
  · refine wpAny_bind (wpAny_rule (wpAny_bind (wpAny_mkInt (wpAny_bind (wpAny_pure ?_)))))
    refine wpAny_bind (wpAny_bind (wpAny_bind (wpAny_isInstance (T := "int") (b := false) (typeIs_int _ _ _) PySem.sub_int_str ?_)))
    refine wpAny_pure (wpAny_bind (wpAny_bind (wpAny_isInstance (T := "int") (b := false) (typeIs_int _ _ _) PySem.sub_int_bytes ?_)))
    refine wpAny_pure (wpAny_bind (wpAny_bind (wpAny_isInstance (T := "int") (b := false) (typeIs_int _ _ _) PySem.sub_int_bytearray ?_)))
    refine wpAny_pure (wpAny_pure ?_)
    refine wpAny_bind (wpAny_newObj_type ?_)
    have hSf : s.heap.objs.size ∉ fp := fun hm => Nat.lt_irrefl _ (hfp _ hm)
    refine wpAny_pure ⟨plainId_quiet PySem.F.plain_sum_loop _, codeAny_sum_loopAnyS W val hval s.heap.objs.size hSf n 0 _ s.toks 0 0 (.inl rfl) rfl (Nat.zero_le _)
      (W.frame 0 s _ _ hst (Nat.le_succ _) fun b _ o e => Heap.get?_push_of_some _ e) (Heap.get?_push_size _ rfl) fun s' t' hm => ?_⟩
    exact hq s' t' (hm.drop_new (Nat.le_succ _))
  · rename_i hc
    exact absurd rfl hc
end
end Mine
end
section
set_option genSizeOf false
set_option genSizeOfSpec false
set_option maxRecDepth 100000
namespace Mine
open PySem PySem.W PySem.W.X PyProof.Rows
theorem pre_sum (l : List (Str × Str)) : ∀ k, k ≤ l.length → preSum (fun i => ((l.getD i default).1.length + (l.getD i default).2.length : Int)) k = (((l.take k).map fun e => e.1.length + e.2.length).sum : Nat)
  | 0, _ => by simp [preSum]
  | k + 1, h => by
    have ih := pre_sum l k (by lia)
    have hg : l.getD k default = l[k] := by rw [List.getD_eq_getElem?_getD]; simp [show k < l.length by lia]
    rw [List.take_succ_eq_append_getElem (by lia), List.map_append, List.sum_append]
    simp only [preSum, ih, hg]
    simp
theorem pre_len (l : List (Str × Str)) : preSum (fun i => ((l.getD i default).1.length + (l.getD i default).2.length : Int)) l.length = ((pileText l).length : Nat) := by
  rw [pre_sum l l.length (Nat.le_refl _), List.take_length, pile_len]
section
variable {w : World} {A : Around} {E : Value → Shared → Prop} {s : Shared}
theorem len_str {a : Str} {t : Tok} {Q : Value → Shared → Prop} (h : a.length ≤ 4096) (hq : Q (.int a.length (s.toks + 1)) { s with toks := s.toks + 1 + 1 }) : wpAny (model prog w) A (call (.builtin "len") [.str a t]) Q E s := P.len_str (by omega) hq
theorem len_call {x dx : Addr} {items : Array Value} {n : Nat} {sl sl' : Array (Option Value)} {dd : Option Addr} {hs : Int} {tk tk' : Tok} {n' : Nat} {l : List (Str × Str)} {Ts : Nat → Addr} {ta tb : Nat → Tok} {Q : Value → Shared → Prop} (hroom : A.depth + 3 < recursionLimit) (hh : A.handled = none) (X : (KK w).In s.heap) (hT : TabsAt s.heap)
    (hx : s.heap.get? x = some { cls := .ref 144, dict := some dx, data := .seq items n, slots := sl }) (hd : s.heap.get? dx = some { cls := .type "dict", dict := dd, data := .dict #[⟨hs, .str "_initial_size" tk, .int 0 tk'⟩] n', slots := sl' }) (hp : Pairs l s.heap items Ts ta tb) (hl : l.length ≤ 8) (hlen : (pileText l).length ≤ 4096)
    (hq : ∀ s' t, Sh s s' → Q (.int (pileText l).length t) s') : wpAny (model prog w) A (call (.ref 111) [.ref x]) Q E s := by
  refine ex2_2 (methG_of (K := KK w) (f := 111) (body := fnBody 4) (by kernel_rfl)) fun o fd m hfd => ?_
  have l1 : fd.scope.names.lookup ("self" : Str) = some NameKind.local := fn_map hfd (g := fun fd => fd.scope.names.lookup ("self" : Str)) (by kernel_rfl)
  have l2 : fd.scope.names.lookup ("sum" : Str) = some NameKind.globalImplicit := fn_map hfd (g := fun fd => fd.scope.names.lookup ("sum" : Str)) (by kernel_rfl)
  have l3 : fd.code = .ref 110 := fn_map hfd (g := fun fd => fd.code) (by kernel_rfl)
  have hb : bindArgs fd ⟨[.ref x], []⟩ = pure [(("self" : Str), .ref x)] := fn_map hfd (g := fun fd => bindArgs fd ⟨[.ref x], []⟩) (by kernel_rfl)
  refine wpAny_with_toks (Nat.le_refl s.toks) ?_
  refine wpAny_call (ks_codeAny_call_defAt (by lia) (X _ _ m.at') m.data (tp_K X).lim (rec_of X m.rec') m.body (BindsTo.of_eq hb) m.nocell (fun y hy => by
    have : y = (("self" : Str), Value.ref x) := by simpa using hy
    subst this; exact l1) (fun h0 hns0 hk => ?_) m.co m.gen m.kind)
  have X0 := X.keeps hk
  have hx0 := hk _ _ hx
  have S0 : Sh s { s with heap := h0, toks := s.toks + [(("self" : Str), Value.ref x)].length } := Sh.keeps hT hk (Nat.le_add_right _ _)
  have hp0 := hp.sh hT S0
  have hkind : (callEnv fd s.heap.objs.size 111).scope.kind = .function := m.kind
  have hse : (callEnv fd s.heap.objs.size 111).kindOf ("self" : Str) = some .local := l1
  have hem : (callEnv fd s.heap.objs.size 111).kindOf ("sum" : Str) = some .globalImplicit := l2
  refine ks_wpAt_execs_cons (ks_wpAt_Return_some (wpAt_of_wpAny (wpAny_Call_NameR ?_)))
  refine name_g X0 hkind hem m.glob m.blt (by decide) (.inr (g_sum w)) ?_
  refine callWith_machine (fun a q => by cases q) rfl ?_
  refine wpAny_items_cons ?_ rfl
  have hxt : x ∉ tabs := fun z => by
    refine ex1_2 (hT x z) fun ps e _ => ?_
    rw [hx] at e; cases e
  have hdt : dx ∉ tabs := fun z => by
    refine ex1_2 (hT dx z) fun ps e _ => ?_
    rw [hd] at e; cases e
  refine gen_pile (P := 106) (c := 110) (x := x) (items := items) (Ts := Ts) (vals := fun j => #[.str (l.getD j default).1 (ta j), .str (l.getD j default).2 (tb j)]) (F := fun j v => ∃ t, v = .int ((l.getD j default).1.length + (l.getD j default).2.length : Int) t) X0 S0.tabs (by decide) (code_len w) l3 m.glob m.blt hh rfl rfl (by decide) (by decide) (by decide) (by decide) (by decide) rfl (by show A.depth + 1 < _; lia) (fun Q' E' hq' => ?_) hx0 (fun z => hxt (by rw [z]; decide))
    (fun j hj => hp0.it j (hp0.size ▸ hj)) (fun j hj => ?_) (fun j hj z => hp0.out S0.tabs (hp0.size ▸ hj) (by rw [z]; decide)) (fun j hj => ⟨_, _, rfl⟩) (fun A' cenv E' i va vb s₂ m₂ hA' hsc hg hbl hi hv hn h1 h2 X2 => ?_) (fun a s₅ G => ?_) (fun v => rfl)
  · exact wpAny_Name (wpAny_loadName_local (v := .ref x) hkind hse hns0 (by simp) hq') (by decide)
  · refine ex1_1 (hp0.tup j (hp0.size ▸ hj)) fun k e => ?_
    exact ⟨_, e, rfl, k, rfl⟩
  · have e1 : va = .str (l.getD i default).1 (ta i) := by have := congrArg (fun a : Array Value => a[0]?) hv; simpa using this.symm
    have e2 : vb = .str (l.getD i default).2 (tb i) := by have := congrArg (fun a : Array Value => a[1]?) hv; simpa using this.symm
    subst e1 e2
    have hkc : cenv.scope.kind = .function := by rw [hsc]
    have kE : cenv.kindOf ("len" : Str) = some .globalImplicit := by show cenv.scope.names.lookup _ = _; rw [hsc]; decide
    have kF : cenv.kindOf ("fws" : Str) = some .local := by show cenv.scope.names.lookup _ = _; rw [hsc]; decide
    have kP : cenv.kindOf ("part" : Str) = some .local := by show cenv.scope.names.lookup _ = _; rw [hsc]; decide
    refine wpAny_BinOp ?_
    refine wpAny_Call_NameR (name_g X2 hkc kE hg hbl (by decide) (.inr (g_len w)) ?_)
    refine callWith_machine (fun a q => by cases q) rfl ?_
    refine wpAny_items_cons (wpAny_Name (wpAny_loadName_local hkc kF hn h1 ?_) (by decide)) rfl
    refine wpAny_items_nil ?_
    have hb2 := len_of hp0.size hlen hi
    refine len_str (by lia) ?_
    refine wpAny_Call_NameR (name_g (s := { s₂ with toks := s₂.toks + 1 + 1 }) X2 hkc kE hg hbl (by decide) (.inr (g_len w)) ?_)
    refine callWith_machine (fun a q => by cases q) rfl ?_
    refine wpAny_items_cons (wpAny_Name (wpAny_loadName_local (s := { s₂ with toks := s₂.toks + 1 + 1 }) hkc kP hn h2 ?_) (by decide)) rfl
    refine wpAny_items_nil ?_
    refine len_str (by lia) ?_
    refine PyProof.Rows.add_int ?_
    exact ⟨⟨_, rfl⟩, s₂.heap, _, rfl, fun _ _ e => e⟩
  · refine ex4_6 (G.gen) fun fp wr g St W hst hty ha hfp hwr => ?_
    have keep5 : ∀ b o, b ∉ tabs → s.heap.get? b = some o → s₅.heap.get? b = some o := fun b o hb e => G.keep b o (fun z => hb (by rw [z]; decide)) (S0.keep b o hb e)
    have X5 : (KK w).In s₅.heap := fun a o e => keep5 a o (fun z => by rw [not_in w a z] at e; cases e) (X a o e)
    have hL : s.heap.objs.size ≠ 106 := fun z => by
      refine ex1_2 (hT 106 (by decide)) fun ps e _ => ?_
      have h1 := Heap.lt_size e
      rw [z] at h1
      exact Nat.lt_irrefl _ h1
    have hns5 := hns0.at' (h' := s₅.heap) fun o e => G.keep _ o hL e
    obtain ⟨h5, g5, d5, t5, os5⟩ := s₅
    refine wpAny_items_cons (PyProof.Rows.Attribute_any_ (wpAny_Name (wpAny_loadName_local (v := .ref x) hkind hse hns5 (by simp) ?_) (by decide)) rfl) rfl
    refine get_size X5 (keep5 _ _ hxt hx) (keep5 _ _ hdt hd) ?_
    refine wpAny_items_nil ?_
    have hst' := W.frame 0 _ h5 (t5 + 1) hst (Nat.le_succ _) fun _ _ _ e => e
    refine sum_gen (val := fun i => ((l.getD i default).1.length + (l.getD i default).2.length : Int)) W.in4_1 hst' hfp (fun i v hv => hv) fun s' t' hm htk => ?_
    rw [hp0.size, pre_len]
    refine hq _ _ ⟨fun b o hb e => hm.heap b o (fun z => ?_) (keep5 b o hb e), fun P hP => ?_, fun hg => ?_, hm.os.trans (G.os.trans S0.os), htk⟩
    · have := (hwr b z).1
      rw [S0.keep b o hb e] at this; cases this
    · refine ex1_2 (G.tabs P hP) fun ps e r => ?_
      exact ⟨ps, hm.heap P _ (fun z => (hwr P z).2 hP) e, r⟩
    · exact (G.bare (S0.bare hg)).moved hm.gens
end
end Mine
end
section
set_option genSizeOf false
set_option genSizeOfSpec false
set_option maxRecDepth 100000
namespace Mine
open PySem PySem.W PySem.W.X PyProof.Rows
theorem only_all : ∀ (l : List Nat) (b : Bool), onlyWs l = some b → l.all Unicode.isSpace = b
  | [], b, h => by apply sm1 h; rfl
  | c :: r, b, h => by
    unfold onlyWs at h
    split at h
    · rename_i hc
      subst hc
      rw [List.all_cons, only_all r b h]
      have : Unicode.isSpace 32 = true := by decide +kernel
      rw [this, Bool.true_and]
    · split at h
      · rename_i hc
        refine omap h fun b' _ e => ?_
        rw [← e, List.all_cons]
        have : Unicode.isSpace c = false := by
          have h1 : c = 97 ∨ c = 98 ∨ c = 99 ∨ c = 100 := by lia
          rcases h1 with rfl | rfl | rfl | rfl <;> decide +kernel
        rw [this, Bool.false_and]
      · exact nn h
theorem only_space {x : Str} {b : Bool} (h : onlyWs x.cps.toList = some b) (h0 : 0 < x.length) : Txt.isspace x = b := by
  have := only_all _ _ h
  unfold Txt.isspace
  rw [← Array.all_toList, this]
  have : decide (x.length > 0) = true := decide_eq_true h0
  rw [this, Bool.true_and]
theorem only_empty {x : Str} {b : Bool} (h : onlyWs x.cps.toList = some b) (h0 : x.length = 0) : b = true := by
  have e : x.cps = #[] := Array.eq_empty_of_size_eq_zero h0
  rw [e] at h
  cases h; rfl
section
variable {w : World} {A : Around} {E : Value → Shared → Prop} {s : Shared}
theorem kk_bool {h : Heap} (X : (KK w).In h) : Looks (model prog w) h (typeLookup (.ref 144) "__bool__") none := Looks.of_peek X (by kernel_rfl)
theorem kk_len {h : Heap} (X : (KK w).In h) : Looks (model prog w) h (typeLookup (.ref 144) "__len__") (some (.ref 111)) := Looks.of_peek X (by kernel_rfl)
theorem kk_bind111 {h : Heap} (X : (KK w).In h) (self : Value) : Looks (model prog w) h (bindSpecial (.ref 111) self) (.ref 111, [self]) := Looks.of_peek X (by kernel_rfl)
theorem pile_truth {x dx : Addr} {items : Array Value} {n : Nat} {sl sl' : Array (Option Value)} {dd : Option Addr} {hs : Int} {tk tk' : Tok} {n' : Nat} {l : List (Str × Str)} {Ts : Nat → Addr} {ta tb : Nat → Tok} {Q : Bool → Shared → Prop} (hroom : A.depth + 4 < recursionLimit) (hh : A.handled = none) (X : (KK w).In s.heap) (hT : TabsAt s.heap)
    (hx : s.heap.get? x = some { cls := .ref 144, dict := some dx, data := .seq items n, slots := sl }) (hd : s.heap.get? dx = some { cls := .type "dict", dict := dd, data := .dict #[⟨hs, .str "_initial_size" tk, .int 0 tk'⟩] n', slots := sl' }) (hp : Pairs l s.heap items Ts ta tb) (hl : l.length ≤ 8) (hlen : (pileText l).length ≤ 4096)
    (hq : ∀ s', Sh s s' → Q (((pileText l).length : Int) != 0) s') : wpAny (model prog w) A (truthy (.ref x)) Q E s := by
  have Tx : Looks (model prog w) s.heap (typeOf (.ref x)) (.ref 144) := (Looks.ld hx).andThen .now
  have hB : Looks (model prog w) s.heap (specialOf (.ref x) "__bool__") none := Tx.andThen (kk_bool X)
  have hL : Looks (model prog w) s.heap (specialOf (.ref x) "__len__") (some (.ref 111)) := Tx.andThen (kk_len X)
  unfold truthy callSpecial?
  refine wpAny_bind (wpAny_bind (hB.here (wpAny_pure ?_)))
  refine wpAny_bind (hL.here ?_)
  rw [if_neg (by decide)]
  refine wpAny_bind (wpAny_runValue (codeAny_builtin PySem.entry_len ?_))
  rw [Around.under_plainId PySem.plain_len _]
  unfold Builtin.«len»
  refine wpAny_bind (m := oneArg "len" _) (wpAny_pure ?_)
  unfold callSpecial?
  refine wpAny_bind (wpAny_bind (hL.here ?_))
  refine wpAny_holding (wpAny_bind ((kk_bind111 X _).here ?_))
  refine wpAny_bind (len_call (A := A.in1) (by show A.depth + 3 < _; lia) hh X hT hx hd hp hl hlen fun s' t S => ?_)
  refine wpAny_pure ?_
  refine wpAny_bind (wpAny_holding (wpAny_pure ?_))
  refine wpAny_bind (wpAny_letGo ?_)
  rw [if_neg (by lia)]
  rw [if_neg (by lia)]
  refine wpAny_bind (wpAny_mkInt (wpAny_pure ?_))
  refine wpAny_pure ?_
  exact hq _ (S.trans (Sh.keeps (h' := s'.heap) (t := s'.toks + 1) S.tabs (fun _ _ e => e) (Nat.le_succ _)))
end
end Mine
end
section
set_option genSizeOf false
set_option genSizeOfSpec false
set_option maxRecDepth 100000
namespace Mine
open PySem PySem.W PySem.W.X PyProof.Rows
section
variable {w : World} {A : Around} {E : Value → Shared → Prop} {s : Shared}
theorem g_str (w : World) : mgK w "str" = none ∧ mbK w "str" = some (.type "str") := ⟨by kernel_rfl, by kernel_rfl⟩
theorem str_of {x dx : Addr} {items : Array Value} {n : Nat} {sl : Array (Option Value)} {od : Obj} {l : List (Str × Str)} {Ts : Nat → Addr} {ta tb : Nat → Tok} {Q : Value → Shared → Prop} (hroom : A.depth + 4 < recursionLimit) (hh : A.handled = none) (hu : A.units + 8 < cLine) (X : (KK w).In s.heap) (hT : TabsAt s.heap)
    (hx : s.heap.get? x = some { cls := .ref 144, dict := some dx, data := .seq items n, slots := sl }) (hd : s.heap.get? dx = some od) (hp : Pairs l s.heap items Ts ta tb) (hl : l.length ≤ 8) (hlen : (pileText l).length ≤ 4096)
    (hq : ∀ s' t, Sh s s' → Q (.str (pileText l) t) s') : wpAny (model prog w) A (call (.type "str") [.ref x]) Q E s := by
  have I : InstAt s.heap x { cls := .ref 144, dict := some dx, data := .seq items n, slots := sl } 144 (some od) := ⟨hx, rfl, rfl, hd⟩
  refine kso_call (K := KK w) (f := 118) (by show A.units + 1 + 1 < _; lia) X I (by kernel_rfl) (by kernel_rfl) ?_
  exact str_call (A := A.in1.in1) (by show A.depth + 3 < _; lia) hh X hT hx hp hl hlen fun s' t S => hq s' t S
theorem only_call {x dx : Addr} {items : Array Value} {n : Nat} {sl sl' : Array (Option Value)} {dd : Option Addr} {hs : Int} {tk tk' : Tok} {n' : Nat} {l : List (Str × Str)} {Ts : Nat → Addr} {ta tb : Nat → Tok} {b : Bool} {Q : Value → Shared → Prop} (hroom : A.depth + 8 < recursionLimit) (hu : A.units + 20 < cLine) (hh : A.handled = none) (X : (KK w).In s.heap) (hT : TabsAt s.heap)
    (hx : s.heap.get? x = some { cls := .ref 144, dict := some dx, data := .seq items n, slots := sl }) (hd : s.heap.get? dx = some { cls := .type "dict", dict := dd, data := .dict #[⟨hs, .str "_initial_size" tk, .int 0 tk'⟩] n', slots := sl' }) (hp : Pairs l s.heap items Ts ta tb) (hl : l.length ≤ 8) (hlen : (pileText l).length ≤ 4096)
    (ho : onlyWs (pileText l).cps.toList = some b) (hq : ∀ s', Sh s s' → Q (.bool b) s') : wpAny (model prog w) A (call (.ref 133) [.ref x]) Q E s := by
  refine ex2_2 (methG_of (K := KK w) (f := 133) (body := fnBody 7) (by kernel_rfl)) fun o fd m hfd => ?_
  have l1 : fd.scope.names.lookup ("self" : Str) = some NameKind.local := fn_map hfd (g := fun fd => fd.scope.names.lookup ("self" : Str)) (by kernel_rfl)
  have l2 : fd.scope.names.lookup ("str" : Str) = some NameKind.globalImplicit := fn_map hfd (g := fun fd => fd.scope.names.lookup ("str" : Str)) (by kernel_rfl)
  have hb : bindArgs fd ⟨[.ref x], []⟩ = pure [(("self" : Str), .ref x)] := fn_map hfd (g := fun fd => bindArgs fd ⟨[.ref x], []⟩) (by kernel_rfl)
  refine wpAny_with_toks (Nat.le_refl s.toks) ?_
  refine wpAny_call (ks_codeAny_call_defAt (by lia) (X _ _ m.at') m.data (tp_K X).lim (rec_of X m.rec') m.body (BindsTo.of_eq hb) m.nocell (fun y hy => by
    have : y = (("self" : Str), Value.ref x) := by simpa using hy
    subst this; exact l1) (fun h0 hns0 hk => ?_) m.co m.gen m.kind)
  have S0 : Sh s { s with heap := h0, toks := s.toks + [(("self" : Str), Value.ref x)].length + 1 + 1 } := Sh.keeps hT hk (by simp; lia)
  have hxt : x ∉ tabs := fun z => by
    refine ex1_2 (hT x z) fun ps e _ => ?_
    rw [hx] at e; cases e
  have hdt : dx ∉ tabs := fun z => by
    refine ex1_2 (hT dx z) fun ps e _ => ?_
    rw [hd] at e; cases e
  have hLt : s.heap.objs.size ∉ tabs := fun z => by
    refine ex1_2 (hT _ z) fun ps e _ => ?_
    rw [fresh_size] at e; exact nn e
  have hkind : (callEnv fd s.heap.objs.size 133).scope.kind = .function := m.kind
  have hse : (callEnv fd s.heap.objs.size 133).kindOf ("self" : Str) = some .local := l1
  have hst : (callEnv fd s.heap.objs.size 133).kindOf ("str" : Str) = some .globalImplicit := l2
  have X0 := X.keeps hk
  refine ks_wpAt_execs_cons (ks_wpAt_Return_some (wpAt_of_wpAny (wpAny_And2 ?_)))
  refine wpAny_Compare1 (PyProof.Rows.Attribute_any_ (wpAny_Name (wpAny_loadName_local (v := .ref x) hkind hse hns0 (by simp) ?_) (by decide)) rfl) rfl
  refine get_size X0 (hk _ _ hx) (hk _ _ hd) ?_
  refine wpAny_Constant_int ?_
  refine PyProof.Rows.eq_int ?_
  refine wpAny_truthy_bool ?_
  rw [if_pos (by decide)]
  refine wpAny_Or2 ?_
  refine wpAny_UnaryOp ?_
  have hns1 : (⟨h0, s.gens, s.drawn, s.toks + [(("self" : Str), Value.ref x)].length + 1 + 1, s.os⟩ : Shared).heap.Ns s.heap.objs.size _ := hns0
  refine wpAny_Name (wpAny_loadName_local (s := ⟨h0, s.gens, s.drawn, s.toks + [(("self" : Str), Value.ref x)].length + 1 + 1, s.os⟩) (v := .ref x) hkind hse hns1 (by simp) ?_) (by decide)
  unfold unaryOp
  refine wpAny_holding ?_
  refine wpAny_bind ?_
  refine pile_truth (A := A.deeper (callEnv fd s.heap.objs.size 133)) (s := ⟨h0, s.gens, s.drawn, s.toks + [(("self" : Str), Value.ref x)].length + 1 + 1, s.os⟩) (by show A.depth + 1 + 4 < _; lia) hh X0 S0.tabs (hk _ _ hx) (hk _ _ hd) (hp.sh hT S0) hl hlen fun s1 S1 => ?_
  refine wpAny_pure ?_
  refine wpAny_truthy_bool ?_
  have S2 := S0.trans S1
  by_cases h0' : (pileText l).length = 0
  · have hb' := only_empty ho h0'
    subst hb'
    rw [h0']
    rw [if_pos (by decide)]
    exact fun _ => hq s1 S2
  · have e0 : (((pileText l).length : Int) != 0) = true := by simp; lia
    rw [e0, if_neg (by decide)]
    have hns2 := hns0.at' (h' := s1.heap) fun o e => S1.keep _ o hLt e
    have X2 := S2.kk X
    refine meth_eval ?_
    refine wpAny_Call_NameR (name_g X2 hkind hst m.glob m.blt (by decide) (.inr (g_str w)) ?_)
    refine callWith_machine (fun a q => by cases q) rfl ?_
    refine wpAny_items_cons (wpAny_Name (wpAny_loadName_local (v := .ref x) hkind hse hns2 (by simp) ?_) (by decide)) rfl
    refine wpAny_items_nil ?_
    refine str_of (A := A.deeper (callEnv fd s.heap.objs.size 133)) (by show A.depth + 1 + 4 < _; lia) hh (by show A.units + 3 + 8 < _; lia) X2 S2.tabs (S2.keep _ _ hxt hx) (S2.keep _ _ hdt hd) (hp.sh hT S2) hl hlen fun s3 t3 S3 => ?_
    refine GM.isspace ?_
    refine callWith_machine (fun a q => by cases q) rfl ?_
    refine wpAny_items_nil ?_
    refine SC.isspace ?_
    rw [only_space ho (Nat.pos_of_ne_zero h0')]
    exact fun _ => hq s3 (S2.trans S3)
end
end Mine
end
section
set_option genSizeOf false
set_option genSizeOfSpec false
set_option maxRecDepth 100000
namespace Mine
open PySem PySem.W PySem.W.X PyProof.Rows
structure PileIs (Mt : Ms) (s : Shared) (x : Addr) (l : List (Str × Str)) (dx : Addr) (items : Array Value) (n : Nat) : Prop where
  x_ : s.heap.get? x = some { cls := .ref 144, dict := some dx, data := .seq items n }
  dx_ : ∃ dd hs tk tk' ep, s.heap.get? dx = some { cls := .type "dict", dict := dd, data := .dict #[⟨hs, .str "_initial_size" tk, .int 0 tk'⟩] ep, slots := #[] }
  ne : dx ≠ x
  m : ¬ Mt.m dx
  rs : VRs Mt (x :: tabs) s.heap (l.map fun e => .tup [.str e.1, .str e.2]) items.toList
  xm : Mt.m x
  xt : x ∉ tabs
  tm : ∀ P ∈ tabs, Mt.m P
theorem nsOne {h : Heap} {dx : Addr} {dd : Option Addr} {hs : Int} {tk tk' : Tok} {ep : Nat} {sl : Array (Option Value)} (e : h.get? dx = some { cls := .type "dict", dict := dd, data := .dict #[⟨hs, .str "_initial_size" tk, .int 0 tk'⟩] ep, slots := sl }) : h.Ns dx (nsFind #[⟨hs, .str "_initial_size" tk, .int 0 tk'⟩]) := by
  refine ⟨_, _, _, e, rfl, fun x hx => ?_, fun _ => rfl⟩
  have : x = ⟨hs, .str "_initial_size" tk, .int 0 tk'⟩ := by simpa using hx
  subst this; exact ⟨_, _, rfl⟩
section
variable {w : World} {h₀ : Heap} {os₀ : OsState} {A : Around} {Mt Mt' : Ms} {pw : List Addr} {p p' p1 p2 : P} {s s' : Shared} {v : V} {val : Value} {env : Env} {sc : Scope} {me : Me}
theorem pile_at (J : Inv h₀ os₀ Mt pw p s) {x : Addr} (e : pw = x :: tabs) : ∃ l dx items n, p = some l ∧ PileIs Mt s x l dx items n := by
  subst e
  have H := J.pile.2
  unfold PileAt₀ at H
  cases p with
  | none => exact absurd (congrArg List.length (show x :: tabs = tabs from H)) (by simp)
  | some l =>
    obtain ⟨x', d, vs, n, od, e1, e2, e3, e4, e5, e6, e7, ⟨hs, tk, tk', ep, e8⟩, e9⟩ := H
    obtain ⟨rfl, _⟩ := List.cons.inj e1
    obtain ⟨oc, od1, odt, osl⟩ := od
    dsimp only at e6 e7 e8
    subst e6 e7 e8
    refine ⟨l, d, vs, n, rfl, e2, ⟨od1, hs, tk, tk', ep, e5⟩, e3, e4, e9, J.pws _ List.mem_cons_self, fun z => ?_, fun P hP => J.pws P (List.mem_cons_of_mem _ hP)⟩
    refine ex1_2 (J.pile.1 _ z) fun ps e _ => ?_
    rw [e2] at e; cases e
theorem tabs_none (J : Inv h₀ os₀ Mt pw p s) {P : Addr} (hP : P ∈ tabs) : h₀.get? P = none := (J.mt P (J.pws P (J.pile.2.tabs P hP))).1
theorem Inv.sh (J : Inv h₀ os₀ Mt pw p s) (S : Sh s s') : Inv h₀ os₀ Mt pw p s' ∧ Kp pw Mt Mt s.heap s'.heap := by
  have hd : ∀ b o, ¬ Mt.m b → s.heap.get? b = some o → ¬ Mt.m b ∧ s'.heap.get? b = some o := fun b o hb e => ⟨hb, S.keep b o (fun z => hb (J.pws b (J.pile.2.tabs b z))) e⟩
  refine ⟨⟨fun b o e => S.keep b o (fun z => by rw [tabs_none J z] at e; cases e) (J.base b o e), fun a ha => ⟨(J.mt a ha).1, ?_⟩, J.pws, ⟨S.tabs, ?_⟩, S.os.trans J.os, S.bare J.gens, fun t z e => ⟨(J.tk t z e).1, Nat.lt_of_lt_of_le (J.tk t z e).2 S.toks⟩, Nat.lt_of_lt_of_le J.pos S.toks⟩, fun b o hb e => S.keep b o (fun z => hb (J.pile.2.tabs b z)) e, rfl, fun _ _ e => e⟩
  · by_cases z : a ∈ tabs
    · obtain ⟨ps, e, _⟩ := S.tabs a z; exact ⟨_, e⟩
    · obtain ⟨_, o, ho⟩ := J.mt a ha; exact ⟨o, S.keep a o z ho⟩
  · have H := J.pile.2
    unfold PileAt₀ at H ⊢
    split at H
    · exact H
    · obtain ⟨x, d, vs, n, od, e1, e2, e3, e4, e5, e6, e7, e8, e9⟩ := H
      refine ⟨x, d, vs, n, od, e1, S.keep _ _ (fun z => ?_) e2, e3, e4, (hd _ _ e4 e5).2, e6, e7, e8, e9.mono hd⟩
      refine ex1_2 (J.pile.1 _ z) fun ps e _ => ?_
      rw [e2] at e; cases e
theorem Inv.pile_upd {x dx : Addr} {l l' : List (Str × Str)} {items items' : Array Value} {n n' : Nat} {h' : Heap} {t : Nat} (J : Inv h₀ os₀ Mt (x :: tabs) (some l) s) (H : PileIs Mt s x l dx items n) (hk : ∀ b o, b ≠ x → s.heap.get? b = some o → h'.get? b = some o)
    (hx' : h'.get? x = some { cls := .ref 144, dict := some dx, data := .seq items' n' }) (R : VRs Mt (x :: tabs) h' (l'.map fun e => .tup [.str e.1, .str e.2]) items'.toList) (ht : s.toks ≤ t) : Inv h₀ os₀ Mt (x :: tabs) (some l') { s with heap := h', toks := t } ∧ Kp (x :: tabs) Mt Mt s.heap h' := by
  refine ⟨⟨fun b o e => hk b o (fun z => ?_) (J.base b o e), fun a ha => ⟨(J.mt a ha).1, ?_⟩, J.pws, ⟨fun P hP => ?_, ?_⟩, J.os, J.gens, fun u z e => ⟨(J.tk u z e).1, Nat.lt_of_lt_of_le (J.tk u z e).2 ht⟩, Nat.lt_of_lt_of_le J.pos ht⟩, fun b o hb e => hk b o (fun z => hb (z ▸ List.mem_cons_self)) e, rfl, fun _ _ e => e⟩
  · subst z; rw [(J.mt _ H.xm).1] at e; exact nn e
  · by_cases z : a = x
    · subst z; exact ⟨_, hx'⟩
    · obtain ⟨_, o, ho⟩ := J.mt a ha; exact ⟨o, hk a o z ho⟩
  · refine ex1_2 (J.pile.1 P hP) fun ps e r => ?_
    exact ⟨ps, hk P _ (fun z => H.xt (z ▸ hP)) e, r⟩
  · obtain ⟨dd, hs, tk, tk', ep, e⟩ := H.dx_
    exact ⟨x, dx, items', n', _, rfl, hx', H.ne, H.m, hk _ _ H.ne e, rfl, rfl, ⟨hs, tk, tk', ep, rfl⟩, R⟩
end
end Mine
end
section
set_option genSizeOf false
set_option genSizeOfSpec false
set_option maxRecDepth 100000
namespace Mine
open PySem PySem.W PySem.W.X PyProof.Rows
section
variable {w : World} {h₀ : Heap} {os₀ : OsState} {A : Around} {Mt Mt' : Ms} {pw : List Addr} {p p' p1 p2 : P} {s s' : Shared} {v : V} {val : Value} {env : Env} {sc : Scope} {me : Me}
theorem VR.pile' {v : Value} {h : Heap} (R : VR Mt pw h .pile v) : ∃ x, v = .ref x ∧ pw = x :: tabs := by
  cases R with
  | pile e => exact ⟨_, rfl, e⟩
theorem meth_eval_g {o : Expr} {name : Str} {apos pos : Pos} {args : List Expr} {E : Value → Shared → Prop} {Q : Value → Shared → Prop} (hb : plainBase o = true) (hl : apos.endLine = pos.line) (h8 : args.length ≤ 8) (hpl : (backTo pos (starEach args env)).any (·.1) = false)
    (h : wpAny (model prog w) A (eval o env) (fun ov s₁ => ∀ pl, wpAny (model prog w) A (getMethod ov name pl) (fun fx s₂ => wpAny (model prog w) A (callWith pos fx.1 fx.2 (backTo pos (starEach args env)) []) Q E s₂) E s₁) E s) :
    wpAny (model prog w) A (eval (.Call (.Attribute o name apos) args [] pos) env) Q E s := by
  have hline : (apos.endLine == pos.line) = true := by simpa using hl
  rw [PySem.arm_eval_Call, base_ok hb]
  refine wpAny_bind (wpAny_mono h (fun ov s₁ h₁ => ?_) fun _ _ e => e)
  refine wpAny_bind (wpAny_standAt ?_)
  have hform : methodCallForm (args.length + ([] : List Keyword).length) (backTo pos (starEach args env)) (backToKw pos (keywordEach [] env)) = true := few_ok hpl h8
  have hpos : methodCallPos true o env apos pos = pure pos := by unfold methodCallPos; simp [hline]
  unfold methodCall
  rw [hform]
  exact wpAny_bind (wpAny_holding (wpAny_mono (h₁ _) (fun fx s₂ h₂ => wpAny_bind (wpAny_of_eq hpos h₂)) fun _ _ e => e))
theorem popped {l : List (Str × Str)} {a b : Str} (e : l.getLast? = some (a, b)) : l = l.dropLast ++ [(a, b)] := by
  have hne : l ≠ [] := fun z => by subst z; cases e
  rw [List.getLast?_eq_some_getLast hne] at e
  rw [← Option.some.inj e]
  exact (List.dropLast_concat_getLast hne).symm
noncomputable def PM (w : World) (h₀ : Heap) (os₀ : OsState) (A : Around) (f : Addr) (l0 : List (Str × Str)) (l : List V) (v : V) (p' : P) : Prop := ∀ {x : Addr} {M2 : Ms} {s2 : Shared} {vs : List Value}, Inv h₀ os₀ M2 (x :: tabs) (some l0) s2 → VRs M2 (x :: tabs) s2.heap l vs → ∀ (E Q2 : Value → Shared → Prop),
  (∀ {M3 : Ms} u s3, Inv h₀ os₀ M3 (x :: tabs) p' s3 → Kp (x :: tabs) M2 M3 s2.heap s3.heap → VR M3 (x :: tabs) s3.heap v u → Q2 u s3) → wpAny (model prog w) A (call (.ref f) (.ref x :: vs)) Q2 E s2
theorem push_pm (X0 : (KK w).In h₀) (R1 : Rm A 1) {l0 : List (Str × Str)} {a b : Str} (hlen : l0.length ≤ 8) : PM w h₀ os₀ A 88 l0 [.str a, .str b] .none (some (l0 ++ [(a, b)])) := by
  intro x M2 s2 vs J2 R2 E Q2 hQ2
  refine ex2_3 (R2.two) fun u1 u2 q_22 V1 V2 => ?_
  subst q_22
  refine ex4_2 (pile_at J2 rfl) fun l1 dx items n e1 H => ?_
  rw [← Option.some.inj e1] at H
  obtain ⟨dd, hs, tk, tk', ep, hdx⟩ := H.dx_
  have hsz : items.size = l0.length := by have := H.rs.1; simpa using this
  refine push_call (by have := R1.2.1; lia) (kk_in X0 J2) H.x_ (nsOne hdx) rfl (by lia) fun h' t' n' tp f1 f2 f3 hk ht => ?_
  have hm : ∀ b o, ¬ M2.m b → s2.heap.get? b = some o → ¬ M2.m b ∧ h'.get? b = some o := fun b o hb e => ⟨hb, hk b o (fun z => hb (z ▸ H.xm)) e⟩
  have Rn : VRs M2 (x :: tabs) h' ((l0 ++ [(a, b)]).map fun e => .tup [.str e.1, .str e.2]) (items.push (.ref tp)).toList := by
    rw [List.map_append, Array.toList_push]
    refine (H.rs.mono hm).snoc ?_
    exact VRs.tup (n := 0) (vs := [u1, u2]) (.cons (V1.mono hm) (.cons (V2.mono hm) .nil)) (J2.fresh f1) f2
  have JK := Inv.pile_upd J2 H hk f3 Rn ht
  exact hQ2 .none _ JK.1 JK.2 .none
theorem last_of {items : Array Value} (hpos : 0 < items.size) : ∃ last, items = items.pop.push last := ⟨items[items.size - 1], by
  apply Array.ext'
  rw [Array.toList_push, Array.toList_pop]
  have hne : items.toList ≠ [] := fun z => by
    have hz : items.toList.length = 0 := by rw [z]; rfl
    rw [Array.length_toList] at hz
    exact absurd hz (Nat.ne_of_gt hpos)
  have := List.dropLast_concat_getLast hne
  rw [List.getLast_eq_getElem] at this
  simpa using this.symm⟩
theorem VRs.parts {h : Heap} {xs : List V} {x : V} {vs : List Value} {u : Value} (R : VRs Mt pw h (xs ++ [x]) (vs ++ [u])) : VRs Mt pw h xs vs ∧ VR Mt pw h x u := by
  have hl : vs.length = xs.length := by have := R.1; simpa using this
  refine ⟨⟨hl, fun i y u hy hu => R.2 i y u ?_ ?_⟩, R.2 xs.length _ _ ?_ ?_⟩
  · rw [List.getElem?_append_left (List.getElem?_eq_some_iff.mp hy).1]; exact hy
  · rw [List.getElem?_append_left (List.getElem?_eq_some_iff.mp hu).1]; exact hu
  · rw [List.getElem?_append_right (Nat.le_refl _), Nat.sub_self]; rfl
  · rw [← hl, List.getElem?_append_right (Nat.le_refl _), Nat.sub_self]; rfl
theorem pop_pm (X0 : (KK w).In h₀) (hh : A.handled = none) (R1 : Rm A 1) {l0 : List (Str × Str)} {a b : Str} (h9 : l0.length ≤ 9) (hla : l0.getLast? = some (a, b)) : PM w h₀ os₀ A 104 l0 [] (.tup [.str a, .str b]) (some l0.dropLast) := by
  intro x M2 s2 vs J2 R2 E Q2 hQ2
  obtain rfl : vs = [] := List.length_eq_zero_iff.mp R2.1
  refine ex4_2 (pile_at J2 rfl) fun l1 dx items n e1 H => ?_
  rw [← Option.some.inj e1] at H
  obtain ⟨dd, hs, tk, tk', ep, hdx⟩ := H.dx_
  have hl0 := popped hla
  have hsz : items.size = l0.length := by have := H.rs.1; simpa using this
  have hmap : l0.map (fun e => V.tup [.str e.1, .str e.2]) = l0.dropLast.map (fun e => V.tup [.str e.1, .str e.2]) ++ [.tup [.str a, .str b]] := by
    conv => lhs; rw [hl0]
    rw [List.map_append]; rfl
  have hpos : 0 < items.size := by
    rw [hsz]
    exact List.length_pos_iff.mpr fun z => by rw [z] at hla; exact nn hla
  refine ex1_1 (last_of hpos) fun last hlast => ?_
  have hx2 := H.x_
  rw [hlast] at hx2
  have Rall := H.rs
  rw [hlast, Array.toList_push, hmap] at Rall
  have hbig : items.pop.size ≤ 4096 := by rw [Array.size_pop, hsz]; clear hQ2 Rall R2; lia
  refine wpAny_with_toks (Nat.le_refl s2.toks) ?_
  refine pop_call (by have := R1.2.1; lia) hh (kk_in X0 J2) hx2 (nsOne hdx) rfl hbig fun h' t' n' f3 hk ht => ?_
  have hm : ∀ b o, ¬ M2.m b → s2.heap.get? b = some o → ¬ M2.m b ∧ h'.get? b = some o := fun b o hb e => ⟨hb, hk b o (fun z => hb (z ▸ H.xm)) e⟩
  have JK := Inv.pile_upd J2 H hk f3 (Rall.parts.1.mono hm) ht
  exact hQ2 last _ JK.1 JK.2 (Rall.parts.2.mono hm)
theorem part_pm (X0 : (KK w).In h₀) (R1 : Rm A 1) {l0 : List (Str × Str)} : PM w h₀ os₀ A 141 l0 [] (.int l0.length) (some l0) := by
  intro x M2 s2 vs J2 R2 E Q2 hQ2
  obtain rfl : vs = [] := List.length_eq_zero_iff.mp R2.1
  refine ex4_2 (pile_at J2 rfl) fun l1 dx items n e1 H => ?_
  rw [← Option.some.inj e1] at H
  have hsz : items.size = l0.length := by have := H.rs.1; simpa using this
  refine wpAny_with_toks (Nat.le_refl s2.toks) ?_
  refine part_call (by have := R1.2.1; lia) (kk_in X0 J2) H.x_ fun h' t t' hk ht => ?_
  rw [hsz]
  exact hQ2 _ _ (J2.keeps hk ht) (Kp.of_keeps hk) (.int _ _)
theorem only_pm (X0 : (KK w).In h₀) (hh : A.handled = none) (R1 : Rm A 1) {l0 : List (Str × Str)} {t0 : Str} {b : Bool} (hlen : l0.length ≤ 8) (ht0 : okS (pileText l0) = some t0) (hob : onlyWs t0.cps.toList = some b) : PM w h₀ os₀ A 133 l0 [] (.bool b) (some l0) := by
  intro x M2 s2 vs J2 R2 E Q2 hQ2
  refine an2 (okS_eq ht0) fun q_20 hcap => ?_
  subst q_20
  obtain rfl : vs = [] := List.length_eq_zero_iff.mp R2.1
  refine ex4_2 (pile_at J2 rfl) fun l1 dx items n e1 H => ?_
  rw [← Option.some.inj e1] at H
  obtain ⟨dd, hs, tk, tk', ep, hdx⟩ := H.dx_
  obtain ⟨Ts, ta, tb, hp⟩ := pairs_of H.rs
  refine only_call (by have := R1.2.1; lia) (by have := R1.2.2; lia) hh (kk_in X0 J2) J2.pile.1 H.x_ hdx hp hlen hcap hob fun s3 S => ?_
  have JK := J2.sh S
  exact hQ2 _ _ JK.1 JK.2 (.bool _)
theorem pile_meth {o : Expr} {nm : Str} {apos pos : Pos} {args : List Expr} {l : List V} {l0 : List (Str × Str)} {f : Addr} {of : Obj} {fd : FuncData} (X0 : (KK w).In h₀) (hb : plainBase o = true) (hl : apos.endLine = pos.line) (h8 : args.length ≤ 8) (hpl : (backTo pos (starEach args env)).any (·.1) = false)
    (ho : OkV w h₀ os₀ A Mt pw (eval o env) s .pile p1) (hns : ∀ hs tk tk', nsFind #[⟨hs, .str "_initial_size" tk, .int 0 tk'⟩] nm = none) (hlk : ∀ {h : Heap}, (KK w).In h → Looks (model prog w) h (typeLookup (.ref 144) nm) (some (.ref f))) (hof : (KK w).lookup f = some of) (hd : of.data = .func fd) (hc : of.cls = .type "function")
    (hp2 : p2 = some l0) (hcall : PM w h₀ os₀ A f l0 l v p') (ha : ∀ {Mt' : Ms} s1, Inv h₀ os₀ Mt' pw p1 s1 → Kp pw Mt Mt' s.heap s1.heap → OkL w h₀ os₀ A Mt' pw (spliced (backTo pos (starEach args env))) s1 l p2) : OkV w h₀ os₀ A Mt pw (eval (.Call (.Attribute o nm apos) args [] pos) env) s v p' := by
  intro E Q hQ
  refine meth_eval_g hb hl h8 hpl ?_
  refine ho E _ fun {M1} val s1 J1 K1 V1 pl => ?_
  refine ex1_2 (V1.pile') fun x q_71 hpw => ?_
  subst q_71
  refine ex4_2 (pile_at J1 hpw) fun l1 dx items n _ H => ?_
  obtain ⟨dd, hs, tk, tk', ep, hdx⟩ := H.dx_
  have X1 := kk_in X0 J1
  have hA := ha _ J1 K1
  obtain ⟨h1, g1, d1, t1, os1⟩ := s1
  refine inst_method X1 H.x_ rfl rfl (nsOne hdx) (hns _ _ _) (hlk X1) (X1 _ _ hof) hc ?_
  refine Calls.callWith_function (o := of) (fd := fd) (args_ok hpl (hA E _ fun {M2} vs s2 J2 K2 R2 => ⟨⟨kk_in X0 J2 _ _ hof, hd⟩, ?_⟩))
  rw [hp2] at J2
  rw [hpw] at J2 R2 K1 K2 hQ
  exact hcall J2 R2 E Q fun {M3} u s3 J3 K3 V3 => hQ u s3 J3 ((K1.trans K2).trans K3) V3
theorem pile_ok {o : Expr} {name : Str} {apos pos : Pos} {args : List Expr} {l : List V} (X0 : (KK w).In h₀) (hh : A.handled = none) (R1 : Rm A 1) (hb : plainBase o = true) (hl : apos.endLine = pos.line) (h8 : args.length ≤ 8) (e3 : methV .pile name l p2 = some (v, p')) (J : Inv h₀ os₀ Mt pw p s)
    (ho : OkV w h₀ os₀ A Mt pw (eval o env) s .pile p1) (ha : ∀ {Mt' : Ms} s1, Inv h₀ os₀ Mt' pw p1 s1 → Kp pw Mt Mt' s.heap s1.heap → OkL w h₀ os₀ A Mt' pw (spliced (backTo pos (starEach args env))) s1 l p2)
    (hpl : (backTo pos (starEach args env)).any (·.1) = false) : OkV w h₀ os₀ A Mt pw (eval (.Call (.Attribute o name apos) args [] pos) env) s v p' := by
  refine obind (show (p2.bind fun q => pileM name l q) = some (v, p') from e3) fun l0 h2 e4 => ?_
  refine pileM_inv (G := fun nm l v p' => (∀ {Mt' : Ms} s1, Inv h₀ os₀ Mt' pw p1 s1 → Kp pw Mt Mt' s.heap s1.heap → OkL w h₀ os₀ A Mt' pw (spliced (backTo pos (starEach args env))) s1 l p2) → OkV w h₀ os₀ A Mt pw (eval (.Call (.Attribute o nm apos) args [] pos) env) s v p') ?_ ?_ ?_ ?_ e4 ha
  · intro a b hlen ha
    refine ex2_2 (methG_of (K := KK w) (f := 88) (body := bPush) (by kernel_rfl)) fun of fd m hfd => ?_
    exact pile_meth X0 hb hl h8 hpl ho (fun _ _ _ => rfl) (fun X => kk_push X) m.at' m.data m.cls h2 (push_pm X0 R1 hlen) ha
  · intro a b h9 hla ha
    refine ex2_1 (meth_pop w) fun of fd m => ?_
    exact pile_meth X0 hb hl h8 hpl ho (fun _ _ _ => rfl) (fun X => kk_pop X) m.at' m.data (fn_cls m.toMethS (by kernel_rfl)) h2 (pop_pm X0 hh R1 h9 hla) ha
  · intro ha
    refine ex2_1 (meth_part w) fun of fd m => ?_
    exact pile_meth X0 hb hl h8 hpl ho (fun _ _ _ => rfl) (fun X => kk_part X) m.at' m.data (fn_cls m.toMethS (by kernel_rfl)) h2 (part_pm X0 R1) ha
  · intro t b hlen ht hob ha
    refine ex2_2 (methG_of (K := KK w) (f := 133) (body := fnBody 7) (by kernel_rfl)) fun of fd m hfd => ?_
    exact pile_meth X0 hb hl h8 hpl ho (fun _ _ _ => rfl) (fun X => kk_only X) m.at' m.data m.cls h2 (only_pm X0 hh R1 hlen ht hob) ha
end
end Mine
end
section
set_option genSizeOf false
set_option genSizeOfSpec false
set_option maxRecDepth 100000
namespace Mine
open PySem PySem.W PySem.W.X PyProof.Rows
section
variable {w : World} {h₀ : Heap} {os₀ : OsState}
theorem out_ok (X0 : (KK w).In h₀) : Out w h₀ os₀ (mgK w) (mbK w) where
  meth := fun A Mt pw p p1 p2 p' s env sc me o name apos pos args recv l v hh R hb hl h8 hrecv e3 J F ho ha hpl => by
    rcases hrecv with ⟨t, a, b, rfl⟩ | rfl
    · exact mat_ok hb hl h8 e3 J ho (fun s1 J1 K1 => ha s1 J1 K1) hpl
    · exact pile_ok X0 hh R hb hl h8 e3 J ho (fun s1 J1 K1 => ha s1 J1 K1) hpl
  attr := fun A Mt pw p p1 s env sc me o pos t a b hh hb J F ho => attr_ok hb J ho
  search := fun A Mt pw p p1 s env sc me xpos apos pos a t m hh R hl hst J F hg ha hcap hf => search_ok (re_K X0) (tp_K X0) hl hst J F hg ha hcap hf
  fn := fun A Mt pw p p1 p' s env sc me f fpos pos args l v hh R hf e3 hg J F hl hpl => by
    have N : ∀ {x y : Str} {C : Prop}, (x = y) → ¬ x = y → C := fun h q => absurd h q
    obtain ⟨l0, rfl, hp, hlen, hcap, rfl, rfl⟩ := fnV_inv (G := fun f l v p' => f = ("str" : Str) → ∃ l0, l = [.pile] ∧ p1 = some l0 ∧ l0.length ≤ 8 ∧ (pileText l0).cps.size ≤ cap ∧ v = .ustr (pileText l0) ∧ p' = p1) (fun _ _ h => N h (by decide)) (fun _ _ h => N h (by decide)) (fun _ _ _ h => N h (by decide)) (fun _ _ h => N h (by decide)) (fun _ _ _ _ h => N h (by decide)) (fun _ _ h => N h (by decide)) (fun _ _ h => N h (by decide)) (fun l0 h1 h2 h3 _ => ⟨l0, rfl, h1, h2, h3, rfl, rfl⟩) e3 hf
    subst hf
    intro E Q hQ
    refine wpAny_Call_NameR (global_name (tp_K X0) J F hg (by decide) (.inr (tp_K X0).str) ?_)
    refine callWith_machine (fun a q => by cases q) hpl ?_
    refine hl E _ fun {M2} vs s2 J2 K2 R2 => ?_
    refine ex1_2 (R2.one) fun u q_151 V1 => ?_
    subst q_151
    refine ex1_2 (V1.pile') fun x q_161 hpw => ?_
    subst q_161
    refine ex4_2 (pile_at J2 hpw) fun l1 dx items n e1 H => ?_
    rw [hp] at e1
    rw [← Option.some.inj e1] at H
    obtain ⟨dd, hs, tk, tk', ep, hdx⟩ := H.dx_
    obtain ⟨Ts, ta, tb, hpr⟩ := pairs_of H.rs
    refine str_of (by have := R.2.1; lia) hh (by have := R.2.2; lia) (kk_in X0 J2) J2.pile.1 H.x_ hdx hpr hlen hcap fun s3 t3 S => ?_
    have JK := J2.sh S
    exact hQ _ s3 JK.1 (K2.trans JK.2) (.ustr _ _)
end
end Mine
end
section
set_option genSizeOf false
set_option genSizeOfSpec false
set_option maxRecDepth 100000
namespace Mine
open PySem PySem.W PySem.W.X PyProof.Rows PyProof.V PySem.SeqAt PySem.Spec
section
variable {w : World} {h₀ : Heap} {os₀ : OsState} {mg mb : Str → Option Value}
end
noncomputable def freedO : Obj := { cls := .none, data := .freed }
noncomputable def erase (h : Heap) : Heap := ⟨(h.objs.setIfInBounds 113 freedO).setIfInBounds 106 freedO, h.life⟩
theorem erase_none {h : Heap} {b : Addr} (hb : b ∈ tabs) : (erase h).get? b = none := by
  cases q : (erase h).get? b with
  | none => rfl
  | some o =>
    refine an2 (Heap.get?_some_iff.mp q) fun q1 q2 => ?_
    exfalso
    have q3 : ((h.objs.setIfInBounds 113 freedO).setIfInBounds 106 freedO)[b]? = some o := q1
    simp only [tabs, List.mem_cons, List.not_mem_nil, or_false] at hb
    have : o = freedO := by
      rcases hb with rfl | rfl
      · rw [Array.getElem?_setIfInBounds_ne (by decide), Array.getElem?_setIfInBounds] at q3
        rw [if_pos rfl] at q3
        split at q3
        · exact (Option.some.inj q3).symm
        · exact nn q3
      · rw [Array.getElem?_setIfInBounds] at q3
        rw [if_pos rfl] at q3
        split at q3
        · exact (Option.some.inj q3).symm
        · exact nn q3
    subst this
    exact nt q2
theorem erase_other {h : Heap} {b : Addr} (hb : b ∉ tabs) : (erase h).get? b = h.get? b := by
  have h1 : ¬ 106 = b := fun z => hb (z ▸ by decide)
  have h2 : ¬ 113 = b := fun z => hb (z ▸ by decide)
  have : (erase h).objs[b]? = h.objs[b]? := by
    show ((h.objs.setIfInBounds 113 freedO).setIfInBounds 106 freedO)[b]? = _
    rw [Array.getElem?_setIfInBounds_ne h1, Array.getElem?_setIfInBounds_ne h2]
  unfold Heap.get?
  rw [this]
theorem look_kk {K : Frag} {a : Addr} {o : Obj} : (K.filter fun p => p.1 != 113 && p.1 != 106).lookup a = some o → K.lookup a = some o ∧ a ∉ tabs := by
  induction K with
  | nil => intro h; exact nn h
  | cons p K ih =>
    obtain ⟨b, ob⟩ := p
    intro h
    rw [List.filter_cons] at h
    by_cases hab : a = b
    · subst hab
      split at h
      · rename_i hf
        have e : ob = o := by simpa [List.lookup] using h
        subst e
        refine ⟨by simp [List.lookup], fun z => ?_⟩
        simp only [tabs, List.mem_cons, List.not_mem_nil, or_false] at z
        rcases z with rfl | rfl <;> simp at hf
      · rename_i hf
        refine an2 (ih h) fun _ q2 => ?_
        exfalso
        apply q2
        have : a = 113 ∨ a = 106 := by
          by_cases z : a = 113
          · exact .inl z
          · right
            simp only [Bool.and_eq_true, bne_iff_ne, ne_eq, not_and, Classical.not_not] at hf
            exact hf z
        rcases this with rfl | rfl <;> decide
    · have hne : (a == b) = false := by simpa using hab
      have : (K.filter fun p => p.1 != 113 && p.1 != 106).lookup a = some o := by
        split at h
        · simpa [List.lookup, hne] using h
        · exact h
      refine an2 (ih this) fun q1 q2 => ?_
      exact ⟨by simpa [List.lookup, hne] using q1, q2⟩
theorem kk_erase {w : World} {h : Heap} (X : (Mine.hd.heap_39 w.params).In h) : (KK w).In (erase h) := fun a o e => by
  obtain ⟨q1, q2⟩ := look_kk e
  rw [erase_other q2]; exact X a o q1
theorem tab_str (w : World) : (Mine.hd.heap_39 w.params).lookup 113 = some { cls := .none, data := .fields #[] } := by kernel_rfl
theorem tab_len (w : World) : (Mine.hd.heap_39 w.params).lookup 106 = some { cls := .none, data := .fields #[] } := by kernel_rfl
theorem tab_at {w : World} {h : Heap} (X : (Mine.hd.heap_39 w.params).In h) : ∀ P ∈ tabs, h.get? P = some { cls := .none, data := .fields #[] } := fun P hP => by
  simp only [tabs, List.mem_cons, List.not_mem_nil, or_false] at hP
  rcases hP with rfl | rfl
  · exact X _ _ (tab_str w)
  · exact X _ _ (tab_len w)
theorem inv_top {w : World} {s : Shared} (X : (Mine.hd.heap_39 w.params).In s.heap) (hg : s.gens = #[]) (hp : 0 < s.toks) : Inv (erase s.heap) s.os { m := fun a => a ∈ tabs, G := fun _ => none } tabs none s where
  base := fun b o e => by
    by_cases hb : b ∈ tabs
    · rw [erase_none hb] at e; cases e
    · rw [erase_other hb] at e; exact e
  mt := fun a ha => ⟨erase_none ha, _, tab_at X a ha⟩
  pws := fun a ha => ha
  pile := ⟨fun P hP => ⟨#[], tab_at X P hP, trivial⟩, rfl⟩
  os := rfl
  gens := .of_eq hg
  tk := fun t z e => (by cases e)
  pos := hp
theorem old_end {w : World} {s s' : Shared} {os : OsState} {Mt : Ms} {pw : List Addr} {p : P} (X : (Mine.hd.heap_39 w.params).In s.heap) (J : Inv (erase s.heap) os Mt pw p s') : OldK s.heap s'.heap := by
  have keep : ∀ b o, b ∉ tabs → s.heap.get? b = some o → s'.heap.get? b = some o := fun b o hb e => J.base b o (by rw [erase_other hb]; exact e)
  have kc : ∀ P ∈ tabs, isCodeTable s.heap P := fun P hP => by
    have e := tab_at X P hP
    have c1 : ∀ c, codeOk (KK w) c P = true → isCodeTable s.heap P := fun c hc => by
      have hx : (KK w).In s.heap := fun a o e => X a o (look_kk e).1
      exact (code_of hx hc e trivial).2.isCodeTable
    simp only [tabs, List.mem_cons, List.not_mem_nil, or_false] at hP
    rcases hP with rfl | rfl
    · exact c1 117 (code_str w)
    · exact c1 110 (code_len w)
  refine ⟨fun b o e => ?_, fun b o e => ?_⟩
  · by_cases hb : b ∈ tabs
    · have := tab_at X b hb
      rw [this] at e
      apply sm1 e
      refine ex1_2 (J.pile.1 b hb) fun ps e' _ => ?_
      refine .inr (.inl ⟨kc b hb, rfl, #[], ps, rfl, ?_⟩)
      rw [e']; simp
    · exact .inl (keep b o hb e)
  · by_cases hb : b ∈ tabs
    · obtain ⟨ps, e', _⟩ := J.pile.1 b hb; exact ⟨_, e'⟩
    · exact ⟨o, keep b o hb e⟩
end Mine
end
section
set_option genSizeOf false
set_option genSizeOfSpec false
set_option maxRecDepth 100000
namespace Mine
open PySem PySem.W PySem.W.X PyProof.Rows PyProof.V PySem.SeqAt PySem.Spec
section
variable {w : World} {h₀ : Heap} {os₀ : OsState} {A : Around} {Mt₀ : Addr → Prop} {Mt Mt' Mt'' : Ms} {pw pw' pw'' : List Addr} {p p' p'' p1 : P} {s s' s'' : Shared} {x y v : V} {val b : Value} {hc h h' h4 : Heap} {env cenv : Env} {sc inner : Scope} {me me' me'' : Me} {n : Str} {c a C D : Addr} {mg mb : Str → Option Value}
theorem comp_coreW {ev : Me → Expr → P → Option (V × P)} {tr : Me → Expr → P → Option (Bool × P)} {evo : Expr → P → Option (V × P)} {elt iter : Expr} {ifs : List Expr} {px pos cpos : Pos} {xn : Str} {items l : List V} {use : Option (Value → Sem Unit)} {E : Value → Shared → Prop} {Q : Value → Shared → Prop} (T : Tp h₀ mg mb)
    (hS : ∀ {E Q : Value → Shared → Prop}, (∀ {Mt' : Ms} I fp St s2, Wk w A Mt' pw s2.heap I items fp St → Inv h₀ os₀ Mt' pw p1 s2 → Kp pw Mt Mt' s.heap s2.heap → s.heap.get? I = none → Q (.ref I) s2) → wpAny (model prog w) A (eval iter env) (fun x s1 => wpAny (model prog w) A (pyIter x) Q E s1) E s)
    (Hev : ∀ cenv me, EvOk w h₀ os₀ A pw cenv inner me (ev me)) (Htr : ∀ cenv me, TrOk w h₀ os₀ A pw cenv inner me (tr me)) (hh : A.handled = none)
    (hf : freeOk sc me inner = true) (hlo : localsOk inner = true) (hx : sto inner xn = true) (hsrc : srcWith evo sc iter p = some (items, p1))
    (e : compWith (fun m q => ev m elt q) (fun m q => testsWith (tr m) ifs q) xn (clos inner me) items p1 = some (l, p'))
    (J : Inv h₀ os₀ Mt pw p { s with toks := s.toks + 1 }) (F : Fm env sc me Mt pw s.heap)
    (hQ : ∀ D C (Mt' M0 : Ms) s1, Inv h₀ os₀ Mt' pw p' s1 → (∀ b, Mt.m b → Mt'.m b) → M0 = { Mt' with m := Mt.m } → VR M0 pw s1.heap (.lst l) (.ref D) → Kp pw Mt M0 s.heap s1.heap → (∃ m, s1.heap.Ns C m) → Mt'.m C → C ∉ pw → s.heap.get? C = none → D ≠ C → ¬ Mt.m D → ¬ Mt.m C →
      compPost (model prog w) A E use Q (.ref D) C (.ok .next) s1) :
    wpAny (model prog w) A (comprehension (.ListComp elt [⟨.Name xn px, iter, ifs, 0⟩] inner pos) inner env cpos (newList []) false (eval iter env) use) Q E s := by
  refine an2 (localsOk_spec hlo) fun hkind hnm => ?_
  have hclos : closureFor inner env = pure (clAcc env inner.names []) := closure_pure fun x hx hk => by
    obtain ⟨n, k⟩ := x
    dsimp only at hk; subst hk
    refine an4 (freeOk_spec hf F n hx) fun _ h2 h3 _ => ?_
    exact F.cellIs n h3 h2
  refine wpAny_comprehension_free (g := ⟨.Name xn px, iter, ifs, 0⟩) (gs := []) rfl (folded (src_notSet hsrc)) hclos hkind (fun x hx hl => by rw [← hl]; exact hnm x hx) ?_
  refine hS fun {M2} I fp St s2 wk J2 K2 hI => ?_
  refine wpAny_newObj_type (new_comp_env ?_)
  dsimp only
  refine an2 (Comp.mk' (env := env) (inner := inner) s2.heap { cls := .type "list", data := .seq ([] : List Value).toArray } rfl) fun K hD => ?_
  generalize hh4 : pushCells ((s2.heap.push { cls := .type "list", data := .seq ([] : List Value).toArray }).push cobj) inner.names = h4 at K hD ⊢
  generalize hCC : (s2.heap.push { cls := .type "list", data := .seq ([] : List Value).toArray }).objs.size = C at K ⊢
  have F2 := F.kp J.pws K2
  have F4 := Fm.comp J2 F2 hf hlo K
  have J4 : Inv h₀ os₀ (More M2 s2.heap h4) pw p1 { s2 with heap := h4 } := J2.more (t := s2.toks) K.keep
  have hDn := fresh_size s2.heap
  have hne : s2.heap.objs.size ≠ C := by rw [← hCC, Heap.size_push]; lia
  have hC4 : ∃ o, h4.get? C = some o := let ⟨m, o, _, _, ho, _⟩ := K.nsC; ⟨o, ho⟩
  have pwn : ∀ b, s2.heap.get? b = none → b ∉ pw := fun b hb hp => by
    obtain ⟨_, o, ho⟩ := J2.mt b (J2.pws b hp)
    rw [hb] at ho; exact nn ho
  have hDM : (More M2 s2.heap h4).m s2.heap.objs.size := .inr ⟨hDn, _, hD⟩
  have hst4 : St 0 h4 := wk.frame _ _ _ wk.st fun b _ o eq => K.keep b o eq
  have old : ∀ b, s2.heap.get? b = none → s.heap.get? b = none := fun b hb => back_none J2 K2 hb
  have hI0 : h₀.get? I = none := by
    cases q : h₀.get? I with
    | none => rfl
    | some o => rw [J.base I o q] at hI; cases hI
  have main := comp_loop (px := px) (iter := iter) (pos := pos) (cenv := cenvOf inner C env) (inner := inner) (D := s2.heap.objs.size) (s := { s2 with heap := h4 }) (R := compPost (model prog w) A E use Q (.ref s2.heap.objs.size) C) (fun me => Hev _ me) (fun me => Htr _ me)
    wk hI0 (fun b o hb eq => (more_ok K.keep b o hb eq).1) (fun _ _ e => e) (src_cap hsrc) hx (fun b hb => by
      rcases hb with rfl | hb | rfl
      · exact K.newC
      · have : (cenvOf inner C env).cells.lookup xn = ((cellsFrom (C + 1) inner.names []).lookup xn).or ((clAcc env inner.names []).lookup xn) := by
          show (cellsFrom (C + 1) inner.names (clAcc env inner.names [])).lookup xn = _
          rw [cellsFrom_app, List.lookup_append]
        rw [this] at hb
        cases q : (cellsFrom (C + 1) inner.names []).lookup xn with
        | some d => rw [q] at hb; apply sm1 hb; exact K.newO xn _ (lookup_mem q)
        | none =>
          rw [q] at hb
          rcases clAcc_lookup env inner.names [] xn b (by simpa using hb) with ⟨z, _⟩ | z
          · have := hnm _ z
            unfold sto at hx
            dsimp only at this
            rw [this] at hx; exact nf hx
          · simp at z
      · exact hDn) hDM (pwn _ hDn) (fun y b hb => by
        rw [lookup_clos] at hb
        split at hb
        · rename_i hfr
          obtain ⟨_, _, _, b', hb', ho⟩ := freeOk_spec hf F y (lookup_mem hfr)
          rw [hb] at hb'; cases hb'; exact ho
        · cases hb) e J4 F4 hst4 ⟨_, hD⟩ (fun b o _ eq => K.keep b o eq) fun M1 arr s1 hm1 hG1 J1 hl1 R1 hn1 hk1 => ?_
  · exact codeAny_compStart_list main (wk.self 0 _ _ _ hst4 main)
  · have hsub1 : ∀ b, Mt.m b → M1.m b := fun b hb => by rw [hm1]; exact .inl (K2.m ▸ hb)
    have hCM1 : M1.m C := by rw [hm1]; exact .inr ⟨K.newC, hC4⟩
    have hDMt : ¬ Mt.m s2.heap.objs.size := by rw [← K2.m]; exact J2.fresh hDn
    have hCMt : ¬ Mt.m C := by rw [← K2.m]; exact J2.fresh K.newC
    refine hQ s2.heap.objs.size C M1 _ s1 J1 hsub1 rfl ?_ ⟨fun b o hb eq => ?_, rfl, fun t z e => hG1 t z (K2.G t z e)⟩ hn1 hCM1 (pwn _ K.newC) (old _ K.newC) hne hDMt hCMt
    · refine ex1_1 (hl1) fun m hm => ?_
      exact VRs.lst (vs := arr.toList) (n := m) (R1.less (fun b hb => hsub1 b hb) rfl) hDMt (by simpa using hm)
    · refine hk1 b o hb (fun z => ?_) (K2.keep b o hb eq)
      subst z; rw [hI] at eq; exact nn eq
theorem comp_okW {ev : Me → Expr → P → Option (V × P)} {tr : Me → Expr → P → Option (Bool × P)} {evo : Expr → P → Option (V × P)} {elt iter : Expr} {ifs : List Expr} {px pos : Pos} {xn : Str} {items l : List V} (T : Tp h₀ mg mb) (hS : ∀ {E Q : Value → Shared → Prop}, (∀ {Mt' : Ms} I fp St s2, Wk w A Mt' pw s2.heap I items fp St → Inv h₀ os₀ Mt' pw p1 s2 → Kp pw Mt Mt' s.heap s2.heap → s.heap.get? I = none → Q (.ref I) s2) → wpAny (model prog w) A (eval iter env) (fun x s1 => wpAny (model prog w) A (pyIter x) Q E s1) E s)
    (Hev : ∀ cenv me, EvOk w h₀ os₀ A pw cenv inner me (ev me)) (Htr : ∀ cenv me, TrOk w h₀ os₀ A pw cenv inner me (tr me)) (hh : A.handled = none)
    (hf : freeOk sc me inner = true) (hlo : localsOk inner = true) (hx : sto inner xn = true) (hsrc : srcWith evo sc iter p = some (items, p1))
    (e : compWith (fun m q => ev m elt q) (fun m q => testsWith (tr m) ifs q) xn (clos inner me) items p1 = some (l, p'))
    (J : Inv h₀ os₀ Mt pw p { s with toks := s.toks + 1 }) (F : Fm env sc me Mt pw s.heap) : OkV w h₀ os₀ A Mt pw (eval (.ListComp elt [⟨.Name xn px, iter, ifs, 0⟩] inner pos) env) s (.lst l) p' := by
  intro E Q hQ
  rw [eval_ListComp]
  refine comp_coreW (use := none) T hS Hev Htr hh hf hlo hx hsrc e J F fun D C Mt' M0 s1 J1 hsub hM0 R1 K1 ⟨m, hn⟩ hC hCp hCn hDC hDM hCM => ⟨m, hn, fun h' hs' => ?_⟩
  have hm0 : M0.m = Mt.m := by rw [hM0]
  have hg0 : M0.G = Mt'.G := by rw [hM0]
  refine hQ (.ref D) _ (J1.off (Mt := M0) hC (fun b hb => hsub b (hm0 ▸ hb)) (fun a ha => hm0 ▸ J.pws a ha) hg0 (hm0 ▸ hCM) hs') ⟨fun b o hb q => (hs'.2 b (fun z => by
    subst z; rw [hCn] at q; cases q)).trans (K1.keep b o hb q), K1.m, K1.G⟩ (R1.monoD (dict_off hn hs'))
theorem compAssign_okW {ev : Me → Expr → P → Option (V × P)} {tr : Me → Expr → P → Option (Bool × P)} {evo : Expr → P → Option (V × P)} {elt iter : Expr} {ifs : List Expr} {px pos xp spos : Pos} {xn : Str} {items l : List V} (T : Tp h₀ mg mb) (hS : ∀ {E Q : Value → Shared → Prop}, (∀ {Mt' : Ms} I fp St s2, Wk w A Mt' pw s2.heap I items fp St → Inv h₀ os₀ Mt' pw p1 s2 → Kp pw Mt Mt' s.heap s2.heap → s.heap.get? I = none → Q (.ref I) s2) → wpAny (model prog w) A (eval iter env) (fun x s1 => wpAny (model prog w) A (pyIter x) Q E s1) E s)
    (Hev : ∀ {pw} cenv me, EvOk w h₀ os₀ A pw cenv inner me (ev me)) (Htr : ∀ {pw} cenv me, TrOk w h₀ os₀ A pw cenv inner me (tr me)) (hh : A.handled = none)
    (hs : sto sc n = true) (hsw : swapsWith (.ListComp elt [⟨.Name xn px, iter, ifs, 0⟩] inner pos) (some (.Name n xp)) spos.line env = pure true)
    (hf : freeOk sc me inner = true) (hlo : localsOk inner = true) (hx : sto inner xn = true) (hsrc : srcWith evo sc iter p = some (items, p1))
    (e : compWith (fun m q => ev m elt q) (fun m q => testsWith (tr m) ifs q) xn (clos inner me) items p1 = some (l, p'))
    (J : Inv h₀ os₀ Mt pw p { s with toks := s.toks + 1 }) (F : Fs env sc me Mt₀ Mt pw hc s.heap) {E : Value → Shared → Prop} {Q : Flow → Shared → Prop}
    (hQ : ∀ (M0 : Ms) s', Inv h₀ os₀ M0 pw p' s' → Fs env sc (put me n false (.lst l)) Mt₀ M0 pw hc s'.heap → Q .next s') : wpAny (model prog w) A (exec (.Assign [.Name n xp] (.ListComp elt [⟨.Name xn px, iter, ifs, 0⟩] inner pos) spos) env) Q E s := by
  rw [exec_Assign_Name_used _ _ _ _ hsw]
  refine wpAny_bind (wpAny_standAt (wpAny_bind ?_))
  refine wpAny_bind (wpAny_mono (comp_coreW (use := some (assign (.Name n xp) env)) (Q := fun _ s' => Q .next s') T hS Hev Htr hh hf hlo hx hsrc e J F.fm
    fun D C Mt' M0 s1 J1 hsub hM0 R1 K1 ⟨m, hn⟩ hC hCp hCn hDC hDM hCM => ?_) (fun _ s' hq => wpAny_pure (wpAny_pure hq)) fun _ _ e => e)
  have hm0 : M0.m = Mt.m := by rw [hM0]
  have hg0 : M0.G = Mt'.G := by rw [hM0]
  have J0 : Inv h₀ os₀ M0 pw p' s1 := J1.less (fun b hb => hsub b (hm0 ▸ hb)) (fun a ha => hm0 ▸ J.pws a ha) hg0
  have A0 := Aft.of_kp J F J0 K1
  refine wpAny_assign_Name (store_any A0.fs.fm hs fun c h' t hle W hcM hcP hcL hcE => ?_)
  have hcM' : Mt'.m c := hsub c (hm0 ▸ hcM)
  have hcC : c ≠ C := fun z => hCM (hm0 ▸ (z ▸ hcM))
  have J2 : Inv h₀ os₀ Mt' pw p' { s1 with heap := h', toks := t } := J1.at W.same W.ex hcM' hcP hle
  have A2 := Aft.put J0 A0.fs W hle hcM hcP hcL hcE R1
  have hn2 : h'.Ns C m := hn.sameBut W.same (Ne.symm hcC)
  refine ⟨m, hn2, fun h3 hs3 => ?_⟩
  have hfc : hc.get? C = none := by
    cases q : hc.get? C with
    | none => rfl
    | some o => obtain ⟨o', e'⟩ := F.ex C o q; rw [hCn] at e'; exact nn e'
  have J3 : Inv h₀ os₀ M0 pw p' { s1 with heap := h3, toks := t } := J2.off (Mt := M0) hC (fun b hb => hsub b (hm0 ▸ hb)) (fun a ha => hm0 ▸ J.pws a ha) hg0 (hm0 ▸ hCM) hs3
  have F3 : Fs env sc (put me n false (.lst l)) Mt₀ M0 pw hc h3 := A2.fs.offD hn2 hs3 (hm0 ▸ hCM) hfc
  exact hQ M0 _ J3 F3
theorem src_first {fp cp kp : Pos} {m : Int} {k : Nat} {items : List V} (T : Tp h₀ mg mb) (hg : glo sc "range" = true) (hl : rangeV m = some items) (J : Inv h₀ os₀ Mt pw p { s with toks := s.toks + 1 }) (F : Fm env sc me Mt pw s.heap) (hh : A.handled = none) {E Q : Value → Shared → Prop}
    (hQ : ∀ {Mt' : Ms} I fp St s2, Wk w A Mt' pw s2.heap I items fp St → Inv h₀ os₀ Mt' pw p s2 → Kp pw Mt Mt' s.heap s2.heap → s.heap.get? I = none → Q (.ref I) s2) :
    wpAny (model prog w) A (eval (.Call (.Name "range" fp) [.Constant (.int m) k kp] [] cp) env) (fun x s1 => wpAny (model prog w) A (pyIter x) Q E s1) E s := by
  have J' : Inv h₀ os₀ Mt pw p { s with toks := s.toks + 1 } := J
  have hk : env.kindOf "range" = some .globalImplicit := by
    unfold glo at hg
    split at hg
    · rename_i q; have := F.names _ _ q; simpa using this
    · exact nf hg
  have g : s.heap.Ns env.globals mg := F.glob ▸ T.g.keeps J'.base
  have b : s.heap.Ns env.builtins mb := F.blt ▸ T.b.keeps J'.base
  refine wpAny_Call_NameR (Calls.Name_function_global F.kind hk (Calls.loadGlobal_builtin g T.range.1 b T.range.2 ?_) (by decide))
  refine callWith_machine (fun a h => by cases h) (by rw [not_starred rfl]; rfl) ?_
  refine wpAny_items_cons (wpAny_Constant_int ?_) (not_starred rfl)
  refine wpAny_items_nil ?_
  refine call_range_1 ?_
  have hk1 : ∀ b o, s.heap.get? b = some o → (s.heap.push { cls := .type "range", data := .fields #[.int 0 (s.toks + 1), .int m s.toks, .int 1 (s.toks + 1 + 1)] }).get? b = some o := fun b o e => Heap.get?_push_of_some _ e
  have J1 := J'.keeps (t := s.toks + 1 + 1 + 1) hk1 (by show s.toks + 1 ≤ _; lia)
  exact iter_range J1 (Heap.get?_push_size _ rfl) hl hh fun I fp St s2 wk J2 K2 hI => hQ I fp St s2 wk J2 ((Kp.of_keeps hk1).trans K2) (by
    cases q : s.heap.get? I with
    | none => rfl
    | some o => rw [hk1 _ _ q] at hI; cases hI)
end
end Mine
end
section
set_option genSizeOf false
set_option genSizeOfSpec false
set_option maxRecDepth 100000
namespace Mine
open PySem PySem.W PySem.W.X PyProof.Rows PyProof.V PySem.SeqAt PySem.Spec
noncomputable def lawDf : Df := (df? "law").getD ⟨[], [], { kind := .function, names := [], isGenerator := false, isCoroutine := false }⟩
theorem law_df : df? "law" = some lawDf := by kernel_rfl
theorem law_body : ∃ xp elt px fp k kp cp inner lp pos rest, lawDf.body = (.Assign [.Name "cells" xp] (.ListComp elt [⟨.Name "k" px, .Call (.Name "range" fp) [.Constant (.int 8) k kp] [] cp, [], 0⟩] inner lp) pos) :: rest ∧ outAt.lookup pos.line = none ∧ glo lawDf.scope "range" = true :=
  ⟨_, _, _, _, _, _, _, _, _, _, _, rfl, rfl, by kernel_rfl⟩
section
variable {w : World} {h₀ : Heap} {os₀ : OsState} {A : Around} {mg mb : Str → Option Value} {Mt : Ms} {pw : List Addr} {s : Shared}
theorem rebase {L : Addr} {m : Str → Option Value} {cs : List (Str × Addr)} {cm : Str → Option Value} {s₁ : Shared} {k : Nat} (x : InCallC s L m cs cm s₁) : InCallC { s with toks := k } L m cs cm s₁ := by
  obtain ⟨x1, x2, x3, x4⟩ := x
  obtain ⟨y1, y2, y3, y4⟩ := x1
  exact ⟨⟨y1, y2, y3, y4⟩, x2, x3, x4⟩
theorem law_top (T : Tp h₀ mg mb) (Fn : Fns h₀ mg) (X : Out w h₀ os₀ mg mb) (XA : AccOk w h₀ os₀) (R : Rm A 60) {l : List V} {v : V} {p' : P} (hl : (runM 60).call "law" l none = some (v, p')) {a : Addr} (hm : mg "law" = some (.ref a)) {vals : List Value}
    (J : Inv h₀ os₀ Mt pw none { s with toks := s.toks + 1 }) (Rv : VRs Mt pw s.heap l vals) {E Q : Value → Shared → Prop} (hQ : ∀ {M2 : Ms} {pw2 : List Addr} val s2, Inv h₀ os₀ M2 pw2 p' s2 → VR M2 pw2 s2.heap v val → Q val s2) : wpAny (model prog w) A (call (.ref a) vals) Q E s := by
  refine an4 (sound T Fn X XA 58) fun S1 S2 S3 S4 => ?_
  refine an4 (sound T Fn X XA 59) fun _ _ S3' _ => ?_
  have he : callStep (runM 59) "law" l none = some (v, p') := hl
  unfold callStep at he
  rw [law_df] at he
  dsimp only at he
  split at he
  · rename_i hlen
    refine obind3 he fun fl me1 p1 h1 e1 => ?_
    dsimp only at e1
    cases fl with
    | ret u =>
      cases e1
      refine ex3_2 (Fn "law" lawDf law_df) fun a' o fd hm' fi => ?_
      rw [hm] at hm'; cases hm'
      have hok := df_ok law_df
      have hok' := hok
      unfold dfOk at hok'
      simp only [Bool.and_eq_true, Bool.not_eq_true'] at hok'
      refine an2 (hok') fun t_210 q6 => ?_
      obtain ⟨⟨⟨⟨q1, q2⟩, q3⟩, q4⟩, q5⟩ := t_210
      refine wpAny_call (call_cells (by have := R.2.1; omega) (J.base _ _ fi.at') fi.data (T.lim.keeps J.base) (fi.rec'.keeps J.base) fi.body (fi.bind vals (by rw [Rv.1, hlen])) fi.clo ?_ (fun s₁ hle x => ?_)
        (by rw [fi.scope]; exact q3) (by rw [fi.scope]; exact q4) (by rw [fi.scope]; exact (localsOk_spec q1).1))
      · intro y hy
        obtain ⟨y1, y2⟩ := y
        have hmem := (List.of_mem_zip hy).1
        have hs : sto lawDf.scope y1 = true := List.all_eq_true.mp q5 y1 hmem
        rw [fi.scope]
        unfold sto at hs
        split at hs
        · rename_i hk; exact .inl hk
        · rename_i hk
          refine ex1_1 (cellsFrom_ex lawDf.scope.names (s.heap.objs.size + 1) y1 (mem_of_lookup hk)) fun c hc => ?_
          exact .inr ⟨hk, by rw [hc]; rfl⟩
        · exact nf hs
      · have F1 := Fs.call (a := a) (s := { s with toks := s.toks + 1 }) hok hlen J Rv fi.scope fi.glob fi.blt (rebase x)
        have J1 : Inv h₀ os₀ (More Mt s.heap s₁.heap) pw none { s₁ with toks := s₁.toks + 1 } := by
          refine ex2_1 (x.toInCall.same) fun h' tk hs => ?_
          have hk := x.toInCall.keep
          subst hs
          exact J.more (t := tk + 1) hk (Nat.succ_le_succ hle)
        obtain ⟨xp, elt, px, fp, k, kp, cp, inner, lp, pos, rest, hbody, hout, hglo⟩ := law_body
        rw [hbody] at h1 ⊢
        have h1' : exsWith (fun me st p => exStep (runM 58) lawDf.scope me st p) ((lawDf.params.zip l).map fun x => (x.1, ⟨false, x.2⟩)) ((.Assign [.Name "cells" xp] (.ListComp elt [⟨.Name "k" px, .Call (.Name "range" fp) [.Constant (.int 8) k kp] [] cp, [], 0⟩] inner lp) pos) :: rest) none = some (.ret v, me1, p') := h1
        unfold exsWith at h1'
        refine obind3 h1' fun f1 me2 p2 h2 h3 => ?_
        have ho : letOut pos.line ((lawDf.params.zip l).map fun (x : Str × V) => (x.1, (⟨false, x.2⟩ : Bd))) = ((lawDf.params.zip l).map fun (x : Str × V) => (x.1, (⟨false, x.2⟩ : Bd))) := by
          unfold letOut; rw [hout]
        have h2' : exStep (runM 58) lawDf.scope (letOut pos.line ((lawDf.params.zip l).map fun (x : Str × V) => (x.1, (⟨false, x.2⟩ : Bd)))) (.Assign [.Name "cells" xp] (.ListComp elt [⟨.Name "k" px, .Call (.Name "range" fp) [.Constant (.int 8) k kp] [] cp, [], 0⟩] inner lp) pos) none = some (f1, me2, p2) := h2
        rw [ho] at h2'
        have h2q : (if sto lawDf.scope "cells" = true then exAsg (runM 58) lawDf.scope ((lawDf.params.zip l).map fun (x : Str × V) => (x.1, (⟨false, x.2⟩ : Bd))) "cells" (.ListComp elt [⟨.Name "k" px, .Call (.Name "range" fp) [.Constant (.int 8) k kp] [] cp, [], 0⟩] inner lp) none else none) = some (f1, me2, p2) := h2'
        split at h2q
        · rename_i hs
          have h2'' : (compV (runM 58) lawDf.scope ((lawDf.params.zip l).map fun (x : Str × V) => (x.1, (⟨false, x.2⟩ : Bd))) elt "k" (.Call (.Name "range" fp) [.Constant (.int 8) k kp] [] cp) [] inner none).map (fun v => (Fl.next, put ((lawDf.params.zip l).map fun (x : Str × V) => (x.1, (⟨false, x.2⟩ : Bd))) "cells" false (.lst v.1), v.2)) = some (f1, me2, p2) := h2q
          refine omap2 h2'' fun lv p3 hcv e3 => ?_
          cases e3
          unfold compV at hcv
          split at hcv
          · rename_i hc
            rw [Bool.and_eq_true, Bool.and_eq_true] at hc
            refine an2 (hc) fun t_610 hc3 => ?_
            refine an2 (t_610) fun hc1 hc2 => ?_
            refine obind2 hcv fun items p4 hsrc e4 => ?_
            refine obind2 e4 fun l1 p5 hcomp e5 => ?_
            refine omap e5 fun l' h6 e6 => ?_
            refine an2 (okL_eq h6) fun q_650 _ => ?_
            subst q_650
            cases e6
            have hR : Rm (A.deeper (callEnvC fd s.heap.objs.size a)) 59 := R.deeper _
            have hR8 : Rm (A.deeper (callEnvC fd s.heap.objs.size a)) 58 := hR.less (by omega)
            have hp4 : p4 = none ∧ rangeV 8 = some items := by
              have : srcWith ((runM 58).ev lawDf.scope ((lawDf.params.zip l).map fun (x : Str × V) => (x.1, (⟨false, x.2⟩ : Bd)))) lawDf.scope (.Call (.Name "range" fp) [.Constant (.int 8) k kp] [] cp) none = some ((List.range 8).map fun (i : Nat) => V.int i, none) := by
                unfold srcWith
                have hr : isRange lawDf.scope (.Call (.Name "range" fp) [.Constant (.int 8) k kp] [] cp) = some (.Constant (.int 8) k kp) := by
                  show (if ("range" : Str) = ("range" : Str) ∧ glo lawDf.scope "range" = true then some (Expr.Constant (.int 8) k kp) else Option.none) = _; rw [if_pos ⟨rfl, hglo⟩]
                rw [hr]
                rfl
              rw [this] at hsrc
              apply sm2 hsrc
              exact ⟨rfl, rfl⟩
            refine an2 (hp4) fun q_790 hrv => ?_
            subst q_790
            refine wpAny_execs_cons ?_
            have h3' : (runM 59).exs lawDf.scope (put ((lawDf.params.zip l).map fun (x : Str × V) => (x.1, (⟨false, x.2⟩ : Bd))) "cells" false (.lst lv)) rest p5 = some (.ret v, me1, p') := h3
            have fin : ∀ (M0 : Ms) (s2 : Shared), Inv h₀ os₀ M0 pw p5 s2 → Fs (callEnvC fd s.heap.objs.size a) lawDf.scope (put ((lawDf.params.zip l).map fun (x : Str × V) => (x.1, (⟨false, x.2⟩ : Bd))) "cells" false (.lst lv)) Mt.m M0 pw s.heap s2.heap →
                wpAny (model prog w) (A.deeper (callEnvC fd s.heap.objs.size a)) (execs rest (callEnvC fd s.heap.objs.size a)) (fun f s' => Q (match f with | .ret v => v | _ => .none) s')
                  (fun e s' => wpAny (model prog w) (A.deeper (callEnvC fd s.heap.objs.size a)) (leaving (callEnvC fd s.heap.objs.size a) e) (fun _ s'' => E e s'') (fun e' s'' => E e' s'') s') s2 := fun M0 s2 J2 F2 => by
              refine S3' _ _ lawDf.scope Mt.m s.heap hR _ rest p5 (.ret v) me1 p' h3' s2 J2 F2 _ _ fun {M2 pw2} fl s3 A3 R3 => ?_
              cases fl with
              | ret val => exact hQ val s3 A3.inv R3
              | _ => exact R3.elim
            have hsw : ∃ b, swapsWith (.ListComp elt [⟨.Name "k" px, .Call (.Name "range" fp) [.Constant (.int 8) k kp] [] cp, [], 0⟩] inner lp) (some (.Name "cells" xp)) pos.line (callEnvC fd s.heap.objs.size a) = pure b := ⟨_, rfl⟩
            refine ex1_1 (hsw) fun b hb => ?_
            cases b with
            | true =>
              refine compAssign_okW (ev := fun m e q => (runM 58).ev inner m e q) (tr := fun m e q => (runM 58).tr inner m e q) (s := s₁) T (fun {E Q} hq => src_first T hglo hrv J1 F1.fm hR.1 hq) (fun {pw} cenv me => S1 _ pw cenv inner me hR8) (fun {pw} cenv me => S2 _ pw cenv inner me hR8) hR.1 hs hb hc1 hc2 hc3 hsrc hcomp J1 F1 fun M0 s2 J2 F2 => ?_
              exact fin M0 s2 J2 F2
            | false =>
              refine wpAny_Assign_Name (comp_okW (ev := fun m e q => (runM 58).ev inner m e q) (tr := fun m e q => (runM 58).tr inner m e q) (s := s₁) T (fun {E Q} hq => src_first T hglo hrv J1 F1.fm hR.1 hq) (fun cenv me => S1 _ pw cenv inner me hR8) (fun cenv me => S2 _ pw cenv inner me hR8) hR.1 hc1 hc2 hc3 hsrc hcomp J1 F1.fm _ _ fun {M1} val s2 J2 K2 R2 => ?_) hb
              have A1 := Aft.of_kp J1 F1 J2 K2
              exact store_put J2 A1.fs hs R2 fun s3 A2 => fin _ s3 A2.inv A2.fs
          · exact nn hcv
        · exact nn h2q
    | _ => (first | exact nn e1 | exact nf e1 | exact nt e1 | apply sm3 e1 | apply sm2 e1 | apply sm1 e1 | apply pr3 e1 | apply pr2 e1)
  · exact nn he
end
end Mine
end
section
set_option genSizeOf false
set_option genSizeOfSpec false
set_option maxRecDepth 100000
namespace Mine
open PySem PySem.W PySem.W.X PyProof.Rows
theorem law_end {w : World} {s : Shared} (X : (Mine.hd.heap_39 w.params).In s.heap) (hg : s.gens = #[]) {fa : Addr} (hfa : mgK w "law" = some (.ref fa)) {a : Addr} {vs : List Value} {ns : List Int} (hL : s.heap.IsList a vs.toArray) (hW : Well w.params s.heap (.ref a) (ofPy (.list (ns.map .int)))) (hI : IntsAre vs ns)
    (plain : (runM 60).call "law" [.lst (ns.map .int)] none = some (.bool true, some [])) {E Q : Value → Shared → Prop} (hQ : ∀ s', OldK s.heap s'.heap → s'.os = s.os → AllBare s'.gens → Q (.bool true) s') : wpAny (model prog w) callerA (call (.ref fa) [.ref a]) Q E s := by
  have X1 : (KK w).In (erase s.heap) := kk_erase X
  have J : Inv (erase s.heap) s.os { m := fun a => a ∈ tabs, G := fun _ => none } tabs none { s with toks := s.toks + 1 } := inv_top (s := { s with toks := s.toks + 1 }) X hg (Nat.succ_pos _)
  have R : Rm callerA 60 := by
    refine ⟨rfl, ?_, ?_⟩
    · decide
    · decide
  have hVs : VRs { m := fun a => a ∈ tabs, G := fun _ => none } tabs s.heap (ns.map .int) vs := VRs.of_ints hI
  refine law_top (tp_K X1) (fns_K X1) (out_ok X1) (acc_ok X1) R plain hfa J (.cons ?_ .nil) fun val s2 J2 V2 => ?_
  · cases hW with
    | list e _ =>
      rename_i vs' _
      obtain ⟨o, ho, hc, n, hd⟩ := hL
      rw [e] at ho
      cases ho
      have hv : vs'.toArray = vs.toArray := by injection hd
      rw [hv] at e
      refine VRs.lst hVs (fun z => ?_) e
      have := tab_at X a z
      rw [this] at e; cases e
  · have := V2.bool'
    subst this
    exact hQ s2 (old_end X J2) J2.os J2.gens
set_option maxHeartbeats 4000000 in
theorem top_goal (plain : ∀ ns : List Int, ns.length ≤ 63 → (runM 60).call "law" [.lst (ns.map .int)] none = some (.bool true, some [])) : Challenge.rw_xl0009_01.Holds := Mine.hd (by
  k_fill
  intro w s₀ s₁ mg mb G Y fa o pm cd doc dV kV ho hdo hcd hD hmg hg args vals as hpre hlay hrd hwl hlo
  have KX := kIn_of Y
  wrow_args hpre hlay hrd hwl hlo
  rename_i ns _ _ _ _ _ _ _ a vs _ hL _ hW _ hI _ hcond _
  have hfa : mgK w "law" = some (.ref fa) := by
    refine ex3_4 ((G.T.g : s₁.heap.Ns mainGlobals mg)) fun o1 es1 ep1 a1 a2 _ a4 => ?_
    have KX' : (KK w).In s₁.heap := fun a o e => KX a o (look_kk e).1
    refine ex3_4 ((tp_K KX').g) fun o2 es2 ep2 b1 b2 _ b4 => ?_
    rw [a1] at b1; cases b1
    rw [a2] at b2; cases b2
    rw [← b4, a4]
    exact hmg
  refine law_end KX hg hfa hL hW hI (plain ns (by omega)) fun s' h1 h2 h3 => ?_
  exact ⟨.inl ⟨_, _, [], rfl, fun _ => rfl, ReadsW.bool true, by first | rfl | wrow_post, fun _ => ⟨List.nodup_nil, fun _ hm => (nomatch hm)⟩⟩, h1, h2, h3⟩)
end Mine
end
section
set_option genSizeOf false
set_option genSizeOfSpec false
set_option maxRecDepth 100000
namespace Mine
open PySem
noncomputable def rowK (c : List Str) (k0 k1 k2 : Nat) : List Str :=
  let l1 := c.eraseIdx k0
  let l2 := l1.eraseIdx k1
  let l3 := l2.eraseIdx k2
  [c.getD k0 default, l1.getD k1 default, l2.getD k2 default, l3.getD 0 default]
noncomputable def ks : List (Nat × Nat × Nat) := (List.range 4).flatMap fun a => (List.range 3).flatMap fun b => (List.range 2).map fun c => (a, b, c)
end Mine
end
section
set_option genSizeOf false
set_option genSizeOfSpec false
set_option maxRecDepth 100000
namespace Mine
open PySem
noncomputable def OE {α : Type} (r : Option (α × P)) (Q : α → P → Prop) : Prop := ∃ a p', r = some (a, p') ∧ Q a p'
noncomputable def OS (r : Option (Fl × Me × P)) (Q : Fl → Me → P → Prop) : Prop := ∃ f me' p', r = some (f, me', p') ∧ Q f me' p'
theorem OE.of {α : Type} {r : Option (α × P)} {Q : α → P → Prop} {a : α} {p' : P} (e : r = some (a, p')) (h : Q a p') : OE r Q := ⟨a, p', e, h⟩
theorem OE.mono {α : Type} {r : Option (α × P)} {Q Q' : α → P → Prop} (x : OE r Q) (h : ∀ a p, Q a p → Q' a p) : OE r Q' := let ⟨a, p, e, q⟩ := x; ⟨a, p, e, h a p q⟩
theorem OS.mono {r : Option (Fl × Me × P)} {Q Q' : Fl → Me → P → Prop} (x : OS r Q) (h : ∀ a m p, Q a m p → Q' a m p) : OS r Q' := let ⟨a, m, p, e, q⟩ := x; ⟨a, m, p, e, h a m p q⟩
section
variable {n : Nat} {sc inner : Scope} {me me' : Me} {p p' : P} {pos pos' pos'' : Pos} {Q : V → P → Prop} {QS : Fl → Me → P → Prop} {v : V} {x y : Str}
theorem put_self {o : Bool} : List.lookup x (put me x o v) = some ⟨o, v⟩ := by unfold put; simp [List.lookup]
theorem put_ne {o : Bool} (h : (y == x) = false) {r : Option Bd} (e : List.lookup y me = r) : List.lookup y (put me x o v) = r := by unfold put; simp only [List.lookup, h]; exact e
theorem q_Name (hd : (x == ("__debug__" : Str)) = false) (hv : vis sc x = true) (hl : me.lookup x = some ⟨false, v⟩) (h : Q v p) : OE ((runM (n + 1)).ev sc me (.Name x pos) p) Q := by
  refine ⟨v, p, ?_, h⟩
  show evStep (runM n) sc me (.Name x pos) p = _
  unfold evStep
  have : ¬ x = ("__debug__" : Str) := by simpa using hd
  simp only [this, if_false, nameV, hv, if_true, hl]
  rfl
theorem q_int {i : Int} {k : Nat} (h : Q (.int i) p) : OE ((runM (n + 1)).ev sc me (.Constant (.int i) k pos) p) Q := ⟨_, _, rfl, h⟩
theorem q_neg {i : Int} {k : Nat} (h : Q (.int (-i)) p) : OE ((runM (n + 1)).ev sc me (.UnaryOp .USub (.Constant (.int i) k pos) pos') p) Q := ⟨_, _, rfl, h⟩
theorem q_bool {b : Bool} {k : Nat} (h : Q (.bool b) p) : OE ((runM (n + 1)).ev sc me (.Constant (.bool b) k pos) p) Q := ⟨_, _, rfl, h⟩
theorem q_none {k : Nat} (h : Q .none p) : OE ((runM (n + 1)).ev sc me (.Constant .none k pos) p) Q := ⟨_, _, rfl, h⟩
theorem q_str {s : Str} {k : Nat} (hs : okS s = some s) (h : Q (.str s) p) : OE ((runM (n + 1)).ev sc me (.Constant (.str s) k pos) p) Q := by
  refine ⟨_, _, ?_, h⟩
  show (okS s).map (fun s => (V.str s, p)) = _
  rw [hs]; rfl
theorem q_Bin {l r : Expr} {op : Operator} (h : OE ((runM n).ev sc me l p) fun a p1 => OE ((runM n).ev sc me r p1) fun b p2 => ∃ v, binV op a b = some v ∧ Q v p2) : OE ((runM (n + 1)).ev sc me (.BinOp l op r pos) p) Q := by
  obtain ⟨a, p1, e1, b, p2, e2, v, e3, h⟩ := h
  refine ⟨v, p2, ?_, h⟩
  show (((runM n).ev sc me l p).bind fun a => ((runM n).ev sc me r a.2).bind fun b => (binV op a.1 b.1).map fun v => (v, b.2)) = _
  rw [e1]; dsimp only [Option.bind_some]; rw [e2]; dsimp only [Option.bind_some]; rw [e3]; rfl
theorem q_Cmp {l r : Expr} {op : CmpOp} (hb : behindInMarks op r = false) (h : OE ((runM n).ev sc me l p) fun a p1 => OE ((runM n).ev sc me r p1) fun b p2 => ∃ v, cmpV op a b = some v ∧ Q (.bool v) p2) : OE ((runM (n + 1)).ev sc me (.Compare l [op] [r] pos) p) Q := by
  obtain ⟨a, p1, e1, b, p2, e2, v, e3, h⟩ := h
  refine ⟨.bool v, p2, ?_, h⟩
  have e4 : evCmp (runM n) sc me l op r p = some (v, p2) := by
    unfold evCmp
    rw [hb, if_neg Bool.false_ne_true, e1]; dsimp only [Option.bind_some]; rw [e2]; dsimp only [Option.bind_some]; rw [e3]; rfl
  show (evCmp (runM n) sc me l op r p).map (fun x => (V.bool x.1, x.2)) = _
  rw [e4]; rfl
theorem q_evs_nil {ev : Expr → P → Option (V × P)} {QL : List V → P → Prop} (h : QL [] p) : OE (evsWith ev [] p) QL := ⟨_, _, rfl, h⟩
theorem q_evs_cons {ev : Expr → P → Option (V × P)} {QL : List V → P → Prop} {e : Expr} {r : List Expr} (hs : starred e = false) (h : OE (ev e p) fun a p1 => OE (evsWith ev r p1) fun l p2 => QL (a :: l) p2) : OE (evsWith ev (e :: r) p) QL := by
  obtain ⟨a, p1, e1, l, p2, e2, h⟩ := h
  refine ⟨_, _, ?_, h⟩
  show (if starred e then Option.none else (ev e p).bind fun x => (evsWith ev r x.2).bind fun y => some (x.1 :: y.1, y.2)) = _
  rw [hs, if_neg Bool.false_ne_true, e1]; dsimp only [Option.bind_some]; rw [e2]; rfl
theorem okL_some {α : Type} {l : List α} (h : l.length ≤ cap) : okL l = some l := if_pos h
theorem okS_some {s : Str} (h : s.cps.size ≤ cap) : okS s = some s := if_pos h
theorem q_List {es : List Expr} (h : OE (evsWith ((runM n).ev sc me) es p) fun l p1 => l.length ≤ cap ∧ Q (.lst l) p1) : OE ((runM (n + 1)).ev sc me (.List es pos) p) Q := by
  obtain ⟨l, p1, e1, hl, h⟩ := h
  refine ⟨_, _, ?_, h⟩
  show ((evsWith ((runM n).ev sc me) es p).bind fun x => (okL x.1).map fun l => (V.lst l, x.2)) = _
  rw [e1]; dsimp only [Option.bind_some]; rw [okL_some hl]; rfl
theorem q_Tuple {es : List Expr} {k : Nat} (h : OE (evsWith ((runM n).ev sc me) es p) fun l p1 => l.length ≤ cap ∧ Q (.tup l) p1) : OE ((runM (n + 1)).ev sc me (.Tuple es k pos) p) Q := by
  obtain ⟨l, p1, e1, hl, h⟩ := h
  refine ⟨_, _, ?_, h⟩
  show ((evsWith ((runM n).ev sc me) es p).bind fun x => (okL x.1).map fun l => (V.tup l, x.2)) = _
  rw [e1]; dsimp only [Option.bind_some]; rw [okL_some hl]; rfl
end
end Mine
end
section
set_option genSizeOf false
set_option genSizeOfSpec false
set_option maxRecDepth 100000
namespace Mine
open PySem
section
variable {n : Nat} {sc inner : Scope} {me me' : Me} {p p' : P} {pos pos' pos'' : Pos} {Q : V → P → Prop} {QS : Fl → Me → P → Prop} {v : V} {x y : Str}
theorem q_SubName {i : Expr} {o : Bool} (hs : ∀ a b c d, i ≠ .Slice a b c d) (hd : (x == ("__debug__" : Str)) = false) (hv : vis sc x = true) (hl : me.lookup x = some ⟨o, v⟩) (h : OE ((runM n).ev sc me i p) fun k p1 => ∃ w, itemV v k = some w ∧ Q w p1) :
    OE ((runM (n + 1)).ev sc me (.Subscript (.Name x pos) i pos') p) Q := by
  obtain ⟨k, p1, e1, w, e2, h⟩ := h
  refine ⟨w, p1, ?_, h⟩
  have hd' : ¬ x = ("__debug__" : Str) := by simpa using hd
  have hb : baseV sc me x = some v := by unfold baseV; rw [hv, if_pos rfl, hl]; rfl
  have : (runM (n + 1)).ev sc me (.Subscript (.Name x pos) i pos') p = (if x = ("__debug__" : Str) then Option.none else (baseV sc me x).bind fun o => ((runM n).ev sc me i p).bind fun k => (itemV o k.1).map fun v => (v, k.2)) := by
    cases i <;> first | rfl | exact absurd rfl (hs _ _ _ _)
  rw [this, if_neg hd', hb]; dsimp only [Option.bind_some]; rw [e1]; dsimp only [Option.bind_some]; rw [e2]; rfl
noncomputable def isName : Expr → Bool | .Name .. => true | _ => false
noncomputable def isSlice : Expr → Bool | .Slice .. => true | _ => false
theorem q_Sub {o i : Expr} (hs : isSlice i = false) (hn : isName o = false) (h : OE ((runM n).ev sc me o p) fun a p1 => OE ((runM n).ev sc me i p1) fun k p2 => ∃ w, itemV a k = some w ∧ Q w p2) : OE ((runM (n + 1)).ev sc me (.Subscript o i pos') p) Q := by
  obtain ⟨a, p1, e1, k, p2, e2, w, e3, h⟩ := h
  refine ⟨w, p2, ?_, h⟩
  have h1 : asSlice i = none := by cases i <;> first | rfl | first | exact nn hs | exact nf hs | exact nt hs | cases hs
  have h2 : asName o = none := by cases o <;> first | rfl | first | exact nn hn | exact nf hn | exact nt hn | cases hn
  show evSub (runM n) sc me o i p = _
  unfold evSub
  rw [h1]; dsimp only; rw [h2]; dsimp only
  rw [e1]; dsimp only [Option.bind_some]; rw [e2]; dsimp only [Option.bind_some]; rw [e3]; rfl
noncomputable def OPart (n : Nat) (sc : Scope) (me : Me) (e : Option Expr) (p : P) (Q : V → P → Prop) : Prop := match e with
  | some e => OE ((runM n).ev sc me e p) Q
  | none => Q .none p
theorem OPart.get {e : Option Expr} (h : OPart n sc me e p Q) : OE (match e with | some e => (runM n).ev sc me e p | none => some (V.none, p)) Q := by
  cases e with
  | none => exact ⟨_, _, rfl, h⟩
  | some e => exact h
theorem q_Cut {o : Expr} {lo hi st : Option Expr} (h : OE ((runM n).ev sc me o p) fun a p1 => OPart n sc me lo p1 fun l p2 => OPart n sc me hi p2 fun u p3 => OPart n sc me st p3 fun t p4 => ∃ w, cutV a l u t = some w ∧ Q w p4) :
    OE ((runM (n + 1)).ev sc me (.Subscript o (.Slice lo hi st pos) pos') p) Q := by
  obtain ⟨a, p1, e1, h⟩ := h
  obtain ⟨l, p2, e2, h⟩ := h.get
  obtain ⟨u, p3, e3, h⟩ := h.get
  obtain ⟨t, p4, e4, w, e5, h⟩ := h.get
  refine ⟨w, p4, ?_, h⟩
  have : (runM (n + 1)).ev sc me (.Subscript o (.Slice lo hi st pos) pos') p = (((runM n).ev sc me o p).bind fun a =>
    (match lo with | some e => (runM n).ev sc me e a.2 | Option.none => some (.none, a.2)).bind fun l =>
    (match hi with | some e => (runM n).ev sc me e l.2 | Option.none => some (.none, l.2)).bind fun u =>
    (match st with | some e => (runM n).ev sc me e u.2 | Option.none => some (.none, u.2)).bind fun t =>
    (cutV a.1 l.1 u.1 t.1).map fun v => (v, t.2)) := rfl
  rw [this, e1]; dsimp only [Option.bind_some]; rw [e2]; dsimp only [Option.bind_some]; rw [e3]; dsimp only [Option.bind_some]; rw [e4]; dsimp only [Option.bind_some]; rw [e5]; rfl
theorem ev_Call (f : Str) (args : List Expr) (hg : glo sc f = true) (hd : (f == ("__debug__" : Str)) = false) (hl : listRange sc f args = none) : (runM (n + 1)).ev sc me (.Call (.Name f pos) args [] pos') p = (evsWith ((runM n).ev sc me) args p).bind fun x => match df? f with
        | some _ => ((runM n).call f x.1 x.2).bind fun y => if y.2.isSome = x.2.isSome then some y else Option.none
        | Option.none => fnV f x.1 x.2 := by
  show (if (glo sc f && f != ("__debug__" : Str)) = true then (match listRange sc f args with | some a => _ | Option.none => _) else Option.none) = _
  have : (glo sc f && f != ("__debug__" : Str)) = true := by rw [hg]; simp [bne, hd]
  rw [if_pos this, hl] <;> rfl
theorem q_Call {f : Str} {args : List Expr} (hg : glo sc f = true) (hd : (f == ("__debug__" : Str)) = false) (hl : listRange sc f args = none) (hf : (df? f).isSome = true)
    (h : OE (evsWith ((runM n).ev sc me) args p) fun l p1 => OE ((runM n).call f l p1) fun v p2 => p2.isSome = p1.isSome ∧ Q v p2) : OE ((runM (n + 1)).ev sc me (.Call (.Name f pos) args [] pos') p) Q := by
  obtain ⟨l, p1, e1, v, p2, e2, hp, h⟩ := h
  refine ⟨v, p2, ?_, h⟩
  rw [ev_Call f args hg hd hl, e1]
  obtain ⟨d, hd⟩ := Option.isSome_iff_exists.mp hf
  dsimp only [Option.bind_some]
  rw [hd]
  dsimp only
  rw [e2]
  dsimp only [Option.bind_some]
  rw [if_pos hp]
theorem q_Fn {f : Str} {args : List Expr} (hg : glo sc f = true) (hd : (f == ("__debug__" : Str)) = false) (hl : listRange sc f args = none) (hf : (df? f).isSome = false)
    (h : OE (evsWith ((runM n).ev sc me) args p) fun l p1 => OE (fnV f l p1) Q) : OE ((runM (n + 1)).ev sc me (.Call (.Name f pos) args [] pos') p) Q := by
  obtain ⟨l, p1, e1, v, p2, e2, h⟩ := h
  refine ⟨v, p2, ?_, h⟩
  rw [ev_Call f args hg hd hl, e1]
  have hn : df? f = none := by simpa using hf
  dsimp only [Option.bind_some]
  rw [hn]
  exact e2
theorem q_ListRange {f : Str} {a b : Expr} (hg : glo sc f = true) (hf : f = ("list" : Str)) (hl : isRange sc a = some b) (hs : starred b = false)
    (h : OE ((runM n).ev sc me b p) fun k p1 => ∃ i l, k = .int i ∧ rangeV i = some l ∧ Q (.lst l) p1) : OE ((runM (n + 1)).ev sc me (.Call (.Name f pos) [a] [] pos') p) Q := by
  obtain ⟨k, p1, e1, i, l, rfl, e2, h⟩ := h
  refine ⟨_, _, ?_, h⟩
  subst hf
  have hlr : listRange sc ("list" : Str) [a] = some b := by
    show (if ("list" : Str) = ("list" : Str) then isRange sc a else Option.none) = _
    rw [if_pos rfl, hl]
  show evFn (runM n) sc me "list" [a] p = _
  unfold evFn
  rw [hlr, hg, if_pos (by decide)]
  show (if starred b then Option.none else ((runM n).ev sc me b p).bind fun x => (intV x.1).bind fun n => (rangeV n).map fun l => (V.lst l, x.2)) = _
  rw [hs, if_neg Bool.false_ne_true, e1]
  show (rangeV i).map (fun l => (V.lst l, p1)) = _
  rw [e2]; rfl
theorem q_Meth {o : Expr} {name : Str} {apos : Pos} {args : List Expr} (hs : reArgs sc o name args = none) (hb : (plainBase o && apos.endLine == pos.line && decide (args.length ≤ 8)) = true)
    (h : OE ((runM n).ev sc me o p) fun a p1 => OE (evsWith ((runM n).ev sc me) args p1) fun l p2 => OE (methV a name l p2) Q) : OE ((runM (n + 1)).ev sc me (.Call (.Attribute o name apos) args [] pos) p) Q := by
  obtain ⟨a, p1, e1, l, p2, e2, v, p3, e3, h⟩ := h
  refine ⟨v, p3, ?_, h⟩
  show (match reArgs sc o name args with
    | some args => _
    | Option.none => if (plainBase o && apos.endLine == pos.line && decide (args.length ≤ 8)) = true then ((runM n).ev sc me o p).bind fun a => (evsWith ((runM n).ev sc me) args a.2).bind fun x => methV a.1 name x.1 x.2 else Option.none) = _
  rw [hs]
  dsimp only
  rw [if_pos hb, e1]; dsimp only [Option.bind_some]; rw [e2]; exact e3
end
end Mine
end
section
set_option genSizeOf false
set_option genSizeOfSpec false
set_option maxRecDepth 100000
namespace Mine
open PySem
section
variable {n : Nat} {sc inner : Scope} {me me' : Me} {p p' : P} {pos pos' pos'' : Pos} {Q : V → P → Prop} {QB : Bool → P → Prop} {QS : Fl → Me → P → Prop} {v : V} {x y : Str}
theorem t_Cmp {l r : Expr} {op : CmpOp} (hb : behindInMarks op r = false) (h : OE ((runM n).ev sc me l p) fun a p1 => OE ((runM n).ev sc me r p1) fun b p2 => ∃ v, cmpV op a b = some v ∧ QB v p2) : OE ((runM (n + 1)).tr sc me (.Compare l [op] [r] pos) p) QB := by
  obtain ⟨a, p1, e1, b, p2, e2, v, e3, h⟩ := h
  refine ⟨v, p2, ?_, h⟩
  show (if behindInMarks op r then Option.none else ((runM n).ev sc me l p).bind fun a => ((runM n).ev sc me r a.2).bind fun b => (cmpV op a.1 b.1).map fun v => (v, b.2)) = _
  rw [hb, if_neg Bool.false_ne_true, e1]; dsimp only [Option.bind_some]; rw [e2]; dsimp only [Option.bind_some]; rw [e3]; rfl
theorem t_or_nil {tr : Expr → P → Option (Bool × P)} (h : QB false p) : OE (orWith tr [] p) QB := ⟨_, _, rfl, h⟩
theorem t_or_cons {tr : Expr → P → Option (Bool × P)} {e : Expr} {r : List Expr} (h : OE (tr e p) fun b p1 => (b = true → QB true p1) ∧ (b = false → OE (orWith tr r p1) QB)) : OE (orWith tr (e :: r) p) QB := by
  obtain ⟨b, p1, e1, h1, h2⟩ := h
  cases b with
  | true =>
    refine ⟨true, p1, ?_, h1 rfl⟩
    show ((tr e p).bind fun x => match x.1 with | true => some (true, x.2) | false => orWith tr r x.2) = _
    rw [e1]; rfl
  | false =>
    obtain ⟨b2, p2, e2, h⟩ := h2 rfl
    refine ⟨b2, p2, ?_, h⟩
    show ((tr e p).bind fun x => match x.1 with | true => some (true, x.2) | false => orWith tr r x.2) = _
    rw [e1]; exact e2
theorem t_Or {vs : List Expr} (hi : isOrEq vs = none) (h : OE (orWith ((runM n).tr sc me) vs p) QB) : OE ((runM (n + 1)).tr sc me (.BoolOp .Or vs pos) p) QB := by
  obtain ⟨b, p1, e1, h⟩ := h
  refine ⟨b, p1, ?_, h⟩
  show trOr (runM n) sc me vs p = _
  unfold trOr
  rw [hi]; exact e1
theorem t_isOr {vs : List Expr} {a b : Str} {s t : Str} (hi : isOrEq vs = some (a, b)) (h1 : nameV sc me a = some (.str s)) (h2 : nameV sc me b = some (.str t)) (h : QB (decide (s = t)) p) : OE ((runM (n + 1)).tr sc me (.BoolOp .Or vs pos) p) QB := by
  refine ⟨_, _, ?_, h⟩
  show trOr (runM n) sc me vs p = _
  unfold trOr
  rw [hi]; dsimp only; rw [h1]; dsimp only [Option.bind_some]; rw [h2]; rfl
theorem nameV_of (hv : vis sc x = true) (hl : me.lookup x = some ⟨false, v⟩) : nameV sc me x = some v := by unfold nameV; rw [hv, if_pos rfl, hl]; rfl
theorem s_range {ev : Expr → P → Option (V × P)} {e a : Expr} {QL : List V → P → Prop} (hr : isRange sc e = some a) (hs : starred a = false) (h : OE (ev a p) fun k p1 => ∃ i l, k = .int i ∧ rangeV i = some l ∧ QL l p1) : OE (srcWith ev sc e p) QL := by
  obtain ⟨k, p1, e1, i, l, rfl, e2, h⟩ := h
  refine ⟨l, p1, ?_, h⟩
  unfold srcWith
  rw [hr]; dsimp only; rw [hs, if_neg Bool.false_ne_true, e1]; dsimp only [Option.bind_some]; show (rangeV i).map (fun l => (l, p1)) = _; rw [e2]; rfl
theorem s_iter {ev : Expr → P → Option (V × P)} {e : Expr} {QL : List V → P → Prop} (hr : isRange sc e = none) (hs : isSet e = false) (h : OE (ev e p) fun k p1 => ∃ l, iterV k = some l ∧ l.length ≤ cap ∧ QL l p1) : OE (srcWith ev sc e p) QL := by
  obtain ⟨k, p1, e1, l, e2, hl, h⟩ := h
  refine ⟨l, p1, ?_, h⟩
  unfold srcWith
  rw [hr]; dsimp only; rw [hs, if_neg Bool.false_ne_true, e1]; dsimp only [Option.bind_some]; rw [e2]; dsimp only [Option.bind_some]; rw [okL_some hl]; rfl
noncomputable def FO (sc : Scope) (me : Me) (names : List (Str × NameKind)) : Prop := names.all (fun x => match x.2 with
  | .free => (match sc.names.lookup x.1 with | some .cell => true | some .free => true | _ => false) && (match me.lookup x.1 with | some b => !b.own | Option.none => false)
  | _ => true) = true
theorem fo_nil : FO sc me [] := rfl
theorem fo_free {r : List (Str × NameKind)} (hk : (match sc.names.lookup x with | some NameKind.cell => true | some NameKind.free => true | _ => false) = true) (hl : me.lookup x = some ⟨false, v⟩) (h : FO sc me r) : FO sc me ((x, .free) :: r) := by
  unfold FO at h ⊢
  rw [List.all_cons, h, Bool.and_true]
  dsimp only
  rw [hl, hk]; rfl
theorem fo_other {k : NameKind} {r : List (Str × NameKind)} (hk : k ≠ .free) (h : FO sc me r) : FO sc me ((x, k) :: r) := by
  unfold FO at h ⊢
  rw [List.all_cons, h, Bool.and_true]
  cases k <;> first | rfl | exact absurd rfl hk
theorem clos_look {r : Option Bd} (hf : (inner.names.lookup x == some NameKind.free) = true) (h : me.lookup x = r) : (clos inner me).lookup x = r := by
  subst h
  unfold clos
  induction me with
  | nil => rfl
  | cons e me ih =>
    obtain ⟨y, b⟩ := e
    rw [List.filter_cons]
    by_cases hxy : x = y
    · subst hxy
      rw [if_pos hf]
      simp [List.lookup]
    · have hne : (x == y) = false := by simpa using hxy
      split
      · simp only [List.lookup, hne]; exact ih
      · simp only [List.lookup, hne]; exact ih
theorem comp_all {elt : Me → P → Option (V × P)} {test : Me → P → Option (Bool × P)} (t : V → Bool) (f : V → V) : ∀ {l : List V}, (∀ v ∈ l, OE (test (put me x false v) p) fun b q => b = t v ∧ q = p) → (∀ v ∈ l, t v = true → OE (elt (put me x false v) p) fun a q => a = f v ∧ q = p) →
    compWith elt test x me l p = some ((l.filter t).map f, p)
  | [], _, _ => rfl
  | v :: r, h1, h2 => by
    refine ex2_3 (h1 v List.mem_cons_self) fun b q e1 hb0 hq => ?_
    rw [hb0, hq] at e1
    have ih := comp_all t f (l := r) (fun v hv => h1 v (List.mem_cons_of_mem _ hv)) fun v hv => h2 v (List.mem_cons_of_mem _ hv)
    show ((test (put me x false v) p).bind fun t => match t.1 with
      | true => (elt (put me x false v) t.2).bind fun y => (compWith elt test x me r y.2).bind fun z => some (y.1 :: z.1, z.2)
      | false => compWith elt test x me r t.2) = _
    rw [e1]
    dsimp only [Option.bind_some]
    cases hb : t v with
    | true =>
      refine ex2_3 (h2 v List.mem_cons_self hb) fun a q2 e2 ha hq2 => ?_
      rw [ha, hq2] at e2
      dsimp only
      rw [e2]; dsimp only [Option.bind_some]; rw [ih]
      rw [List.filter_cons_of_pos hb]; rfl
    | false =>
      dsimp only
      rw [ih, List.filter_cons_of_neg (by rw [hb]; exact Bool.false_ne_true)]
theorem q_Comp {elt it : Expr} {ifs : List Expr} (hf : FO sc me inner.names) (hl : localsOk inner = true) (hs : sto inner x = true)
    (h : OE (srcWith ((runM n).ev sc me) sc it p) fun l p1 => ∃ (t : V → Bool) (f : V → V), (∀ v ∈ l, OE (testsWith (fun e q => (runM n).tr inner (put (clos inner me) x false v) e q) ifs p1) fun b q => b = t v ∧ q = p1) ∧
      (∀ v ∈ l, t v = true → OE ((runM n).ev inner (put (clos inner me) x false v) elt p1) fun a q => a = f v ∧ q = p1) ∧ l.length ≤ cap ∧ Q (.lst ((l.filter t).map f)) p1) : OE ((runM (n + 1)).ev sc me (.ListComp elt [⟨.Name x pos, it, ifs, 0⟩] inner pos') p) Q := by
  obtain ⟨l, p1, e1, t, f, h1, h2, hlen, h⟩ := h
  refine ⟨_, _, ?_, h⟩
  show (if (freeOk sc me inner && localsOk inner && sto inner x) = true then
      (srcWith ((runM n).ev sc me) sc it p).bind fun s =>
      (compWith (fun m q => (runM n).ev inner m elt q) (fun m q => testsWith (fun e q => (runM n).tr inner m e q) ifs q) x (clos inner me) s.1 s.2).bind fun y => (okL y.1).map fun l => (V.lst l, y.2)
    else Option.none) = _
  have hfo : freeOk sc me inner = true := hf
  rw [hfo, hl, hs, if_pos (by rfl), e1]
  dsimp only [Option.bind_some]
  rw [comp_all t f h1 h2]
  dsimp only [Option.bind_some]
  rw [okL_some (by rw [List.length_map]; exact Nat.le_trans (List.length_filter_le _ _) hlen)]
  rfl
end
end Mine
end
section
set_option genSizeOf false
set_option genSizeOfSpec false
set_option maxRecDepth 100000
namespace Mine
open PySem
theorem lk_go {me : Me} {x y : Str} {b : Bd} (h : me.lookup y = some b) : (letGo x me).lookup y = some (if y = x then ⟨false, b.v⟩ else b) := by
  unfold letGo
  induction me with
  | nil => exact nn h
  | cons e me ih =>
    obtain ⟨z, c⟩ := e
    rw [List.map_cons]
    by_cases hyz : y = z
    · subst hyz
      have hb : c = b := by simpa [List.lookup] using h
      subst hb
      by_cases hx : y = x
      · subst hx; simp [List.lookup]
      · simp [List.lookup, hx]
    · have hne : (y == z) = false := by simpa using hyz
      have h' : me.lookup y = some b := by simpa [List.lookup, hne] using h
      have := ih h'
      by_cases hx : z = x
      · rw [if_pos hx]; simp only [List.lookup, hne]; exact this
      · rw [if_neg hx]; simp only [List.lookup, hne]; exact this
section
variable {n : Nat} {sc inner : Scope} {me me' : Me} {p p' : P} {pos pos' pos'' : Pos} {Q : V → P → Prop} {QB : Bool → P → Prop} {QS : Fl → Me → P → Prop} {v : V} {x y : Str}
theorem x_nil (h : QS .next me p) : OS ((runM (n + 1)).exs sc me [] p) QS := ⟨_, _, _, rfl, h⟩
noncomputable def goOn (n : Nat) (sc : Scope) (r : List Stmt) (QS : Fl → Me → P → Prop) : Fl → Me → P → Prop
  | .next, me, p => OS ((runM n).exs sc me r p) QS
  | f, me, p => QS f me p
theorem x_cons {st : Stmt} {r : List Stmt} (hm : letOut st.pos.line me = me') (h : OS (exStep (runM n) sc me' st p) (goOn (n + 1) sc r QS)) : OS ((runM (n + 1)).exs sc me (st :: r) p) QS := by
  refine ex3_2 (h) fun f m1 p1 e1 h => ?_
  have e : (runM (n + 1)).exs sc me (st :: r) p = ((exStep (runM n) sc (letOut st.pos.line me) st p).bind fun y => match y.1 with
    | .next => (runM (n + 1)).exs sc y.2.1 r y.2.2
    | f => some (f, y.2.1, y.2.2)) := rfl
  cases f with
  | next =>
    refine ex3_2 (h) fun f m2 p2 e2 h => ?_
    refine ⟨f, m2, p2, ?_, h⟩
    rw [e, hm, e1]; exact e2
  | brk => exact ⟨_, _, _, by rw [e, hm, e1]; rfl, h⟩
  | ret w => exact ⟨_, _, _, by rw [e, hm, e1]; rfl, h⟩
theorem x_Return {e : Expr} (h : OE ((runM n).ev sc me e p) fun v p1 => QS (.ret v) me p1) : OS (exStep (runM n) sc me (.Return (some e) pos) p) QS := by
  obtain ⟨v, p1, e1, h⟩ := h
  refine ⟨_, _, _, ?_, h⟩
  show ((runM n).ev sc me e p).map (fun x => (Fl.ret x.1, me, x.2)) = _
  rw [e1]; rfl
theorem x_Break (h : QS .brk me p) : OS (exStep (runM n) sc me (.Break pos) p) QS := ⟨_, _, _, rfl, h⟩
theorem x_If {t : Expr} {b o : List Stmt} (h : OE ((runM n).tr sc me t p) fun c p1 => (c = true → OS ((runM n).exs sc me b p1) QS) ∧ (c = false → OS ((runM n).exs sc me o p1) QS)) : OS (exStep (runM n) sc me (.If t b o pos) p) QS := by
  obtain ⟨c, p1, e1, h1, h2⟩ := h
  have e : exStep (runM n) sc me (.If t b o pos) p = (((runM n).tr sc me t p).bind fun x => (runM n).exs sc me (match x.1 with | true => b | false => o) x.2) := rfl
  cases c with
  | true => obtain ⟨f, m, p2, e2, h⟩ := h1 rfl; exact ⟨f, m, p2, by rw [e, e1]; exact e2, h⟩
  | false => obtain ⟨f, m, p2, e2, h⟩ := h2 rfl; exact ⟨f, m, p2, by rw [e, e1]; exact e2, h⟩
theorem x_For {it : Expr} {b : List Stmt} (hs : sto sc x = true) (h : OE (srcWith ((runM n).ev sc me) sc it p) fun l p1 => OS (loopWith (fun m q => (runM n).exs sc m b q) x l me p1) QS) : OS (exStep (runM n) sc me (.For (.Name x pos) it b [] pos') p) QS := by
  obtain ⟨l, p1, e1, f, m, p2, e2, h⟩ := h
  refine ⟨f, m, p2, ?_, h⟩
  show (if sto sc x = true then (srcWith ((runM n).ev sc me) sc it p).bind fun s => loopWith (fun m q => (runM n).exs sc m b q) x s.1 me s.2 else Option.none) = _
  rw [if_pos hs, e1]; exact e2
theorem l_nil {body : Me → P → Option (Fl × Me × P)} (h : QS .next me p) : OS (loopWith body x [] me p) QS := ⟨_, _, _, rfl, h⟩
noncomputable def lGo (body : Me → P → Option (Fl × Me × P)) (x : Str) (r : List V) (QS : Fl → Me → P → Prop) : Fl → Me → P → Prop
  | .next, me, p => OS (loopWith body x r me p) QS
  | .brk, me, p => QS .next me p
  | .ret w, me, p => QS (.ret w) me p
theorem l_cons {body : Me → P → Option (Fl × Me × P)} {r : List V} (h : OS (body (put me x false v) p) (lGo body x r QS)) : OS (loopWith body x (v :: r) me p) QS := by
  obtain ⟨f, m, p1, e1, h⟩ := h
  have e : loopWith body x (v :: r) me p = ((body (put me x false v) p).bind fun y => match y.1 with
    | .next => loopWith body x r y.2.1 y.2.2
    | .brk => some (.next, y.2.1, y.2.2)
    | .ret w => some (.ret w, y.2.1, y.2.2)) := rfl
  cases f with
  | next => obtain ⟨f, m2, p2, e2, h⟩ := h; exact ⟨f, m2, p2, by rw [e, e1]; exact e2, h⟩
  | brk => exact ⟨_, _, _, by rw [e, e1]; rfl, h⟩
  | ret w => exact ⟨_, _, _, by rw [e, e1]; rfl, h⟩
theorem x_Enum {a : Expr} {b o : List Stmt} {f : Str} {px py pt fp cp : Pos} {k : Nat} (hc : f = ("enumerate" : Str) ∧ glo sc f = true ∧ sto sc x = true ∧ sto sc y = true ∧ starred a = false) (h : OE ((runM n).ev sc me a p) fun w p1 => ∃ l, iterV w = some l ∧ l.length ≤ cap ∧ OS (enumWith (fun m q => (runM n).exs sc m b q) x y l 0 me p1) QS) :
    OS (exStep (runM n) sc me (.For (.Tuple [.Name x px, .Name y py] k pt) (.Call (.Name f fp) [a] [] cp) b o pos) p) QS := by
  obtain ⟨w, p1, e1, l, e2, hl, fl, m, p2, e3, h⟩ := h
  refine ⟨fl, m, p2, ?_, h⟩
  show (if f = ("enumerate" : Str) ∧ glo sc f = true ∧ sto sc x = true ∧ sto sc y = true ∧ starred a = false then
      ((runM n).ev sc me a p).bind fun v => (iterV v.1).bind fun l => (okL l).bind fun l => enumWith (fun m q => (runM n).exs sc m b q) x y l 0 me v.2
    else Option.none) = _
  rw [if_pos hc, e1]; dsimp only [Option.bind_some]; rw [e2]; dsimp only [Option.bind_some]; rw [okL_some hl]; exact e3
noncomputable def eGo (body : Me → P → Option (Fl × Me × P)) (x y : Str) (r : List V) (k : Nat) (QS : Fl → Me → P → Prop) : Fl → Me → P → Prop
  | .next, me, p => OS (enumWith body x y r (k + 1) me p) QS
  | .brk, _, _ => False
  | .ret w, me, p => QS (.ret w) me p
theorem e_cons {body : Me → P → Option (Fl × Me × P)} {r : List V} {k : Nat} (h : OS (body (put (put me x false (.int k)) y false v) p) (eGo body x y r k QS)) : OS (enumWith body x y (v :: r) k me p) QS := by
  refine ex3_2 (h) fun f m p1 e1 h => ?_
  have e : enumWith body x y (v :: r) k me p = ((body (put (put me x false (.int k)) y false v) p).bind fun z => match z.1 with
    | .next => enumWith body x y r (k + 1) z.2.1 z.2.2
    | .brk => Option.none
    | .ret w => some (.ret w, z.2.1, z.2.2)) := rfl
  cases f with
  | next => obtain ⟨f, m2, p2, e2, h⟩ := h; exact ⟨f, m2, p2, by rw [e, e1]; exact e2, h⟩
  | brk => exact h.elim
  | ret w => exact ⟨_, _, _, by rw [e, e1]; rfl, h⟩
theorem x_Aug {e : Expr} {i : Int} (hs : (sto sc x && x != ("__debug__" : Str)) = true) (hv : vis sc x = true) (hl : me.lookup x = some ⟨false, .int i⟩) (h : OE ((runM n).ev sc me e p) fun b p1 => ∃ j, b = .int j ∧ QS .next (put me x false (.int (i + j))) p1) : OS (exStep (runM n) sc me (.AugAssign (.Name x pos) .Add e pos') p) QS := by
  obtain ⟨b, p1, e1, j, rfl, h⟩ := h
  refine ⟨_, _, _, ?_, h⟩
  show (if (sto sc x && x != ("__debug__" : Str)) = true then (nameV sc me x).bind fun a => ((runM n).ev sc me e p).bind fun b => (intV a).bind fun i => (intV b.1).map fun j => (Fl.next, put me x false (.int (i + j)), b.2)
    else Option.none) = _
  rw [if_pos hs, nameV_of hv hl]; dsimp only [Option.bind_some]; rw [e1]; rfl
noncomputable def plainC (e : Expr) : Bool := match asCall e with
  | some c => (match asName c.1 with
    | some _ => !c.2.1.isEmpty && ((one? c.2.1).bind asName).isNone
    | Option.none => true)
  | Option.none => true
noncomputable def plainE (e : Expr) : Bool := !isComp e && (asLst e).isNone && plainC e
theorem asgN {e : Expr} (hs : sto sc x = true) : exStep (runM n) sc me (.Assign [.Name x pos] e pos') p = exAsg (runM n) sc me x e p := by
  show (if sto sc x = true then exAsg (runM n) sc me x e p else none) = _
  rw [if_pos hs]
theorem asg_plain {J : I} {e : Expr} (hp : plainE e = true) : isComp e = false ∧ exAsg J sc me x e p = exPlain J sc me x e p := by
  unfold plainE at hp
  rw [Bool.and_eq_true, Bool.and_eq_true, Bool.not_eq_true', Option.isNone_iff_eq_none] at hp
  refine an2 (hp) fun t_30 hp => ?_
  obtain ⟨hc, hl⟩ := t_30
  refine ⟨hc, ?_⟩
  have hlc : asLC e = none := by
    cases h : asLC e with
    | none => rfl
    | some c => obtain ⟨q, g⟩ := asLC_eq h; rw [g] at hc; exact nt hc
  unfold exAsg
  rw [hl, hlc]
  show (match asCall e with | some c => (match asName c.1 with | some f => exAsgC J sc me x f c.2.1 e p | none => exPlain J sc me x e p) | none => exPlain J sc me x e p) = _
  unfold plainC at hp
  cases hca : asCall e with
  | none => rfl
  | some c =>
    rw [hca] at hp
    show (match asName c.1 with | some f => exAsgC J sc me x f c.2.1 e p | none => exPlain J sc me x e p) = _
    have hp : (match asName c.1 with | some _ => !c.2.1.isEmpty && ((one? c.2.1).bind asName).isNone | none => true) = true := hp
    cases hn : asName c.1 with
    | none => rfl
    | some f =>
      rw [hn] at hp
      have hp : (!c.2.1.isEmpty && ((one? c.2.1).bind asName).isNone) = true := hp
      rw [Bool.and_eq_true, Bool.not_eq_true', Option.isNone_iff_eq_none] at hp
      show exAsgC J sc me x f c.2.1 e p = _
      unfold exAsgC
      rw [hp.1, if_neg Bool.false_ne_true, hp.2]
theorem x_Asg {e : Expr} (hp : plainE e = true) (hs : sto sc x = true) (h : OE ((runM n).ev sc me e p) fun v p1 => QS .next (put me x false v) p1) : OS (exStep (runM n) sc me (.Assign [.Name x pos] e pos') p) QS := by
  obtain ⟨v, p1, e1, h⟩ := h
  refine ⟨_, _, _, ?_, h⟩
  have hc := asg_plain (J := runM n) (sc := sc) (me := me) (x := x) (p := p) hp
  rw [asgN hs, hc.2]
  unfold exPlain
  rw [hc.1, if_neg Bool.false_ne_true, e1]; rfl
theorem x_AsgListOf {f z : Str} {fp zp cp : Pos} {s : Str} (hf : f = ("list" : Str)) (hg : (glo sc f && z != ("__debug__" : Str)) = true) (hs : sto sc x = true) (hv : vis sc z = true) (hl : me.lookup z = some ⟨false, .str s⟩) (hlen : (charsOf s).length ≤ cap) (h : QS .next (put me x true (.lst ((charsOf s).map .ustr))) p) :
    OS (exStep (runM n) sc me (.Assign [.Name x pos] (.Call (.Name f fp) [.Name z zp] [] cp) pos') p) QS := by
  refine ⟨_, _, _, ?_, h⟩
  rw [asgN hs]
  show (if f = ("list" : Str) then exCopy sc me x f z p else _) = _
  rw [if_pos hf]
  unfold exCopy
  rw [if_pos hg, nameV_of hv hl]
  show (okL (charsOf s)).map (fun l => (Fl.next, put me x true (.lst (l.map .ustr)), p)) = _
  rw [okL_some hlen]; rfl
theorem x_AsgList {es : List Expr} {lp : Pos} (hs : sto sc x = true) (h : OE (evsWith ((runM n).ev sc me) es p) fun l p1 => l.length ≤ cap ∧ QS .next (put me x true (.lst l)) p1) : OS (exStep (runM n) sc me (.Assign [.Name x pos] (.List es lp) pos') p) QS := by
  obtain ⟨l, p1, e1, hl, h⟩ := h
  refine ⟨_, _, _, ?_, h⟩
  rw [asgN hs]
  show ((evsWith ((runM n).ev sc me) es p).bind fun v => (okL v.1).map fun l => (Fl.next, put me x true (.lst l), v.2)) = _
  rw [e1]; dsimp only [Option.bind_some]; rw [okL_some hl]; rfl
theorem x_AsgAcc {f : Str} {fp cp : Pos} (hf : f = ("_Accumulator" : Str) ∧ glo sc f = true) (hs : sto sc x = true) (hp : p = none) (h : QS .next (put me x false .pile) (some [])) : OS (exStep (runM n) sc me (.Assign [.Name x pos] (.Call (.Name f fp) [] [] cp) pos') p) QS := by
  subst hp
  refine ⟨_, _, _, ?_, h⟩
  rw [asgN hs]
  show exMade sc me x f none = _
  unfold exMade
  rw [if_pos hf]
theorem x_AsgComp {elt it : Expr} {ifs : List Expr} {z : Str} {zp lp : Pos} (hs : sto sc x = true) (h : OE ((runM (n + 1)).ev sc me (.ListComp elt [⟨.Name z zp, it, ifs, 0⟩] inner lp) p) fun v p1 => QS .next (put me x false v) p1) :
    OS (exStep (runM n) sc me (.Assign [.Name x pos] (.ListComp elt [⟨.Name z zp, it, ifs, 0⟩] inner lp) pos') p) QS := by
  refine ex2_2 (h) fun v p1 e1 h => ?_
  refine ⟨_, _, _, ?_, h⟩
  rw [asgN hs]
  have e : (runM (n + 1)).ev sc me (.ListComp elt [⟨.Name z zp, it, ifs, 0⟩] inner lp) p = (compV (runM n) sc me elt z it ifs inner p).map fun l => (V.lst l.1, l.2) := by
    show (if (freeOk sc me inner && localsOk inner && sto inner z) = true then
      (srcWith ((runM n).ev sc me) sc it p).bind fun s =>
      (compWith (fun m q => (runM n).ev inner m elt q) (fun m q => testsWith (fun e q => (runM n).tr inner m e q) ifs q) z (clos inner me) s.1 s.2).bind fun y => (okL y.1).map fun l => (V.lst l, y.2)
      else Option.none) = _
    unfold compV
    split
    · cases srcWith ((runM n).ev sc me) sc it p with
      | none => rfl
      | some s =>
        dsimp only [Option.bind_some]
        cases compWith (fun m q => (runM n).ev inner m elt q) (fun m q => testsWith (fun e q => (runM n).tr inner m e q) ifs q) z (clos inner me) s.1 s.2 with
        | none => rfl
        | some y =>
          dsimp only [Option.bind_some]
          cases okL y.1 <;> rfl
    · rfl
  rw [e] at e1
  refine omap e1 fun l hl e2 => ?_
  apply pr2 e2
  show (compV (runM n) sc me elt z it ifs inner p).map (fun v => (Fl.next, put me x false (.lst v.1), v.2)) = _
  rw [hl]; rfl
noncomputable def popForm (e : Expr) : Bool := (asMeth e).isSome
theorem ownL_of (hv : vis sc x = true) {xs : List V} (hl : me.lookup x = some ⟨true, .lst xs⟩) : ownL sc me x = some xs := by unfold ownL; rw [hv, if_pos rfl, hl]
theorem x_Append {e : Expr} {xp apos cpos : Pos} {m : Str} {xs : List V} (hx : ¬ (x = ("__debug__" : Str) ∨ apos.endLine ≠ cpos.line)) (hm : m = ("append" : Str)) (hp : popForm e = false) (hs : starred e = false) (hv : vis sc x = true) (hl : me.lookup x = some ⟨true, .lst xs⟩)
    (h : OE ((runM n).ev sc me e p) fun v p1 => (xs ++ [v]).length ≤ cap ∧ QS .next (put me x true (.lst (xs ++ [v]))) p1) : OS (exStep (runM n) sc me (.Expr (.Call (.Attribute (.Name x xp) m apos) [e] [] cpos) pos) p) QS := by
  refine ex2_3 (h) fun v p1 e1 hlen h => ?_
  refine ⟨_, _, _, ?_, h⟩
  show (if x = ("__debug__" : Str) ∨ apos.endLine ≠ cpos.line then Option.none else if m = ("append" : Str) then exApp (runM n) sc me x e p else if m = ("extend" : Str) then exMore (runM n) sc me x e p else Option.none) = _
  rw [if_neg hx, if_pos hm]
  unfold exApp
  have hn : asMeth e = none := by
    cases hz : asMeth e with
    | none => rfl
    | some c => unfold popForm at hp; rw [hz] at hp; exact nt hp
  rw [hn]
  unfold exPush
  dsimp only
  rw [hs, if_neg Bool.false_ne_true, ownL_of hv hl]; dsimp only [Option.bind_some]; rw [e1]; dsimp only [Option.bind_some]; rw [okL_some hlen]; rfl
theorem x_AppendPop {i : Expr} {xp apos cpos yp apos2 cpos2 : Pos} {m m2 : Str} {xs ys : List V} (hx : ¬ (x = ("__debug__" : Str) ∨ apos.endLine ≠ cpos.line)) (hm : m = ("append" : Str)) (hm2 : m2 = ("pop" : Str) ∧ y ≠ x ∧ y ≠ ("__debug__" : Str) ∧ apos2.endLine = cpos2.line) (hs : starred i = false) (hv : vis sc x = true) (hl : me.lookup x = some ⟨true, .lst xs⟩)
    (hv2 : vis sc y = true) (hl2 : me.lookup y = some ⟨true, .lst ys⟩)
    (h : OE ((runM n).ev sc me i p) fun k p1 => ∃ k' v, k = .int k' ∧ (0 ≤ k' ∧ ys.length ≤ cap) ∧ ys[k'.toNat]? = some v ∧ (xs ++ [v]).length ≤ cap ∧ QS .next (put (put me y true (.lst (ys.eraseIdx k'.toNat))) x true (.lst (xs ++ [v]))) p1) :
    OS (exStep (runM n) sc me (.Expr (.Call (.Attribute (.Name x xp) m apos) [.Call (.Attribute (.Name y yp) m2 apos2) [i] [] cpos2] [] cpos) pos) p) QS := by
  obtain ⟨k, p1, e1, k', v, rfl, hk, e2, hlen, h⟩ := h
  refine ⟨_, _, _, ?_, h⟩
  show (if x = ("__debug__" : Str) ∨ apos.endLine ≠ cpos.line then Option.none else if m = ("append" : Str) then (if m2 = ("pop" : Str) ∧ y ≠ x ∧ y ≠ ("__debug__" : Str) ∧ apos2.endLine = cpos2.line then exMove (runM n) sc me x y i p else _) else _) = _
  rw [if_neg hx, if_pos hm, if_pos hm2]
  unfold exMove
  rw [ownL_of hv hl]; dsimp only [Option.bind_some]; rw [ownL_of hv2 hl2]; dsimp only [Option.bind_some]
  rw [hs, if_neg Bool.false_ne_true, e1]; dsimp only [Option.bind_some]
  show (if 0 ≤ k' ∧ ys.length ≤ cap then (ys[k'.toNat]?).bind fun v => (okL (xs ++ [v])).map fun zs => (Fl.next, put (put me y true (.lst (ys.eraseIdx k'.toNat))) x true (.lst zs), p1) else Option.none) = _
  rw [if_pos hk, e2]; dsimp only [Option.bind_some]; rw [okL_some hlen]; rfl
theorem c_call {f : Str} {args : List V} {d : Df} (hd : df? f = some d) (hl : d.params.length = args.length) (h : OS ((runM n).exs d.scope ((d.params.zip args).map fun (x : Str × V) => (x.1, (⟨false, x.2⟩ : Bd))) d.body p) fun f _ p1 => ∃ v, f = .ret v ∧ Q v p1) : OE ((runM (n + 1)).call f args p) Q := by
  obtain ⟨fl, m, p1, e1, v, rfl, h⟩ := h
  refine ⟨v, p1, ?_, h⟩
  show (match df? f with
    | some d => if d.params.length = args.length then
        ((runM n).exs d.scope ((d.params.zip args).map fun (x : Str × V) => (x.1, (⟨false, x.2⟩ : Bd))) d.body p).bind fun y => match y.1 with
        | .ret v => some (v, y.2.2)
        | _ => Option.none
      else Option.none
    | Option.none => Option.none) = _
  rw [hd]; dsimp only; rw [if_pos hl, e1]; rfl
end
end Mine
end
section
set_option genSizeOf false
set_option genSizeOfSpec false
set_option maxRecDepth 100000
namespace Mine
open PySem
section
variable {n : Nat} {p : P} {x y : Str} {me : Me} {line : Nat} {QS : Fl → Me → P → Prop} {body : Me → P → Option (Fl × Me × P)}
theorem gt_run (a b : Int) : OE ((runM (n + 4)).call "gt" [.int a, .int b] p) fun v q => v = .bool (decide (b < a)) ∧ q = p := ⟨_, _, rfl, rfl, rfl⟩
theorem add_run (a b : Int) : OE ((runM (n + 4)).call "add" [.int a, .int b] p) fun v q => v = .int (a + b) ∧ q = p := ⟨_, _, rfl, rfl, rfl⟩
noncomputable abbrev Has (me : Me) (x : Str) (o : Bool) (v : V) : Prop := List.lookup x me = some ⟨o, v⟩
theorem out_id (h : outAt.lookup line = none) : letOut line me = me := by unfold letOut; rw [h]
theorem out_go (h : outAt.lookup line = some x) : letOut line me = letGo x me := by unfold letOut; rw [h]
theorem l_inv (I : List V → Me → Prop) (hstep : ∀ v r me, I (v :: r) me → OS (body (put me x false v) p) (fun f me' q => match f with | .next => q = p ∧ I r me' | .brk => QS .next me' q | .ret w => QS (.ret w) me' q)) (hend : ∀ me, I [] me → QS .next me p) :
    ∀ {l : List V} {me : Me}, I l me → OS (loopWith body x l me p) QS
  | [], me, h => l_nil (hend me h)
  | v :: r, me, h => l_cons (by
    refine (hstep v r me h).mono fun f m q hf => ?_
    cases f with
    | next =>
      obtain ⟨hq, hI⟩ := hf
      show OS (loopWith body x r m q) QS
      rw [hq]
      exact l_inv I hstep hend hI
    | brk => exact hf
    | ret w => exact hf)
theorem e_inv (I : Nat → List V → Me → Prop) (hstep : ∀ k v r me, I k (v :: r) me → OS (body (put (put me x false (.int k)) y false v) p) (fun f me' q => match f with | .next => q = p ∧ I (k + 1) r me' | .brk => False | .ret w => QS (.ret w) me' q)) (hend : ∀ k me, ¬ I k [] me) :
    ∀ {l : List V} {k : Nat} {me : Me}, I k l me → OS (enumWith body x y l k me p) QS
  | [], k, me, h => absurd h (hend k me)
  | v :: r, k, me, h => e_cons (by
    refine (hstep k v r me h).mono fun f m q hf => ?_
    cases f with
    | next =>
      obtain ⟨hq, hI⟩ := hf
      show OS (enumWith body x y r (k + 1) m q) QS
      rw [hq]
      exact e_inv I hstep hend hI
    | brk => exact hf
    | ret w => exact hf)
end
end Mine
end
section
set_option genSizeOf false
set_option genSizeOfSpec false
set_option maxRecDepth 100000
namespace Mine
open PySem
section
variable {n : Nat} {p : P}
theorem contains_run {xs : List V} {l : List Str} (x : Str) (h : strs? xs = some l) : OE ((runM (n + 5)).call "contains" [.lst xs, .str x] p) fun v q => v = .bool (decide (x ∈ l)) ∧ q = p := by
  refine c_call rfl rfl ?_
  refine x_cons (out_id (by rfl)) ?_
  refine x_Return ?_
  refine q_Cmp (by rfl) ?_
  refine q_Name (by rfl) (by rfl) (by rfl) ?_
  refine q_Name (by rfl) (by rfl) (by rfl) ?_
  refine ⟨decide (x ∈ l), ?_, _, rfl, rfl, rfl⟩
  show (strs? xs).map (fun l => decide (x ∈ l)) = _
  rw [h]; rfl
noncomputable def cnt (y : Str) (l : List Str) : Nat := (l.filter (fun z => decide (z = y))).length
theorem cnt_cons (y z : Str) (l : List Str) : cnt y (z :: l) = (if z = y then 1 else 0) + cnt y l := by
  unfold cnt
  by_cases h : z = y
  · rw [List.filter_cons_of_pos (by simpa using h), if_pos h, List.length_cons]; omega
  · rw [List.filter_cons_of_neg (by simpa using h), if_neg h]; omega
theorem countOf_run (y : Str) (l : List Str) (hl : l.length ≤ cap) : OE ((runM (n + 8)).call "countOf" [.lst (l.map .str), .str y] p) fun v q => v = .int (cnt y l) ∧ q = p := by
  refine c_call rfl rfl ?_
  refine x_cons (out_id (by rfl)) ?_
  refine x_Asg rfl (by rfl) ?_
  refine q_int ?_
  refine x_cons (out_id (by rfl)) ?_
  refine x_For (by rfl) ?_
  refine s_iter (by rfl) (by rfl) ?_
  refine q_Name (by rfl) (by rfl) (by rfl) ?_
  refine ⟨l.map .str, rfl, by simpa using hl, ?_⟩
  refine l_inv (fun r me => Has me "b" false (.str y) ∧ ∃ (r' : List Str) (c : Int), r = r'.map .str ∧ Has me "count" false (.int c) ∧ c + cnt y r' = cnt y l) ?_ ?_ ⟨by rfl, l, 0, rfl, by rfl, by simp⟩
  · rintro v r me ⟨hb, r', c, hr, hc, hsum⟩
    cases r' with
    | nil => cases hr
    | cons z r' =>
      refine an2 (List.cons.inj hr) fun q_150 q_151 => ?_
      subst q_150
      subst q_151
      refine x_cons (out_id (by rfl)) ?_
      refine x_If ?_
      refine t_isOr (a := "i") (b := "b") (s := z) (t := y) (by rfl) (nameV_of (by rfl) put_self) (nameV_of (by rfl) (put_ne (by rfl) hb)) ?_
      rw [cnt_cons] at hsum
      refine ⟨fun hd => ?_, fun hd => ?_⟩
      · refine x_cons (out_id (by rfl)) ?_
        refine x_Aug (by rfl) (by rfl) (put_ne (by rfl) hc) ?_
        refine q_int ⟨1, rfl, ?_⟩
        refine x_nil ?_
        refine x_nil ⟨rfl, put_ne (by rfl) (put_ne (by rfl) hb), r', c + 1, rfl, put_self, ?_⟩
        rw [if_pos (by simpa using hd)] at hsum
        lia
      · refine x_nil ?_
        refine x_nil ⟨rfl, put_ne (by rfl) hb, r', c, rfl, put_ne (by rfl) hc, ?_⟩
        rw [if_neg (by simpa using hd)] at hsum
        lia
  · rintro me ⟨hb, r', c, hr, hc, hsum⟩
    have : r' = [] := by cases r' with | nil => rfl | cons _ _ => cases hr
    subst this
    refine x_cons (out_id (by rfl)) ?_
    refine x_Return ?_
    refine q_Name (by rfl) (by rfl) hc ?_
    refine ⟨_, rfl, ?_, rfl⟩
    have : cnt y [] = 0 := rfl
    rw [this] at hsum
    congr 1
    lia
theorem indexOf_run (y : Str) (l : List Str) (a : V) (i : Nat) (ha : iterV a = some (l.map .str)) (hl : l.length ≤ cap) (hi : firstAt y l 0 = some i) : OE ((runM (n + 8)).call "indexOf" [a, .str y] p) fun v q => v = .int i ∧ q = p := by
  refine c_call rfl rfl ?_
  refine x_cons (out_id (by rfl)) ?_
  refine x_Enum ⟨by rfl, by rfl, by rfl, by rfl, by rfl⟩ ?_
  refine q_Name (by rfl) (by rfl) (by rfl) ?_
  refine ⟨l.map .str, ha, by simpa using hl, ?_⟩
  refine e_inv (fun k r me => Has me "b" false (.str y) ∧ ∃ (r' : List Str), r = r'.map .str ∧ firstAt y r' k = some i) ?_ ?_ ⟨by rfl, l, rfl, hi⟩
  · rintro k v r me ⟨hb, r', hr, hf⟩
    cases r' with
    | nil => cases hr
    | cons z r' =>
      refine an2 (List.cons.inj hr) fun q_110 q_111 => ?_
      subst q_110
      subst q_111
      refine x_cons (out_id (by rfl)) ?_
      refine x_If ?_
      refine t_isOr (a := "j") (b := "b") (s := z) (t := y) (by rfl) (nameV_of (by rfl) put_self) (nameV_of (by rfl) (put_ne (by rfl) (put_ne (by rfl) hb))) ?_
      unfold firstAt at hf
      refine ⟨fun hd => ?_, fun hd => ?_⟩
      · rw [if_pos (by simpa using hd)] at hf
        apply sm1 hf
        refine x_cons (out_id (by rfl)) ?_
        refine x_Return ?_
        refine q_Name (by rfl) (by rfl) (put_ne (by rfl) put_self) ?_
        exact ⟨_, rfl, rfl, rfl⟩
      · rw [if_neg (by simpa using hd)] at hf
        refine x_nil ?_
        exact x_nil ⟨rfl, put_ne (by rfl) (put_ne (by rfl) hb), r', rfl, hf⟩
  · rintro k me ⟨hb, r', hr, hf⟩
    have : r' = [] := by cases r' with | nil => rfl | cons _ _ => cases hr
    subst this
    exact nn hf
end
end Mine
end
section
set_option genSizeOf false
set_option genSizeOfSpec false
set_option maxRecDepth 100000
namespace Mine
open PySem
section
variable {n : Nat} {p : P}
noncomputable def takenGo (col : List Str) (place : Nat) : List Str → Nat → Str
  | [], _ => ""
  | s :: r, c => if place < c + cnt s col then s else takenGo col place r (c + cnt s col)
theorem taken_run (row col : List Str) (place : Nat) (hl : col.length ≤ cap) (hr : row.length ≤ cap) : OE ((runM (n + 16)).call "_law_taken" [.lst (row.map .str), .lst (col.map .str), .int place] p) fun v q => v = .str (takenGo col place row 0) ∧ q = p := by
  refine c_call rfl rfl ?_
  refine x_cons (out_id (by rfl)) ?_
  refine x_Asg rfl (by rfl) ?_
  refine q_int ?_
  refine x_cons (out_id (by rfl)) ?_
  refine x_For (by rfl) ?_
  refine s_iter (by rfl) (by rfl) ?_
  refine q_Name (by rfl) (by rfl) (by rfl) ?_
  refine ⟨row.map .str, rfl, by simpa using hr, ?_⟩
  refine l_inv (fun r me => Has me "column" false (.lst (col.map .str)) ∧ Has me "place" false (.int place) ∧ ∃ (r' : List Str) (c : Nat), r = r'.map .str ∧ Has me "passed" false (.int c) ∧ takenGo col place r' c = takenGo col place row 0) ?_ ?_ ⟨by rfl, by rfl, row, 0, rfl, by rfl, rfl⟩
  · rintro v r me ⟨hcol, hpl, r', c, hr, hc, hsum⟩
    cases r' with
    | nil => cases hr
    | cons z r' =>
      obtain ⟨rfl, rfl⟩ := List.cons.inj hr
      refine x_cons (out_id (by rfl)) ?_
      refine x_Asg rfl (by rfl) ?_
      refine q_Call (by rfl) (by rfl) (by rfl) (by rfl) ?_
      refine q_evs_cons rfl (q_Name (by rfl) (by rfl) (put_ne (by rfl) hc) ?_)
      refine q_evs_cons rfl (q_Call (by rfl) (by rfl) (by rfl) (by rfl) ?_)
      refine q_evs_cons rfl (q_Name (by rfl) (by rfl) (put_ne (by rfl) hcol) ?_)
      refine q_evs_cons rfl (q_Name (by rfl) (by rfl) put_self ?_)
      refine q_evs_nil ?_
      refine (countOf_run z col hl).mono fun a q ha => ?_
      obtain ⟨rfl, rfl⟩ := ha
      refine ⟨rfl, ?_⟩
      refine q_evs_nil ?_
      refine (add_run _ _).mono fun a q ha => ?_
      obtain ⟨rfl, rfl⟩ := ha
      refine ⟨rfl, ?_⟩
      refine x_cons (out_id (by rfl)) ?_
      refine x_If ?_
      refine t_Cmp (by rfl) ?_
      refine q_Call (by rfl) (by rfl) (by rfl) (by rfl) ?_
      refine q_evs_cons rfl (q_Name (by rfl) (by rfl) put_self ?_)
      refine q_evs_cons rfl (q_Name (by rfl) (by rfl) (put_ne (by rfl) (put_ne (by rfl) hpl)) ?_)
      refine q_evs_nil ?_
      refine (gt_run _ _).mono fun a q ha => ?_
      obtain ⟨rfl, rfl⟩ := ha
      refine ⟨rfl, ?_⟩
      refine q_bool ?_
      refine ⟨_, rfl, fun hd => ?_, fun hd => ?_⟩
      · refine x_cons (out_id (by rfl)) ?_
        refine x_Return ?_
        refine q_Name (by rfl) (by rfl) (put_ne (by rfl) put_self) ?_
        refine ⟨_, rfl, ?_, rfl⟩
        have hlt : place < c + cnt z col := by
          have : decide (((place : Int)) < (c : Int) + (cnt z col : Int)) = true := by simpa using hd
          have := of_decide_eq_true this
          omega
        rw [← hsum]
        unfold takenGo
        rw [if_pos hlt]
      · refine x_nil ?_
        have hlt : ¬ place < c + cnt z col := by
          intro z'
          have : ¬ ((place : Int)) < (c : Int) + (cnt z col : Int) := by simpa using hd
          omega
        refine x_nil ⟨rfl, put_ne (by rfl) (put_ne (by rfl) hcol), put_ne (by rfl) (put_ne (by rfl) hpl), r', c + cnt z col, rfl, by rw [Int.natCast_add]; exact put_self, ?_⟩
        rw [← hsum]
        conv => rhs; unfold takenGo
        rw [if_neg hlt]
  · rintro me ⟨hcol, hpl, r', c, hr, hc, hsum⟩
    have : r' = [] := by cases r' with | nil => rfl | cons _ _ => cases hr
    subst this
    refine x_cons (out_id (by rfl)) ?_
    refine x_Return ?_
    refine q_str (by rfl) ?_
    exact ⟨_, rfl, by rw [← hsum]; rfl, rfl⟩
end
end Mine
end
section
set_option genSizeOf false
set_option genSizeOfSpec false
set_option maxRecDepth 100000
namespace Mine
open PySem
section
variable {n : Nat} {p : P}
theorem getD_map {l : List Str} {k : Nat} (h : k < l.length) : (l.map V.ustr)[k]? = some (.ustr (l.getD k default)) := by
  rw [List.getElem?_map, List.getElem?_eq_getElem h, List.getD_eq_getElem?_getD, List.getElem?_eq_getElem h]; rfl
theorem erase_map (l : List Str) (k : Nat) : (l.map V.ustr).eraseIdx k = (l.eraseIdx k).map V.ustr := by
  induction l generalizing k with
  | nil => rfl
  | cons a l ih =>
    cases k with
    | zero => rfl
    | succ k => show V.ustr a :: (l.map V.ustr).eraseIdx k = _; rw [ih]; rfl
theorem erase_len {l : List Str} {k : Nat} (h : k < l.length) : (l.eraseIdx k).length = l.length - 1 := List.length_eraseIdx_of_lt h
theorem fm {a : Int} {b : Nat} (hb : 0 < b) : 0 ≤ Int.fmod a b ∧ (Int.fmod a b).toNat < b := by
  have h1 := Int.fmod_nonneg_of_pos a (b := (b : Int)) (by omega)
  have h2 := Int.fmod_lt_of_pos a (b := (b : Int)) (by omega)
  exact ⟨h1, by omega⟩
noncomputable def dig (N : Int) : Nat × Nat × Nat := ((Int.fmod N (4 : Nat)).toNat, (Int.fmod (Int.fdiv N 4) (3 : Nat)).toNat, (Int.fmod (Int.fdiv (Int.fdiv N 4) 3) (2 : Nat)).toNat)
theorem row_run (s : Str) (N : Int) (h4 : (charsOf s).length = 4) : OE ((runM (n + 12)).call "_law_row" [.str s, .int N] p) fun v q => q = p ∧ v = .lst ((rowK (charsOf s) (dig N).1 (dig N).2.1 (dig N).2.2).map .ustr) := by
  refine c_call rfl rfl ?_
  refine x_cons (out_id (by rfl)) ?_
  refine x_AsgListOf (by rfl) (by rfl) (by rfl) (by rfl) (by rfl) (by rw [h4]; decide) ?_
  refine x_cons (out_id (by rfl)) ?_
  refine x_AsgList (by rfl) (q_evs_nil ⟨by decide, ?_⟩)
  refine x_cons (out_id (by rfl)) ?_
  refine x_For (by rfl) ?_
  refine s_iter (by rfl) (by rfl) ?_
  refine q_List ?_
  refine q_evs_cons rfl (q_int ?_)
  refine q_evs_cons rfl (q_int ?_)
  refine q_evs_cons rfl (q_int ?_)
  refine q_evs_cons rfl (q_int ?_)
  refine q_evs_nil ⟨by decide, _, rfl, by decide, ?_⟩
  refine an2 (fm (a := N) (b := 4) (by decide)) fun a0 b0 => ?_
  refine an2 (fm (a := Int.fdiv N 4) (b := 3) (by decide)) fun a1 b1 => ?_
  obtain ⟨a2, b2⟩ := fm (a := Int.fdiv (Int.fdiv N 4) 3) (b := 2) (by decide)
  refine an2 (fm (a := Int.fdiv (Int.fdiv (Int.fdiv N 4) 3) 2) (b := 1) (by decide)) fun a3 b3 => ?_
  have e3 : (Int.fmod (Int.fdiv (Int.fdiv (Int.fdiv N 4) 3) 2) (1 : Nat)).toNat = 0 := by lia
  generalize hk0 : (Int.fmod N (4 : Nat)).toNat = k0 at b0
  generalize hk1 : (Int.fmod (Int.fdiv N 4) (3 : Nat)).toNat = k1 at b1
  generalize hk2 : (Int.fmod (Int.fdiv (Int.fdiv N 4) 3) (2 : Nat)).toNat = k2 at b2
  have l1 : ((charsOf s).eraseIdx k0).length = 3 := by rw [erase_len (by lia)]; lia
  have l2 : (((charsOf s).eraseIdx k0).eraseIdx k1).length = 2 := by rw [erase_len (by lia)]; lia
  have l3 : ((((charsOf s).eraseIdx k0).eraseIdx k1).eraseIdx k2).length = 1 := by rw [erase_len (by lia)]; lia
  refine l_cons ?_
  refine x_cons (out_id (by rfl)) ?_
  refine x_AppendPop (by decide) (by rfl) (by decide) rfl (by rfl) (by rfl) (by rfl) (by rfl) ?_
  refine q_Bin (q_Name (by rfl) (by rfl) (by rfl) (q_Name (by rfl) (by rfl) (by rfl) ⟨_, rfl, ?_⟩))
  refine ⟨_, _, rfl, ⟨a0, by rw [List.length_map, h4]; decide⟩, by rw [show (Int.fmod N 4).toNat = k0 from hk0]; exact getD_map (by lia), by simp; decide, ?_⟩
  rw [show (Int.fmod N 4).toNat = k0 from hk0, erase_map]
  refine x_cons (out_id (by rfl)) ?_
  refine x_Asg rfl (by rfl) ?_
  refine q_Bin (q_Name (by rfl) (by rfl) (by rfl) (q_Name (by rfl) (by rfl) (by rfl) ⟨_, rfl, ?_⟩))
  refine x_nil ?_
  refine l_cons ?_
  refine x_cons (out_id (by rfl)) ?_
  refine x_AppendPop (by decide) (by rfl) (by decide) rfl (by rfl) (by rfl) (by rfl) (by rfl) ?_
  refine q_Bin (q_Name (by rfl) (by rfl) (by rfl) (q_Name (by rfl) (by rfl) (by rfl) ⟨_, rfl, ?_⟩))
  refine ⟨_, _, rfl, ⟨a1, by rw [List.length_map, l1]; decide⟩, by rw [show (Int.fmod (Int.fdiv N 4) 3).toNat = k1 from hk1]; exact getD_map (by lia), by simp; decide, ?_⟩
  rw [show (Int.fmod (Int.fdiv N 4) 3).toNat = k1 from hk1, erase_map]
  refine x_cons (out_id (by rfl)) ?_
  refine x_Asg rfl (by rfl) ?_
  refine q_Bin (q_Name (by rfl) (by rfl) (by rfl) (q_Name (by rfl) (by rfl) (by rfl) ⟨_, rfl, ?_⟩))
  refine x_nil ?_
  refine l_cons ?_
  refine x_cons (out_id (by rfl)) ?_
  refine x_AppendPop (by decide) (by rfl) (by decide) rfl (by rfl) (by rfl) (by rfl) (by rfl) ?_
  refine q_Bin (q_Name (by rfl) (by rfl) (by rfl) (q_Name (by rfl) (by rfl) (by rfl) ⟨_, rfl, ?_⟩))
  refine ⟨_, _, rfl, ⟨a2, by rw [List.length_map, l2]; decide⟩, by rw [show (Int.fmod (Int.fdiv (Int.fdiv N 4) 3) 2).toNat = k2 from hk2]; exact getD_map (by lia), by simp; decide, ?_⟩
  rw [show (Int.fmod (Int.fdiv (Int.fdiv N 4) 3) 2).toNat = k2 from hk2, erase_map]
  refine x_cons (out_id (by rfl)) ?_
  refine x_Asg rfl (by rfl) ?_
  refine q_Bin (q_Name (by rfl) (by rfl) (by rfl) (q_Name (by rfl) (by rfl) (by rfl) ⟨_, rfl, ?_⟩))
  refine x_nil ?_
  refine l_cons ?_
  refine x_cons (out_id (by rfl)) ?_
  refine x_AppendPop (by decide) (by rfl) (by decide) rfl (by rfl) (by rfl) (by rfl) (by rfl) ?_
  refine q_Bin (q_Name (by rfl) (by rfl) (by rfl) (q_Name (by rfl) (by rfl) (by rfl) ⟨_, rfl, ?_⟩))
  refine ⟨_, _, rfl, ⟨a3, by rw [List.length_map, l3]; decide⟩, by rw [show (Int.fmod (Int.fdiv (Int.fdiv (Int.fdiv N 4) 3) 2) 1).toNat = 0 from e3]; exact getD_map (by lia), by simp; decide, ?_⟩
  refine x_cons (out_id (by rfl)) ?_
  refine x_Asg rfl (by rfl) ?_
  refine q_Bin (q_Name (by rfl) (by rfl) (by rfl) (q_Name (by rfl) (by rfl) (by rfl) ⟨_, rfl, ?_⟩))
  refine x_nil ?_
  refine l_nil ?_
  refine x_cons (out_go (x := "row") (by rfl)) ?_
  refine x_Return ?_
  refine q_Name (by rfl) (by rfl) (by rfl) ?_
  refine ⟨_, rfl, rfl, ?_⟩
  show _ = V.lst ((rowK (charsOf s) (Int.fmod N (4 : Nat)).toNat (Int.fmod (Int.fdiv N 4) (3 : Nat)).toNat (Int.fmod (Int.fdiv (Int.fdiv N 4) 3) (2 : Nat)).toNat).map .ustr)
  rw [hk0, hk1, hk2]
  rfl
end
end Mine
end
section
set_option genSizeOf false
set_option genSizeOfSpec false
set_option maxRecDepth 100000
namespace Mine
open PySem
section
variable {n : Nat} {p : P}
noncomputable def L (i : Fin 4) : Str := ⟨#[97 + i.val]⟩
noncomputable def U (i : Fin 4) : Str := ⟨#[65 + i.val]⟩
noncomputable def PS (σ : Fin 4 → Fin 4) : Str := ⟨#[97 + (σ 0).val, 97 + (σ 1).val, 97 + (σ 2).val, 97 + (σ 3).val]⟩
noncomputable def f4 : List (Fin 4) := [0, 1, 2, 3]
theorem L_inj {i j : Fin 4} (h : L i = L j) : i = j := by
  have : (#[97 + i.val] : Array Nat) = #[97 + j.val] := congrArg Str.cps h
  have : 97 + i.val = 97 + j.val := by simpa using this
  exact Fin.ext (by omega)
theorem U_inj {i j : Fin 4} (h : U i = U j) : i = j := by
  have : (#[65 + i.val] : Array Nat) = #[65 + j.val] := congrArg Str.cps h
  have : 65 + i.val = 65 + j.val := by simpa using this
  exact Fin.ext (by omega)
structure Bj (σ : Fin 4 → Fin 4) : Prop where
  inj : ∀ i j, σ i = σ j → i = j
  sur : ∀ j, ∃ i, σ i = j
noncomputable def inv (σ : Fin 4 → Fin 4) (j : Fin 4) : Fin 4 := if σ 0 = j then 0 else if σ 1 = j then 1 else if σ 2 = j then 2 else 3
theorem fin4 (P : Fin 4 → Prop) (h0 : P 0) (h1 : P 1) (h2 : P 2) (h3 : P 3) : ∀ i, P i := fun i => match i with | 0 => h0 | 1 => h1 | 2 => h2 | 3 => h3
theorem inv_right {σ : Fin 4 → Fin 4} (B : Bj σ) (j : Fin 4) : σ (inv σ j) = j := by
  unfold inv
  split
  · assumption
  · split
    · assumption
    · split
      · assumption
      · obtain ⟨i, hi⟩ := B.sur j
        rename_i h0 h1 h2
        revert hi
        exact fin4 (fun i => σ i = j → σ 3 = j) (fun h => absurd h h0) (fun h => absurd h h1) (fun h => absurd h h2) (fun h => h) i
theorem inv_left {σ : Fin 4 → Fin 4} (B : Bj σ) (i : Fin 4) : inv σ (σ i) = i := B.inj _ _ (inv_right B (σ i))
theorem first_at {σ : Fin 4 → Fin 4} (B : Bj σ) (j : Fin 4) : firstAt (L j) [L (σ 0), L (σ 1), L (σ 2), L (σ 3)] 0 = some (inv σ j).val := by
  have key : ∀ i, (L (σ i) = L j) = (σ i = j) := fun i => propext ⟨L_inj, fun h => by rw [h]⟩
  have hr := inv_right B j
  unfold inv at hr ⊢
  simp only [firstAt, key]
  by_cases h0 : σ 0 = j
  · simp [h0]
  · by_cases h1 : σ 1 = j
    · simp [h0, h1]
    · by_cases h2 : σ 2 = j
      · simp [h0, h1, h2]
      · simp only [h0, h1, h2, if_false] at hr ⊢
        simp only [hr, if_true]; rfl
theorem item4 (a : Fin 4 → V) (k : Fin 4) : itemV (.lst [a 0, a 1, a 2, a 3]) (.int (k.val : Int)) = some (a k) := fin4 (fun k => itemV (.lst [a 0, a 1, a 2, a 3]) (.int (k.val : Int)) = some (a k)) rfl rfl rfl rfl k
theorem item_PS (σ : Fin 4 → Fin 4) (k : Fin 4) : itemV (.str (PS σ)) (.int (k.val : Int)) = some (.str (L (σ k))) := fin4 (fun k => itemV (.str (PS σ)) (.int (k.val : Int)) = some (.str (L (σ k)))) rfl rfl rfl rfl k
theorem idx_abcd (j : Fin 4) : methV (.str "abcd") "index" [.str (L j)] p = some (.int (j.val : Int), p) := fin4 (fun j => methV (.str "abcd") "index" [.str (L j)] p = some (.int (j.val : Int), p)) (by kernel_rfl) (by kernel_rfl) (by kernel_rfl) (by kernel_rfl) j
theorem range4 : rangeV 4 = some (f4.map fun (k : Fin 4) => V.int (k.val : Int)) := rfl
noncomputable def FV (F : Fin 4 → List (Fin 4)) : V := .lst [.lst ((F 0).map fun j => .str (L j)), .lst ((F 1).map fun j => .str (L j)), .lst ((F 2).map fun j => .str (L j)), .lst ((F 3).map fun j => .str (L j))]
noncomputable def WR (W : Fin 4 → Fin 4 → Int) (j : Fin 4) : V := .lst [.int (W j 0), .int (W j 1), .int (W j 2), .int (W j 3)]
noncomputable def WV (W : Fin 4 → Fin 4 → Int) : V := .lst [WR W 0, WR W 1, WR W 2, WR W 3]
noncomputable def goS (W : Fin 4 → Fin 4 → Int) (σ : Fin 4 → Fin 4) (k : Fin 4) : List (Fin 4) → Bool
  | [] => true
  | j :: r => if j = σ k then true else if W j (inv σ j) < W j k then false else goS W σ k r
noncomputable def stB (F : Fin 4 → List (Fin 4)) (W : Fin 4 → Fin 4 → Int) (σ : Fin 4 → Fin 4) : Bool := f4.all fun k => goS W σ k (F k)
theorem steady_run (F : Fin 4 → List (Fin 4)) (W : Fin 4 → Fin 4 → Int) (σ : Fin 4 → Fin 4) (B : Bj σ) (hF : ∀ k, (F k).length ≤ cap) : OE ((runM (n + 24)).call "_law_steady" [.str (PS σ), FV F, WV W] p) fun v q => v = .bool (stB F W σ) ∧ q = p := by
  refine c_call rfl rfl ?_
  refine x_cons (out_id (by rfl)) ?_
  refine x_For (by rfl) ?_
  refine s_range (by rfl) rfl (q_int ⟨4, _, rfl, range4, ?_⟩)
  refine l_inv (fun r me => Has me "pairing" false (.str (PS σ)) ∧ Has me "front" false (FV F) ∧ Has me "worth" false (WV W) ∧ ∃ (r' : List (Fin 4)), r = r'.map (fun k => V.int (k.val : Int)) ∧ (r'.all fun k => goS W σ k (F k)) = stB F W σ) ?_ ?_ ⟨by rfl, by rfl, by rfl, f4, rfl, rfl⟩
  · rintro v r me ⟨hp, hf, hw, r', hr, hs⟩
    cases r' with
    | nil => cases hr
    | cons k r' =>
      obtain ⟨rfl, rfl⟩ := List.cons.inj hr
      rw [List.all_cons] at hs
      refine x_cons (out_id (by rfl)) ?_
      refine x_For (by rfl) ?_
      refine s_iter (by rfl) (by rfl) ?_
      refine q_SubName (by intros; simp) (by rfl) (by rfl) (put_ne (by rfl) hf) (q_Name (by rfl) (by rfl) put_self ⟨.lst ((F k).map fun j => .str (L j)), ?_, ?_⟩)
      · exact item4 (fun k => .lst ((F k).map fun j => .str (L j))) k
      refine ⟨(F k).map fun j => .str (L j), rfl, by simpa using hF k, ?_⟩
      refine l_inv (fun r me => Has me "k" false (.int (k.val : Int)) ∧ Has me "pairing" false (.str (PS σ)) ∧ Has me "front" false (FV F) ∧ Has me "worth" false (WV W) ∧ ∃ (q' : List (Fin 4)), r = q'.map (fun j => .str (L j)) ∧ goS W σ k q' = goS W σ k (F k)) ?_ ?_ ⟨put_self, put_ne (by rfl) hp, put_ne (by rfl) hf, put_ne (by rfl) hw, F k, rfl, rfl⟩
      · rintro v r me ⟨hk, hp, hf, hw, q', hr, hg⟩
        cases q' with
        | nil => cases hr
        | cons j q' =>
          obtain ⟨rfl, rfl⟩ := List.cons.inj hr
          refine x_cons (out_id (by rfl)) ?_
          refine x_If ?_
          refine t_Cmp (by rfl) ?_
          refine q_Name (by rfl) (by rfl) put_self ?_
          refine q_SubName (by intros; simp) (by rfl) (by rfl) (put_ne (by rfl) hp) (q_Name (by rfl) (by rfl) (put_ne (by rfl) hk) ⟨_, item_PS σ k, ?_⟩)
          refine ⟨_, rfl, fun hd => ?_, fun hd => ?_⟩
          · have hj : j = σ k := L_inj (of_decide_eq_true hd)
            refine x_cons (out_id (by rfl)) (x_Break ?_)
            have hgo : goS W σ k (F k) = true := by rw [← hg]; unfold goS; rw [if_pos hj]
            rw [hgo, Bool.true_and] at hs
            refine x_nil ⟨rfl, put_ne (by rfl) hp, put_ne (by rfl) hf, put_ne (by rfl) hw, r', rfl, hs⟩
          · have hj : ¬ j = σ k := fun z => by rw [z] at hd; simp at hd
            refine x_nil ?_
            refine x_cons (out_id (by rfl)) ?_
            refine x_Asg rfl (by rfl) ?_
            refine q_SubName (by intros; simp) (by rfl) (by rfl) (put_ne (by rfl) hw) (q_Meth (by rfl) (by rfl) (q_str (by rfl) (q_evs_cons rfl (q_Name (by rfl) (by rfl) put_self (q_evs_nil (OE.of (idx_abcd j) ⟨WR W j, ?_, ?_⟩))))))
            · exact item4 (WR W) j
            refine x_cons (out_id (by rfl)) ?_
            refine x_If ?_
            refine t_Cmp (by rfl) ?_
            refine q_Call (by rfl) (by rfl) (by rfl) (by rfl) ?_
            refine q_evs_cons rfl (q_SubName (by intros; simp) (by rfl) (by rfl) put_self (q_Name (by rfl) (by rfl) (put_ne (by rfl) (put_ne (by rfl) hk)) ⟨.int (W j k), ?_, ?_⟩))
            · exact item4 (fun i => .int (W j i)) k
            refine q_evs_cons rfl (q_SubName (by intros; simp) (by rfl) (by rfl) put_self (q_Call (by rfl) (by rfl) (by rfl) (by rfl) ?_))
            refine q_evs_cons rfl (q_Name (by rfl) (by rfl) (put_ne (by rfl) (put_ne (by rfl) hp)) ?_)
            refine q_evs_cons rfl (q_Name (by rfl) (by rfl) (put_ne (by rfl) put_self) ?_)
            refine q_evs_nil ?_
            refine (indexOf_run (L j) [L (σ 0), L (σ 1), L (σ 2), L (σ 3)] _ _ rfl (by show 4 ≤ 4096; decide) (first_at B j)).mono fun a q ha => ?_
            obtain ⟨rfl, rfl⟩ := ha
            refine ⟨rfl, .int (W j (inv σ j)), item4 (fun i => .int (W j i)) (inv σ j), ?_⟩
            refine q_evs_nil ?_
            refine (gt_run _ _).mono fun a q ha => ?_
            obtain ⟨rfl, rfl⟩ := ha
            refine ⟨rfl, ?_⟩
            refine q_bool ?_
            refine ⟨_, rfl, fun hd => ?_, fun hd => ?_⟩
            · have hlt : W j (inv σ j) < W j k := by
                have : decide (W j (inv σ j) < W j k) = true := by revert hd; cases decide (W j (inv σ j) < W j k) <;> simp
                exact of_decide_eq_true this
              refine x_cons (out_id (by rfl)) ?_
              refine x_Return (q_bool ?_)
              have hgo : goS W σ k (F k) = false := by rw [← hg]; unfold goS; rw [if_neg hj, if_pos hlt]
              rw [hgo, Bool.false_and] at hs
              exact ⟨_, rfl, by rw [hs], rfl⟩
            · have hlt : ¬ W j (inv σ j) < W j k := by
                have : decide (W j (inv σ j) < W j k) = false := by revert hd; cases decide (W j (inv σ j) < W j k) <;> simp
                exact of_decide_eq_false this
              refine x_nil ?_
              refine x_nil ⟨rfl, put_ne (by rfl) (put_ne (by rfl) hk), put_ne (by rfl) (put_ne (by rfl) hp), put_ne (by rfl) (put_ne (by rfl) hf), put_ne (by rfl) (put_ne (by rfl) hw), q', rfl, ?_⟩
              rw [← hg]
              conv => rhs; unfold goS
              rw [if_neg hj, if_neg hlt]
      · rintro me ⟨hk, hp, hf, hw, q', hr, hg⟩
        have : q' = [] := by cases q' with | nil => rfl | cons _ _ => cases hr
        subst this
        have hgo : goS W σ k (F k) = true := by rw [← hg]; rfl
        rw [hgo, Bool.true_and] at hs
        exact x_nil ⟨rfl, hp, hf, hw, r', rfl, hs⟩
  · rintro me ⟨hp, hf, hw, r', hr, hs⟩
    have : r' = [] := by cases r' with | nil => rfl | cons _ _ => cases hr
    subst this
    refine x_cons (out_id (by rfl)) ?_
    refine x_Return (q_bool ?_)
    exact ⟨_, rfl, by rw [← hs]; rfl, rfl⟩
end
end Mine
end
section
set_option genSizeOf false
set_option genSizeOfSpec false
set_option maxRecDepth 100000
namespace Mine
theorem inj4 : ∀ a b c d : Fin 4, a ≠ b → a ≠ c → a ≠ d → b ≠ c → b ≠ d → c ≠ d → ∀ j, a = j ∨ b = j ∨ c = j ∨ d = j := by decide +kernel
theorem sur4 : ∀ a b c d : Fin 4, (∀ j, a = j ∨ b = j ∨ c = j ∨ d = j) → a ≠ b ∧ a ≠ c ∧ a ≠ d ∧ b ≠ c ∧ b ≠ d ∧ c ≠ d := by decide +kernel
theorem bj_inj {σ : Fin 4 → Fin 4} (h : ∀ i j, σ i = σ j → i = j) : Bj σ := by
  refine ⟨h, fun j => ?_⟩
  have n : ∀ a b : Fin 4, a ≠ b → σ a ≠ σ b := fun a b hab e => hab (h a b e)
  rcases inj4 (σ 0) (σ 1) (σ 2) (σ 3) (n _ _ (by decide)) (n _ _ (by decide)) (n _ _ (by decide)) (n _ _ (by decide)) (n _ _ (by decide)) (n _ _ (by decide)) j with e | e | e | e
  · exact ⟨_, e⟩
  · exact ⟨_, e⟩
  · exact ⟨_, e⟩
  · exact ⟨_, e⟩
theorem bj_sur {σ : Fin 4 → Fin 4} (h : ∀ j, ∃ i, σ i = j) : Bj σ := by
  refine ⟨fun i j e => ?_, h⟩
  have hs : ∀ j, σ 0 = j ∨ σ 1 = j ∨ σ 2 = j ∨ σ 3 = j := fun j => by
    obtain ⟨i, hi⟩ := h j
    revert hi
    exact fin4 (fun i => σ i = j → σ 0 = j ∨ σ 1 = j ∨ σ 2 = j ∨ σ 3 = j) (fun h => .inl h) (fun h => .inr (.inl h)) (fun h => .inr (.inr (.inl h))) (fun h => .inr (.inr (.inr h))) i
  obtain ⟨h01, h02, h03, h12, h13, h23⟩ := sur4 _ _ _ _ hs
  have key : ∀ i j : Fin 4, σ i = σ j → i = j := by
    refine fin4 _ ?_ ?_ ?_ ?_ <;> refine fin4 _ ?_ ?_ ?_ ?_ <;> intro e <;> first | rfl | exact absurd e (by assumption) | exact absurd e.symm (by assumption)
  exact key i j e
theorem inv_eq {σ : Fin 4 → Fin 4} (B : Bj σ) {i j : Fin 4} (h : σ i = j) : inv σ j = i := by subst h; exact inv_left B i
section
variable (rk : Fin 4 → Fin 4 → Nat) (W : Fin 4 → Fin 4 → Int)
noncomputable def Sta (σ : Fin 4 → Fin 4) : Prop := Bj σ ∧ ∀ k j, rk k j < rk k (σ k) → ¬ W j (inv σ j) < W j k
noncomputable def mn (σ τ : Fin 4 → Fin 4) : Fin 4 → Fin 4 := fun k => if rk k (σ k) ≤ rk k (τ k) then σ k else τ k
noncomputable def mx (σ τ : Fin 4 → Fin 4) : Fin 4 → Fin 4 := fun k => if rk k (σ k) ≤ rk k (τ k) then τ k else σ k
end
section
variable {rk : Fin 4 → Fin 4 → Nat} {W : Fin 4 → Fin 4 → Int} (hrk : ∀ k i j, rk k i = rk k j → i = j) (hW : ∀ j a b, W j a = W j b → a = b)
include hrk hW
theorem mn_inj {σ τ : Fin 4 → Fin 4} (S : Sta rk W σ) (T : Sta rk W τ) : ∀ k k', mn rk σ τ k = mn rk σ τ k' → k = k' := by
  have cross : ∀ k k', rk k (σ k) ≤ rk k (τ k) → ¬ rk k' (σ k') ≤ rk k' (τ k') → σ k = τ k' → k = k' := by
    intro k k' h1 h2 e
    apply Classical.byContradiction
    intro hne
    have a1 : inv σ (σ k) = k := inv_left S.1 k
    have a2 : inv τ (σ k) = k' := by rw [e]; exact inv_left T.1 k'
    have hlt : rk k (σ k) < rk k (τ k) := by
      refine Nat.lt_of_le_of_ne h1 fun q => ?_
      have := hrk _ _ _ q
      rw [e] at this
      exact hne (T.1.inj _ _ this).symm
    have t1 := T.2 k (σ k) hlt
    rw [a2] at t1
    have hlt2 : rk k' (σ k) < rk k' (σ k') := by rw [e]; lia
    have t2 := S.2 k' (σ k) hlt2
    rw [a1] at t2
    have : W (σ k) k ≠ W (σ k) k' := fun q => hne (hW _ _ _ q)
    lia
  intro k k' e
  unfold mn at e
  split at e
  · rename_i h1
    split at e
    · exact S.1.inj _ _ e
    · rename_i h2; exact cross k k' h1 h2 e
  · rename_i h1
    split at e
    · rename_i h2; exact (cross k' k h2 h1 e.symm).symm
    · exact T.1.inj _ _ e
theorem mnmx {σ τ : Fin 4 → Fin 4} (S : Sta rk W σ) (T : Sta rk W τ) (j : Fin 4) :
    (mn rk σ τ (inv σ j) = j ∧ mx rk σ τ (inv τ j) = j ∧ W j (inv σ j) ≤ W j (inv τ j)) ∨ (mn rk σ τ (inv τ j) = j ∧ mx rk σ τ (inv σ j) = j ∧ W j (inv τ j) ≤ W j (inv σ j)) := by
  have B := bj_inj (mn_inj hrk hW S T)
  have ea := inv_right S.1 j
  have eb := inv_right T.1 j
  generalize ha : inv σ j = a at ea
  generalize hb : inv τ j = b at eb
  by_cases hab : a = b
  · subst hab
    left
    refine ⟨?_, ?_, Int.le_refl _⟩
    · unfold mn; split <;> assumption
    · unfold mx; split <;> assumption
  · refine ex1_1 (B.sur j) fun x hx => ?_
    have na : ¬ τ a = j := fun q => hab (T.1.inj _ _ (q.trans eb.symm))
    have nb : ¬ σ b = j := fun q => hab (S.1.inj _ _ (ea.trans q.symm))
    have hWne : W j a ≠ W j b := fun q => hab (hW _ _ _ q)
    have hx' := hx
    unfold mn at hx'
    split at hx'
    · rename_i h1
      have : x = a := S.1.inj _ _ (hx'.trans ea.symm)
      subst this
      left
      have hlt : rk x j < rk x (τ x) := by
        rw [hx'] at h1
        exact Nat.lt_of_le_of_ne h1 fun q => na (hrk _ _ _ q).symm
      have t := T.2 x j hlt
      rw [hb] at t
      refine ⟨hx, ?_, by lia⟩
      have hne : mn rk σ τ b ≠ j := fun q => hab (B.inj _ _ (hx.trans q.symm))
      unfold mn at hne
      unfold mx
      split
      · exact eb
      · rename_i h2; rw [if_neg h2] at hne; exact absurd eb hne
    · rename_i h1
      have : x = b := T.1.inj _ _ (hx'.trans eb.symm)
      subst this
      right
      have hlt : rk x j < rk x (σ x) := by rw [← hx']; lia
      have t := S.2 x j hlt
      rw [ha] at t
      refine ⟨hx, ?_, by lia⟩
      have hne : mn rk σ τ a ≠ j := fun q => hab (B.inj _ _ (q.trans hx.symm))
      unfold mn at hne
      unfold mx
      split
      · rename_i h2; rw [if_pos h2] at hne; exact absurd ea hne
      · exact ea
theorem mn_sta {σ τ : Fin 4 → Fin 4} (S : Sta rk W σ) (T : Sta rk W τ) : Sta rk W (mn rk σ τ) ∧ ∀ j, W j (inv (mn rk σ τ) j) = min (W j (inv σ j)) (W j (inv τ j)) := by
  have B := bj_inj (mn_inj hrk hW S T)
  have hmin : ∀ j, W j (inv (mn rk σ τ) j) = min (W j (inv σ j)) (W j (inv τ j)) := fun j => by
    rcases mnmx hrk hW S T j with ⟨h1, _, h3⟩ | ⟨h1, _, h3⟩
    · rw [inv_eq B h1]; lia
    · rw [inv_eq B h1]; lia
  refine ⟨⟨B, fun k j hlt hw => ?_⟩, hmin⟩
  rw [hmin] at hw
  have h1 : rk k j < rk k (σ k) := by unfold mn at hlt; split at hlt <;> lia
  have h2 : rk k j < rk k (τ k) := by unfold mn at hlt; split at hlt <;> lia
  have t1 := S.2 k j h1
  have t2 := T.2 k j h2
  lia
theorem mx_sta {σ τ : Fin 4 → Fin 4} (S : Sta rk W σ) (T : Sta rk W τ) : Sta rk W (mx rk σ τ) ∧ ∀ j, W j (inv (mx rk σ τ) j) = max (W j (inv σ j)) (W j (inv τ j)) := by
  have B : Bj (mx rk σ τ) := bj_sur fun j => by
    rcases mnmx hrk hW S T j with ⟨_, h2, _⟩ | ⟨_, h2, _⟩
    · exact ⟨_, h2⟩
    · exact ⟨_, h2⟩
  have hmax : ∀ j, W j (inv (mx rk σ τ) j) = max (W j (inv σ j)) (W j (inv τ j)) := fun j => by
    rcases mnmx hrk hW S T j with ⟨_, h2, h3⟩ | ⟨_, h2, h3⟩
    · rw [inv_eq B h2]; lia
    · rw [inv_eq B h2]; lia
  refine ⟨⟨B, fun k j hlt hw => ?_⟩, hmax⟩
  rw [hmax] at hw
  unfold mx at hlt
  split at hlt
  · have := T.2 k j hlt; lia
  · have := S.2 k j hlt; lia
omit hrk hW in
theorem mn_rk {σ τ : Fin 4 → Fin 4} (k : Fin 4) : rk k (mn rk σ τ k) = min (rk k (σ k)) (rk k (τ k)) := by
  unfold mn; split <;> omega
omit hrk hW in
theorem mx_rk {σ τ : Fin 4 → Fin 4} (k : Fin 4) : rk k (mx rk σ τ k) = max (rk k (σ k)) (rk k (τ k)) := by
  unfold mx; split <;> omega
end
end Mine
end
section
set_option genSizeOf false
set_option genSizeOfSpec false
set_option maxRecDepth 100000
namespace Mine
section
variable (rk : Fin 4 → Fin 4 → Nat)
noncomputable def ins (σ : Fin 4 → Fin 4) : List (Fin 4 → Fin 4) → List (Fin 4 → Fin 4)
  | [] => [σ]
  | τ :: T => mn rk σ τ :: ins (mx rk σ τ) T
noncomputable def srt : List (Fin 4 → Fin 4) → List (Fin 4 → Fin 4)
  | [] => []
  | σ :: T => ins rk σ (srt T)
end
noncomputable def Ord (l : List Int) : Prop := l.Pairwise (· ≤ ·)
noncomputable def insI (x : Int) : List Int → List Int
  | [] => [x]
  | y :: t => min x y :: insI (max x y) t
theorem insI_perm : ∀ (l : List Int) (x : Int), (insI x l).Perm (x :: l)
  | [], x => .refl _
  | y :: t, x => by
    unfold insI
    have ih := insI_perm t (max x y)
    by_cases h : x ≤ y
    · rw [Int.min_eq_left h, Int.max_eq_right h] at *
      exact (ih.cons x)
    · have h' : y ≤ x := by omega
      rw [Int.min_eq_right h', Int.max_eq_left h'] at *
      exact (ih.cons y).trans (.swap _ _ _)
theorem insI_ord : ∀ (l : List Int) (x : Int), Ord l → Ord (insI x l)
  | [], x, _ => List.pairwise_singleton _ _
  | y :: t, x, h => by
    unfold insI
    refine an2 (List.pairwise_cons.mp h) fun h1 h2 => ?_
    refine List.pairwise_cons.mpr ⟨fun z hz => ?_, insI_ord t _ h2⟩
    have := (insI_perm t (max x y)).mem_iff.mp hz
    rcases List.mem_cons.mp this with rfl | hz
    · lia
    · have := h1 z hz; lia
section
variable {rk : Fin 4 → Fin 4 → Nat} {W : Fin 4 → Fin 4 → Int} (hrk : ∀ k i j, rk k i = rk k j → i = j) (hW : ∀ j a b, W j a = W j b → a = b)
include hrk hW
theorem ins_all : ∀ (l : List (Fin 4 → Fin 4)) (σ : Fin 4 → Fin 4), Sta rk W σ → (∀ τ ∈ l, Sta rk W τ) → (∀ τ ∈ ins rk σ l, Sta rk W τ) ∧ (ins rk σ l).length = l.length + 1 ∧
    (∀ k, (ins rk σ l).map (fun τ => (rk k (τ k) : Int)) = insI (rk k (σ k)) (l.map fun τ => (rk k (τ k) : Int))) ∧ (∀ j, (ins rk σ l).map (fun τ => W j (inv τ j)) = insI (W j (inv σ j)) (l.map fun τ => W j (inv τ j)))
  | [], σ, S, _ => ⟨fun τ h => by have : τ = σ := by simpa [ins] using h
                                  subst this; exact S, rfl, fun _ => rfl, fun _ => rfl⟩
  | τ :: T, σ, S, H => by
    have Sτ := H τ List.mem_cons_self
    refine an2 (mn_sta hrk hW S Sτ) fun M hm => ?_
    refine an2 (mx_sta hrk hW S Sτ) fun X hx => ?_
    refine an4 (ins_all T (mx rk σ τ) X fun ρ h => H ρ (List.mem_cons_of_mem _ h)) fun i1 i2 i3 i4 => ?_
    refine ⟨fun ρ h => ?_, by simp [ins, i2], fun k => ?_, fun j => ?_⟩
    · rcases List.mem_cons.mp h with rfl | h
      · exact M
      · exact i1 ρ h
    · show ((rk k (mn rk σ τ k) : Int)) :: (ins rk (mx rk σ τ) T).map _ = min _ _ :: insI _ _
      rw [i3 k, mn_rk (rk := rk) (σ := σ) (τ := τ) k, mx_rk (rk := rk) (σ := σ) (τ := τ) k]
      dsimp only
      congr 1
      · omega
      · congr 1; omega
    · show W j (inv (mn rk σ τ) j) :: (ins rk (mx rk σ τ) T).map _ = min _ _ :: insI _ _
      rw [i4 j, hm, hx]
theorem srt_all : ∀ (l : List (Fin 4 → Fin 4)), (∀ τ ∈ l, Sta rk W τ) → (∀ τ ∈ srt rk l, Sta rk W τ) ∧ (srt rk l).length = l.length ∧
    (∀ k, Ord ((srt rk l).map fun τ => (rk k (τ k) : Int)) ∧ ((srt rk l).map fun τ => (rk k (τ k) : Int)).Perm (l.map fun τ => (rk k (τ k) : Int))) ∧
    (∀ j, Ord ((srt rk l).map fun τ => W j (inv τ j)) ∧ ((srt rk l).map fun τ => W j (inv τ j)).Perm (l.map fun τ => W j (inv τ j)))
  | [], _ => ⟨fun _ h => by simp [srt] at h, rfl, fun _ => ⟨List.Pairwise.nil, .refl _⟩, fun _ => ⟨List.Pairwise.nil, .refl _⟩⟩
  | σ :: T, H => by
    refine an4 (srt_all T fun ρ h => H ρ (List.mem_cons_of_mem _ h)) fun i1 i2 i3 i4 => ?_
    refine an4 (ins_all hrk hW (srt rk T) σ (H σ List.mem_cons_self) i1) fun j1 j2 j3 j4 => ?_
    refine ⟨j1, by show (ins rk σ (srt rk T)).length = _; rw [j2, i2]; rfl, fun k => ?_, fun j => ?_⟩
    · show Ord ((ins rk σ (srt rk T)).map _) ∧ ((ins rk σ (srt rk T)).map _).Perm _
      rw [j3 k]
      exact ⟨insI_ord _ _ (i3 k).1, (insI_perm _ _).trans ((i3 k).2.cons _)⟩
    · show Ord ((ins rk σ (srt rk T)).map _) ∧ ((ins rk σ (srt rk T)).map _).Perm _
      rw [j4 j]
      exact ⟨insI_ord _ _ (i4 j).1, (insI_perm _ _).trans ((i4 j).2.cons _)⟩
end
theorem ord_count : ∀ {l : List Int} {i : Nat} {v : Int}, Ord l → l[i]? = some v → l.countP (fun x => decide (x < v)) ≤ i ∧ i < l.countP (fun x => decide (x ≤ v))
  | [], i, v, _, h => by simp at h
  | a :: l, 0, v, ho, h => by
    refine an2 (List.pairwise_cons.mp ho) fun h1 h2 => ?_
    have : a = v := by simpa using h
    subst this
    have e : l.countP (fun x => decide (x < a)) = 0 := by
      rw [List.countP_eq_zero]
      intro x hx; have := h1 x hx; simp; omega
    rw [List.countP_cons_of_neg (by simp), e, List.countP_cons_of_pos (by simp)]
    omega
  | a :: l, i + 1, v, ho, h => by
    refine an2 (List.pairwise_cons.mp ho) fun h1 h2 => ?_
    have h' : l[i]? = some v := by simpa using h
    refine an2 (ord_count h2 h') fun c1 c2 => ?_
    have hv : v ∈ l := List.mem_of_getElem? h'
    have := h1 v hv
    rw [List.countP_cons_of_pos (p := fun x => decide (x ≤ v)) (by simpa using this)]
    rw [List.countP_cons]
    split <;> omega
noncomputable def takenF (col : List (Fin 4)) (place : Nat) : List (Fin 4) → Nat → Option (Fin 4)
  | [], _ => none
  | s :: r, c => if place < c + col.countP (fun x => decide (x = s)) then some s else takenF col place r (c + col.countP (fun x => decide (x = s)))
theorem count_step (ρ : Fin 4 → Nat) (hρ : ∀ i j, ρ i = ρ j → i = j) (s : Fin 4) : ∀ (col : List (Fin 4)), col.countP (fun x => decide (ρ x < ρ s)) + col.countP (fun x => decide (x = s)) = col.countP (fun x => decide (ρ x < ρ s + 1))
  | [] => rfl
  | a :: col => by
    have ih := count_step ρ hρ s col
    rw [List.countP_cons, List.countP_cons, List.countP_cons]
    by_cases h : a = s
    · subst h; simp; lia
    · have : ρ a ≠ ρ s := fun q => h (hρ _ _ q)
      by_cases h2 : ρ a < ρ s
      · simp [h, h2, show ρ a < ρ s + 1 by lia]; lia
      · simp [h, h2, show ¬ ρ a < ρ s + 1 by lia]; lia
theorem count_mono {α : Type} {p q : α → Bool} (h : ∀ x, p x = true → q x = true) (l : List α) : l.countP p ≤ l.countP q := List.countP_mono_left fun x _ => h x
theorem taken_eq (ρ : Fin 4 → Nat) (hρ : ∀ i j, ρ i = ρ j → i = j) (col : List (Fin 4)) (place : Nat) (e : Fin 4) (h1 : col.countP (fun x => decide (ρ x < ρ e)) ≤ place) (h2 : place < col.countP (fun x => decide (ρ x ≤ ρ e))) :
    ∀ (rest : List (Fin 4)) (m : Nat), (∀ i s, rest[i]? = some s → ρ s = m + i) → m ≤ ρ e → e ∈ rest → takenF col place rest (col.countP fun x => decide (ρ x < m)) = some e
  | [], m, _, _, he => by simp at he
  | s :: r, m, hr, hm, he => by
    have hs : ρ s = m := hr 0 s rfl
    unfold takenF
    have hc : col.countP (fun x => decide (ρ x < m)) + col.countP (fun x => decide (x = s)) = col.countP (fun x => decide (ρ x < m + 1)) := by
      rw [← hs]; exact count_step ρ hρ s col
    rw [hc]
    by_cases hme : ρ e = m
    · have : e = s := hρ _ _ (hme.trans hs.symm)
      subst this
      have : place < col.countP (fun x => decide (ρ x < m + 1)) := Nat.lt_of_lt_of_le h2 (count_mono (fun x h => by
        have := of_decide_eq_true h
        exact decide_eq_true (by lia)) col)
      rw [if_pos this]
    · have hle : col.countP (fun x => decide (ρ x < m + 1)) ≤ col.countP (fun x => decide (ρ x < ρ e)) := count_mono (fun x h => by
        have := of_decide_eq_true h
        exact decide_eq_true (by lia)) col
      rw [if_neg (by lia)]
      have he' : e ∈ r := by
        rcases List.mem_cons.mp he with rfl | h
        · exact absurd hs hme
        · exact h
      exact taken_eq ρ hρ col place e h1 h2 r (m + 1) (fun i s h => by have := hr (i + 1) s (by simpa using h); lia) (by lia) he'
end Mine
end
section
set_option genSizeOf false
set_option genSizeOfSpec false
set_option maxRecDepth 100000
namespace Mine
theorem exists_sta {rk : Fin 4 → Fin 4 → Nat} {W : Fin 4 → Fin 4 → Int} (hrk : ∀ k i j, rk k i = rk k j → i = j) (hW : ∀ j a b, W j a = W j b → a = b) (g : Fin 4 → Fin 4 → Fin 4) (hg : ∀ k m, rk k (g k m) = m.val) : ∃ σ, Sta rk W σ := by
  have gs : ∀ k j, ∃ m, g k m = j := fun k => (bj_inj (σ := g k) fun i j e => Fin.ext (by rw [← hg k i, ← hg k j, e])).sur
  have go : ∀ (N : Nat) (t : Fin 4 → Fin 4), 13 ≤ (t 0).val + (t 1).val + (t 2).val + (t 3).val + N → (∀ k j, rk k j < (t k).val → ∃ y, g y (t y) = j ∧ W j k < W j y) → ∃ σ, Sta rk W σ := by
    intro N
    induction N with
    | zero => intro t h _; have := (t 0).isLt; have := (t 1).isLt; have := (t 2).isLt; have := (t 3).isLt; lia
    | succ N ih =>
      intro t hN I
      by_cases hinj : ∀ i j, g i (t i) = g j (t j) → i = j
      · have B : Bj (fun k => g k (t k)) := bj_inj hinj
        refine ⟨fun k => g k (t k), B, fun k j hlt => ?_⟩
        have hlt' : rk k j < (t k).val := by rw [← hg k (t k)]; exact hlt
        refine ex1_2 (I k j hlt') fun y hy hw => ?_
        rw [inv_eq B hy]; lia
      · refine ex1_1 (Classical.not_forall.mp hinj) fun a ha => ?_
        refine ex1_1 (Classical.not_forall.mp ha) fun b hb => ?_
        refine an2 (Classical.not_imp.mp hb) fun heq hne => ?_
        have key : ∀ k k', k ≠ k' → g k (t k) = g k' (t k') → W (g k (t k)) k < W (g k (t k)) k' → ∃ σ, Sta rk W σ := by
          intro k k' hkk e hw
          have hlt3 : (t k).val < 3 := by
            apply Classical.byContradiction
            intro h3
            have h3' : (t k).val = 3 := by have := (t k).isLt; lia
            have all : ∀ j, ∃ y, y ≠ k ∧ g y (t y) = j := by
              intro j
              refine ex1_1 (gs k j) fun m hm => ?_
              by_cases h : rk k j < 3
              · refine ex1_2 (I k j (by lia)) fun y hy hw => ?_
                refine ⟨y, fun q => ?_, hy⟩
                subst q; lia
              · have hm' : rk k j = m.val := by rw [← hm]; exact hg k m
                have : m = t k := Fin.ext (by have := m.isLt; lia)
                subst this
                exact ⟨k', fun q => hkk q.symm, by rw [← e, hm]⟩
            refine ex1_1 (Classical.axiomOfChoice all) fun f hf => ?_
            have fB : Bj f := bj_inj fun i j e => by rw [← (hf i).2, ← (hf j).2, e]
            refine ex1_1 (fB.sur k) fun j hj => ?_
            exact (hf j).1 hj
          have hval : ((⟨(t k).val + 1, by lia⟩ : Fin 4)).val = (t k).val + 1 := rfl
          refine ih (fun x => if x = k then ⟨(t k).val + 1, by lia⟩ else t x) ?_ ?_
          · have h4 : ∀ x : Fin 4, ((if x = k then (⟨(t k).val + 1, by lia⟩ : Fin 4) else t x)).val = (t x).val + (if x = k then 1 else 0) := fun x => by
              split
              · rename_i q; subst q; rfl
              · rfl
            rw [h4 0, h4 1, h4 2, h4 3]
            have hone : (1 : Nat) ≤ (if (0 : Fin 4) = k then 1 else 0) + (if (1 : Fin 4) = k then 1 else 0) + (if (2 : Fin 4) = k then 1 else 0) + (if (3 : Fin 4) = k then 1 else 0) := fin4 (fun k => (1 : Nat) ≤ (if (0 : Fin 4) = k then 1 else 0) + (if (1 : Fin 4) = k then 1 else 0) + (if (2 : Fin 4) = k then 1 else 0) + (if (3 : Fin 4) = k then 1 else 0)) (by decide) (by decide) (by decide) (by decide) k
            lia
          · have wit : ∀ x j, (∃ y, g y (t y) = j ∧ W j x < W j y) → ∃ y, g y (if y = k then ⟨(t k).val + 1, by lia⟩ else t y) = j ∧ W j x < W j y := by
              rintro x j ⟨y, hy, hwy⟩
              by_cases hyk : y = k
              · subst hyk
                refine ⟨k', ?_, ?_⟩
                · rw [if_neg (fun q => hkk q.symm), ← e]; exact hy
                · rw [hy] at hw; lia
              · exact ⟨y, by rw [if_neg hyk]; exact hy, hwy⟩
            intro x j hlt
            split at hlt
            · rename_i hx
              subst hx
              by_cases hj : rk x j < (t x).val
              · exact wit x j (I x j hj)
              · have : j = g x (t x) := hrk x _ _ (by rw [hg]; rw [hval] at hlt; lia)
                subst this
                exact ⟨k', by rw [if_neg (fun q => hkk q.symm), ← e], hw⟩
            · exact wit x j (I x j hlt)
        by_cases hw : W (g a (t a)) a < W (g a (t a)) b
        · exact key a b hne heq hw
        · have hne' : W (g a (t a)) a ≠ W (g a (t a)) b := fun q => hne (hW _ _ _ q)
          exact key b a (fun q => hne q.symm) heq.symm (by rw [← heq]; lia)
  exact go 13 (fun _ => 0) (by lia) fun k j h => absurd h (Nat.not_lt_zero _)
theorem goS_iff (W : Fin 4 → Fin 4 → Int) (σ : Fin 4 → Fin 4) (k : Fin 4) : ∀ l : List (Fin 4), goS W σ k l = true ↔ ∀ j, l.idxOf j < l.idxOf (σ k) → ¬ W j (inv σ j) < W j k
  | [] => by simp [goS]
  | a :: r => by
    have ih := goS_iff W σ k r
    unfold goS
    by_cases h1 : a = σ k
    · rw [if_pos h1]
      subst h1
      simp [List.idxOf_cons]
    · rw [if_neg h1]
      have hb : (a == σ k) = false := by simpa using h1
      by_cases h2 : W a (inv σ a) < W a k
      · rw [if_pos h2]
        refine ⟨fun h => (by cases h), fun h => absurd h2 (h a ?_)⟩
        simp [List.idxOf_cons, hb]
      · rw [if_neg h2, ih]
        refine ⟨fun h j hj => ?_, fun h j hj => ?_⟩
        · by_cases hja : a = j
          · subst hja; exact h2
          · have hb2 : (a == j) = false := by simpa using hja
            exact h j (by simpa [List.idxOf_cons, hb, hb2] using hj)
        · by_cases hja : a = j
          · subst hja; exact h2
          · have hb2 : (a == j) = false := by simpa using hja
            exact h j (by simpa [List.idxOf_cons, hb, hb2] using hj)
structure RowOk (l : List (Fin 4)) : Prop where
  nd : l.Nodup
  all : ∀ j, j ∈ l
theorem RowOk.inj {l : List (Fin 4)} (R : RowOk l) {i j : Fin 4} (h : l.idxOf i = l.idxOf j) : i = j := by
  have hi := List.idxOf_lt_length_of_mem (R.all i)
  have hj := List.idxOf_lt_length_of_mem (R.all j)
  have e1 : l[l.idxOf i] = i := List.getElem_idxOf hi
  have e2 : l[l.idxOf j] = j := List.getElem_idxOf hj
  rw [← e1, ← e2]
  simp only [h]
theorem RowOk.at {l : List (Fin 4)} (R : RowOk l) : ∀ i s, l[i]? = some s → l.idxOf s = 0 + i := fun i s h => by
  obtain ⟨hi, e⟩ := List.getElem?_eq_some_iff.mp h
  have hs := List.idxOf_lt_length_of_mem (R.all s)
  have e2 : l[l.idxOf s] = s := List.getElem_idxOf hs
  have := (List.getElem_inj (h₀ := hs) (h₁ := hi) R.nd).mp (e2.trans e.symm)
  omega
section
variable {F B : Fin 4 → List (Fin 4)} (hF : ∀ k, RowOk (F k)) (hB : ∀ j, RowOk (B j))
noncomputable def rkF (F : Fin 4 → List (Fin 4)) (k j : Fin 4) : Nat := (F k).idxOf j
noncomputable def wB (B : Fin 4 → List (Fin 4)) (j i : Fin 4) : Int := ((B j).idxOf i : Nat)
theorem st_iff (σ : Fin 4 → Fin 4) : stB F (wB B) σ = true ↔ ∀ k j, rkF F k j < rkF F k (σ k) → ¬ wB B j (inv σ j) < wB B j k := by
  unfold stB
  rw [List.all_eq_true]
  refine ⟨fun h k => (goS_iff _ _ _ _).mp (h k (fin4 (fun k => k ∈ f4) (by decide) (by decide) (by decide) (by decide) k)), fun h k _ => (goS_iff _ _ _ _).mpr (h k)⟩
include hF hB
theorem rk_inj : ∀ k i j, rkF F k i = rkF F k j → i = j := fun k i j h => (hF k).inj h
theorem w_inj : ∀ j a b, wB B j a = wB B j b → a = b := fun j a b h => (hB j).inj (by unfold wB at h; omega)
theorem ex_sta : ∃ σ, Sta (rkF F) (wB B) σ := by
  have hlen : ∀ k (m : Fin 4), ∃ s, (F k)[m.val]? = some s := fun k m => by
    have hl : 4 ≤ (F k).length := by
      apply Classical.byContradiction
      intro h
      have hlt : ∀ j, (F k).idxOf j < 3 := fun j => by have := List.idxOf_lt_length_of_mem ((hF k).all j); lia
      have := (hF k).inj (i := 0) (j := 1)
      have := (hF k).inj (i := 0) (j := 2)
      have := (hF k).inj (i := 0) (j := 3)
      have := (hF k).inj (i := 1) (j := 2)
      have := (hF k).inj (i := 1) (j := 3)
      have := (hF k).inj (i := 2) (j := 3)
      have h0 := hlt 0; have h1 := hlt 1; have h2 := hlt 2; have h3 := hlt 3
      have n01 : (F k).idxOf 0 ≠ (F k).idxOf 1 := fun q => absurd ((hF k).inj q) (by decide)
      have n02 : (F k).idxOf 0 ≠ (F k).idxOf 2 := fun q => absurd ((hF k).inj q) (by decide)
      have n03 : (F k).idxOf 0 ≠ (F k).idxOf 3 := fun q => absurd ((hF k).inj q) (by decide)
      have n12 : (F k).idxOf 1 ≠ (F k).idxOf 2 := fun q => absurd ((hF k).inj q) (by decide)
      have n13 : (F k).idxOf 1 ≠ (F k).idxOf 3 := fun q => absurd ((hF k).inj q) (by decide)
      have n23 : (F k).idxOf 2 ≠ (F k).idxOf 3 := fun q => absurd ((hF k).inj q) (by decide)
      omega
    have : m.val < (F k).length := by have := m.isLt; lia
    exact ⟨_, List.getElem?_eq_getElem this⟩
  have : ∀ k, ∃ g : Fin 4 → Fin 4, ∀ m, (F k)[m.val]? = some (g m) := fun k => Classical.axiomOfChoice (hlen k)
  refine ex1_1 (Classical.axiomOfChoice this) fun g hg => ?_
  exact exists_sta (rk_inj hF hB) (w_inj hF hB) g fun k m => by
    have := (hF k).at _ _ (hg k m)
    unfold rkF
    lia
end
end Mine
end
section
set_option genSizeOf false
set_option genSizeOfSpec false
set_option maxRecDepth 100000
namespace Mine
open PySem
noncomputable def rowG (c : List (Fin 4)) (k0 k1 k2 : Nat) : List (Fin 4) :=
  let l1 := c.eraseIdx k0
  let l2 := l1.eraseIdx k1
  let l3 := l2.eraseIdx k2
  [c.getD k0 0, l1.getD k1 0, l2.getD k2 0, l3.getD 0 0]
noncomputable def rot (k : Fin 4) : List (Fin 4) := [k, k + 1, k + 2, k + 3]
noncomputable def rot2 (k : Fin 4) : List (Fin 4) := [k + 1, k + 2, k + 3, k]
noncomputable def sg (k : Fin 4) : Str := ⟨((rot k).map fun j => 97 + j.val).toArray⟩
noncomputable def sg2 (k : Fin 4) : Str := ⟨((rot2 k).map fun j => 65 + j.val).toArray⟩
theorem sg_chars (k : Fin 4) : charsOf (sg k) = (rot k).map L := rfl
theorem sg2_chars (k : Fin 4) : charsOf (sg2 k) = (rot2 k).map U := rfl
theorem mem_ks {k0 k1 k2 : Nat} (h0 : k0 < 4) (h1 : k1 < 3) (h2 : k2 < 2) : (k0, k1, k2) ∈ ks := by
  unfold ks
  simp only [List.mem_flatMap, List.mem_map, List.mem_range]
  exact ⟨k0, h0, k1, h1, k2, h2, rfl⟩
theorem dig_mem (N : Int) : dig N ∈ ks := mem_ks (fm (by decide)).2 (fm (by decide)).2 (fm (by decide)).2
theorem row_map : ∀ k : Fin 4, ∀ q ∈ ks, rowK ((rot k).map L) q.1 q.2.1 q.2.2 = (rowG (rot k) q.1 q.2.1 q.2.2).map L ∧ rowK ((rot2 k).map U) q.1 q.2.1 q.2.2 = (rowG (rot2 k) q.1 q.2.1 q.2.2).map U := by decide +kernel
theorem row_all : ∀ k : Fin 4, ∀ q ∈ ks, ((rowG (rot k) q.1 q.2.1 q.2.2).Nodup ∧ ∀ j, j ∈ rowG (rot k) q.1 q.2.1 q.2.2) ∧ ((rowG (rot2 k) q.1 q.2.1 q.2.2).Nodup ∧ ∀ j, j ∈ rowG (rot2 k) q.1 q.2.1 q.2.2) := by decide +kernel
theorem rowOk1 (k : Fin 4) {q : Nat × Nat × Nat} (h : q ∈ ks) : RowOk (rowG (rot k) q.1 q.2.1 q.2.2) := ⟨(row_all k q h).1.1, (row_all k q h).1.2⟩
theorem rowOk2 (k : Fin 4) {q : Nat × Nat × Nat} (h : q ∈ ks) : RowOk (rowG (rot2 k) q.1 q.2.1 q.2.2).reverse :=
  ⟨List.pairwise_reverse.mpr (((row_all k q h).2.1 : List.Pairwise (· ≠ ·) _).imp fun h => h.symm), fun j => List.mem_reverse.mpr ((row_all k q h).2.2 j)⟩
noncomputable def tl (k : Fin 4) : Str := match k with | 0 => ": is.it:" | 1 => "\nor.not:\n" | 2 => ":x\n.y" | 3 => ""
noncomputable def tl2 (k : Fin 4) : Str := match k with | 0 => "" | 1 => "\n" | 2 => "" | 3 => "\n"
noncomputable def namesOf (n : Nat) (k : Fin 4) (q : Nat × Nat × Nat) : Option (V × P) := (runM (n + 40)).call "_law_names" [.lst ((rowG (rot k) q.1 q.2.1 q.2.2).map fun j => .ustr (L j)), .str (tl k)] none
noncomputable def figsOf (n : Nat) (k : Fin 4) (q : Nat × Nat × Nat) : Option (V × P) := (runM (n + 40)).call "_law_figures" [.str (L k), .lst ((rowG (rot2 k) q.1 q.2.1 q.2.2).map fun j => .ustr (U j)), .str (tl2 k)] none
noncomputable def rowV (f : Fin 4 → Str) (l : List (Fin 4)) : V := .lst (l.map fun j => .str (f j))
end Mine
end
section
set_option genSizeOf false
set_option genSizeOfSpec false
set_option maxRecDepth 100000
namespace Mine
open PySem
theorem strs_map (f : Fin 4 → Str) : ∀ l : List (Fin 4), strs? (l.map fun j => V.str (f j)) = some (l.map f)
  | [] => rfl
  | a :: l => by show (strs? (l.map fun j => V.str (f j))).map (f a :: ·) = _; rw [strs_map f l]; rfl
theorem ustrs_map (f : Fin 4 → Str) : ∀ l : List (Fin 4), strs? (l.map fun j => V.ustr (f j)) = some (l.map f)
  | [] => rfl
  | a :: l => by show (strs? (l.map fun j => V.ustr (f j))).map (f a :: ·) = _; rw [ustrs_map f l]; rfl
theorem okC_L : ∀ j : Fin 4, okC (L j) = true := by decide +kernel
theorem okC_U : ∀ j : Fin 4, okC (U j) = true := by decide +kernel
theorem eq_rows {f : Fin 4 → Str} (hf : ∀ j, okC (f j) = true) (l : List (Fin 4)) : cmpV .NotEq (.lst (l.map fun j => .str (f j))) (.lst (l.map fun j => .ustr (f j))) = some false := by
  show (eqV (.lst (l.map fun j => .str (f j))) (.lst (l.map fun j => .ustr (f j)))).map not = _
  unfold eqV
  dsimp only
  rw [strs_map, ustrs_map]
  dsimp only
  unfold eqS
  have : (l.map f).all okC = true := by rw [List.all_map]; exact List.all_eq_true.mpr fun j _ => hf j
  rw [this]
  simp
end Mine
end
section
set_option genSizeOf false
set_option genSizeOfSpec false
set_option maxRecDepth 100000
namespace Mine
open PySem
noncomputable def lawD : Df := (df? "law").getD ⟨[], [], { kind := .function, names := [], isGenerator := false, isCoroutine := false }⟩
theorem law_d : df? "law" = some lawD := by kernel_rfl
section
variable {n : Nat} {p : P} {me : Me} {QS : Fl → Me → P → Prop}
theorem ints_map : ∀ l : List Int, ints? (l.map .int) = some l
  | [] => rfl
  | a :: l => by show (ints? (l.map .int)).map (a :: ·) = _; rw [ints_map l]; rfl
theorem pick_map (l : List Int) (lo hi st : Option Int) : pickL (l.map V.int) lo hi st = (pickL l lo hi st).map .int := by
  unfold pickL
  rw [List.length_map]
  generalize sliceRange _ _ _ = r
  induction r with
  | nil => rfl
  | cons i r ih =>
    rw [List.filterMap_cons, List.filterMap_cons, List.getElem?_map]
    cases l[i]? with
    | none => exact ih
    | some a => show _ :: _ = _ :: _; rw [ih]
noncomputable def cell (ns : List Int) (i : Nat) : Int := (pickL ns (some (i : Int)) none (some 8)).sum
noncomputable def cellsV (ns : List Int) : V := .lst ((List.range 8).map fun i => V.int (cell ns i))
theorem cells_line (ns : List Int) (hn : ns.length ≤ 63) (hs : Has me "script" false (.lst (ns.map .int)))
    (h : OS ((runM (n + 59)).exs lawD.scope (put me "cells" false (cellsV ns)) (lawD.body.drop 1) p) QS) : OS ((runM (n + 59)).exs lawD.scope me lawD.body p) QS := by
  refine x_cons (out_id (by rfl)) ?_
  refine x_AsgComp (by rfl) ?_
  refine q_Comp ?_ (by rfl) (by rfl) ?_
  · refine fo_other (by decide) (fo_other (by decide) (fo_other (by decide) (fo_free (by rfl) hs fo_nil)))
  refine s_range (by rfl) rfl (q_int ⟨8, _, rfl, rfl, ?_⟩)
  refine ⟨fun _ => true, fun v => match v with | .int i => .int (pickL ns (some i) none (some 8)).sum | _ => .none, fun v hv => ⟨true, p, rfl, rfl, rfl⟩, fun v hv _ => ?_, by decide, ?_⟩
  · refine ex1_2 (List.mem_map.mp hv) fun i hi q_82 => ?_
    subst q_82
    refine q_Fn (by rfl) (by rfl) (by rfl) (by rfl) ?_
    refine q_evs_cons rfl (q_Cut ?_)
    refine q_Name (by rfl) (by rfl) (put_ne (by rfl) (clos_look (by rfl) hs)) ?_
    refine q_Name (by rfl) (by rfl) put_self ?_
    refine q_int ?_
    refine ⟨.lst ((pickL ns (some (i : Int)) none (some 8)).map .int), ?_, ?_⟩
    · show (if (some (8 : Int)) = some 0 then Option.none else (okL (ns.map V.int)).map fun xs => V.lst (pickL xs (some (i : Int)) none (some 8))) = _
      rw [if_neg (by decide), okL_some (by rw [List.length_map]; exact Nat.le_trans hn (by decide))]
      show some (V.lst _) = _
      rw [pick_map]
    refine q_evs_nil ?_
    refine ⟨.int (pickL ns (some (i : Int)) none (some 8)).sum, p, ?_, rfl, rfl⟩
    show (ints? _).map (fun l => (V.int l.sum, p)) = _
    rw [ints_map]; rfl
  · exact h
end
end Mine
end
section
set_option genSizeOf false
set_option genSizeOfSpec false
set_option maxRecDepth 100000
namespace Mine
open PySem
theorem item_last {l : List V} {x : V} {k : Nat} (h : l.length = k) (hc : k + 1 ≤ cap) : itemV (.lst (l ++ [x])) (.int (k : Int)) = some x := by
  subst h
  have hl : (l ++ [x]).length = l.length + 1 := by simp
  show (okL (l ++ [x])).bind (fun xs => (place xs.length (l.length : Int)).bind fun j => xs[j]?) = _
  rw [okL_some (by rw [hl]; exact hc)]
  dsimp only [Option.bind_some]
  have hp : place (l ++ [x]).length (l.length : Int) = some l.length := by
    unfold place
    rw [if_pos (by lia), if_pos (by rw [hl]; lia)]; rfl
  rw [hp]
  simp
theorem f4_pre {pre r : List (Fin 4)} {k : Fin 4} (h : f4 = pre ++ k :: r) : pre.length = k.val := by
  have e : f4[pre.length]? = some k := by rw [h]; simp
  have : ∀ i, f4[i]? = some k → i = k.val := by
    intro i hi
    match i, hi with
    | 0, hi => have : (0 : Fin 4) = k := by simpa [f4] using hi
               subst this; rfl
    | 1, hi => have : (1 : Fin 4) = k := by simpa [f4] using hi
               subst this; rfl
    | 2, hi => have : (2 : Fin 4) = k := by simpa [f4] using hi
               subst this; rfl
    | 3, hi => have : (3 : Fin 4) = k := by simpa [f4] using hi
               subst this; rfl
    | i + 4, hi => simp [f4] at hi
  exact this _ e
section
variable {n : Nat} {p : P} {me : Me} {QS : Fl → Me → P → Prop}
theorem slice_abcd : ∀ k : Fin 4, ∃ a b, cutV (.str "abcd") (.int (k.val : Int)) .none .none = some (.str a) ∧ cutV (.str "abcd") .none (.int (k.val : Int)) .none = some (.str b) ∧ binV .Add (.str a) (.str b) = some (.str (sg k)) :=
  fin4 _ ⟨_, _, rfl, rfl, rfl⟩ ⟨_, _, rfl, rfl, rfl⟩ ⟨_, _, rfl, rfl, rfl⟩ ⟨_, _, rfl, rfl, rfl⟩
theorem slice_ABCD : ∀ k : Fin 4, ∃ a b, cutV (.str "ABCD") (.int ((k.val : Int) + 1)) .none .none = some (.str a) ∧ cutV (.str "ABCD") .none (.int ((k.val : Int) + 1)) .none = some (.str b) ∧ binV .Add (.str a) (.str b) = some (.str (sg2 k)) :=
  fin4 _ ⟨_, _, rfl, rfl, rfl⟩ ⟨_, _, rfl, rfl, rfl⟩ ⟨_, _, rfl, rfl, rfl⟩ ⟨_, _, rfl, rfl, rfl⟩
theorem cell_item (ns : List Int) (k : Fin 4) : itemV (cellsV ns) (.int (k.val : Int)) = some (.int (cell ns k.val)) ∧ itemV (cellsV ns) (.int ((k.val : Int) + 4)) = some (.int (cell ns (k.val + 4))) :=
  fin4 (fun k => itemV (cellsV ns) (.int (k.val : Int)) = some (.int (cell ns k.val)) ∧ itemV (cellsV ns) (.int ((k.val : Int) + 4)) = some (.int (cell ns (k.val + 4)))) ⟨rfl, rfl⟩ ⟨rfl, rfl⟩ ⟨rfl, rfl⟩ ⟨rfl, rfl⟩ k
theorem tail_item (k : Fin 4) : itemV (.lst [.str ": is.it:", .str "\nor.not:\n", .str ":x\n.y", .str ""]) (.int (k.val : Int)) = some (.str (tl k)) :=
  fin4 (fun k => itemV (.lst [.str ": is.it:", .str "\nor.not:\n", .str ":x\n.y", .str ""]) (.int (k.val : Int)) = some (.str (tl k))) rfl rfl rfl rfl k
theorem tail_item2 (k : Fin 4) : itemV (.lst [.str "", .str "\n"]) (.int (Int.fmod (k.val : Int) 2)) = some (.str (tl2 k)) :=
  fin4 (fun k => itemV (.lst [.str "", .str "\n"]) (.int (Int.fmod (k.val : Int) 2)) = some (.str (tl2 k))) rfl rfl rfl rfl k
theorem sign_item (k : Fin 4) : itemV (.str "abcd") (.int (k.val : Int)) = some (.str (L k)) :=
  fin4 (fun k => itemV (.str "abcd") (.int (k.val : Int)) = some (.str (L k))) rfl rfl rfl rfl k
theorem rev4 : sliceRange (sliceBounds none none (some (-1)) 4).1 (sliceBounds none none (some (-1)) 4).2.1 (sliceBounds none none (some (-1)) 4).2.2 = [3, 2, 1, 0] := by decide +kernel
theorem rev_four (w x y z : V) : cutV (.lst [w, x, y, z]) .none .none (.int (-1)) = some (.lst [z, y, x, w]) := by
  show (if (some (-1 : Int)) = some 0 then Option.none else (okL [w, x, y, z]).map fun xs => V.lst (pickL xs none none (some (-1)))) = _
  rw [if_neg (by decide), okL_some (by show 4 ≤ 4096; decide)]
  show some (V.lst (pickL [w, x, y, z] none none (some (-1)))) = _
  have : pickL [w, x, y, z] none none (some (-1)) = [3, 2, 1, 0].filterMap ([w, x, y, z][·]?) := by
    rw [← rev4]; rfl
  rw [this]; rfl
theorem rev_row (c : List (Fin 4)) (a b d : Nat) (f : Fin 4 → V) : cutV (.lst ((rowG c a b d).map f)) .none .none (.int (-1)) = some (.lst ((rowG c a b d).reverse.map f)) := rev_four _ _ _ _
noncomputable def frow (ns : List Int) (k : Fin 4) : List (Fin 4) := rowG (rot k) (dig (cell ns k.val)).1 (dig (cell ns k.val)).2.1 (dig (cell ns k.val)).2.2
noncomputable def brow (ns : List Int) (k : Fin 4) : List (Fin 4) := (rowG (rot2 k) (dig (cell ns (k.val + 4))).1 (dig (cell ns (k.val + 4))).2.1 (dig (cell ns (k.val + 4))).2.2).reverse
theorem frow_ok (ns : List Int) (k : Fin 4) : RowOk (frow ns k) := rowOk1 k (dig_mem _)
theorem brow_ok (ns : List Int) (k : Fin 4) : RowOk (brow ns k) := rowOk2 k (dig_mem _)
theorem draw_line (ns : List Int) (hn : ∀ (n : Nat) (k : Fin 4) (q : Nat × Nat × Nat), q ∈ ks → namesOf n k q = some (rowV L (rowG (rot k) q.1 q.2.1 q.2.2), none)) (hf : ∀ (n : Nat) (k : Fin 4) (q : Nat × Nat × Nat), q ∈ ks → figsOf n k q = some (rowV U (rowG (rot2 k) q.1 q.2.1 q.2.2).reverse, none))
    (hc : Has me "cells" false (cellsV ns))
    (h : ∀ me', Has me' "front" true (.lst (f4.map fun k => rowV L (frow ns k))) → Has me' "behind" true (.lst (f4.map fun k => rowV U (brow ns k))) → OS ((runM (n + 59)).exs lawD.scope me' (lawD.body.drop 4) none) QS) :
    OS ((runM (n + 59)).exs lawD.scope me (lawD.body.drop 1) none) QS := by
  refine x_cons (out_id (by rfl)) ?_
  refine x_AsgList (by rfl) (q_evs_nil ⟨by decide, ?_⟩)
  refine x_cons (out_id (by rfl)) ?_
  refine x_AsgList (by rfl) (q_evs_nil ⟨by decide, ?_⟩)
  refine x_cons (out_id (by rfl)) ?_
  refine x_For (by rfl) ?_
  refine s_range (by rfl) rfl (q_int ⟨4, _, rfl, range4, ?_⟩)
  refine l_inv (fun r me => ∃ (pre r' : List (Fin 4)), r = r'.map (fun k => V.int (k.val : Int)) ∧ f4 = pre ++ r' ∧ Has me "cells" false (cellsV ns) ∧ Has me "front" true (.lst (pre.map fun k => rowV L (frow ns k))) ∧ Has me "behind" true (.lst (pre.map fun k => rowV U (brow ns k)))) ?_ ?_ ⟨[], f4, rfl, rfl, put_ne (by rfl) (put_ne (by rfl) hc), put_ne (by rfl) put_self, put_self⟩
  · rintro v r me ⟨pre, r', hr, hpre, hc, hF, hB⟩
    cases r' with
    | nil => cases hr
    | cons k r' =>
      refine an2 (List.cons.inj hr) fun q_160 q_161 => ?_
      subst q_160
      subst q_161
      have hlen := f4_pre hpre
      have hk4 := k.isLt
      refine ex2_3 (slice_abcd k) fun a1 b1 s1 s2 s3 => ?_
      refine ex2_3 (slice_ABCD k) fun a2 b2 s4 s5 s6 => ?_
      refine x_cons (out_id (by rfl)) ?_
      refine x_Asg rfl (by rfl) ?_
      refine q_Call (by rfl) (by rfl) (by rfl) (by rfl) ?_
      refine q_evs_cons rfl (q_Bin (q_Cut (q_str (by rfl) (q_Name (by rfl) (by rfl) put_self ⟨_, s1, ?_⟩))))
      refine q_Cut (q_str (by rfl) (q_Name (by rfl) (by rfl) put_self ⟨_, s2, _, s3, ?_⟩))
      refine q_evs_cons rfl (q_SubName (by intros; simp) (by rfl) (by rfl) (put_ne (by rfl) hc) (q_Name (by rfl) (by rfl) put_self ⟨_, (cell_item ns k).1, ?_⟩))
      refine q_evs_nil ?_
      refine (row_run (sg k) _ (by rw [sg_chars]; rfl)).mono fun v q hv => ?_
      refine an2 (hv) fun q_290 q_291 => ?_
      subst q_290
      subst q_291
      refine ⟨rfl, ?_⟩
      have erow : (rowK (charsOf (sg k)) (dig (cell ns k.val)).1 (dig (cell ns k.val)).2.1 (dig (cell ns k.val)).2.2).map V.ustr = (frow ns k).map fun j => .ustr (L j) := by
        rw [sg_chars, (row_map k _ (dig_mem _)).1, List.map_map]; rfl
      rw [erow]
      refine x_cons (out_id (by rfl)) ?_
      refine x_Append (by decide) (by rfl) rfl rfl (by rfl) (put_ne (by rfl) (put_ne (by rfl) hF)) ?_
      refine q_Call (by rfl) (by rfl) (by rfl) (by rfl) ?_
      refine q_evs_cons rfl (q_Name (by rfl) (by rfl) put_self ?_)
      refine q_evs_cons rfl (q_Sub rfl rfl (q_List ?_))
      refine q_evs_cons rfl (q_str (by rfl) (q_evs_cons rfl (q_str (by rfl) (q_evs_cons rfl (q_str (by rfl) (q_evs_cons rfl (q_str (by rfl) (q_evs_nil ⟨by decide, ?_⟩))))))))
      refine q_Name (by rfl) (by rfl) (put_ne (by rfl) put_self) ⟨_, tail_item k, ?_⟩
      refine q_evs_nil ?_
      refine OE.of (hn _ k _ (dig_mem (cell ns k.val))) ⟨rfl, ?_, ?_⟩
      · rw [List.length_append, List.length_map, hlen, List.length_singleton]; show _ ≤ 4096; lia
      refine x_cons (out_id (by rfl)) ?_
      refine x_If ?_
      refine t_Cmp (by rfl) ?_
      refine q_SubName (by intros; simp) (by rfl) (by rfl) put_self (q_Name (by rfl) (by rfl) (put_ne (by rfl) (put_ne (by rfl) put_self)) ⟨_, item_last (by rw [List.length_map, hlen]) (by show _ ≤ 4096; lia), ?_⟩)
      refine q_Name (by rfl) (by rfl) (put_ne (by rfl) put_self) ⟨false, eq_rows okC_L (frow ns k), fun hd => (by cases hd), fun _ => ?_⟩
      refine x_nil ?_
      refine x_cons (out_id (by rfl)) ?_
      refine x_Asg rfl (by rfl) ?_
      refine q_Call (by rfl) (by rfl) (by rfl) (by rfl) ?_
      refine q_evs_cons rfl (q_Bin (q_Cut (q_str (by rfl) (q_Bin (q_Name (by rfl) (by rfl) (put_ne (by rfl) (put_ne (by rfl) put_self)) (q_int ⟨_, rfl, ⟨_, s4, ?_⟩⟩))))))
      refine q_Cut (q_str (by rfl) (q_Bin (q_Name (by rfl) (by rfl) (put_ne (by rfl) (put_ne (by rfl) put_self)) (q_int ⟨_, rfl, ⟨_, s5, _, s6, ?_⟩⟩))))
      refine q_evs_cons rfl (q_SubName (by intros; simp) (by rfl) (by rfl) (put_ne (by rfl) (put_ne (by rfl) (put_ne (by rfl) hc))) (q_Bin (q_Name (by rfl) (by rfl) (put_ne (by rfl) (put_ne (by rfl) put_self)) (q_int ⟨_, rfl, _, (cell_item ns k).2, ?_⟩))))
      refine q_evs_nil ?_
      refine (row_run (sg2 k) _ (by rw [sg2_chars]; rfl)).mono fun v q hv => ?_
      refine an2 (hv) fun q_580 q_581 => ?_
      subst q_580
      subst q_581
      refine ⟨rfl, ?_⟩
      have erow2 : (rowK (charsOf (sg2 k)) (dig (cell ns (k.val + 4))).1 (dig (cell ns (k.val + 4))).2.1 (dig (cell ns (k.val + 4))).2.2).map V.ustr = (rowG (rot2 k) (dig (cell ns (k.val + 4))).1 (dig (cell ns (k.val + 4))).2.1 (dig (cell ns (k.val + 4))).2.2).map fun j => .ustr (U j) := by
        rw [sg2_chars, (row_map k _ (dig_mem _)).2, List.map_map]; rfl
      rw [erow2]
      refine x_cons (out_id (by rfl)) ?_
      refine x_Append (by decide) (by rfl) rfl rfl (by rfl) (put_ne (by rfl) (put_ne (by rfl) (put_ne (by rfl) (put_ne (by rfl) hB)))) ?_
      refine q_Call (by rfl) (by rfl) (by rfl) (by rfl) ?_
      refine q_evs_cons rfl (q_Sub rfl rfl (q_str (by rfl) (q_Name (by rfl) (by rfl) (put_ne (by rfl) (put_ne (by rfl) (put_ne (by rfl) put_self))) ⟨_, sign_item k, ?_⟩)))
      refine q_evs_cons rfl (q_Name (by rfl) (by rfl) put_self ?_)
      refine q_evs_cons rfl (q_Sub rfl rfl (q_List ?_))
      refine q_evs_cons rfl (q_str (by rfl) (q_evs_cons rfl (q_str (by rfl) (q_evs_nil ⟨by decide, ?_⟩))))
      refine q_Bin (q_Name (by rfl) (by rfl) (put_ne (by rfl) (put_ne (by rfl) (put_ne (by rfl) put_self))) (q_int ⟨_, rfl, _, tail_item2 k, ?_⟩))
      refine q_evs_nil ?_
      refine OE.of (hf _ k _ (dig_mem (cell ns (k.val + 4)))) ⟨rfl, ?_, ?_⟩
      · rw [List.length_append, List.length_map, hlen, List.length_singleton]; show _ ≤ 4096; lia
      refine x_cons (out_id (by rfl)) ?_
      refine x_If ?_
      refine t_Cmp (by rfl) ?_
      refine q_SubName (by intros; simp) (by rfl) (by rfl) put_self (q_Name (by rfl) (by rfl) (put_ne (by rfl) (put_ne (by rfl) (put_ne (by rfl) (put_ne (by rfl) put_self)))) ⟨_, item_last (by rw [List.length_map, hlen]) (by show _ ≤ 4096; lia), ?_⟩)
      refine q_Cut (q_Name (by rfl) (by rfl) (put_ne (by rfl) put_self) ?_)
      refine q_neg ⟨_, rev_row _ _ _ _ _, false, eq_rows okC_U (brow ns k), fun hd => (by cases hd), fun _ => ?_⟩
      refine x_nil ?_
      refine x_nil ⟨rfl, pre ++ [k], r', rfl, by rw [hpre]; simp, ?_, ?_, ?_⟩
      · exact put_ne (by rfl) (put_ne (by rfl) (put_ne (by rfl) (put_ne (by rfl) (put_ne (by rfl) hc))))
      · refine put_ne (by rfl) (put_ne (by rfl) ?_)
        rw [List.map_append]; exact put_self
      · rw [List.map_append]; exact put_self
  · rintro me ⟨pre, r', hr, hpre, hc, hF, hB⟩
    have : r' = [] := by cases r' with | nil => rfl | cons _ _ => cases hr
    subst this
    rw [List.append_nil] at hpre
    subst hpre
    exact h me hF hB
end
end Mine
end
section
set_option genSizeOf false
set_option genSizeOfSpec false
set_option maxRecDepth 100000
namespace Mine
open PySem
noncomputable def mk4 (l : List (Fin 4)) : Fin 4 → Fin 4 := fun i => l.getD i.val 0
noncomputable def allE : List (Fin 4 → Fin 4) := ks.map fun q => mk4 (rowG f4 q.1 q.2.1 q.2.2)
noncomputable def foundV : List V := allE.map fun σ => .str (PS σ)
theorem found_run (n : Nat) : (runM (n + 40)).call "_law_pairings" [.pile, .str "abcd"] (some []) = some (.lst foundV, some []) := by kernel_rfl
theorem item_nat {l : List V} {k : Nat} (h : k < l.length) (hc : l.length ≤ cap) : itemV (.lst l) (.int (k : Int)) = some l[k] := by
  show (okL l).bind (fun xs => (place xs.length (k : Int)).bind fun j => xs[j]?) = _
  rw [okL_some hc]
  dsimp only [Option.bind_some]
  have hp : place l.length (k : Int) = some k := by
    unfold place
    rw [if_pos (by omega), if_pos (by omega)]; rfl
  rw [hp]
  dsimp only [Option.bind_some]
  simp [h]
theorem sort_all : ∀ σ ∈ allE, sortS (charsOf (PS σ)) = [L 0, L 1, L 2, L 3] := by
  have : allE.all (fun σ => decide (sortS (charsOf (PS σ)) = [L 0, L 1, L 2, L 3])) = true := by decide +kernel
  intro σ h
  exact of_decide_eq_true (List.all_eq_true.mp this σ h)
theorem found_len : foundV.length = 24 := by decide +kernel
theorem found_up : ∀ k ∈ List.range 23, ∃ x y, foundV[k]? = some (.str x) ∧ foundV[k + 1]? = some (.str y) ∧ leStr y x = false := by
  have : (List.range 23).all (fun k => match foundV[k]?, foundV[k + 1]? with | some (.str x), some (.str y) => !leStr y x | _, _ => false) = true := by decide +kernel
  intro k h
  have := List.all_eq_true.mp this k h
  split at this
  · rename_i x y h1 h2
    exact ⟨x, y, h1, h2, by simpa using this⟩
  · exact nf this
theorem item_get {l : List V} {k : Nat} {v : V} (h : l[k]? = some v) (hc : l.length ≤ cap) : itemV (.lst l) (.int (k : Int)) = some v := by
  obtain ⟨hk, e⟩ := List.getElem?_eq_some_iff.mp h
  rw [item_nat hk hc, e]
noncomputable def lastS : Str := "dcba"
theorem found_last : foundV[23]? = some (.str lastS) := by kernel_rfl
theorem str_len' (a b : Str) : a.cps.size + b.cps.size = (a ++ b).cps.size := by
  show a.cps.size + b.cps.size = (a.cps ++ b.cps).size
  rw [Array.size_append]
theorem emp_left' (a : Str) : (⟨#[]⟩ : Str) ++ a = a := by
  obtain ⟨a⟩ := a
  show Str.mk (#[] ++ a) = _
  rw [Array.empty_append]
section
variable {n : Nat} {p : P} {me : Me} {QS : Fl → Me → P → Prop} {F B : Fin 4 → List (Fin 4)}
theorem only_part : ∀ x ∈ [("" : Str), lastS], methV .pile "is_onlyws" [] (some [((" " : Str), x)] : P) = (some (V.bool (decide (x = ("" : Str))), (some [((" " : Str), x)] : P)) : Option (V × P)) := by
  intro x hx
  simp only [List.mem_cons, List.not_mem_nil, or_false] at hx
  rcases hx with rfl | rfl <;> kernel_rfl
theorem found_line (h : ∀ me', Has me' "front" true (.lst (f4.map fun k => rowV L (F k))) → Has me' "behind" true (.lst (f4.map fun k => rowV U (B k))) → Has me' "found" false (.lst foundV) → OS ((runM (n + 59)).exs lawD.scope me' (lawD.body.drop 10) (some [])) QS)
    (hF : Has me "front" true (.lst (f4.map fun k => rowV L (F k)))) (hB : Has me "behind" true (.lst (f4.map fun k => rowV U (B k)))) : OS ((runM (n + 59)).exs lawD.scope me (lawD.body.drop 4) none) QS := by
  refine x_cons (out_id (by rfl)) ?_
  refine x_AsgAcc ⟨by rfl, by rfl⟩ (by rfl) rfl ?_
  refine x_cons (out_id (by rfl)) ?_
  refine x_Asg rfl (by rfl) ?_
  refine q_Call (by rfl) (by rfl) (by rfl) (by rfl) ?_
  refine q_evs_cons rfl (q_Name (by rfl) (by rfl) put_self ?_)
  refine q_evs_cons rfl (q_str (by rfl) ?_)
  refine q_evs_nil ?_
  refine OE.of (found_run _) ⟨rfl, ?_⟩
  refine x_cons (out_id (by rfl)) ?_
  refine x_If ?_
  refine t_Or (by rfl) (t_or_cons ?_)
  refine t_Cmp (by rfl) ?_
  refine q_Fn (by rfl) (by rfl) (by rfl) (by rfl) ?_
  refine q_evs_cons rfl (q_Name (by rfl) (by rfl) put_self ?_)
  refine q_evs_nil ?_
  refine OE.of (a := .int 24) (p' := some []) (by kernel_rfl) ?_
  refine q_int ⟨false, by rfl, fun hd => (by cases hd), fun _ => ?_⟩
  refine t_or_cons (t_Cmp (by rfl) (q_Comp ?_ (by rfl) (by rfl) ?_))
  · refine fo_other (by decide) (fo_other (by decide) (fo_other (by decide) fo_nil))
  refine s_iter (by rfl) (by rfl) (q_Name (by rfl) (by rfl) put_self ⟨_, rfl, by rw [found_len]; decide, ?_⟩)
  refine ⟨fun _ => false, fun v => v, fun v hv => ?_, fun v hv hb => (by cases hb), by rw [found_len]; decide, ?_⟩
  · refine ex1_2 (List.mem_map.mp hv) fun σ hσ q_252 => ?_
    subst q_252
    refine t_Cmp (by rfl) ?_
    refine q_Fn (by rfl) (by rfl) (by rfl) (by rfl) ?_
    refine q_evs_cons rfl (q_Name (by rfl) (by rfl) put_self ?_)
    refine q_evs_nil ?_
    refine OE.of (a := .lst ((sortS (charsOf (PS σ))).map .ustr)) (p' := some []) (by rfl) ?_
    rw [sort_all σ hσ]
    refine q_List (q_evs_cons rfl (q_str (by rfl) (q_evs_cons rfl (q_str (by rfl) (q_evs_cons rfl (q_str (by rfl) (q_evs_cons rfl (q_str (by rfl) (q_evs_nil ⟨by decide, ?_⟩)))))))))
    exact ⟨false, by kernel_rfl, rfl, rfl⟩
  refine q_List (q_evs_nil ⟨by decide, ?_⟩)
  refine ⟨false, ?_, fun hd => (by cases hd), fun _ => ?_⟩
  · have : (foundV.filter fun _ => false) = [] := by simp
    rw [this]; rfl
  refine t_or_nil ⟨fun hd => (by cases hd), fun _ => ?_⟩
  refine x_nil ?_
  refine x_cons (out_id (by rfl)) ?_
  refine x_If ?_
  refine t_Cmp (by rfl) (q_Comp ?_ (by rfl) (by rfl) ?_)
  · refine fo_other (by decide) (fo_other (by decide) (fo_free (by rfl) put_self fo_nil))
  refine s_range (by rfl) rfl (q_int ⟨23, _, rfl, rfl, ?_⟩)
  refine ⟨fun _ => false, fun v => v, fun v hv => ?_, fun v hv hb => (by cases hb), by decide, ?_⟩
  · refine ex1_2 (List.mem_map.mp hv) fun k hk q_472 => ?_
    subst q_472
    refine ex2_3 (found_up k hk) fun x y hx hy hle => ?_
    refine t_Cmp (by rfl) ?_
    refine q_SubName (by intros; simp) (by rfl) (by rfl) (put_ne (by rfl) (clos_look (by rfl) put_self)) (q_Name (by rfl) (by rfl) put_self ⟨_, item_get hx (by rw [found_len]; decide), ?_⟩)
    refine q_SubName (by intros; simp) (by rfl) (by rfl) (put_ne (by rfl) (clos_look (by rfl) put_self)) (q_Bin (q_Name (by rfl) (by rfl) put_self (q_int ⟨_, rfl, _, item_get hy (by rw [found_len]; decide), ?_⟩)))
    exact ⟨false, by show some (leStr y x) = _; rw [hle], rfl, rfl⟩
  refine q_List (q_evs_nil ⟨by decide, ?_⟩)
  refine ⟨false, ?_, fun hd => (by cases hd), fun _ => ?_⟩
  · rw [List.filter_eq_nil_iff.mpr (by simp)]; rfl
  refine x_nil ?_
  refine x_cons (out_id (by rfl)) ?_
  refine x_If ?_
  refine t_Or (by rfl) (t_or_cons ?_)
  refine t_Cmp (by rfl) ?_
  refine q_Meth (by rfl) (by rfl) (q_Name (by rfl) (by rfl) (put_ne (by rfl) put_self) (q_evs_nil ?_))
  refine OE.of (a := .int 0) (p' := some []) (by kernel_rfl) ?_
  refine q_int ⟨false, by rfl, fun hd => (by cases hd), fun _ => ?_⟩
  refine t_or_cons ?_
  refine t_Cmp (by rfl) ?_
  refine q_Meth (by rfl) (by rfl) (q_Name (by rfl) (by rfl) (put_ne (by rfl) put_self) (q_evs_nil ?_))
  refine OE.of (a := .bool true) (p' := some []) (by kernel_rfl) ?_
  refine q_bool ⟨false, by rfl, fun hd => (by cases hd), fun _ => ?_⟩
  refine t_or_nil ⟨fun hd => (by cases hd), fun _ => ?_⟩
  refine x_nil ?_
  refine x_cons (out_id (by rfl)) ?_
  refine x_For (by rfl) ?_
  refine s_iter (by rfl) (by rfl) (q_List ?_)
  refine q_evs_cons rfl (q_str (by rfl) ?_)
  refine q_evs_cons rfl (q_SubName (by intros; simp) (by rfl) (by rfl) put_self (q_int ⟨_, item_get (k := 23) found_last (by rw [found_len]; decide), ?_⟩))
  refine q_evs_nil ⟨by decide, _, rfl, by decide, ?_⟩
  refine l_inv (fun r me => ∃ l : List Str, r = l.map .str ∧ (∀ x ∈ l, x ∈ [("" : Str), lastS]) ∧ Has me "pile" false .pile ∧ Has me "found" false (.lst foundV) ∧ Has me "front" true (.lst (f4.map fun k => rowV L (F k))) ∧ Has me "behind" true (.lst (f4.map fun k => rowV U (B k)))) ?_ ?_
    ⟨["", lastS], rfl, fun x h => h, put_ne (by rfl) put_self, put_self, put_ne (by rfl) (put_ne (by rfl) hF), put_ne (by rfl) (put_ne (by rfl) hB)⟩
  · rintro v r me ⟨l, hr, hl, hp, hfd, hF, hB⟩
    cases l with
    | nil => cases hr
    | cons x l =>
      refine an2 (List.cons.inj hr) fun q_850 q_851 => ?_
      subst q_850
      subst q_851
      have hx := hl x List.mem_cons_self
      have hcap : x.cps.size ≤ 4 ∧ okC x = true := by
        simp only [List.mem_cons, List.not_mem_nil, or_false] at hx
        rcases hx with rfl | rfl <;> decide +kernel
      refine x_cons (out_id (by rfl)) ?_
      refine x_If ?_
      refine t_Or (by rfl) (t_or_cons ?_)
      refine t_Cmp (by rfl) ?_
      refine q_Meth (by rfl) (by rfl) (q_Name (by rfl) (by rfl) (put_ne (by rfl) hp) (q_evs_cons rfl (q_str (by rfl) (q_evs_cons rfl (q_Name (by rfl) (by rfl) put_self (q_evs_nil ?_))))))
      refine OE.of (a := .none) (p' := some [(" ", x)]) (by rfl) ?_
      refine q_none ⟨false, by rfl, fun hd => (by cases hd), fun _ => ?_⟩
      refine t_or_cons ?_
      refine t_Cmp (by rfl) ?_
      refine q_Meth (by rfl) (by rfl) (q_Name (by rfl) (by rfl) (put_ne (by rfl) hp) (q_evs_nil ?_))
      refine OE.of (only_part x hx) ?_
      refine q_Cmp (by rfl) (q_Name (by rfl) (by rfl) put_self (q_str (by rfl) ⟨decide (x = ""), rfl, ?_⟩))
      refine ⟨false, by show (some (decide (x = "") == decide (x = ""))).map not = _; simp, fun hd => (by cases hd), fun _ => ?_⟩
      refine t_or_nil ⟨fun hd => (by cases hd), fun _ => ?_⟩
      refine x_nil ?_
      refine x_cons (out_id (by rfl)) ?_
      refine x_If ?_
      refine t_Or (by rfl) (t_or_cons ?_)
      refine t_Cmp (by rfl) ?_
      refine q_Meth (by rfl) (by rfl) (q_Name (by rfl) (by rfl) (put_ne (by rfl) hp) (q_evs_nil ?_))
      refine OE.of (a := .int 1) (p' := some [(" ", x)]) (by rfl) ?_
      refine q_int ⟨false, by rfl, fun hd => (by cases hd), fun _ => ?_⟩
      refine t_or_cons ?_
      refine t_Cmp (by rfl) ?_
      refine q_Fn (by rfl) (by rfl) (by rfl) (by rfl) (q_evs_cons rfl (q_Name (by rfl) (by rfl) (put_ne (by rfl) hp) (q_evs_nil ?_)))
      have e1 : (((" " : Str)) ++ x).cps.size ≤ cap := by rw [← str_len' (" " : Str) x]; have := hcap.1; show 1 + x.cps.size ≤ 4096; lia
      have e2 : pileText [((" " : Str), x)] = (" " : Str) ++ x := by
        show (⟨#[]⟩ : Str) ++ ((" " : Str) ++ x) = _
        exact emp_left' _
      refine OE.of (a := .ustr (" " ++ x)) (p' := some [(" ", x)]) ?_ ?_
      · show ((some [((" " : Str), x)] : P).bind fun l => if l.length ≤ 8 then (okS (pileText l)).map fun t => (V.ustr t, (some [((" " : Str), x)] : P)) else Option.none) = _
        show (okS (pileText [((" " : Str), x)])).map (fun t => (V.ustr t, (some [((" " : Str), x)] : P))) = _
        rw [e2, okS_some e1]; rfl
      refine q_Bin (q_str (by rfl) (q_Name (by rfl) (by rfl) put_self ⟨.str (" " ++ x), ?_, ?_⟩))
      · show (okS ((" " : Str) ++ x)).map V.str = _
        rw [okS_some e1]; rfl
      refine ⟨false, by show (some (decide ((" " : Str) ++ x = " " ++ x))).map not = _; simp, fun hd => (by cases hd), fun _ => ?_⟩
      refine t_or_cons ?_
      refine t_Cmp (by rfl) ?_
      refine q_Meth (by rfl) (by rfl) (q_Name (by rfl) (by rfl) (put_ne (by rfl) hp) (q_evs_nil ?_))
      refine OE.of (a := .tup [.str " ", .str x]) (p' := some []) (by rfl) ?_
      refine q_Tuple (q_evs_cons rfl (q_str (by rfl) (q_evs_cons rfl (q_Name (by rfl) (by rfl) put_self (q_evs_nil ⟨by show 2 ≤ 4096; decide, ?_⟩)))))
      refine ⟨false, ?_, fun hd => (by cases hd), fun _ => ?_⟩
      · show (eqS [" ", x] [" ", x]).map not = _
        unfold eqS
        have : ([(" " : Str), x].all okC) = true := by
          rw [List.all_cons, List.all_cons, hcap.2]; decide +kernel
        rw [this]; simp
      refine t_or_nil ⟨fun hd => (by cases hd), fun _ => ?_⟩
      refine x_nil ?_
      exact x_nil ⟨rfl, l, rfl, fun y hy => hl y (List.mem_cons_of_mem _ hy), put_ne (by rfl) hp, put_ne (by rfl) hfd, put_ne (by rfl) hF, put_ne (by rfl) hB⟩
  · rintro me ⟨l, hr, hl, hp, hfd, hF, hB⟩
    exact h me hF hB hfd
end
end Mine
end
section
set_option genSizeOf false
set_option genSizeOfSpec false
set_option maxRecDepth 100000
namespace Mine
open PySem
section
variable {n : Nat} {sc inner : Scope} {me me' : Me} {p p' : P} {pos pos' pos'' : Pos} {Q : V → P → Prop} {QB : Bool → P → Prop} {QS : Fl → Me → P → Prop} {v : V} {x y : Str}
theorem go_self {o : Bool} (h : Has me x o v) : Has (letGo x me) x false v := by
  have := lk_go (x := x) h
  rw [if_pos rfl] at this; exact this
theorem go_ne {o : Bool} (hn : (y == x) = false) (h : Has me y o v) : Has (letGo x me) y o v := by
  have := lk_go (x := x) h
  rw [if_neg (by simpa using hn)] at this; exact this
theorem t_Call {f : Expr} {args : List Expr} {kw : List Keyword} (h : OE ((runM n).ev sc me (.Call f args kw pos) p) fun v p1 => ∃ b, truV v = some b ∧ QB b p1) : OE ((runM (n + 1)).tr sc me (.Call f args kw pos) p) QB := by
  obtain ⟨v, p1, e1, b, e2, h⟩ := h
  refine ⟨b, p1, ?_, h⟩
  show (((runM n).ev sc me (.Call f args kw pos) p).bind fun a => (truV a.1).map fun b => (b, a.2)) = _
  rw [e1]; dsimp only [Option.bind_some]; rw [e2]; rfl
theorem q_CompM {α : Type} (l' : List α) (g : α → V) (t : α → Bool) (f : α → V) {elt it : Expr} {ifs : List Expr} (hf : FO sc me inner.names) (hl : localsOk inner = true) (hs : sto inner x = true)
    (h : OE (srcWith ((runM n).ev sc me) sc it p) fun l p1 => l = l'.map g ∧ (∀ a ∈ l', OE (testsWith (fun e q => (runM n).tr inner (put (clos inner me) x false (g a)) e q) ifs p1) fun b q => b = t a ∧ q = p1) ∧
      (∀ a ∈ l', t a = true → OE ((runM n).ev inner (put (clos inner me) x false (g a)) elt p1) fun v q => v = f a ∧ q = p1) ∧ l'.length ≤ cap ∧ Q (.lst ((l'.filter t).map f)) p1) : OE ((runM (n + 1)).ev sc me (.ListComp elt [⟨.Name x pos, it, ifs, 0⟩] inner pos') p) Q := by
  refine ex2_6 (h) fun l p1 e1 q_33 h1 h2 hlen h => ?_
  subst q_33
  refine ⟨_, _, ?_, h⟩
  show (if (freeOk sc me inner && localsOk inner && sto inner x) = true then
      (srcWith ((runM n).ev sc me) sc it p).bind fun s =>
      (compWith (fun m q => (runM n).ev inner m elt q) (fun m q => testsWith (fun e q => (runM n).tr inner m e q) ifs q) x (clos inner me) s.1 s.2).bind fun y => (okL y.1).map fun l => (V.lst l, y.2)
    else Option.none) = _
  have hfo : freeOk sc me inner = true := hf
  rw [hfo, hl, hs, if_pos (by rfl), e1]
  dsimp only [Option.bind_some]
  have key : ∀ (l : List α), (∀ a ∈ l, OE (testsWith (fun e q => (runM n).tr inner (put (clos inner me) x false (g a)) e q) ifs p1) fun b q => b = t a ∧ q = p1) → (∀ a ∈ l, t a = true → OE ((runM n).ev inner (put (clos inner me) x false (g a)) elt p1) fun v q => v = f a ∧ q = p1) →
      compWith (fun m q => (runM n).ev inner m elt q) (fun m q => testsWith (fun e q => (runM n).tr inner m e q) ifs q) x (clos inner me) (l.map g) p1 = some ((l.filter t).map f, p1) := by
    intro l
    induction l with
    | nil => intro _ _; rfl
    | cons a r ih =>
      intro h1 h2
      refine ex2_3 (h1 a List.mem_cons_self) fun b q e1 hb0 hq => ?_
      rw [hb0, hq] at e1
      have ih := ih (fun v hv => h1 v (List.mem_cons_of_mem _ hv)) fun v hv => h2 v (List.mem_cons_of_mem _ hv)
      show ((testsWith (fun e q => (runM n).tr inner (put (clos inner me) x false (g a)) e q) ifs p1).bind fun t => match t.1 with
        | true => ((runM n).ev inner (put (clos inner me) x false (g a)) elt t.2).bind fun y => (compWith _ _ x (clos inner me) (r.map g) y.2).bind fun z => some (y.1 :: z.1, z.2)
        | false => compWith _ _ x (clos inner me) (r.map g) t.2) = _
      rw [e1]
      dsimp only [Option.bind_some]
      cases hb : t a with
      | true =>
        refine ex2_3 (h2 a List.mem_cons_self hb) fun w q2 e2 hw hq2 => ?_
        rw [hw, hq2] at e2
        dsimp only
        rw [e2]; dsimp only [Option.bind_some]; rw [ih]
        rw [List.filter_cons_of_pos hb]; rfl
      | false =>
        dsimp only
        rw [ih, List.filter_cons_of_neg (by rw [hb]; exact Bool.false_ne_true)]
  rw [key l' h1 h2]
  dsimp only [Option.bind_some]
  rw [okL_some (by rw [List.length_map]; exact Nat.le_trans (List.length_filter_le _ _) hlen)]
  rfl
theorem t_none : OE (testsWith (fun e q => (runM n).tr inner me e q) [] p) fun b q => b = true ∧ q = p := ⟨_, _, rfl, rfl, rfl⟩
end
theorem strs_all {α : Type} (f : α → Str) : ∀ l : List α, strs? (l.map fun j => V.str (f j)) = some (l.map f)
  | [] => rfl
  | a :: l => by show (strs? (l.map fun j => V.str (f j))).map (f a :: ·) = _; rw [strs_all f l]; rfl
theorem ustrs_all {α : Type} (f : α → Str) : ∀ l : List α, strs? (l.map fun j => V.ustr (f j)) = some (l.map f)
  | [] => rfl
  | a :: l => by show (strs? (l.map fun j => V.ustr (f j))).map (f a :: ·) = _; rw [ustrs_all f l]; rfl
theorem first_idx : ∀ (l : List (Fin 4)) (i : Fin 4) (k : Nat), i ∈ l → firstAt (U i) (l.map U) k = some (k + l.idxOf i)
  | [], i, k, h => by simp at h
  | a :: l, i, k, h => by
    show (if U a = U i then some k else firstAt (U i) (l.map U) (k + 1)) = _
    by_cases ha : a = i
    · subst ha; simp [List.idxOf_cons]
    · rw [if_neg (fun z => ha (U_inj z))]
      have hm : i ∈ l := by
        rcases List.mem_cons.mp h with rfl | h
        · exact absurd rfl ha
        · exact h
      rw [first_idx l i (k + 1) hm]
      have hb : (a == i) = false := by simpa using ha
      simp [List.idxOf_cons, hb]; lia
section
variable {n : Nat} {p : P} {me : Me} {QS : Fl → Me → P → Prop} {F B : Fin 4 → List (Fin 4)}
theorem worth_line (hBo : ∀ j, RowOk (B j)) (hBl : ∀ j, (B j).length ≤ cap) (hF : Has me "front" true (.lst (f4.map fun k => rowV L (F k)))) (hB : Has me "behind" true (.lst (f4.map fun k => rowV U (B k)))) (hfd : Has me "found" false (.lst foundV))
    (h : ∀ me', Has me' "front" true (FV F) → Has me' "behind" false (.lst (f4.map fun k => rowV U (B k))) → Has me' "found" false (.lst foundV) → Has me' "worth" false (WV (wB B)) → OS ((runM (n + 59)).exs lawD.scope me' (lawD.body.drop 11) p) QS) :
    OS ((runM (n + 59)).exs lawD.scope me (lawD.body.drop 10) p) QS := by
  refine x_cons (out_go (x := "behind") (by rfl)) ?_
  refine x_AsgComp (by rfl) ?_
  refine q_CompM f4 (fun k => rowV U (B k)) (fun _ => true) (fun k => WR (wB B) k) ?_ (by rfl) (by rfl) ?_
  · exact fo_other (by decide) (fo_other (by decide) fo_nil)
  refine s_iter (by rfl) (by rfl) (q_Name (by rfl) (by rfl) (go_self hB) ⟨_, rfl, by show 4 ≤ 4096; decide, rfl, fun k hk => t_none, fun k hk _ => ?_, by decide, ?_⟩)
  · refine q_CompM f4 (fun i => .str (U i)) (fun _ => true) (fun i => .int (wB B k i)) ?_ (by rfl) (by rfl) ?_
    · exact fo_other (by decide) (fo_other (by decide) (fo_other (by decide) (fo_free (by rfl) put_self fo_nil)))
    refine s_iter (by rfl) (by rfl) (q_str (by rfl) ⟨_, rfl, by decide, rfl, fun i hi => t_none, fun i hi _ => ?_, by decide, rfl, rfl⟩)
    refine q_Call (by rfl) (by rfl) (by rfl) (by rfl) ?_
    refine q_evs_cons rfl (q_Name (by rfl) (by rfl) (put_ne (by rfl) (clos_look (by rfl) put_self)) ?_)
    refine q_evs_cons rfl (q_Name (by rfl) (by rfl) put_self ?_)
    refine q_evs_nil ?_
    refine (indexOf_run (U i) ((B k).map U) _ _ ?_ (by rw [List.length_map]; exact hBl k) (first_idx (B k) i 0 ((hBo k).all i))).mono fun v q hv => ?_
    · show some _ = some _
      rw [List.map_map]; rfl
    obtain ⟨rfl, rfl⟩ := hv
    refine ⟨rfl, ?_, rfl⟩
    show V.int _ = V.int (((B k).idxOf i : Nat) : Int)
    rw [Nat.zero_add]
  · exact h _ (put_ne (by rfl) (go_ne (by rfl) hF)) (put_ne (by rfl) (go_self hB)) (put_ne (by rfl) (go_ne (by rfl) hfd)) put_self
end
end Mine
end
section
set_option genSizeOf false
set_option genSizeOfSpec false
set_option maxRecDepth 100000
namespace Mine
open PySem
theorem PS_inj {σ τ : Fin 4 → Fin 4} (h : PS σ = PS τ) : σ = τ := by
  have e : (#[97 + (σ 0).val, 97 + (σ 1).val, 97 + (σ 2).val, 97 + (σ 3).val] : Array Nat) = #[97 + (τ 0).val, 97 + (τ 1).val, 97 + (τ 2).val, 97 + (τ 3).val] := congrArg Str.cps h
  have e2 : ([97 + (σ 0).val, 97 + (σ 1).val, 97 + (σ 2).val, 97 + (σ 3).val] : List Nat) = [97 + (τ 0).val, 97 + (τ 1).val, 97 + (τ 2).val, 97 + (τ 3).val] := congrArg Array.toList e
  simp only [List.cons.injEq] at e2
  obtain ⟨h0, h1, h2, h3, _⟩ := e2
  funext i
  exact fin4 (fun i => σ i = τ i) (Fin.ext (by lia)) (Fin.ext (by lia)) (Fin.ext (by lia)) (Fin.ext (by lia)) i
theorem okC_PS (σ : Fin 4 → Fin 4) : okC (PS σ) = true := by
  have h : ∀ i : Fin 4, decide (97 + i.val < 0x110000) = true := fun i => decide_eq_true (by have := i.isLt; omega)
  show (#[97 + (σ 0).val, 97 + (σ 1).val, 97 + (σ 2).val, 97 + (σ 3).val] : Array Nat).all (fun c => decide (c < 0x110000)) = true
  rw [← Array.all_toList]
  show (decide _ && (decide _ && (decide _ && (decide _ && true)))) = true
  rw [h, h, h, h]; rfl
theorem inj_all : ∀ q ∈ ks, ∀ i j : Fin 4, mk4 (rowG f4 q.1 q.2.1 q.2.2) i = mk4 (rowG f4 q.1 q.2.1 q.2.2) j → i = j := by decide +kernel
theorem bj_all {σ : Fin 4 → Fin 4} (h : σ ∈ allE) : Bj σ := by
  obtain ⟨q, hq, rfl⟩ := List.mem_map.mp h
  exact bj_inj (inj_all q hq)
theorem has_all : ∀ a b c d : Fin 4, a ≠ b → a ≠ c → a ≠ d → b ≠ c → b ≠ d → c ≠ d → ∃ q ∈ ks, rowG f4 q.1 q.2.1 q.2.2 = [a, b, c, d] := by decide +kernel
theorem all_has {σ : Fin 4 → Fin 4} (B : Bj σ) : σ ∈ allE := by
  have n : ∀ a b : Fin 4, a ≠ b → σ a ≠ σ b := fun a b hab e => hab (B.inj a b e)
  obtain ⟨q, hq, e⟩ := has_all (σ 0) (σ 1) (σ 2) (σ 3) (n _ _ (by decide)) (n _ _ (by decide)) (n _ _ (by decide)) (n _ _ (by decide)) (n _ _ (by decide)) (n _ _ (by decide))
  refine List.mem_map.mpr ⟨q, hq, ?_⟩
  rw [e]
  funext i
  exact fin4 (fun i => mk4 [σ 0, σ 1, σ 2, σ 3] i = σ i) rfl rfl rfl rfl i
theorem all_nodup : (allE.map PS).Nodup := by decide +kernel
noncomputable def stE (F B : Fin 4 → List (Fin 4)) : List (Fin 4 → Fin 4) := allE.filter fun σ => stB F (wB B) σ
noncomputable def stV (T : List (Fin 4 → Fin 4)) : V := .lst (T.map fun σ => .str (PS σ))
section
variable {F B : Fin 4 → List (Fin 4)} (hF : ∀ k, RowOk (F k)) (hB : ∀ j, RowOk (B j))
theorem mem_st {σ : Fin 4 → Fin 4} : σ ∈ stE F B ↔ Sta (rkF F) (wB B) σ := by
  unfold stE
  rw [List.mem_filter]
  refine ⟨fun h => ⟨bj_all h.1, (st_iff σ).mp h.2⟩, fun h => ⟨all_has h.1, (st_iff σ).mpr h.2⟩⟩
include hF hB in
theorem st_ne : stE F B ≠ [] := by
  obtain ⟨σ, hσ⟩ := ex_sta hF hB
  intro z
  have := (mem_st (F := F) (B := B)).mpr hσ
  rw [z] at this; simp at this
theorem st_len : (stE F B).length ≤ 24 := Nat.le_trans (List.length_filter_le _ _) (by decide +kernel)
theorem st_nodup : ((stE F B).map PS).Nodup := List.Nodup.sublist (List.Sublist.map _ List.filter_sublist) all_nodup
end
theorem eqS_PS (l : List (Fin 4 → Fin 4)) (r : List Str) (hr : r.all okC = true) : eqS (l.map PS) r = some (decide (l.map PS = r)) := by
  unfold eqS
  have : (l.map PS).all okC = true := by rw [List.all_map]; exact List.all_eq_true.mpr fun σ _ => okC_PS σ
  rw [this, hr]; rfl
theorem eq_st (T R : List (Fin 4 → Fin 4)) : eqV (stV T) (stV R) = some (decide (T.map PS = R.map PS)) := by
  unfold eqV stV
  dsimp only
  rw [strs_all, strs_all]
  dsimp only
  exact eqS_PS T _ (by rw [List.all_map]; exact List.all_eq_true.mpr fun σ _ => okC_PS σ)
theorem firstAt_idx : ∀ (l : List Str) (y : Str) (k : Nat), y ∈ l → ∃ i, l[i]? = some y ∧ firstAt y l k = some (k + i) ∧ ∀ j, j < i → l[j]? ≠ some y
  | [], y, k, h => by simp at h
  | a :: l, y, k, h => by
    show ∃ i, _ ∧ (if a = y then some k else firstAt y l (k + 1)) = _ ∧ _
    by_cases ha : a = y
    · subst ha; exact ⟨0, rfl, by simp, fun j hj => absurd hj (Nat.not_lt_zero _)⟩
    · have hm : y ∈ l := by
        rcases List.mem_cons.mp h with rfl | h
        · exact absurd rfl ha
        · exact h
      refine ex1_3 (firstAt_idx l y (k + 1) hm) fun i h1 h2 h3 => ?_
      refine ⟨i + 1, by simpa using h1, by rw [if_neg ha, h2]; congr 1; lia, fun j hj => ?_⟩
      cases j with
      | zero => simpa using ha
      | succ j => simpa using h3 j (by lia)
theorem first_nodup {l : List Str} (hn : l.Nodup) {i : Nat} (h : i < l.length) (r : List Str) : firstAt l[i] (l ++ r) 0 = some i := by
  obtain ⟨k, h1, h2, h3⟩ := firstAt_idx (l ++ r) l[i] 0 (List.mem_append_left _ (List.getElem_mem h))
  have hi : (l ++ r)[i]? = some l[i] := by rw [List.getElem?_append_left h]; simp [h]
  have hki : k = i := by
    rcases Nat.lt_trichotomy k i with hlt | he | hgt
    · have hk : k < l.length := by omega
      rw [List.getElem?_append_left hk, List.getElem?_eq_getElem hk] at h1
      have := (List.getElem_inj (h₀ := hk) (h₁ := h) hn).mp (Option.some.inj h1)
      exact this
    · exact he
    · exact absurd hi (h3 i hgt)
  rw [h2, hki, Nat.zero_add]
section
variable {n : Nat} {p : P} {me : Me} {QS : Fl → Me → P → Prop} {F B : Fin 4 → List (Fin 4)}
theorem steady_line (hFo : ∀ k, RowOk (F k)) (hFl : ∀ k, (F k).length ≤ cap) (hBo : ∀ j, RowOk (B j)) (hF : Has me "front" true (FV F)) (hB : Has me "behind" false (.lst (f4.map fun k => rowV U (B k)))) (hfd : Has me "found" false (.lst foundV)) (hw : Has me "worth" false (WV (wB B)))
    (h : ∀ me', Has me' "front" false (FV F) → Has me' "behind" false (.lst (f4.map fun k => rowV U (B k))) → Has me' "steady" false (stV (stE F B)) → OS ((runM (n + 59)).exs lawD.scope me' (lawD.body.drop 14) p) QS) :
    OS ((runM (n + 59)).exs lawD.scope me (lawD.body.drop 11) p) QS := by
  have h24 := st_len (F := F) (B := B)
  have hfl : allE.length ≤ cap := by decide +kernel
  refine x_cons (out_go (x := "front") (by rfl)) ?_
  refine x_AsgComp (by rfl) ?_
  refine q_CompM allE (fun σ => .str (PS σ)) (fun σ => stB F (wB B) σ) (fun σ => .str (PS σ)) ?_ (by rfl) (by rfl) ?_
  · exact fo_other (by decide) (fo_other (by decide) (fo_other (by decide) (fo_free (by rfl) (go_self hF) (fo_free (by rfl) (go_ne (by rfl) hw) fo_nil))))
  refine s_iter (by rfl) (by rfl) (q_Name (by rfl) (by rfl) (go_ne (by rfl) hfd) ⟨_, rfl, by rw [found_len]; decide, rfl, fun σ hσ => ?_, fun σ hσ _ => ?_, hfl, ?_⟩)
  · refine t_Call ?_
    refine q_Call (by rfl) (by rfl) (by rfl) (by rfl) ?_
    refine q_evs_cons rfl (q_Name (by rfl) (by rfl) put_self ?_)
    refine q_evs_cons rfl (q_Name (by rfl) (by rfl) (put_ne (by rfl) (clos_look (by rfl) (go_self hF))) ?_)
    refine q_evs_cons rfl (q_Name (by rfl) (by rfl) (put_ne (by rfl) (clos_look (by rfl) (go_ne (by rfl) hw))) ?_)
    refine q_evs_nil ?_
    refine (steady_run F (wB B) σ (bj_all hσ) hFl).mono fun v q hv => ?_
    obtain ⟨rfl, rfl⟩ := hv
    exact ⟨rfl, _, rfl, rfl, rfl⟩
  · exact q_Name (by rfl) (by rfl) put_self ⟨rfl, rfl⟩
  refine x_cons (out_id (by rfl)) ?_
  refine x_If ?_
  refine t_Or (by rfl) (t_or_cons ?_)
  refine t_Cmp (by rfl) ?_
  refine q_Name (by rfl) (by rfl) put_self ?_
  refine q_List (q_evs_nil ⟨by decide, false, ?_, fun hd => (by cases hd), fun _ => ?_⟩)
  · show eqV (stV (stE F B)) (stV []) = _
    rw [eq_st]
    have : ¬ (stE F B).map PS = [].map PS := fun z => st_ne hFo hBo (List.map_eq_nil_iff.mp z)
    rw [decide_eq_false this]
  refine t_or_cons ?_
  refine t_Cmp (by rfl) ?_
  refine q_CompM allE (fun σ => .str (PS σ)) (fun σ => decide (PS σ ∈ (stE F B).map PS)) (fun σ => .str (PS σ)) ?_ (by rfl) (by rfl) ?_
  · exact fo_other (by decide) (fo_other (by decide) (fo_other (by decide) (fo_free (by rfl) put_self fo_nil)))
  refine s_iter (by rfl) (by rfl) (q_Name (by rfl) (by rfl) (put_ne (by rfl) (go_ne (by rfl) hfd)) ⟨_, rfl, by rw [found_len]; decide, rfl, fun σ hσ => ?_, fun σ hσ _ => ?_, hfl, ?_⟩)
  · refine t_Cmp (by rfl) ?_
    refine q_Call (by rfl) (by rfl) (by rfl) (by rfl) ?_
    refine q_evs_cons rfl (q_Name (by rfl) (by rfl) (put_ne (by rfl) (clos_look (by rfl) put_self)) ?_)
    refine q_evs_cons rfl (q_Name (by rfl) (by rfl) put_self ?_)
    refine q_evs_nil ?_
    refine (contains_run (PS σ) (strs_all PS (stE F B))).mono fun v q hv => ?_
    obtain ⟨rfl, rfl⟩ := hv
    refine ⟨rfl, q_bool ⟨_, rfl, ?_, rfl⟩⟩
    cases decide (PS σ ∈ (stE F B).map PS) <;> rfl
  · exact q_Name (by rfl) (by rfl) put_self ⟨rfl, rfl⟩
  refine q_Name (by rfl) (by rfl) put_self ⟨false, ?_, fun hd => (by cases hd), fun _ => ?_⟩
  · have e : (allE.filter fun σ => decide (PS σ ∈ (stE F B).map PS)) = stE F B := by
      unfold stE
      refine List.filter_congr fun σ hσ => ?_
      cases hs : stB F (wB B) σ with
      | true => exact decide_eq_true (List.mem_map.mpr ⟨σ, List.mem_filter.mpr ⟨hσ, hs⟩, rfl⟩)
      | false =>
        refine decide_eq_false fun z => ?_
        refine ex1_2 (List.mem_map.mp z) fun τ hτ hp => ?_
        rw [PS_inj hp] at hτ
        have := (List.mem_filter.mp hτ).2
        rw [hs] at this; exact nf this
    rw [e]
    show (eqV (stV (stE F B)) (stV (stE F B))).map not = _
    rw [eq_st]; simp
  refine t_or_nil ⟨fun hd => (by cases hd), fun _ => ?_⟩
  refine x_nil ?_
  refine x_cons (out_id (by rfl)) ?_
  refine x_If ?_
  refine t_Cmp (by rfl) ?_
  refine q_CompM (List.range (stE F B).length) (fun i => .str (((stE F B).map PS).getD i default)) (fun _ => true) (fun i => .int (i : Nat)) ?_ (by rfl) (by rfl) ?_
  · exact fo_other (by decide) (fo_other (by decide) (fo_other (by decide) (fo_free (by rfl) put_self fo_nil)))
  refine s_iter (by rfl) (by rfl) (q_Name (by rfl) (by rfl) put_self ⟨_, rfl, by rw [List.length_map]; exact Nat.le_trans h24 (by decide), ?_, fun i hi => t_none, fun i hi _ => ?_, by rw [List.length_range]; exact Nat.le_trans h24 (by decide), ?_⟩)
  · show (stE F B).map (fun σ => V.str (PS σ)) = _
    apply List.ext_getElem?
    intro i
    by_cases hi : i < (stE F B).length
    · simp [hi, List.getD_eq_getElem?_getD]
    · rw [List.getElem?_eq_none (by simpa using hi), List.getElem?_eq_none (by simpa using hi)]
  · have hi' : i < (stE F B).length := List.mem_range.mp hi
    have hi2 : i < ((stE F B).map PS).length := by rw [List.length_map]; exact hi'
    have hg : ((stE F B).map PS).getD i default = ((stE F B).map PS)[i] := by rw [List.getD_eq_getElem?_getD, List.getElem?_eq_getElem hi2]; rfl
    refine q_Call (by rfl) (by rfl) (by rfl) (by rfl) ?_
    refine q_evs_cons rfl (q_Bin (q_Name (by rfl) (by rfl) (put_ne (by rfl) (clos_look (by rfl) put_self)) (q_Name (by rfl) (by rfl) (put_ne (by rfl) (clos_look (by rfl) put_self)) ⟨.lst (((stE F B).map fun σ => .str (PS σ)) ++ ((stE F B).map fun σ => .str (PS σ))), ?_, ?_⟩)))
    · show (okL (((stE F B).map fun σ => V.str (PS σ)) ++ ((stE F B).map fun σ => V.str (PS σ)))).map V.lst = _
      rw [okL_some (by rw [List.length_append, List.length_map]; show (stE F B).length + (stE F B).length ≤ 4096; lia)]; rfl
    refine q_evs_cons rfl (q_Name (by rfl) (by rfl) put_self ?_)
    refine q_evs_nil ?_
    rw [hg]
    refine (indexOf_run _ (((stE F B).map PS) ++ ((stE F B).map PS)) _ i ?_ (by rw [List.length_append, List.length_map]; show _ ≤ 4096; lia) (first_nodup st_nodup hi2 _)).mono fun v q hv => ?_
    · show some _ = some _
      rw [List.map_append, List.map_map]; rfl
    obtain ⟨rfl, rfl⟩ := hv
    exact ⟨rfl, rfl, rfl⟩
  have hlen : (stE F B).length ≤ 4096 := Nat.le_trans h24 (by decide)
  refine q_ListRange (by rfl) (by rfl) (by rfl) rfl (q_Fn (by rfl) (by rfl) (by rfl) (by rfl) (q_evs_cons rfl (q_Name (by rfl) (by rfl) put_self (q_evs_nil ?_))))
  refine OE.of (a := .int ((stE F B).length : Nat)) (p' := p) ?_ ?_
  · show (okL ((stE F B).map fun σ => V.str (PS σ))).map (fun xs => (V.int xs.length, p)) = _
    rw [okL_some (by rw [List.length_map]; exact hlen)]; simp
  refine ⟨_, (List.range (stE F B).length).map (fun (i : Nat) => V.int i), rfl, ?_, false, ?_, fun hd => (by cases hd), fun _ => ?_⟩
  · unfold rangeV
    rw [if_pos ⟨by lia, by show ((stE F B).length : Int) ≤ 4096; lia⟩]; rfl
  · have e : (List.range (stE F B).length).filter (fun _ => true) = List.range (stE F B).length := by simp
    rw [e]
    obtain ⟨m, hm⟩ : ∃ m, (stE F B).length = m + 1 := by
      cases hz : (stE F B).length with
      | zero => exact absurd (List.length_eq_zero_iff.mp hz) (st_ne hFo hBo)
      | succ m => exact ⟨m, rfl⟩
    rw [hm]
    have hs : strs? ((List.range (m + 1)).map fun (i : Nat) => V.int i) = none := by
      rw [List.range_succ_eq_map]; rfl
    show (eqV (.lst ((List.range (m + 1)).map fun (i : Nat) => V.int i)) (.lst ((List.range (m + 1)).map fun (i : Nat) => V.int i))).map not = _
    unfold eqV
    dsimp only
    rw [hs]
    dsimp only
    have hi : ints? ((List.range (m + 1)).map fun (i : Nat) => V.int i) = some ((List.range (m + 1)).map fun (i : Nat) => (i : Int)) := by
      have := ints_map ((List.range (m + 1)).map fun (i : Nat) => (i : Int))
      rw [List.map_map] at this; exact this
    rw [hi]; simp
  refine x_nil ?_
  exact h _ (put_ne (by rfl) (go_self hF)) (put_ne (by rfl) (go_ne (by rfl) hB)) put_self
end
end Mine
end
section
set_option genSizeOf false
set_option genSizeOfSpec false
set_option maxRecDepth 100000
namespace Mine
open PySem
theorem cnt_map {f : Fin 4 → Str} (hf : ∀ i j, f i = f j → i = j) (s : Fin 4) : ∀ col : List (Fin 4), cnt (f s) (col.map f) = col.countP (fun x => decide (x = s))
  | [] => rfl
  | a :: col => by
    rw [List.map_cons, cnt_cons, cnt_map hf s col, List.countP_cons]
    by_cases h : a = s
    · subst h; simp; lia
    · rw [if_neg (fun z => h (hf _ _ z))]; simp [h]
theorem taken_map {f : Fin 4 → Str} (hf : ∀ i j, f i = f j → i = j) (col : List (Fin 4)) (place : Nat) {e : Fin 4} : ∀ (row : List (Fin 4)) (c : Nat), takenF col place row c = some e → takenGo (col.map f) place (row.map f) c = f e
  | [], c, h => by cases h
  | s :: r, c, h => by
    unfold takenF at h
    show (if place < c + cnt (f s) (col.map f) then f s else takenGo (col.map f) place (r.map f) (c + cnt (f s) (col.map f))) = _
    rw [cnt_map hf]
    split at h
    · rename_i hlt; rw [if_pos hlt]; cases h; rfl
    · rename_i hlt; rw [if_neg hlt]; exact taken_map hf col place r _ h
noncomputable def insF (x : Fin 4) : List (Fin 4) → List (Fin 4)
  | [] => [x]
  | y :: r => if x.val ≤ y.val then x :: y :: r else y :: insF x r
noncomputable def sortF : List (Fin 4) → List (Fin 4)
  | [] => []
  | x :: r => insF x (sortF r)
theorem le_L : ∀ i j : Fin 4, leStr (L i) (L j) = decide (i.val ≤ j.val) := by decide +kernel
theorem ins_map (x : Fin 4) : ∀ l : List (Fin 4), insS (L x) (l.map L) = (insF x l).map L
  | [] => rfl
  | y :: r => by
    show (if leStr (L x) (L y) = true then L x :: L y :: r.map L else L y :: insS (L x) (r.map L)) = _
    rw [le_L, ins_map x r]
    show _ = List.map L (if x.val ≤ y.val then x :: y :: r else y :: insF x r)
    by_cases h : x.val ≤ y.val
    · rw [if_pos (decide_eq_true h), if_pos h]; rfl
    · rw [if_neg (by simpa using h), if_neg h]; rfl
theorem sort_map : ∀ l : List (Fin 4), sortS (l.map L) = (sortF l).map L
  | [] => rfl
  | x :: r => by
    show insS (L x) (sortS (r.map L)) = _
    rw [sort_map r, ins_map]; rfl
theorem ins_comm (x y : Fin 4) : ∀ l : List (Fin 4), insF x (insF y l) = insF y (insF x l)
  | [] => by
    by_cases h1 : x.val ≤ y.val <;> by_cases h2 : y.val ≤ x.val
    · have : x = y := Fin.ext (by lia)
      subst this; rfl
    · simp [insF, h1, h2]
    · simp [insF, h1, h2]
    · lia
  | z :: r => by
    have ih := ins_comm x y r
    by_cases hxy : x = y
    · subst hxy; rfl
    · have hne : x.val ≠ y.val := fun h => hxy (Fin.ext h)
      by_cases h1 : x.val ≤ z.val <;> by_cases h2 : y.val ≤ z.val <;> by_cases h3 : x.val ≤ y.val <;> by_cases h4 : y.val ≤ x.val <;> first | lia | (simp only [insF, h1, h2, h3, h4, if_true, if_false, ih] <;> done) | (simp only [insF, h1, h2, h3, h4, if_true, if_false, ih]; done)
theorem sort_perm {l r : List (Fin 4)} (h : l.Perm r) : sortF l = sortF r := by
  induction h with
  | nil => rfl
  | cons x _ ih => show insF x _ = insF x _; rw [ih]
  | swap x y l => exact ins_comm _ _ _
  | trans _ _ i1 i2 => exact i1.trans i2
theorem ins_perm {rk : Fin 4 → Fin 4 → Nat} (k : Fin 4) : ∀ (l : List (Fin 4 → Fin 4)) (σ : Fin 4 → Fin 4), ((ins rk σ l).map (· k)).Perm (σ k :: l.map (· k))
  | [], σ => .refl _
  | τ :: T, σ => by
    have ih := ins_perm (rk := rk) k T (mx rk σ τ)
    show (mn rk σ τ k :: (ins rk (mx rk σ τ) T).map (· k)).Perm (σ k :: τ k :: T.map (· k))
    refine (ih.cons _).trans ?_
    by_cases h : rk k (σ k) ≤ rk k (τ k)
    · have e1 : mn rk σ τ k = σ k := if_pos h
      have e2 : mx rk σ τ k = τ k := if_pos h
      rw [e1, e2]
    · have e1 : mn rk σ τ k = τ k := if_neg h
      have e2 : mx rk σ τ k = σ k := if_neg h
      rw [e1, e2]; exact .swap _ _ _
theorem srt_perm {rk : Fin 4 → Fin 4 → Nat} (k : Fin 4) : ∀ (l : List (Fin 4 → Fin 4)), ((srt rk l).map (· k)).Perm (l.map (· k))
  | [] => .refl _
  | σ :: T => (ins_perm k _ σ).trans ((srt_perm k T).cons _)
section
variable {F B : Fin 4 → List (Fin 4)} (hF : ∀ k, RowOk (F k)) (hB : ∀ j, RowOk (B j))
include hF hB
theorem men_taken (T : List (Fin 4 → Fin 4)) (hT : ∀ σ ∈ T, Sta (rkF F) (wB B) σ) (place : Nat) {μ : Fin 4 → Fin 4} (hμ : (srt (rkF F) T)[place]? = some μ) (k : Fin 4) : takenF (T.map (· k)) place (F k) 0 = some (μ k) := by
  refine an4 (srt_all (rk_inj hF hB) (w_inj hF hB) T hT) fun _ _ h3 _ => ?_
  refine an2 (h3 k) fun ho hp => ?_
  have hi : ((srt (rkF F) T).map fun τ => (rkF F k (τ k) : Int))[place]? = some (rkF F k (μ k) : Int) := by rw [List.getElem?_map, hμ]; rfl
  refine an2 (ord_count ho hi) fun c1 c2 => ?_
  rw [hp.countP_eq, List.countP_map] at c1 c2
  have t := taken_eq (rkF F k) (rk_inj hF hB k) (T.map (· k)) place (μ k) (by rw [List.countP_map]; refine Nat.le_trans (Nat.le_of_eq ?_) c1; congr 1; funext σ; simp) (by rw [List.countP_map]; refine Nat.lt_of_lt_of_le c2 (Nat.le_of_eq ?_); congr 1; funext σ; simp) (F k) 0 (hF k).at (Nat.zero_le _) ((hF k).all _)
  have z : (T.map (· k)).countP (fun x => decide (rkF F k x < 0)) = 0 := by rw [List.countP_eq_zero]; intro x _; simp
  rw [z] at t; exact t
theorem women_taken (T : List (Fin 4 → Fin 4)) (hT : ∀ σ ∈ T, Sta (rkF F) (wB B) σ) (place : Nat) {μ : Fin 4 → Fin 4} (hμ : (srt (rkF F) T)[place]? = some μ) (j : Fin 4) : takenF (T.map fun σ => inv σ j) place (B j) 0 = some (inv μ j) := by
  refine an4 (srt_all (rk_inj hF hB) (w_inj hF hB) T hT) fun _ _ _ h4 => ?_
  refine an2 (h4 j) fun ho hp => ?_
  have hi : ((srt (rkF F) T).map fun τ => wB B j (inv τ j))[place]? = some (wB B j (inv μ j)) := by rw [List.getElem?_map, hμ]; rfl
  refine an2 (ord_count ho hi) fun c1 c2 => ?_
  rw [hp.countP_eq, List.countP_map] at c1 c2
  have t := taken_eq (fun i => (B j).idxOf i) (fun a b h => (hB j).inj h) (T.map fun σ => inv σ j) place (inv μ j) (by rw [List.countP_map]; refine Nat.le_trans (Nat.le_of_eq ?_) c1; congr 1; funext σ; simp [wB]) (by rw [List.countP_map]; refine Nat.lt_of_lt_of_le c2 (Nat.le_of_eq ?_); congr 1; funext σ; simp [wB]) (B j) 0 (hB j).at (Nat.zero_le _) ((hB j).all _)
  have z : (T.map fun σ => inv σ j).countP (fun x => decide ((B j).idxOf x < 0)) = 0 := by rw [List.countP_eq_zero]; intro x _; simp
  rw [z] at t; exact t
end
end Mine
end
section
set_option genSizeOf false
set_option genSizeOfSpec false
set_option maxRecDepth 100000
namespace Mine
open PySem
noncomputable def GV (T : List (Fin 4 → Fin 4)) : V := .lst (f4.map fun k => .lst (T.map fun σ => .str (L (σ k))))
noncomputable def HV (T : List (Fin 4 → Fin 4)) : V := .lst (f4.map fun j => .lst (T.map fun σ => .str (U (inv σ j))))
structure Rd (T : List (Fin 4 → Fin 4)) (F B : Fin 4 → List (Fin 4)) (me : Me) : Prop where
  some : Has me "some" false (stV T)
  front : Has me "front" false (FV F)
  behind : Has me "behind" false (.lst (f4.map fun k => rowV U (B k)))
  steady : Has me "steady" false (stV (stE F B))
  given : Has me "given" false (GV T)
  holders : Has me "holders" false (HV T)
section
variable {T : List (Fin 4 → Fin 4)} {F B : Fin 4 → List (Fin 4)} {me : Me} {x : Str} {o : Bool} {v : V}
theorem Rd.put (h : Rd T F B me) (hx : (["some", "front", "behind", "steady", "given", "holders"] : List Str).all (fun y => !(y == x)) = true) : Rd T F B (put me x o v) := by
  simp only [List.all_cons, List.all_nil, Bool.and_true, Bool.and_eq_true, Bool.not_eq_true'] at hx
  obtain ⟨h1, h2, h3, h4, h5, h6⟩ := hx
  exact ⟨put_ne h1 h.some, put_ne h2 h.front, put_ne h3 h.behind, put_ne h4 h.steady, put_ne h5 h.given, put_ne h6 h.holders⟩
theorem Rd.go (h : Rd T F B me) (hx : (["some", "front", "behind", "steady", "given", "holders"] : List Str).all (fun y => !(y == x)) = true) : Rd T F B (letGo x me) := by
  simp only [List.all_cons, List.all_nil, Bool.and_true, Bool.and_eq_true, Bool.not_eq_true'] at hx
  obtain ⟨h1, h2, h3, h4, h5, h6⟩ := hx
  exact ⟨go_ne h1 h.some, go_ne h2 h.front, go_ne h3 h.behind, go_ne h4 h.steady, go_ne h5 h.given, go_ne h6 h.holders⟩
end
theorem filt_t {α : Type} : ∀ l : List α, l.filter (fun _ => true) = l
  | [] => rfl
  | a :: l => by show a :: l.filter _ = _; rw [filt_t l]
theorem item_ABCD (i : Fin 4) : itemV (.str "ABCD") (.int (i.val : Int)) = some (.str (U i)) := fin4 (fun i => itemV (.str "ABCD") (.int (i.val : Int)) = some (.str (U i))) rfl rfl rfl rfl i
theorem glued_all : ∀ a b c d : Fin 4, Builtin.Str.glued "" [L a, L b, L c, L d] = ⟨#[97 + a.val, 97 + b.val, 97 + c.val, 97 + d.val]⟩ := by decide +kernel
theorem join_PS {p : P} (μ : Fin 4 → Fin 4) : methV (.str "") "join" [.lst (f4.map fun k => .str (L (μ k)))] p = some (.str (PS μ), p) := by
  show (if 2 ≤ 4 ∧ 4 + 4 * 0 ≤ 4096 then some (V.str (Builtin.Str.glued "" [L (μ 0), L (μ 1), L (μ 2), L (μ 3)]), p) else none) = _
  rw [if_pos (by decide), glued_all]; rfl
theorem range_len (k : Nat) (h : k ≤ 24) : rangeV (k : Int) = some ((List.range' 0 k).map fun (i : Nat) => V.int i) := by
  unfold rangeV
  rw [if_pos ⟨by omega, by show (k : Int) ≤ 4096; omega⟩, ← List.range_eq_range']; rfl
section
variable {n : Nat} {p : P} {me : Me} {QS : Fl → Me → P → Prop} {F B : Fin 4 → List (Fin 4)} (hFo : ∀ k, RowOk (F k)) (hFl : ∀ k, (F k).length ≤ cap) (hBo : ∀ j, RowOk (B j)) (hBl : ∀ j, (B j).length ≤ cap)
include hFo hFl hBo hBl
theorem men_run (T : List (Fin 4 → Fin 4)) (hT : ∀ σ ∈ T, Sta (rkF F) (wB B) σ) (hl : T.length ≤ 24) (place : Nat) {μ : Fin 4 → Fin 4} (hμ : (srt (rkF F) T)[place]? = some μ) (k : Fin 4) : OE ((runM (n + 16)).call "_law_taken" [rowV L (F k), .lst (T.map fun σ => .str (L (σ k))), .int place] p) fun v q => v = .str (L (μ k)) ∧ q = p := by
  have h := taken_run (n := n) (p := p) ((F k).map L) ((T.map (· k)).map L) place (by rw [List.length_map, List.length_map]; show _ ≤ 4096; omega) (by rw [List.length_map]; exact hFl k)
  rw [taken_map (fun i j => L_inj) _ place _ _ (men_taken hFo hBo T hT place hμ k)] at h
  rw [List.map_map, List.map_map, List.map_map] at h
  exact h
theorem women_run (T : List (Fin 4 → Fin 4)) (hT : ∀ σ ∈ T, Sta (rkF F) (wB B) σ) (hl : T.length ≤ 24) (place : Nat) {μ : Fin 4 → Fin 4} (hμ : (srt (rkF F) T)[place]? = some μ) (k : Fin 4) : OE ((runM (n + 16)).call "_law_taken" [rowV U (B k), .lst (T.map fun σ => .str (U (inv σ k))), .int place] p) fun v q => v = .str (U (inv μ k)) ∧ q = p := by
  have h := taken_run (n := n) (p := p) ((B k).map U) ((T.map fun σ => inv σ k).map U) place (by rw [List.length_map, List.length_map]; show _ ≤ 4096; omega) (by rw [List.length_map]; exact hBl k)
  rw [taken_map (fun i j => U_inj) _ place _ _ (women_taken hFo hBo T hT place hμ k)] at h
  rw [List.map_map, List.map_map, List.map_map] at h
  exact h
end
noncomputable def forB : Option Stmt → List Stmt
  | some (Stmt.For _ _ b _ _) => b
  | _ => []
noncomputable def rB : List Stmt := forB lawD.body[16]?
section
variable {n : Nat} {p : P} {me : Me} {QS : Fl → Me → P → Prop} {F B : Fin 4 → List (Fin 4)}
theorem given_line (T : List (Fin 4 → Fin 4)) (hl : T.length ≤ 24) (hT : ∀ σ ∈ T, Bj σ) (hs : Has me "some" false (stV T)) (hF : Has me "front" false (FV F)) (hB : Has me "behind" false (.lst (f4.map fun k => rowV U (B k)))) (hS : Has me "steady" false (stV (stE F B)))
    (h : ∀ me', Rd T F B me' → OS ((runM (n + 58)).exs lawD.scope me' (rB.drop 2) p) QS) : OS ((runM (n + 58)).exs lawD.scope me rB p) QS := by
  have hcap : T.length ≤ 4096 := Nat.le_trans hl (by decide)
  refine x_cons (out_id (by rfl)) ?_
  refine x_AsgComp (by rfl) ?_
  refine q_CompM f4 (fun k => .int (k.val : Int)) (fun _ => true) (fun k => .lst (T.map fun σ => .str (L (σ k)))) ?_ (by rfl) (by rfl) ?_
  · repeat (first | exact fo_nil | refine fo_free (by rfl) hs ?_ | refine fo_other (by decide) ?_)
  refine s_range (by rfl) rfl (q_int ⟨4, _, rfl, range4, rfl, fun k hk => t_none, fun k hk _ => ?_, by decide, ?_⟩)
  · refine q_CompM T (fun σ => .str (PS σ)) (fun _ => true) (fun σ => .str (L (σ k))) ?_ (by rfl) (by rfl) ?_
    · repeat (first | exact fo_nil | refine fo_free (by rfl) put_self ?_ | refine fo_other (by decide) ?_)
    refine s_iter (by rfl) (by rfl) (q_Name (by rfl) (by rfl) (put_ne (by rfl) (clos_look (by rfl) hs)) ⟨_, rfl, by rw [List.length_map]; exact hcap, rfl, fun σ hσ => t_none, fun σ hσ _ => ?_, hcap, ?_⟩)
    · exact q_SubName (by intros; simp) (by rfl) (by rfl) put_self (q_Name (by rfl) (by rfl) (put_ne (by rfl) (clos_look (by rfl) put_self)) ⟨_, item_PS σ k, rfl, rfl⟩)
    · exact ⟨by rw [filt_t], rfl⟩
  refine x_cons (out_id (by rfl)) ?_
  refine x_AsgComp (by rfl) ?_
  refine q_CompM f4 (fun j => .str (L j)) (fun _ => true) (fun j => .lst (T.map fun σ => .str (U (inv σ j)))) ?_ (by rfl) (by rfl) ?_
  · repeat (first | exact fo_nil | refine fo_free (by rfl) (put_ne (by rfl) hs) ?_ | refine fo_other (by decide) ?_)
  refine s_iter (by rfl) (by rfl) (q_str (by rfl) ⟨_, rfl, by decide, rfl, fun j hj => t_none, fun j hj _ => ?_, by decide, ?_⟩)
  · refine q_CompM T (fun σ => .str (PS σ)) (fun _ => true) (fun σ => .str (U (inv σ j))) ?_ (by rfl) (by rfl) ?_
    · repeat (first | exact fo_nil | refine fo_free (by rfl) put_self ?_ | refine fo_other (by decide) ?_)
    refine s_iter (by rfl) (by rfl) (q_Name (by rfl) (by rfl) (put_ne (by rfl) (clos_look (by rfl) (put_ne (by rfl) hs))) ⟨_, rfl, by rw [List.length_map]; exact hcap, rfl, fun σ hσ => t_none, fun σ hσ _ => ?_, hcap, ?_⟩)
    · refine q_Sub rfl rfl (q_str (by rfl) ?_)
      refine q_Call (by rfl) (by rfl) (by rfl) (by rfl) ?_
      refine q_evs_cons rfl (q_Name (by rfl) (by rfl) put_self ?_)
      refine q_evs_cons rfl (q_Name (by rfl) (by rfl) (put_ne (by rfl) (clos_look (by rfl) put_self)) ?_)
      refine q_evs_nil ?_
      refine (indexOf_run (L j) [L (σ 0), L (σ 1), L (σ 2), L (σ 3)] (.str (PS σ)) _ rfl (by show 4 ≤ 4096; decide) (first_at (hT σ hσ) j)).mono fun v q hv => ?_
      obtain ⟨rfl, rfl⟩ := hv
      exact ⟨rfl, _, item_ABCD _, rfl, rfl⟩
    · exact ⟨by rw [filt_t], rfl⟩
  have e : ∀ f : Fin 4 → V, (f4.filter fun _ => true).map f = f4.map f := fun _ => rfl
  rw [e, e]
  exact h _ ⟨put_ne (by rfl) (put_ne (by rfl) hs), put_ne (by rfl) (put_ne (by rfl) hF), put_ne (by rfl) (put_ne (by rfl) hB), put_ne (by rfl) (put_ne (by rfl) hS), put_ne (by rfl) put_self, put_self⟩
end
end Mine
end
section
set_option genSizeOf false
set_option genSizeOfSpec false
set_option maxRecDepth 100000
namespace Mine
open PySem
theorem item_f4 (f : Fin 4 → V) (k : Fin 4) : itemV (.lst (f4.map f)) (.int (k.val : Int)) = some (f k) := item4 f k
section
variable {n : Nat} {p : P} {me : Me} {QS : Fl → Me → P → Prop} {F B : Fin 4 → List (Fin 4)} (hFo : ∀ k, RowOk (F k)) (hFl : ∀ k, (F k).length ≤ cap) (hBo : ∀ j, RowOk (B j)) (hBl : ∀ j, (B j).length ≤ cap)
include hFo hFl hBo hBl
theorem places_line (T : List (Fin 4 → Fin 4)) (hl : T.length ≤ 24) (hT : ∀ σ ∈ T, Sta (rkF F) (wB B) σ) (hR : Rd T F B me)
    (h : ∀ me', Rd T F B me' → Has me' "middles" true (stV (srt (rkF F) T)) → OS ((runM (n + 58)).exs lawD.scope me' (rB.drop 4) p) QS) : OS ((runM (n + 58)).exs lawD.scope me (rB.drop 2) p) QS := by
  have hcap : T.length ≤ 4096 := Nat.le_trans hl (by decide)
  refine an4 (srt_all (rk_inj hFo hBo) (w_inj hFo hBo) T hT) fun hsa hsl _ _ => ?_
  refine x_cons (out_id (by rfl)) ?_
  refine x_AsgList (by rfl) (q_evs_nil ⟨by decide, ?_⟩)
  refine x_cons (out_id (by rfl)) ?_
  refine x_For (by rfl) ?_
  refine s_range (by rfl) rfl (q_Fn (by rfl) (by rfl) (by rfl) (by rfl) (q_evs_cons rfl (q_Name (by rfl) (by rfl) (put_ne (by rfl) hR.some) (q_evs_nil ?_))))
  refine OE.of (a := .int (T.length : Nat)) (p' := p) ?_ ?_
  · show (okL (T.map fun σ => V.str (PS σ))).map (fun xs => (V.int xs.length, p)) = _
    rw [okL_some (by rw [List.length_map]; exact hcap)]; simp
  refine ⟨_, _, rfl, range_len _ hl, ?_⟩
  refine l_inv (fun r me => ∃ i, i ≤ T.length ∧ r = (List.range' i (T.length - i)).map (fun (j : Nat) => V.int j) ∧ Rd T F B me ∧ Has me "middles" true (stV ((srt (rkF F) T).take i))) ?_ ?_ ⟨0, Nat.zero_le _, rfl, hR.put (by rfl), put_self⟩
  · rintro v r me ⟨i, hi, hr, hR, hm⟩
    obtain ⟨m, hmm⟩ : ∃ m, T.length - i = m + 1 := by
      cases hz : T.length - i with
      | zero => rw [hz] at hr; cases hr
      | succ m => exact ⟨m, rfl⟩
    rw [hmm, List.range'_succ, List.map_cons] at hr
    refine an2 (List.cons.inj hr) fun q_200 q_201 => ?_
    subst q_200
    subst q_201
    have hil : i < (srt (rkF F) T).length := by rw [hsl]; lia
    obtain ⟨μ, hμ⟩ : ∃ μ, (srt (rkF F) T)[i]? = some μ := ⟨_, List.getElem?_eq_getElem hil⟩
    have hμm : μ ∈ srt (rkF F) T := List.mem_of_getElem? hμ
    have hsta := hsa μ hμm
    refine x_cons (out_id (by rfl)) ?_
    refine x_Asg rfl (by rfl) ?_
    refine q_Meth (by rfl) (by rfl) (q_str (by rfl) (q_evs_cons rfl ?_))
    refine q_CompM f4 (fun k => .int (k.val : Int)) (fun _ => true) (fun k => .str (L (μ k))) ?_ (by rfl) (by rfl) ?_
    · repeat (first | exact fo_nil | refine fo_free (by rfl) (put_ne (by rfl) hR.front) ?_ | refine fo_free (by rfl) (put_ne (by rfl) hR.given) ?_ | refine fo_free (by rfl) put_self ?_ | refine fo_other (by decide) ?_)
    refine s_range (by rfl) rfl (q_int ⟨4, _, rfl, range4, rfl, fun k hk => t_none, fun k hk _ => ?_, by decide, ?_⟩)
    · refine q_Call (by rfl) (by rfl) (by rfl) (by rfl) ?_
      refine q_evs_cons rfl (q_SubName (by intros; simp) (by rfl) (by rfl) (put_ne (by rfl) (clos_look (by rfl) (put_ne (by rfl) hR.front))) (q_Name (by rfl) (by rfl) put_self ⟨_, item4 (fun k => rowV L (F k)) k, ?_⟩))
      refine q_evs_cons rfl (q_SubName (by intros; simp) (by rfl) (by rfl) (put_ne (by rfl) (clos_look (by rfl) (put_ne (by rfl) hR.given))) (q_Name (by rfl) (by rfl) put_self ⟨_, item_f4 _ k, ?_⟩))
      refine q_evs_cons rfl (q_Name (by rfl) (by rfl) (put_ne (by rfl) (clos_look (by rfl) put_self)) ?_)
      refine q_evs_nil ?_
      refine (men_run hFo hFl hBo hBl T hT hl i hμ k).mono fun v q hv => ?_
      refine an2 (hv) fun q_380 q_381 => ?_
      subst q_380
      subst q_381
      exact ⟨rfl, rfl, rfl⟩
    refine q_evs_nil ?_
    refine OE.of (join_PS μ) ?_
    refine x_cons (out_id (by rfl)) ?_
    refine x_If ?_
    refine t_Cmp (by rfl) ?_
    refine q_Call (by rfl) (by rfl) (by rfl) (by rfl) ?_
    refine q_evs_cons rfl (q_Name (by rfl) (by rfl) (put_ne (by rfl) (put_ne (by rfl) hR.steady)) ?_)
    refine q_evs_cons rfl (q_Name (by rfl) (by rfl) put_self ?_)
    refine q_evs_nil ?_
    refine (contains_run (PS μ) (strs_all PS (stE F B))).mono fun v q hv => ?_
    obtain ⟨rfl, rfl⟩ := hv
    have hin : decide (PS μ ∈ (stE F B).map PS) = true := decide_eq_true (List.mem_map.mpr ⟨μ, mem_st.mpr hsta, rfl⟩)
    rw [hin]
    refine ⟨rfl, q_bool ⟨false, rfl, fun hd => (by cases hd), fun _ => ?_⟩⟩
    refine x_nil ?_
    refine x_cons (out_id (by rfl)) ?_
    refine x_Append (by decide) (by rfl) rfl rfl (by rfl) (put_ne (by rfl) (put_ne (by rfl) hm)) ?_
    refine q_Name (by rfl) (by rfl) put_self ⟨?_, ?_⟩
    · rw [List.length_append, List.length_map, List.length_take, List.length_singleton]; show _ ≤ 4096; lia
    refine x_cons (out_id (by rfl)) ?_
    refine x_For (by rfl) ?_
    refine s_range (by rfl) rfl (q_int ⟨4, _, rfl, range4, ?_⟩)
    have htake : ((srt (rkF F) T).take i).map (fun σ => V.str (PS σ)) ++ [V.str (PS μ)] = ((srt (rkF F) T).take (i + 1)).map (fun σ => V.str (PS σ)) := by
      rw [List.take_add_one, hμ, List.map_append]; rfl
    rw [htake]
    refine l_inv (fun r me => ∃ r' : List (Fin 4), r = r'.map (fun k => V.int (k.val : Int)) ∧ Rd T F B me ∧ Has me "middles" true (stV ((srt (rkF F) T).take (i + 1))) ∧ Has me "middle" false (.str (PS μ)) ∧ Has me "place" false (.int i)) ?_ ?_ ⟨f4, rfl, ((hR.put (by rfl)).put (by rfl)).put (by rfl), put_self, put_ne (by rfl) put_self, put_ne (by rfl) (put_ne (by rfl) put_self)⟩
    · rintro v r me ⟨r', hr, hR, hm, hmid, hpl⟩
      cases r' with
      | nil => cases hr
      | cons k r' =>
        refine an2 (List.cons.inj hr) fun q_730 q_731 => ?_
        subst q_730
        subst q_731
        refine x_cons (out_id (by rfl)) ?_
        refine x_If ?_
        refine t_Cmp (by rfl) ?_
        refine q_Call (by rfl) (by rfl) (by rfl) (by rfl) ?_
        refine q_evs_cons rfl (q_SubName (by intros; simp) (by rfl) (by rfl) (put_ne (by rfl) hR.behind) (q_Name (by rfl) (by rfl) put_self ⟨_, item_f4 (fun k => rowV U (B k)) k, ?_⟩))
        refine q_evs_cons rfl (q_SubName (by intros; simp) (by rfl) (by rfl) (put_ne (by rfl) hR.holders) (q_Name (by rfl) (by rfl) put_self ⟨_, item_f4 _ k, ?_⟩))
        refine q_evs_cons rfl (q_Name (by rfl) (by rfl) (put_ne (by rfl) hpl) ?_)
        refine q_evs_nil ?_
        refine (women_run hFo hFl hBo hBl T hT hl i hμ k).mono fun v q hv => ?_
        obtain ⟨rfl, rfl⟩ := hv
        refine ⟨rfl, ?_⟩
        refine q_Sub rfl rfl (q_str (by rfl) ?_)
        refine q_Call (by rfl) (by rfl) (by rfl) (by rfl) ?_
        refine q_evs_cons rfl (q_Name (by rfl) (by rfl) (put_ne (by rfl) hmid) ?_)
        refine q_evs_cons rfl (q_Sub rfl rfl (q_str (by rfl) (q_Name (by rfl) (by rfl) put_self ⟨_, sign_item k, ?_⟩)))
        refine q_evs_nil ?_
        refine (indexOf_run (L k) [L (μ 0), L (μ 1), L (μ 2), L (μ 3)] (.str (PS μ)) _ rfl (by show 4 ≤ 4096; decide) (first_at hsta.1 k)).mono fun v q hv => ?_
        obtain ⟨rfl, rfl⟩ := hv
        refine ⟨rfl, _, item_ABCD _, false, ?_, fun hd => (by cases hd), fun _ => ?_⟩
        · show (some (decide (U (inv μ k) = U (inv μ k)))).map not = _
          simp
        refine x_nil ?_
        exact x_nil ⟨rfl, r', rfl, hR.put (by rfl), put_ne (by rfl) hm, put_ne (by rfl) hmid, put_ne (by rfl) hpl⟩
    · rintro me ⟨r', hr, hR, hm, hmid, hpl⟩
      exact x_nil ⟨rfl, i + 1, by lia, by rw [show T.length - (i + 1) = m by lia], hR, hm⟩
  · rintro me ⟨i, hi, hr, hR, hm⟩
    have hz : T.length - i = 0 := by
      cases hz : T.length - i with
      | zero => rfl
      | succ m => rw [hz, List.range'_succ] at hr; cases hr
    have hii : i = (srt (rkF F) T).length := by rw [hsl]; lia
    rw [hii, List.take_length] at hm
    exact h me hR hm
end
end Mine
end
section
set_option genSizeOf false
set_option genSizeOfSpec false
set_option maxRecDepth 100000
namespace Mine
open PySem
theorem two_ends : ∀ k : Nat, k < 25 → 2 < k → sliceRange (sliceBounds none (some 2) none k).1 (sliceBounds none (some 2) none k).2.1 (sliceBounds none (some 2) none k).2.2 = [0, 1] := by decide +kernel
theorem cut_two {S : List (Fin 4 → Fin 4)} (h : 2 < S.length) (h24 : S.length ≤ 24) : cutV (stV S) .none (.int 2) .none = some (stV (S.take 2)) := by
  show (if (none : Option Int) = some 0 then Option.none else (okL (S.map fun σ => V.str (PS σ))).map fun xs => V.lst (pickL xs none (some 2) none)) = _
  rw [if_neg (by decide), okL_some (by rw [List.length_map]; show _ ≤ 4096; omega)]
  show some (V.lst (pickL (S.map fun σ => V.str (PS σ)) none (some 2) none)) = _
  unfold pickL
  rw [two_ends _ (by rw [List.length_map]; omega) (by rw [List.length_map]; omega)]
  match S, h with
  | a :: b :: c :: r, _ => rfl
theorem okC_sortL : ∀ l : List (Fin 4), ((l.map L).all okC) = true := fun l => by
  rw [List.all_map]; exact List.all_eq_true.mpr fun j _ => okC_L j
theorem sorted_run {p : P} (S : List (Fin 4 → Fin 4)) (k : Fin 4) (h : S.length ≤ 24) : fnV "sorted" [.lst (S.map fun σ => .str (L (σ k)))] p = some (.lst (((sortF (S.map (· k))).map L).map .ustr), p) := by
  show ((strs? (S.map fun σ => V.str (L (σ k)))).bind fun l => if l.length < 64 then some (V.lst ((sortS l).map .ustr), p) else none) = _
  rw [strs_all]
  dsimp only [Option.bind_some]
  rw [if_pos (by rw [List.length_map]; omega)]
  have e : (S.map fun σ => L (σ k)) = (S.map (· k)).map L := by rw [List.map_map]; rfl
  rw [e, sort_map]
theorem eq_u (l : List (Fin 4)) : cmpV .NotEq (.lst ((l.map L).map .ustr)) (.lst ((l.map L).map .ustr)) = some false := by
  show (eqV (.lst ((l.map L).map .ustr)) (.lst ((l.map L).map .ustr))).map not = _
  unfold eqV
  dsimp only
  rw [ustrs_all (fun x => x)]
  dsimp only
  unfold eqS
  rw [List.map_id', okC_sortL]; simp
section
variable {n : Nat} {p : P} {me : Me} {QS : Fl → Me → P → Prop} {F B : Fin 4 → List (Fin 4)} (hFo : ∀ k, RowOk (F k)) (hFl : ∀ k, (F k).length ≤ cap) (hBo : ∀ j, RowOk (B j)) (hBl : ∀ j, (B j).length ≤ cap)
include hFo hFl hBo hBl
theorem sorted_line (T : List (Fin 4 → Fin 4)) (hl : T.length ≤ 24) (hT : ∀ σ ∈ T, Sta (rkF F) (wB B) σ) (hR : Rd T F B me) (hm : Has me "middles" true (stV (srt (rkF F) T)))
    (h : ∀ me', Rd T F B me' → QS .next me' p) : OS ((runM (n + 58)).exs lawD.scope me (rB.drop 4) p) QS := by
  have hcap : T.length ≤ 4096 := Nat.le_trans hl (by decide)
  refine an4 (srt_all (rk_inj hFo hBo) (w_inj hFo hBo) T hT) fun _ hsl _ _ => ?_
  refine x_cons (out_go (x := "middles") (by rfl)) ?_
  refine x_For (by rfl) ?_
  refine s_range (by rfl) rfl (q_int ⟨4, _, rfl, range4, ?_⟩)
  refine l_inv (fun r me => ∃ r' : List (Fin 4), r = r'.map (fun k => V.int (k.val : Int)) ∧ Rd T F B me ∧ Has me "middles" false (stV (srt (rkF F) T))) ?_ ?_ ⟨f4, rfl, hR.go (by rfl), go_self hm⟩
  · rintro v r me ⟨r', hr, hR, hm⟩
    cases r' with
    | nil => cases hr
    | cons k r' =>
      refine an2 (List.cons.inj hr) fun q_120 q_121 => ?_
      subst q_120
      subst q_121
      have hs24 : (srt (rkF F) T).length ≤ 24 := by lia
      refine x_cons (out_id (by rfl)) ?_
      refine x_If ?_
      refine t_Cmp (by rfl) ?_
      refine q_Fn (by rfl) (by rfl) (by rfl) (by rfl) (q_evs_cons rfl ?_)
      refine q_CompM (srt (rkF F) T) (fun σ => .str (PS σ)) (fun _ => true) (fun σ => .str (L (σ k))) ?_ (by rfl) (by rfl) ?_
      · repeat (first | exact fo_nil | refine fo_free (by rfl) put_self ?_ | refine fo_other (by decide) ?_)
      refine s_iter (by rfl) (by rfl) (q_Name (by rfl) (by rfl) (put_ne (by rfl) hm) ⟨_, rfl, by rw [List.length_map]; show _ ≤ 4096; lia, rfl, fun σ hσ => t_none, fun σ hσ _ => ?_, by show _ ≤ 4096; lia, ?_⟩)
      · exact q_SubName (by intros; simp) (by rfl) (by rfl) put_self (q_Name (by rfl) (by rfl) (put_ne (by rfl) (clos_look (by rfl) put_self)) ⟨_, item_PS σ k, rfl, rfl⟩)
      rw [filt_t]
      refine q_evs_nil ?_
      refine OE.of (sorted_run (srt (rkF F) T) k hs24) ?_
      refine q_Fn (by rfl) (by rfl) (by rfl) (by rfl) (q_evs_cons rfl ?_)
      refine q_SubName (by intros; simp) (by rfl) (by rfl) (put_ne (by rfl) hR.given) (q_Name (by rfl) (by rfl) put_self ⟨_, item_f4 _ k, ?_⟩)
      refine q_evs_nil ?_
      refine OE.of (sorted_run T k hl) ?_
      rw [sort_perm (srt_perm k T)]
      refine ⟨false, eq_u _, fun hd => (by cases hd), fun _ => ?_⟩
      refine x_nil ?_
      exact x_nil ⟨rfl, r', rfl, hR.put (by rfl), put_ne (by rfl) hm⟩
  · rintro me ⟨r', hr, hR, hm⟩
    exact x_nil (h me hR)
theorem round_line (T : List (Fin 4 → Fin 4)) (hl : T.length ≤ 24) (hT : ∀ σ ∈ T, Sta (rkF F) (wB B) σ) (hs : Has me "some" false (stV T)) (hF : Has me "front" false (FV F)) (hB : Has me "behind" false (.lst (f4.map fun k => rowV U (B k)))) (hS : Has me "steady" false (stV (stE F B)))
    (h : ∀ me', Rd T F B me' → QS .next me' p) : OS ((runM (n + 58)).exs lawD.scope me rB p) QS :=
  given_line T hl (fun σ hσ => (hT σ hσ).1) hs hF hB hS fun me1 h1 => places_line hFo hFl hBo hBl T hl hT h1 fun me2 h2 hm => sorted_line hFo hFl hBo hBl T hl hT h2 hm h
theorem rounds_line (hF : Has me "front" false (FV F)) (hB : Has me "behind" false (.lst (f4.map fun k => rowV U (B k)))) (hS : Has me "steady" false (stV (stE F B))) : OS ((runM (n + 59)).exs lawD.scope me (lawD.body.drop 14) p) fun f _ q => f = .ret (.bool true) ∧ q = p := by
  have h24 := st_len (F := F) (B := B)
  have hlen : (stE F B).length ≤ 4096 := Nat.le_trans h24 (by decide)
  have hlast : ∀ (me : Me) (o : Bool) (TS : List (List (Fin 4 → Fin 4))), (∀ T ∈ TS, T.length ≤ 24 ∧ ∀ σ ∈ T, Sta (rkF F) (wB B) σ) → TS.length ≤ 2 → Has me "rounds" o (.lst (TS.map stV)) → Has me "front" false (FV F) → Has me "behind" false (.lst (f4.map fun k => rowV U (B k))) → Has me "steady" false (stV (stE F B)) →
      OS ((runM (n + 59)).exs lawD.scope me (lawD.body.drop 16) p) fun f _ q => f = .ret (.bool true) ∧ q = p := by
    intro me o TS hTS h2 hr hF hB hS
    refine x_cons (out_go (x := "rounds") (by rfl)) ?_
    refine x_For (by rfl) ?_
    refine s_iter (by rfl) (by rfl) (q_Name (by rfl) (by rfl) (go_self hr) ⟨_, rfl, by rw [List.length_map]; show _ ≤ 4096; lia, ?_⟩)
    refine l_inv (fun r me => ∃ TS : List (List (Fin 4 → Fin 4)), r = TS.map stV ∧ (∀ T ∈ TS, T.length ≤ 24 ∧ ∀ σ ∈ T, Sta (rkF F) (wB B) σ) ∧ Has me "front" false (FV F) ∧ Has me "behind" false (.lst (f4.map fun k => rowV U (B k))) ∧ Has me "steady" false (stV (stE F B))) ?_ ?_ ⟨TS, rfl, hTS, go_ne (by rfl) hF, go_ne (by rfl) hB, go_ne (by rfl) hS⟩
    · rintro v r me ⟨TS, hr, hTS, hF, hB, hS⟩
      cases TS with
      | nil => cases hr
      | cons T TS =>
        refine an2 (List.cons.inj hr) fun q_150 q_151 => ?_
        subst q_150
        subst q_151
        refine an2 (hTS T List.mem_cons_self) fun hl hT => ?_
        exact round_line hFo hFl hBo hBl T hl hT put_self (put_ne (by rfl) hF) (put_ne (by rfl) hB) (put_ne (by rfl) hS) fun me' hR => ⟨rfl, TS, rfl, fun T h => hTS T (List.mem_cons_of_mem _ h), hR.front, hR.behind, hR.steady⟩
    · rintro me ⟨TS, hr, hTS, hF, hB, hS⟩
      refine x_cons (out_id (by rfl)) ?_
      exact x_Return (q_bool ⟨rfl, rfl⟩)
  have hall : ∀ σ ∈ stE F B, Sta (rkF F) (wB B) σ := fun σ h => mem_st.mp h
  refine x_cons (out_id (by rfl)) ?_
  refine x_AsgList (by rfl) (q_evs_cons rfl (q_Name (by rfl) (by rfl) hS (q_evs_nil ⟨by show 1 ≤ 4096; decide, ?_⟩)))
  refine x_cons (out_id (by rfl)) ?_
  refine x_If ?_
  refine t_Cmp (by rfl) ?_
  refine q_Fn (by rfl) (by rfl) (by rfl) (by rfl) (q_evs_cons rfl (q_Name (by rfl) (by rfl) (put_ne (by rfl) hS) (q_evs_nil ?_)))
  refine OE.of (a := .int ((stE F B).length : Nat)) (p' := p) ?_ ?_
  · show (okL ((stE F B).map fun σ => V.str (PS σ))).map (fun xs => (V.int xs.length, p)) = _
    rw [okL_some (by rw [List.length_map]; exact hlen)]; simp
  refine q_int ⟨_, rfl, fun hd => ?_, fun _ => ?_⟩
  · refine x_cons (out_id (by rfl)) ?_
    refine x_AsgList (by rfl) (q_evs_cons rfl ?_)
    refine q_Cut (q_Name (by rfl) (by rfl) (put_ne (by rfl) hS) ?_)
    refine q_int ⟨stV ((stE F B).take 2), ?_, ?_⟩
    · have : decide (2 < ((stE F B).length : Int)) = true := hd
      have := of_decide_eq_true this
      exact cut_two (by lia) h24
    refine q_evs_cons rfl (q_Name (by rfl) (by rfl) (put_ne (by rfl) hS) (q_evs_nil ⟨by show 2 ≤ 4096; decide, ?_⟩))
    refine x_nil ?_
    refine hlast _ true [(stE F B).take 2, stE F B] ?_ (by simp) put_self (put_ne (by rfl) (put_ne (by rfl) hF)) (put_ne (by rfl) (put_ne (by rfl) hB)) (put_ne (by rfl) (put_ne (by rfl) hS))
    intro T hT
    simp only [List.mem_cons, List.not_mem_nil, or_false] at hT
    rcases hT with rfl | rfl
    · exact ⟨by rw [List.length_take]; lia, fun σ h => hall σ (List.mem_of_mem_take h)⟩
    · exact ⟨h24, hall⟩
  · refine x_nil ?_
    refine hlast _ true [stE F B] ?_ (by simp) put_self (put_ne (by rfl) hF) (put_ne (by rfl) hB) (put_ne (by rfl) hS)
    intro T hT
    simp only [List.mem_cons, List.not_mem_nil, or_false] at hT
    subst hT
    exact ⟨h24, hall⟩
end
end Mine
end
section
set_option genSizeOf false
set_option genSizeOfSpec false
set_option maxRecDepth 100000
namespace Mine
open PySem
noncomputable def ks6 (a : Nat) : List (Nat × Nat × Nat) := [(a, 0, 0), (a, 0, 1), (a, 1, 0), (a, 1, 1), (a, 2, 0), (a, 2, 1)]
noncomputable def NamesG (n : Nat) (k : Fin 4) (a : Nat) : Prop := (ks6 a).map (namesOf n k) = (ks6 a).map fun q => some (rowV L (rowG (rot k) q.1 q.2.1 q.2.2), none)
noncomputable def FigsG (n : Nat) (k : Fin 4) (a : Nat) : Prop := (ks6 a).map (figsOf n k) = (ks6 a).map fun q => some (rowV U (rowG (rot2 k) q.1 q.2.1 q.2.2).reverse, none)
theorem names_00 (n : Nat) : NamesG n 0 0 := by show List.map _ _ = List.map _ _; kernel_rfl
theorem names_01 (n : Nat) : NamesG n 0 1 := by show List.map _ _ = List.map _ _; kernel_rfl
theorem names_02 (n : Nat) : NamesG n 0 2 := by show List.map _ _ = List.map _ _; kernel_rfl
theorem names_03 (n : Nat) : NamesG n 0 3 := by show List.map _ _ = List.map _ _; kernel_rfl
theorem names_10 (n : Nat) : NamesG n 1 0 := by show List.map _ _ = List.map _ _; kernel_rfl
theorem names_11 (n : Nat) : NamesG n 1 1 := by show List.map _ _ = List.map _ _; kernel_rfl
theorem names_12 (n : Nat) : NamesG n 1 2 := by show List.map _ _ = List.map _ _; kernel_rfl
theorem names_13 (n : Nat) : NamesG n 1 3 := by show List.map _ _ = List.map _ _; kernel_rfl
theorem names_20 (n : Nat) : NamesG n 2 0 := by show List.map _ _ = List.map _ _; kernel_rfl
theorem names_21 (n : Nat) : NamesG n 2 1 := by show List.map _ _ = List.map _ _; kernel_rfl
theorem names_22 (n : Nat) : NamesG n 2 2 := by show List.map _ _ = List.map _ _; kernel_rfl
theorem names_23 (n : Nat) : NamesG n 2 3 := by show List.map _ _ = List.map _ _; kernel_rfl
theorem names_30 (n : Nat) : NamesG n 3 0 := by show List.map _ _ = List.map _ _; kernel_rfl
theorem names_31 (n : Nat) : NamesG n 3 1 := by show List.map _ _ = List.map _ _; kernel_rfl
theorem names_32 (n : Nat) : NamesG n 3 2 := by show List.map _ _ = List.map _ _; kernel_rfl
theorem names_33 (n : Nat) : NamesG n 3 3 := by show List.map _ _ = List.map _ _; kernel_rfl
theorem figs_00 (n : Nat) : FigsG n 0 0 := by show List.map _ _ = List.map _ _; kernel_rfl
theorem figs_01 (n : Nat) : FigsG n 0 1 := by show List.map _ _ = List.map _ _; kernel_rfl
theorem figs_02 (n : Nat) : FigsG n 0 2 := by show List.map _ _ = List.map _ _; kernel_rfl
theorem figs_03 (n : Nat) : FigsG n 0 3 := by show List.map _ _ = List.map _ _; kernel_rfl
theorem figs_10 (n : Nat) : FigsG n 1 0 := by show List.map _ _ = List.map _ _; kernel_rfl
theorem figs_11 (n : Nat) : FigsG n 1 1 := by show List.map _ _ = List.map _ _; kernel_rfl
theorem figs_12 (n : Nat) : FigsG n 1 2 := by show List.map _ _ = List.map _ _; kernel_rfl
theorem figs_13 (n : Nat) : FigsG n 1 3 := by show List.map _ _ = List.map _ _; kernel_rfl
theorem figs_20 (n : Nat) : FigsG n 2 0 := by show List.map _ _ = List.map _ _; kernel_rfl
theorem figs_21 (n : Nat) : FigsG n 2 1 := by show List.map _ _ = List.map _ _; kernel_rfl
theorem figs_22 (n : Nat) : FigsG n 2 2 := by show List.map _ _ = List.map _ _; kernel_rfl
theorem figs_23 (n : Nat) : FigsG n 2 3 := by show List.map _ _ = List.map _ _; kernel_rfl
theorem figs_30 (n : Nat) : FigsG n 3 0 := by show List.map _ _ = List.map _ _; kernel_rfl
theorem figs_31 (n : Nat) : FigsG n 3 1 := by show List.map _ _ = List.map _ _; kernel_rfl
theorem figs_32 (n : Nat) : FigsG n 3 2 := by show List.map _ _ = List.map _ _; kernel_rfl
theorem figs_33 (n : Nat) : FigsG n 3 3 := by show List.map _ _ = List.map _ _; kernel_rfl
theorem ks_in {q : Nat × Nat × Nat} (h : q ∈ ks) : q ∈ ks6 0 ∨ q ∈ ks6 1 ∨ q ∈ ks6 2 ∨ q ∈ ks6 3 := by
  have e : ks = ks6 0 ++ (ks6 1 ++ (ks6 2 ++ ks6 3)) := rfl
  rw [e, List.mem_append, List.mem_append, List.mem_append] at h
  exact h
theorem names_run (n : Nat) (k : Fin 4) {q : Nat × Nat × Nat} (h : q ∈ ks) : namesOf n k q = some (rowV L (rowG (rot k) q.1 q.2.1 q.2.2), none) :=
  have g : ∀ k a, NamesG n k a → q ∈ ks6 a → namesOf n k q = some (rowV L (rowG (rot k) q.1 q.2.1 q.2.2), none) := fun k a e h => List.map_inj_left.mp e q h
  fin4 (fun k => namesOf n k q = some (rowV L (rowG (rot k) q.1 q.2.1 q.2.2), none))
    ((ks_in h).elim (g 0 0 (names_00 n)) fun h => h.elim (g 0 1 (names_01 n)) fun h => h.elim (g 0 2 (names_02 n)) (g 0 3 (names_03 n)))
    ((ks_in h).elim (g 1 0 (names_10 n)) fun h => h.elim (g 1 1 (names_11 n)) fun h => h.elim (g 1 2 (names_12 n)) (g 1 3 (names_13 n)))
    ((ks_in h).elim (g 2 0 (names_20 n)) fun h => h.elim (g 2 1 (names_21 n)) fun h => h.elim (g 2 2 (names_22 n)) (g 2 3 (names_23 n)))
    ((ks_in h).elim (g 3 0 (names_30 n)) fun h => h.elim (g 3 1 (names_31 n)) fun h => h.elim (g 3 2 (names_32 n)) (g 3 3 (names_33 n)))
    k
theorem figs_run (n : Nat) (k : Fin 4) {q : Nat × Nat × Nat} (h : q ∈ ks) : figsOf n k q = some (rowV U (rowG (rot2 k) q.1 q.2.1 q.2.2).reverse, none) :=
  have g : ∀ k a, FigsG n k a → q ∈ ks6 a → figsOf n k q = some (rowV U (rowG (rot2 k) q.1 q.2.1 q.2.2).reverse, none) := fun k a e h => List.map_inj_left.mp e q h
  fin4 (fun k => figsOf n k q = some (rowV U (rowG (rot2 k) q.1 q.2.1 q.2.2).reverse, none))
    ((ks_in h).elim (g 0 0 (figs_00 n)) fun h => h.elim (g 0 1 (figs_01 n)) fun h => h.elim (g 0 2 (figs_02 n)) (g 0 3 (figs_03 n)))
    ((ks_in h).elim (g 1 0 (figs_10 n)) fun h => h.elim (g 1 1 (figs_11 n)) fun h => h.elim (g 1 2 (figs_12 n)) (g 1 3 (figs_13 n)))
    ((ks_in h).elim (g 2 0 (figs_20 n)) fun h => h.elim (g 2 1 (figs_21 n)) fun h => h.elim (g 2 2 (figs_22 n)) (g 2 3 (figs_23 n)))
    ((ks_in h).elim (g 3 0 (figs_30 n)) fun h => h.elim (g 3 1 (figs_31 n)) fun h => h.elim (g 3 2 (figs_32 n)) (g 3 3 (figs_33 n)))
    k
end Mine
end
section
set_option genSizeOf false
set_option genSizeOfSpec false
set_option maxRecDepth 100000
namespace Mine
open PySem
theorem len_row (c : List (Fin 4)) (a b d : Nat) : (rowG c a b d).length ≤ cap := by show 4 ≤ 4096; decide
theorem plain (ns : List Int) (hn : ns.length ≤ 63) : (runM 60).call "law" [.lst (ns.map .int)] none = some (.bool true, some []) := by
  have h : OE ((runM (0 + 60)).call "law" [.lst (ns.map .int)] none) fun v q => v = .bool true ∧ q = some [] := by
    refine c_call law_d rfl ?_
    refine (cells_line (n := 0) ns hn (by rfl) ?_)
    refine draw_line ns (fun n k q h => names_run n k h) (fun n k q h => figs_run n k h) put_self fun me1 h1 h2 => ?_
    refine found_line (fun me2 h3 h4 h5 => ?_) h1 h2
    have hFl : ∀ k, (frow ns k).length ≤ cap := fun k => len_row _ _ _ _
    have hBl : ∀ k, (brow ns k).length ≤ cap := fun k => by unfold brow; rw [List.length_reverse]; exact len_row _ _ _ _
    refine worth_line (F := frow ns) (B := brow ns) (brow_ok ns) hBl h3 h4 h5 fun me3 h6 h7 h8 h9 => ?_
    refine steady_line (frow_ok ns) hFl (brow_ok ns) h6 h7 h8 h9 fun me4 h10 h11 h12 => ?_
    refine (rounds_line (frow_ok ns) hFl (brow_ok ns) hBl h10 h11 h12).mono fun f m q hf => ?_
    obtain ⟨rfl, rfl⟩ := hf
    exact ⟨_, rfl, rfl, rfl⟩
  obtain ⟨v, q, e, rfl, rfl⟩ := h
  exact e
end Mine
end
theorem PySem.Challenge.cw_xl0009_01_holds : PySem.Challenge.rw_xl0009_01.Holds :=
  Mine.top_goal Mine.plain
