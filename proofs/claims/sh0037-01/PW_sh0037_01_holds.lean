import PyProof.Rows.All
import KE.KTryOn
import KE.TryInHelper
import Wide.FinOn
import OpenK.AllK
import Wide.All
import Lean
import PySem.Challenge.RW_sh0037_01
set_option Elab.async false
local macro_rules | `(tactic| walk_at $s:str) => `(tactic| k_extra $s)
local macro_rules | `(tactic| omega) => `(tactic| first | lia | omega +splitDisjunctions)
section
open PySem PySem.W PyProof.Rows
namespace Mine
section
local macro_rules | `(tactic| o_head $_) => `(tactic| exact False.elim (by assumption))
/-- names the fragment of the heap alone -/
theorem hd (h : False) : PySem.Challenge.rw_sh0037_01.row.Holds := by k_head
end
noncomputable def keepAt : List Bool → List Stmt → List Stmt
  | true :: b, s :: r => s :: keepAt b r
  | false :: b, _ :: r => keepAt b r
  | _, r => r
/-- the text without the statements that the law does not reach -/
noncomputable def hdview : Program := { PySem.Challenge.pw_sh0037_01 with main := { PySem.Challenge.pw_sh0037_01.main with body := keepAt [true, false, true, false, true, true, true, true, false, true, true, true, true, true, false] PySem.Challenge.pw_sh0037_01.main.body } }
noncomputable def addrs : List Nat := [2, 3, 15, 17, 18, 20, 21, 32, 34, 35, 37, 38, 39, 41, 42, 44, 45, 46, 48, 49, 51, 52, 53, 55, 56, 58, 59, 60, 62, 63, 65, 66, 67, 69, 70, 72, 73, 74, 76, 77, 79, 80, 81, 82, 83, 84, 85, 88, 90, 91, 93, 94, 95, 97, 98, 100, 101, 102, 104, 105, 107, 108, 109, 111, 112, 114, 115, 116, 118, 119, 121, 122, 123, 125, 126, 128, 129, 130, 133, 134, 135, 137, 138, 140, 141, 142, 144, 145, 147, 148, 149, 152, 153, 154, 156, 157, 159, 160, 161, 163, 164, 166, 167, 168, 171, 172, 173, 176, 177]
end Mine
end

section

namespace Mine
theorem prod2 {α β : Type} {P : α × β → Prop} (h : ∀ a b, P (a, b)) : ∀ t, P t := fun ⟨a, b⟩ => h a b
theorem prod3 {α β γ : Type} {P : α × β × γ → Prop} (h : ∀ a b c, P (a, b, c)) : ∀ t, P t := fun ⟨a, b, c⟩ => h a b c
theorem prod4 {α β γ δ : Type} {P : α × β × γ × δ → Prop} (h : ∀ a b c d, P (a, b, c, d)) : ∀ t, P t := fun ⟨a, b, c, d⟩ => h a b c d
theorem prod6 {α β γ δ ε ζ : Type} {P : α × β × γ × δ × ε × ζ → Prop} (h : ∀ a b c d e f, P (a, b, c, d, e, f)) : ∀ t, P t := fun ⟨a, b, c, d, e, f⟩ => h a b c d e f
theorem prodS7 {α β γ δ ε ζ η θ ι κ : Type} {P : α × β × γ × δ × (ε × ζ) × (η × θ) × (ι × κ) → Prop} (h : ∀ a b c d e f g i j k, P (a, b, c, d, (e, f), (g, i), (j, k))) : ∀ t, P t := fun ⟨a, b, c, d, ⟨e, f⟩, ⟨g, i⟩, ⟨j, k⟩⟩ => h a b c d e f g i j k
theorem ex3 {α0 α1 α2 : Type} {P : α0 → α1 → α2 → Prop} {G : Prop} (h : ∃ x0 x1 x2, P x0 x1 x2) (k : ∀ x0 x1 x2, P x0 x1 x2 → G) : G := let ⟨x0, x1, x2, p⟩ := h; k x0 x1 x2 p
theorem exI3 {α0 α1 α2 : Type} {P : α0 → α1 → α2 → Prop} (x0 : α0) (x1 : α1) (x2 : α2) (p : P x0 x1 x2) : ∃ x0 x1 x2, P x0 x1 x2 := ⟨x0, x1, x2, p⟩
theorem ex6 {α0 α1 α2 α3 α4 α5 : Type} {P : α0 → α1 → α2 → α3 → α4 → α5 → Prop} {G : Prop} (h : ∃ x0 x1 x2 x3 x4 x5, P x0 x1 x2 x3 x4 x5) (k : ∀ x0 x1 x2 x3 x4 x5, P x0 x1 x2 x3 x4 x5 → G) : G := let ⟨x0, x1, x2, x3, x4, x5, p⟩ := h; k x0 x1 x2 x3 x4 x5 p
theorem exI6 {α0 α1 α2 α3 α4 α5 : Type} {P : α0 → α1 → α2 → α3 → α4 → α5 → Prop} (x0 : α0) (x1 : α1) (x2 : α2) (x3 : α3) (x4 : α4) (x5 : α5) (p : P x0 x1 x2 x3 x4 x5) : ∃ x0 x1 x2 x3 x4 x5, P x0 x1 x2 x3 x4 x5 := ⟨x0, x1, x2, x3, x4, x5, p⟩
theorem ex7 {α0 α1 α2 α3 α4 α5 α6 : Type} {P : α0 → α1 → α2 → α3 → α4 → α5 → α6 → Prop} {G : Prop} (h : ∃ x0 x1 x2 x3 x4 x5 x6, P x0 x1 x2 x3 x4 x5 x6) (k : ∀ x0 x1 x2 x3 x4 x5 x6, P x0 x1 x2 x3 x4 x5 x6 → G) : G := let ⟨x0, x1, x2, x3, x4, x5, x6, p⟩ := h; k x0 x1 x2 x3 x4 x5 x6 p
theorem exI7 {α0 α1 α2 α3 α4 α5 α6 : Type} {P : α0 → α1 → α2 → α3 → α4 → α5 → α6 → Prop} (x0 : α0) (x1 : α1) (x2 : α2) (x3 : α3) (x4 : α4) (x5 : α5) (x6 : α6) (p : P x0 x1 x2 x3 x4 x5 x6) : ∃ x0 x1 x2 x3 x4 x5 x6, P x0 x1 x2 x3 x4 x5 x6 := ⟨x0, x1, x2, x3, x4, x5, x6, p⟩
theorem ex13 {α0 α1 α2 α3 α4 α5 α6 α7 α8 α9 α10 α11 α12 : Type} {P : α0 → α1 → α2 → α3 → α4 → α5 → α6 → α7 → α8 → α9 → α10 → α11 → α12 → Prop} {G : Prop} (h : ∃ x0 x1 x2 x3 x4 x5 x6 x7 x8 x9 x10 x11 x12, P x0 x1 x2 x3 x4 x5 x6 x7 x8 x9 x10 x11 x12) (k : ∀ x0 x1 x2 x3 x4 x5 x6 x7 x8 x9 x10 x11 x12, P x0 x1 x2 x3 x4 x5 x6 x7 x8 x9 x10 x11 x12 → G) : G := let ⟨x0, x1, x2, x3, x4, x5, x6, x7, x8, x9, x10, x11, x12, p⟩ := h; k x0 x1 x2 x3 x4 x5 x6 x7 x8 x9 x10 x11 x12 p
theorem exI13 {α0 α1 α2 α3 α4 α5 α6 α7 α8 α9 α10 α11 α12 : Type} {P : α0 → α1 → α2 → α3 → α4 → α5 → α6 → α7 → α8 → α9 → α10 → α11 → α12 → Prop} (x0 : α0) (x1 : α1) (x2 : α2) (x3 : α3) (x4 : α4) (x5 : α5) (x6 : α6) (x7 : α7) (x8 : α8) (x9 : α9) (x10 : α10) (x11 : α11) (x12 : α12) (p : P x0 x1 x2 x3 x4 x5 x6 x7 x8 x9 x10 x11 x12) : ∃ x0 x1 x2 x3 x4 x5 x6 x7 x8 x9 x10 x11 x12, P x0 x1 x2 x3 x4 x5 x6 x7 x8 x9 x10 x11 x12 := ⟨x0, x1, x2, x3, x4, x5, x6, x7, x8, x9, x10, x11, x12, p⟩
theorem and7 {a0 a1 a2 a3 a4 a5 a6 G : Prop} (h : a0 ∧ a1 ∧ a2 ∧ a3 ∧ a4 ∧ a5 ∧ a6) (k : a0 → a1 → a2 → a3 → a4 → a5 → a6 → G) : G := let ⟨h0, h1, h2, h3, h4, h5, h6⟩ := h; k h0 h1 h2 h3 h4 h5 h6
theorem and9 {a0 a1 a2 a3 a4 a5 a6 a7 a8 G : Prop} (h : a0 ∧ a1 ∧ a2 ∧ a3 ∧ a4 ∧ a5 ∧ a6 ∧ a7 ∧ a8) (k : a0 → a1 → a2 → a3 → a4 → a5 → a6 → a7 → a8 → G) : G := let ⟨h0, h1, h2, h3, h4, h5, h6, h7, h8⟩ := h; k h0 h1 h2 h3 h4 h5 h6 h7 h8
theorem and10 {a0 a1 a2 a3 a4 a5 a6 a7 a8 a9 G : Prop} (h : a0 ∧ a1 ∧ a2 ∧ a3 ∧ a4 ∧ a5 ∧ a6 ∧ a7 ∧ a8 ∧ a9) (k : a0 → a1 → a2 → a3 → a4 → a5 → a6 → a7 → a8 → a9 → G) : G := let ⟨h0, h1, h2, h3, h4, h5, h6, h7, h8, h9⟩ := h; k h0 h1 h2 h3 h4 h5 h6 h7 h8 h9
theorem and13 {a0 a1 a2 a3 a4 a5 a6 a7 a8 a9 a10 a11 a12 G : Prop} (h : a0 ∧ a1 ∧ a2 ∧ a3 ∧ a4 ∧ a5 ∧ a6 ∧ a7 ∧ a8 ∧ a9 ∧ a10 ∧ a11 ∧ a12) (k : a0 → a1 → a2 → a3 → a4 → a5 → a6 → a7 → a8 → a9 → a10 → a11 → a12 → G) : G := let ⟨h0, h1, h2, h3, h4, h5, h6, h7, h8, h9, h10, h11, h12⟩ := h; k h0 h1 h2 h3 h4 h5 h6 h7 h8 h9 h10 h11 h12
theorem ex2 {α0 α1 : Type} {P : α0 → α1 → Prop} {G : Prop} (h : ∃ x0 x1, P x0 x1) (k : ∀ x0 x1, P x0 x1 → G) : G := let ⟨x0, x1, p⟩ := h; k x0 x1 p
theorem exI2 {α0 α1 : Type} {P : α0 → α1 → Prop} (x0 : α0) (x1 : α1) (p : P x0 x1) : ∃ x0 x1, P x0 x1 := ⟨x0, x1, p⟩
theorem ex4 {α0 α1 α2 α3 : Type} {P : α0 → α1 → α2 → α3 → Prop} {G : Prop} (h : ∃ x0 x1 x2 x3, P x0 x1 x2 x3) (k : ∀ x0 x1 x2 x3, P x0 x1 x2 x3 → G) : G := let ⟨x0, x1, x2, x3, p⟩ := h; k x0 x1 x2 x3 p
theorem exI4 {α0 α1 α2 α3 : Type} {P : α0 → α1 → α2 → α3 → Prop} (x0 : α0) (x1 : α1) (x2 : α2) (x3 : α3) (p : P x0 x1 x2 x3) : ∃ x0 x1 x2 x3, P x0 x1 x2 x3 := ⟨x0, x1, x2, x3, p⟩
theorem ex5 {α0 α1 α2 α3 α4 : Type} {P : α0 → α1 → α2 → α3 → α4 → Prop} {G : Prop} (h : ∃ x0 x1 x2 x3 x4, P x0 x1 x2 x3 x4) (k : ∀ x0 x1 x2 x3 x4, P x0 x1 x2 x3 x4 → G) : G := let ⟨x0, x1, x2, x3, x4, p⟩ := h; k x0 x1 x2 x3 x4 p
theorem exI5 {α0 α1 α2 α3 α4 : Type} {P : α0 → α1 → α2 → α3 → α4 → Prop} (x0 : α0) (x1 : α1) (x2 : α2) (x3 : α3) (x4 : α4) (p : P x0 x1 x2 x3 x4) : ∃ x0 x1 x2 x3 x4, P x0 x1 x2 x3 x4 := ⟨x0, x1, x2, x3, x4, p⟩
theorem ex8 {α0 α1 α2 α3 α4 α5 α6 α7 : Type} {P : α0 → α1 → α2 → α3 → α4 → α5 → α6 → α7 → Prop} {G : Prop} (h : ∃ x0 x1 x2 x3 x4 x5 x6 x7, P x0 x1 x2 x3 x4 x5 x6 x7) (k : ∀ x0 x1 x2 x3 x4 x5 x6 x7, P x0 x1 x2 x3 x4 x5 x6 x7 → G) : G := let ⟨x0, x1, x2, x3, x4, x5, x6, x7, p⟩ := h; k x0 x1 x2 x3 x4 x5 x6 x7 p
theorem exI8 {α0 α1 α2 α3 α4 α5 α6 α7 : Type} {P : α0 → α1 → α2 → α3 → α4 → α5 → α6 → α7 → Prop} (x0 : α0) (x1 : α1) (x2 : α2) (x3 : α3) (x4 : α4) (x5 : α5) (x6 : α6) (x7 : α7) (p : P x0 x1 x2 x3 x4 x5 x6 x7) : ∃ x0 x1 x2 x3 x4 x5 x6 x7, P x0 x1 x2 x3 x4 x5 x6 x7 := ⟨x0, x1, x2, x3, x4, x5, x6, x7, p⟩
theorem ex10 {α0 α1 α2 α3 α4 α5 α6 α7 α8 α9 : Type} {P : α0 → α1 → α2 → α3 → α4 → α5 → α6 → α7 → α8 → α9 → Prop} {G : Prop} (h : ∃ x0 x1 x2 x3 x4 x5 x6 x7 x8 x9, P x0 x1 x2 x3 x4 x5 x6 x7 x8 x9) (k : ∀ x0 x1 x2 x3 x4 x5 x6 x7 x8 x9, P x0 x1 x2 x3 x4 x5 x6 x7 x8 x9 → G) : G := let ⟨x0, x1, x2, x3, x4, x5, x6, x7, x8, x9, p⟩ := h; k x0 x1 x2 x3 x4 x5 x6 x7 x8 x9 p
theorem exI10 {α0 α1 α2 α3 α4 α5 α6 α7 α8 α9 : Type} {P : α0 → α1 → α2 → α3 → α4 → α5 → α6 → α7 → α8 → α9 → Prop} (x0 : α0) (x1 : α1) (x2 : α2) (x3 : α3) (x4 : α4) (x5 : α5) (x6 : α6) (x7 : α7) (x8 : α8) (x9 : α9) (p : P x0 x1 x2 x3 x4 x5 x6 x7 x8 x9) : ∃ x0 x1 x2 x3 x4 x5 x6 x7 x8 x9, P x0 x1 x2 x3 x4 x5 x6 x7 x8 x9 := ⟨x0, x1, x2, x3, x4, x5, x6, x7, x8, x9, p⟩
theorem and3 {a0 a1 a2 G : Prop} (h : a0 ∧ a1 ∧ a2) (k : a0 → a1 → a2 → G) : G := let ⟨h0, h1, h2⟩ := h; k h0 h1 h2
theorem and4 {a0 a1 a2 a3 G : Prop} (h : a0 ∧ a1 ∧ a2 ∧ a3) (k : a0 → a1 → a2 → a3 → G) : G := let ⟨h0, h1, h2, h3⟩ := h; k h0 h1 h2 h3
theorem and5 {a0 a1 a2 a3 a4 G : Prop} (h : a0 ∧ a1 ∧ a2 ∧ a3 ∧ a4) (k : a0 → a1 → a2 → a3 → a4 → G) : G := let ⟨h0, h1, h2, h3, h4⟩ := h; k h0 h1 h2 h3 h4
theorem and6 {a0 a1 a2 a3 a4 a5 G : Prop} (h : a0 ∧ a1 ∧ a2 ∧ a3 ∧ a4 ∧ a5) (k : a0 → a1 → a2 → a3 → a4 → a5 → G) : G := let ⟨h0, h1, h2, h3, h4, h5⟩ := h; k h0 h1 h2 h3 h4 h5
theorem and8 {a0 a1 a2 a3 a4 a5 a6 a7 G : Prop} (h : a0 ∧ a1 ∧ a2 ∧ a3 ∧ a4 ∧ a5 ∧ a6 ∧ a7) (k : a0 → a1 → a2 → a3 → a4 → a5 → a6 → a7 → G) : G := let ⟨h0, h1, h2, h3, h4, h5, h6, h7⟩ := h; k h0 h1 h2 h3 h4 h5 h6 h7
end Mine
end

section
open PySem PySem.W PyProof.Rows
namespace Mine
noncomputable abbrev Led := List (Addr × Obj)

/-- the call of the def at f with vs goes on by what Ret says -/
noncomputable abbrev Cl (w : World) (s₀ : Shared) (mg mb : Str → Option Value) (lvl : Nat) (f : Addr) (vs : List Value) (news : Led) (pre : Prop)
    (Ret : Heap → Addr → (Str → Option Value) → Shared → (Value → Shared → Prop) → Prop) : Prop :=
  ∀ (dp un : Nat) (gd : Option (List Code)) (cn : Str) (cs : Scope) (a : Addr) (ccd : Value) (cl : List (Str × Addr)) (outer : List Env) (A₀ : Around) (base h₀ : Heap) (L : Addr) (m : Str → Option Value) (s : Shared) (Q E : Value → Shared → Prop),
    Below A₀ base outer h₀ → Fr h₀ L s.heap m → (hd.heap_1 w.params).In h₀ → News h₀ L s.heap news →
    Top hdview (looseW hdview [Str.ofString "Whitespace"]) (ExcName.means s₀.heap) mg mb h₀ → cs.kind = .function →
    pre → dp + 4 * lvl < recursionLimit → un + 20 * lvl < cLine → Ret h₀ L m s Q →
    wpAny (model Challenge.rw_sh0037_01.row.prog w) (ktrTop dp un gd cn cs L a ccd cl outer) (call (.ref f) vs) Q E s

noncomputable abbrev RetI (news : Led) (x : Int) : Heap → Addr → (Str → Option Value) → Shared → (Value → Shared → Prop) → Prop := fun h₀ L m s Q =>
  ∀ (t : Tok) (h' : Heap) (tk' : Nat), Fr h₀ L h' m → News h₀ L h' news → Q (.int x t) { s with heap := h', toks := tk' }
noncomputable abbrev RetS (news : Led) (x : Str) : Heap → Addr → (Str → Option Value) → Shared → (Value → Shared → Prop) → Prop := fun h₀ L m s Q =>
  ∀ (t : Tok) (h' : Heap) (tk' : Nat), Fr h₀ L h' m → News h₀ L h' news → Q (.str x t) { s with heap := h', toks := tk' }
noncomputable abbrev RetB (news : Led) (x : Bool) : Heap → Addr → (Str → Option Value) → Shared → (Value → Shared → Prop) → Prop := fun h₀ L m s Q =>
  ∀ (h' : Heap) (tk' : Nat), Fr h₀ L h' m → News h₀ L h' news → Q (.bool x) { s with heap := h', toks := tk' }
/-- a new list of ints -/
noncomputable abbrev RetL (news : Led) (xs : List Int) : Heap → Addr → (Str → Option Value) → Shared → (Value → Shared → Prop) → Prop := fun h₀ L m s Q =>
  ∀ (l : Addr) (vs : List Value) (n : Nat) (h' : Heap) (tk' : Nat), Fr h₀ L h' m → News h₀ L h' ((l, listOf vs.toArray n) :: news) → (∀ p ∈ news, p.1 < l) → IntsAre vs xs → Q (.ref l) { s with heap := h', toks := tk' }

theorem RetI.mem {news : Led} {x : Int} {p : Addr × Obj} (h₀ : Heap) (L : Addr) (m : Str → Option Value) (s : Shared) (Q : Value → Shared → Prop) (h : RetI news x h₀ L m s Q) : RetI (p :: news) x h₀ L m s Q :=
  fun t h' tk' F N => h t h' tk' F fun q hq => N q (.tail _ hq)
theorem RetS.mem {news : Led} {x : Str} {p : Addr × Obj} (h₀ : Heap) (L : Addr) (m : Str → Option Value) (s : Shared) (Q : Value → Shared → Prop) (h : RetS news x h₀ L m s Q) : RetS (p :: news) x h₀ L m s Q :=
  fun t h' tk' F N => h t h' tk' F fun q hq => N q (.tail _ hq)
theorem RetB.mem {news : Led} {x : Bool} {p : Addr × Obj} (h₀ : Heap) (L : Addr) (m : Str → Option Value) (s : Shared) (Q : Value → Shared → Prop) (h : RetB news x h₀ L m s Q) : RetB (p :: news) x h₀ L m s Q :=
  fun h' tk' F N => h h' tk' F fun q hq => N q (.tail _ hq)
theorem RetL.mem {news : Led} {x : List Int} {p : Addr × Obj} (h₀ : Heap) (L : Addr) (m : Str → Option Value) (s : Shared) (Q : Value → Shared → Prop) (h : RetL news x h₀ L m s Q) : RetL (p :: news) x h₀ L m s Q :=
  fun l vs n h' tk' F N hl hi => h l vs n h' tk' F (fun q hq => N q (by
    rcases List.mem_cons.mp hq with rfl | hq
    · exact .head _
    · exact .tail _ (.tail _ hq))) (fun q hq => hl q (.tail _ hq)) hi
theorem Cl.mem {w : World} {s₀ : Shared} {mg mb : Str → Option Value} {lvl : Nat} {f : Addr} {vs : List Value} {news : Led} {pre : Prop} {Ret Ret' : Heap → Addr → (Str → Option Value) → Shared → (Value → Shared → Prop) → Prop} {p : Addr × Obj}
    (c : Cl w s₀ mg mb lvl f vs (p :: news) pre Ret') (hr : ∀ h₀ L m s Q, Ret h₀ L m s Q → Ret' h₀ L m s Q) (hm : p ∈ news) : Cl w s₀ mg mb lvl f vs news pre Ret := by
  intro dp un gd cn cs a ccd cl outer A₀ base h₀ L m s Q E B F X N T hk hp hd hu r
  refine c dp un gd cn cs a ccd cl outer A₀ base h₀ L m s Q E B F X (fun q hq => ?_) T hk hp hd hu (hr _ _ _ _ _ r)
  rcases List.mem_cons.mp hq with rfl | hq
  · exact N _ hm
  · exact N _ hq
end Mine
end

section
open PySem PySem.W PyProof.Rows
namespace Mine

noncomputable def colStep (size c x : Int) : Int := if x = 32 then c + 1 else c + size - Int.fmod c size
noncomputable def colI (size : Int) (l : List Int) : Int := l.foldl (colStep size) 0
theorem colI_snoc (size : Int) (l : List Int) (x : Int) : colI size (l ++ [x]) = colStep size (colI size l) x := by simp [colI]
theorem fmod_bnd (c size : Int) (h : 0 < size) : 0 ≤ Int.fmod c size ∧ Int.fmod c size < size := by
  rw [Int.fmod_eq_emod_of_nonneg _ (by omega)]
  exact ⟨Int.emod_nonneg _ (by omega), Int.emod_lt_of_pos _ h⟩
theorem sign_blank (n : Nat) : (({ cps := #[n] } : Str) == Str.ofString " ") = decide (n = 32) := by
  have : Str.ofString " " = ⟨#[32]⟩ := by decide +kernel
  rw [this, Bool.eq_iff_iff]
  simp
theorem sign_tab (n : Nat) : (({ cps := #[n] } : Str) == Str.ofString "\t") = decide (n = 9) := by
  have : Str.ofString "\t" = ⟨#[9]⟩ := by decide +kernel
  rw [this, Bool.eq_iff_iff]
  simp
theorem col_blank {size k : Int} {pre : List Int} {n : Nat} (e : k = colI size pre) (h : (({ cps := #[n] } : Str) == Str.ofString " ") = true) : k + 1 = colI size (pre ++ [(n : Int)]) := by
  rw [sign_blank] at h
  have := of_decide_eq_true h
  subst this
  rw [colI_snoc, ← e]; simp [colStep]
theorem col_else {size k : Int} {pre : List Int} {n : Nat} (e : k = colI size pre) (h : (({ cps := #[n] } : Str) == Str.ofString " ") = false) : k + size - Int.fmod k size = colI size (pre ++ [(n : Int)]) := by
  rw [sign_blank] at h
  have h := of_decide_eq_false h
  rw [colI_snoc, ← e, colStep, if_neg (by omega)]

set_option maxRecDepth 100000 in
set_option maxHeartbeats 8000000 in
theorem column_spec (w : World) (s₀ : Shared) (mg mb : Str → Option Value) (news : Led) (text : Str) (t1 : Tok) (size : Int) (t2 : Tok) :
   Cl w s₀ mg mb 1 167 [.str text t1, .int size t2] news (0 < size ∧ size < 100 ∧ text.length < 100) (RetI news (colI size (KStt.codes text))) := by
  dsimp only [Cl, RetI]
  k_fill
  w_top off
  intros
  rename_i hpre _ _ hret
  refine wpAny_call ?_
  k_dflt cell_enter
  k_with_none
  k_with "state" => first | exact col_blank (by assumption) (by assumption) | exact col_else (by assumption) (by assumption)
  k_with "pyIter str" => k_state (fun pre k => k = colI size pre) "column"
  k_steps
  exact cb_retI hret (by assumption) (by assumption) (by assumption)
end Mine
end

section
open PySem PySem.W PyProof.Rows
namespace Mine

noncomputable def collI (a b : Str) : Int := b2i (decide (b.cps.toList < a.cps.toList)) - b2i (decide (a.cps.toList < b.cps.toList))

set_option maxRecDepth 100000 in
set_option maxHeartbeats 8000000 in
theorem strcoll_spec (w : World) (s₀ : Shared) (mg mb : Str → Option Value) (news : Led) (a b : Str) (t1 t2 : Tok) :
   Cl w s₀ mg mb 1 94 [.str a t1, .str b t2] news (True) (RetI news (collI a b)) := by
  dsimp only [Cl, RetI]
  k_fill
  w_top off
  intros
  rename_i hpre _ _ hret
  refine wpAny_call ?_
  k_dflt cell_enter
  k_with_none

  k_steps
  exact hret _ _ _ (by assumption) (by assumption)

/-- a sign of a lead -/
noncomputable def Sign (x : Str) : Prop := x = Str.ofString " " ∨ x = Str.ofString "\t"
noncomputable def subI (a b : Str) : Int := if a = b then 0 else 2
theorem sub_ne : ¬ (Str.ofString " " = Str.ofString "\t") := by decide +kernel
theorem sub_ne' : ¬ (Str.ofString "\t" = Str.ofString " ") := by decide +kernel

set_option maxRecDepth 100000 in
set_option maxHeartbeats 8000000 in
theorem subst_spec (w : World) (s₀ : Shared) (mg mb : Str → Option Value) (news : Led) (a b : Str) (t1 t2 : Tok) :
   Cl w s₀ mg mb 1 115 [.str a t1, .str b t2] news (Sign a ∧ Sign b) (RetI news (subI a b)) := by
  dsimp only [Cl, RetI]
  k_fill
  w_top off
  intros
  rename_i hpre _ _ hret
  obtain ⟨ha, hb⟩ := hpre
  rcases ha with rfl | rfl <;> rcases hb with rfl | rfl <;> (try simp only [subI, if_pos, sub_ne, sub_ne', if_false] at hret)
  all_goals refine wpAny_call ?_
  all_goals k_dflt cell_enter
  k_with_none

  k_steps
  all_goals (first | exact hret _ _ _ (by assumption) (by assumption))
end Mine
end

section
open PySem PySem.W PyProof.Rows
namespace Mine




noncomputable def signOf (i : Int) : Str := if i = -1 then Str.ofString " " else if i = 1 then Str.ofString "\t" else Str.ofString "x"
noncomputable def leadTo (ws : List Str) : Nat → Str
  | 0 => Str.ofString ""
  | n + 1 => leadTo ws n ++ signOf (collI (ws.getD n Str.empty) (ws.getD (n + 1) Str.empty))

theorem lead_start (ws : List Str) : Str.ofString "" = leadTo ws ([] : List Int).length ∧ (Str.ofString "").length = ([] : List Int).length := ⟨rfl, by decide +kernel⟩
theorem len_b : (Str.ofString " ").length = 1 := by decide +kernel
theorem len_t : (Str.ofString "\t").length = 1 := by decide +kernel
theorem len_x : (Str.ofString "x").length = 1 := by decide +kernel
theorem lead_turn {ws : List Str} {lead sg : Str} {pre : List Int} {k c : Int} (hc : collI (ws.getD k.toNat Str.empty) (ws.getD (k + 1).toNat Str.empty) = c) (hs : signOf c = sg) (h1 : sg.length = 1) (e : k = 0 + (pre.length : Int)) (h : lead = leadTo ws pre.length) (hl : lead.length = pre.length) :
    lead ++ sg = leadTo ws (pre ++ [k]).length ∧ (lead ++ sg).length = (pre ++ [k]).length := by
  have e1 : k.toNat = pre.length := by omega
  have e2 : (k + 1).toNat = pre.length + 1 := by omega
  rw [e1, e2] at hc
  rw [Str.length_append, h1, hl, List.length_append]
  exact ⟨by rw [h, ← hs, ← hc]; rfl, rfl⟩
theorem lead_b {ws : List Str} {lead : Str} {pre : List Int} {k : Int} (hc : collI (ws.getD k.toNat Str.empty) (ws.getD (k + 1).toNat Str.empty) = -1) (e : k = 0 + (pre.length : Int)) (h : lead = leadTo ws pre.length) (hl : lead.length = pre.length) :
    lead ++ Str.ofString " " = leadTo ws (pre ++ [k]).length ∧ (lead ++ Str.ofString " ").length = (pre ++ [k]).length := lead_turn hc rfl len_b e h hl
theorem lead_t {ws : List Str} {lead : Str} {pre : List Int} {k : Int} (hc : collI (ws.getD k.toNat Str.empty) (ws.getD (k + 1).toNat Str.empty) = 1) (e : k = 0 + (pre.length : Int)) (h : lead = leadTo ws pre.length) (hl : lead.length = pre.length) :
    lead ++ Str.ofString "\t" = leadTo ws (pre ++ [k]).length ∧ (lead ++ Str.ofString "\t").length = (pre ++ [k]).length := lead_turn hc rfl len_t e h hl
theorem lead_x {ws : List Str} {lead : Str} {pre : List Int} {k : Int} (h1 : ¬ collI (ws.getD k.toNat Str.empty) (ws.getD (k + 1).toNat Str.empty) = -1) (h2 : ¬ collI (ws.getD k.toNat Str.empty) (ws.getD (k + 1).toNat Str.empty) = 1) (e : k = 0 + (pre.length : Int)) (h : lead = leadTo ws pre.length) (hl : lead.length = pre.length) :
    lead ++ Str.ofString "x" = leadTo ws (pre ++ [k]).length ∧ (lead ++ Str.ofString "x").length = (pre ++ [k]).length := lead_turn rfl (by rw [signOf, if_neg h1, if_neg h2]) len_x e h hl
theorem lead_done {ws : List Str} {lead : Str} (h : lead = leadTo ws (rangeKs 0 ((ws.length : Int) - 1 - 0).toNat).length) : lead = leadTo ws (ws.length - 1) := by
  rw [h, rangeKs_length]; congr 1; omega

set_option maxRecDepth 100000 in
set_option maxHeartbeats 8000000 in
theorem lead_spec (w : World) (s₀ : Shared) (mg mb : Str → Option Value) (news : Led) (l : Addr) (vs : List Value) (n : Nat) (ws : List Str) :
   Cl w s₀ mg mb 2 129 [.ref l] ((l, listOf vs.toArray n) :: news) (StrsAre vs ws ∧ 1 ≤ ws.length ∧ ws.length ≤ 7 ∧ ∀ x ∈ ws, x.length ≤ 8) (RetS ((l, listOf vs.toArray n) :: news) (leadTo ws (ws.length - 1))) := by
  dsimp only [Cl, RetS]
  k_fill
  w_top off
  intros
  rename_i hpre _ _ hret
  obtain ⟨hw, h1, h7, h8⟩ := hpre
  refine wpAny_call ?_
  k_dflt cell_enter
  k_with_none
  k_with "eval Dict" => (k_here; k_dflt (refine' kdn_eval (knd := PySem.intKind _ _) ?F ?N ?b ?a ?l ?e ?n ?_; (case F => k_asm); (case N => k_asm); (case b => exact Top.nolimit (by k_asm)); (case a => rfl); (case l => rfl); (case e => exact List.cons_ne_nil _ _); (case n => exact Nat.le_of_ble_eq_true rfl)); intro _ _ _ _ _ l1 _ _; (try k_lt l1); revert l1; intro _)
  k_with "call ref" => (k_here; (show wpAny _ _ (call (Value.ref 94) _) _ _ _); (k_dflt (refine' strcoll_spec _ _ _ _ _ _ _ _ _ _ _ _ _ _ _ _ _ _ _ _ _ _ _ _ _ _ ?k1 ?k2 ?k3 ?k4 ?k5 ?kK ?kp ?kd ?ku ?kR; (case k1 => k_asm); (case k2 => k_asm); (case k3 => k_asm); (case k4 => k_asm); (case k5 => k_asm); (case kK => first | exact rfl | assumption); (case kp => first | trivial | assumption | (k_extra "pre")); (case kd => ktr_room); (case ku => ktr_units))); intro _ _ _ _ _; (try dsimp only); (try k_fold))
  k_with "state" => first | exact lead_start _ | exact lead_b (by assumption) (by assumption) (by assumption) (by assumption) | exact lead_t (by assumption) (by assumption) (by assumption) (by assumption) | exact lead_x (by assumption) (by assumption) (by assumption) (by assumption) (by assumption)
  k_with "pyIter ref" => k_state (fun pre lead => lead = leadTo ws pre.length ∧ lead.length = pre.length) "lead"

  k_steps
  exact cb_retS hret (lead_done (by assumption)) (by assumption) (by assumption)
end Mine
end

section
open PySem PySem.W PyProof.Rows
namespace Mine

/-- a while is left here: its letters stand, and D is known of them -/
noncomputable def Out {σ : Type} (h₀ : Heap) (L : Addr) (s : Shared) (Led : σ → List (Addr × Obj)) (ps : σ → List (Str × Value)) (Facts : σ → Prop) (stored : List Str) (m₀ : Str → Option Value) (P D : σ → Prop) (s₂ : Shared) : Prop :=
  ∃ (c : σ) (h' : Heap) (tk : Nat) (u : Str → Option Value), s₂ = { s with heap := h', toks := tk } ∧ Facts c ∧ P c ∧ D c ∧ Fr h₀ L h' (kstB (fun z => if stored.contains z then u z else m₀ z) (ps c)) ∧ News h₀ L h' (Led c)
noncomputable def OutQ {σ : Type} (h₀ : Heap) (L : Addr) (s : Shared) (Led : σ → List (Addr × Obj)) (ps : σ → List (Str × Value)) (Facts : σ → Prop) (stored : List Str) (m₀ : Str → Option Value) (P D : σ → Prop) (Q : Flow → Shared → Prop) (f : Flow) (s₂ : Shared) : Prop :=
  match f with
  | .next => Out h₀ L s Led ps Facts stored m₀ P D s₂
  | f => Q f s₂
theorem out_intro {σ : Type} {h₀ : Heap} {L : Addr} {s : Shared} {Led : σ → List (Addr × Obj)} {ps : σ → List (Str × Value)} {Facts : σ → Prop} {stored : List Str} {m₀ : Str → Option Value} {P D : σ → Prop} {c : σ} {h' : Heap} {tk : Nat} {u : Str → Option Value} {news : List (Addr × Obj)}
    (F : Fr h₀ L h' (kstB (fun z => if stored.contains z then u z else m₀ z) (ps c))) (N : News h₀ L h' news) (hn : ∀ p ∈ Led c, p ∈ news) (hf : Facts c) (hp : P c) (hd : D c) :
    Out h₀ L s Led ps Facts stored m₀ P D { s with heap := h', toks := tk } := ⟨c, h', tk, u, rfl, hf, hp, hd, F, fun p hp => N p (hn p hp)⟩

section
variable {prog : Program} {w : World} {A : Around} {E : Value → Shared → Prop} {Q : Flow → Shared → Prop} {s : Shared} {env : Env} {h₀ : Heap} {L : Addr}
/-- a while whose ends are joined: behind it only D is known -/
theorem my_while {σ : Type} {test : Expr} {body : List Stmt} {pos : Pos} {m₀ : Str → Option Value} (Led : σ → List (Addr × Obj)) (ps : σ → List (Str × Value)) (Facts : σ → Prop) (stored : List Str) (P : σ → Prop) (μ : σ → Nat) (D : σ → Prop) (c₀ : σ)
    (F : Fr h₀ L s.heap m₀) (N : News h₀ L s.heap (Led c₀)) (hf : Facts c₀) (hk : ∀ p ∈ ps c₀, m₀ p.1 = some p.2) (hp : P c₀)
    (turn : ∀ (c : σ) (u : Str → Option Value) h tk, Facts c → P c → Fr h₀ L h (kstB (fun z => if stored.contains z then u z else m₀ z) (ps c)) → News h₀ L h (Led c) →
      wpAny (model prog w) A (isTrue test env (eval test env)) (fun b s₂ =>
        if b = true then wpAny (model prog w) A (execs body env) (KswPost h₀ L s Led ps Facts stored m₀ P μ (OutQ h₀ L s Led ps Facts stored m₀ P D Q) c) E s₂ else Out h₀ L s Led ps Facts stored m₀ P D s₂) E { s with heap := h, toks := tk })
    (done : ∀ (c : σ) (u : Str → Option Value) h tk, Facts c → P c → D c → Fr h₀ L h (kstB (fun z => if stored.contains z then u z else m₀ z) (ps c)) → News h₀ L h (Led c) → Q .next { s with heap := h, toks := tk })
    (hE : PassesOwn (model prog w) A env E) :
    wpAny (model prog w) A (exec (.While test body [] pos) env) Q E s := by
  refine wpAny_mono (ksw_while (Q := OutQ h₀ L s Led ps Facts stored m₀ P D Q) Led ps Facts stored P μ c₀ F N hf hk hp turn hE) (fun f s₂ q => ?_) fun _ _ x => x
  cases f with
  | next =>
    obtain ⟨c, h', tk, u, rfl, hf', hp', hd', F', N'⟩ := q
    exact done c u h' tk hf' hp' hd' F' N'
  | brk => exact q
  | cont => exact q
  | ret v => exact q
end
end Mine
namespace Mine
section
variable {prog : Program} {w : World} {A : Around} {E : Value → Shared → Prop} {s : Shared} {env : Env} {h₀ : Heap} {L : Addr} {m : Str → Option Value} {news : List (Addr × Obj)}
noncomputable def StrRet (h₀ : Heap) (L : Addr) (m : Str → Option Value) (news : List (Addr × Obj)) (s : Shared) (x : Str) (v : Value) (s₂ : Shared) : Prop :=
  ∃ t' h' k, v = .str x t' ∧ s₂ = { s with heap := h', toks := k } ∧ Fr h₀ L h' m ∧ News h₀ L h' news
theorem strRet {x y : Str} {t' : Tok} {h' : Heap} {k : Nat} {news' : List (Addr × Obj)} (e : y = x) (F : Fr h₀ L h' m) (N : News h₀ L h' news') (hn : ∀ p ∈ news, p ∈ news') : StrRet h₀ L m news s x (.str y t') { s with heap := h', toks := k } := by
  subst e
  exact ⟨t', h', k, rfl, rfl, F, fun p hp => N p (hn p hp)⟩
/-- a text, however it comes about -/
theorem cut_str {t : Sem Value} {Q : Value → Shared → Prop} (x : Str) (F : Fr h₀ L s.heap m) (N : News h₀ L s.heap news) (h1 : wpAny (model prog w) A t (StrRet h₀ L m news s x) E s)
    (h2 : ∀ t' h' k, Fr h₀ L h' m → News h₀ L h' news → Q (.str x t') { s with heap := h', toks := k }) : wpAny (model prog w) A t Q E s := by
  refine wpAny_mono h1 (fun v s₂ q => ?_) fun _ _ x => x
  obtain ⟨t', h', k, rfl, rfl, F', N'⟩ := q
  exact h2 t' h' k F' N'
theorem fr_congr {h : Heap} {m' : Str → Option Value} (F : Fr h₀ L h m) (e : ∀ z, m z = m' z) : Fr h₀ L h m' := by
  have : m = m' := funext e
  exact this ▸ F
end
end Mine
namespace Mine
/-- 2, 4, .. -/
noncomputable def evens (n : Nat) : List Int := rangeInts 2 2 n
section
variable {prog : Program} {w : World} {A : Around} {E : Value → Shared → Prop} {s : Shared} {env : Env} {h₀ : Heap} {L : Addr} {m : Str → Option Value} {news : List (Addr × Obj)}
set_option maxRecDepth 100000 in
theorem list_evens {r : Addr} {b : Int} {t u v : Tok} {n : Nat} {Q : Value → Shared → Prop} (hh : A.handled = none) (F : Fr h₀ L s.heap m) (N : News h₀ L s.heap news) (hr : IsRange s.heap r 2 b 2 t u v) (hb : b = 2 * ((n : Int) + 1)) (hn : n ≤ 100)
    (h : ∀ (l : Addr) (vs : List Value) (c : Nat) (h' : Heap) (tk : Nat), Fr h₀ L h' m → News h₀ L h' ((l, listOf vs.toArray c) :: news) → (∀ p ∈ news, p.1 < l) → IntsAre vs (evens n) → Q (.ref l) { s with heap := h', toks := tk }) :
    wpAny (model prog w) A (call (.type "list") [.ref r]) Q E s := by
  subst hb
  have hsz : Builtin.Range.rangeSize 2 (2 * ((n : Int) + 1)) 2 = (n : Int) := by
    simp only [Builtin.Range.rangeSize]
    rw [if_pos (by decide)]
    split <;> omega
  have hsm : Builtin.Range.small 2 (2 * ((n : Int) + 1)) 2 = true := by
    have key : ∀ k : Fin 101, Builtin.Range.small 2 (2 * (((k.val : Nat) : Int) + 1)) 2 = true := by decide +kernel
    exact key ⟨n, by omega⟩
  refine list_rangeD hh F N hr hsm hsz (by omega) fun h' tk ys F' N' hk hnone hl np hc => ?_
  obtain ⟨⟨c, hp⟩, hne⟩ := np
  refine h s.heap.objs.size ys c h' tk F' (fun p hp' => ?_) (fun p hp' => Heap.lt_size (N p hp').1) (IntsAre.ofCarried hc)
  rcases List.mem_cons.mp hp' with rfl | hp'
  · exact ⟨hp, Nat.ne_of_gt F.ns.lt, hnone⟩
  · exact N' p hp'
noncomputable def AbRet (h₀ : Heap) (L : Addr) (m : Str → Option Value) (news : List (Addr × Obj)) (s : Shared) (x y : Str) (f : Flow) (s₂ : Shared) : Prop :=
  f = .next ∧ ∃ t1 t2 h' tk, s₂ = { s with heap := h', toks := tk } ∧ Fr h₀ L h' (fun z => if z = Str.ofString "a" then some (.str x t1) else if z = Str.ofString "b" then some (.str y t2) else m z) ∧ News h₀ L h' news
theorem abRet {x y : Str} {t1 t2 : Tok} {h' : Heap} {k : Nat} {m' : Str → Option Value} {news' : List (Addr × Obj)} (F : Fr h₀ L h' m') (e : ∀ z, m' z = if z = Str.ofString "a" then some (.str x t1) else if z = Str.ofString "b" then some (.str y t2) else m z) (N : News h₀ L h' news') (hn : ∀ p ∈ news, p ∈ news') : AbRet h₀ L m news s x y .next { s with heap := h', toks := k } :=
  ⟨rfl, t1, t2, h', k, rfl, fr_congr F e, fun p hp => N p (hn p hp)⟩
theorem cut_ab {t : Sem Flow} {Q : Flow → Shared → Prop} (x y : Str) (F : Fr h₀ L s.heap m) (N : News h₀ L s.heap news) (h1 : wpAny (model prog w) A t (AbRet h₀ L m news s x y) E s)
    (h2 : ∀ t1 t2 h' tk, Fr h₀ L h' (fun z => if z = Str.ofString "a" then some (.str x t1) else if z = Str.ofString "b" then some (.str y t2) else m z) → News h₀ L h' news → Q .next { s with heap := h', toks := tk }) : wpAny (model prog w) A t Q E s := by
  refine wpAny_mono h1 (fun f s₂ q => ?_) fun _ _ x => x
  obtain ⟨rfl, t1, t2, h', k, rfl, F', N'⟩ := q
  exact h2 t1 t2 h' k F' N'
end
end Mine
namespace Mine
section
variable {h₀ h' : Heap} {L : Addr} {m : Str → Option Value} {news news' : List (Addr × Obj)} {s : Shared} {Q : Value → Shared → Prop} {t : Tok} {tk' : Nat}
theorem endI {x y : Int} (hret : ∀ (t : Tok) (h' : Heap) (tk' : Nat), Fr h₀ L h' m → News h₀ L h' news → Q (.int x t) { s with heap := h', toks := tk' }) (e : y = x) (F : Fr h₀ L h' m) (N : News h₀ L h' news') (hn : ∀ p ∈ news, p ∈ news') : Q (.int y t) { s with heap := h', toks := tk' } := by
  subst e
  exact hret t h' tk' F fun p hp => N p (hn p hp)
theorem endS {x y : Str} (hret : ∀ (t : Tok) (h' : Heap) (tk' : Nat), Fr h₀ L h' m → News h₀ L h' news → Q (.str x t) { s with heap := h', toks := tk' }) (e : y = x) (F : Fr h₀ L h' m) (N : News h₀ L h' news') (hn : ∀ p ∈ news, p ∈ news') : Q (.str y t) { s with heap := h', toks := tk' } := by
  subst e
  exact hret t h' tk' F fun p hp => N p (hn p hp)
theorem endB {x y : Bool} (hret : ∀ (h' : Heap) (tk' : Nat), Fr h₀ L h' m → News h₀ L h' news → Q (.bool x) { s with heap := h', toks := tk' }) (e : y = x) (F : Fr h₀ L h' m) (N : News h₀ L h' news') (hn : ∀ p ∈ news, p ∈ news') : Q (.bool y) { s with heap := h', toks := tk' } := by
  subst e
  exact hret h' tk' F fun p hp => N p (hn p hp)
end
end Mine
end

section
open PySem PySem.W PyProof.Rows
namespace Mine

noncomputable abbrev cs (x : Str) : List Nat := x.cps.toList
theorem cs_len (x : Str) : (cs x).length = x.length := by simp [PySem.Str.length]
theorem str_of_cs (x : Str) (l : List Nat) (h : x = ⟨l.toArray⟩) : cs x = l := by rw [h]
theorem slice_all (x : Str) : Txt.slice x none none = x := by
  unfold Txt.slice
  have : (PySem.Builtin.Str.strSliceIndices none none 1 x.length).length = x.length := by
    simp [PySem.Builtin.Str.strSliceIndices, sliceRange]
    all_goals (try (split <;> omega))
  rw [this]; simp
theorem slice_drop {x : Str} {k : Int} (h0 : 0 ≤ k) (h2 : k ≤ x.length) : cs (Txt.slice x (some k) none) = (cs x).drop k.toNat := by
  rw [slice_from_eq h0 h2 rfl]
  simp only [cs]
  rw [List.take_of_length_le]
  rw [List.length_drop]
  have : x.cps.toList.length = x.length := by simp [PySem.Str.length]
  omega
theorem slice_take {x : Str} {j : Int} (h0 : 0 ≤ j) (h2 : j ≤ x.length) : cs (Txt.slice x none (some j)) = (cs x).take j.toNat := by
  have h := slice_closes_toL h0 h2
  rw [beq_iff_eq] at h
  rw [h]
  simp
theorem item_is {x : Str} {k : Int} (h0 : 0 ≤ k) (h1 : k < x.length) : Txt.item x k = ⟨#[(cs x).getD k.toNat 0]⟩ := by
  rw [item_at h0 h1 rfl]
  simp [cs]
theorem item_neg {x : Str} {k : Int} (h0 : k < 0) (h1 : -(x.length : Int) ≤ k) : Txt.item x k = ⟨#[(cs x).getD (k + x.length).toNat 0]⟩ := by
  have h := item_closes_neg h0 h1 rfl
  rw [beq_iff_eq] at h
  rw [h]
  simp [cs]
theorem item_eq (c d : Nat) : ((⟨#[c]⟩ : Str) == ⟨#[d]⟩) = decide (c = d) := by
  rw [Bool.eq_iff_iff]; simp

noncomputable def lcp : List Nat → List Nat → Nat
  | x :: xs, y :: ys => if x = y then lcp xs ys + 1 else 0
  | _, _ => 0
theorem lcp_step : ∀ {A B : List Nat} {i : Nat}, i ≤ lcp A B → i < A.length → i < B.length → A.getD i 0 = B.getD i 0 → i + 1 ≤ lcp A B
  | x :: xs, y :: ys, 0, _, _, _, e => by
    have e : x = y := e
    rw [lcp, if_pos e]; omega
  | x :: xs, y :: ys, i + 1, h, ha, hb, e => by
    rw [lcp] at h ⊢
    split at h
    · rename_i q
      rw [if_pos q]
      have := lcp_step (A := xs) (B := ys) (i := i) (by omega) (by simpa using ha) (by simpa using hb) (by simpa using e)
      omega
    · omega
  | [], _, _, _, ha, _, _ => by simp at ha
  | _ :: _, [], _, _, _, hb, _ => by simp at hb
theorem lcp_le : ∀ (A B : List Nat), lcp A B ≤ A.length ∧ lcp A B ≤ B.length
  | x :: xs, y :: ys => by
    rw [lcp]
    split
    · have := lcp_le xs ys
      simp only [List.length_cons]; omega
    · exact ⟨Nat.zero_le _, Nat.zero_le _⟩
  | [], _ => ⟨by simp [lcp], by simp [lcp]⟩
  | _ :: _, [] => ⟨by simp [lcp], by simp [lcp]⟩
theorem lcp_at : ∀ {A B : List Nat} {i : Nat}, i < lcp A B → A.getD i 0 = B.getD i 0
  | x :: xs, y :: ys, i, h => by
    rw [lcp] at h
    split at h
    · rename_i q
      cases i with
      | zero => simpa using q
      | succ i => simpa using lcp_at (A := xs) (B := ys) (i := i) (by omega)
    · omega
  | [], _, _, h => by simp [lcp] at h
  | _ :: _, [], _, h => by simp [lcp] at h
theorem lcp_stop {A B : List Nat} {i : Nat} (h : i ≤ lcp A B) (q : A.length ≤ i ∨ B.length ≤ i ∨ A.getD i 0 ≠ B.getD i 0) : i = lcp A B := by
  have h1 := lcp_le A B
  rcases Nat.lt_or_ge i (lcp A B) with hlt | hge
  · rcases q with q | q | q
    · omega
    · omega
    · exact absurd (lcp_at hlt) q
  · omega
end Mine
namespace Mine
theorem slice_neg_len {x : Str} {j : Int} (h : j < 0) : ((Txt.slice x none (some j)).length : Int) = max 0 ((x.length : Int) + j) := by
  rw [slice_to_neg h]
  have := (fact_slice_ns x (max 0 ((x.length : Int) + j))).1 (by omega) (by omega)
  omega
theorem slice_neg {x : Str} {j : Int} (h : j < 0) (h2 : -(x.length : Int) ≤ j) : cs (Txt.slice x none (some j)) = (cs x).take ((x.length : Int) + j).toNat := by
  rw [slice_to_neg h, slice_take (by omega) (by omega)]
  congr 1; omega
theorem rev_getD {l : List Nat} {i : Nat} (h : i < l.length) : l.reverse.getD i 0 = l.getD (l.length - 1 - i) 0 := by
  rw [List.getD_eq_getElem?_getD, List.getD_eq_getElem?_getD, List.getElem?_reverse h]
/-- the common end -/
noncomputable def lcs (A B : List Nat) : Nat := lcp A.reverse B.reverse
theorem lcs_le (A B : List Nat) : lcs A B ≤ A.length ∧ lcs A B ≤ B.length := by
  have := lcp_le A.reverse B.reverse
  simpa [lcs] using this
theorem lcs_step {A B : List Nat} {i : Nat} (h : i ≤ lcs A B) (ha : i < A.length) (hb : i < B.length) (e : A.getD (A.length - 1 - i) 0 = B.getD (B.length - 1 - i) 0) : i + 1 ≤ lcs A B :=
  lcp_step h (by simpa using ha) (by simpa using hb) (by rw [rev_getD ha, rev_getD hb, e])
theorem lcs_stop {A B : List Nat} {i : Nat} (h : i ≤ lcs A B) (q : A.length ≤ i ∨ B.length ≤ i ∨ (i < A.length ∧ i < B.length ∧ A.getD (A.length - 1 - i) 0 ≠ B.getD (B.length - 1 - i) 0)) : i = lcs A B := by
  refine lcp_stop h ?_
  rcases q with q | q | ⟨ha, hb, q⟩
  · exact .inl (by simpa using q)
  · exact .inr (.inl (by simpa using q))
  · exact .inr (.inr (by rw [rev_getD ha, rev_getD hb]; exact q))
theorem w2_go {a b : Str} {p : Int} (h0 : p ≤ 0) (h1 : -p ≤ (lcs (cs a) (cs b) : Int)) (ha : -p < a.length) (hb : -p < b.length) (e : (Txt.item a (p - 1) == Txt.item b (p - 1)) = true) : -(p - 1) ≤ (lcs (cs a) (cs b) : Int) := by
  rw [item_neg (by omega) (by omega), item_neg (by omega) (by omega), item_eq] at e
  have e := of_decide_eq_true e
  have la := cs_len a
  have lb := cs_len b
  have := lcs_step (A := cs a) (B := cs b) (i := (-p).toNat) (by omega) (by omega) (by omega) (by
    rw [show (cs a).length - 1 - (-p).toNat = (p - 1 + (a.length : Int)).toNat by omega, show (cs b).length - 1 - (-p).toNat = (p - 1 + (b.length : Int)).toNat by omega]; exact e)
  omega
theorem w2_c {a b : Str} {p : Int} (h0 : p ≤ 0) (h1 : -p ≤ (lcs (cs a) (cs b) : Int)) (ha : -p < a.length) (hb : -p < b.length) (e : (Txt.item a (p - 1) == Txt.item b (p - 1)) = false) : p = -(lcs (cs a) (cs b) : Int) := by
  rw [item_neg (by omega) (by omega), item_neg (by omega) (by omega), item_eq] at e
  have e := of_decide_eq_false e
  have la := cs_len a
  have lb := cs_len b
  have := lcs_stop (A := cs a) (B := cs b) (i := (-p).toNat) (by omega) (.inr (.inr ⟨by omega, by omega, by
    rw [show (cs a).length - 1 - (-p).toNat = (p - 1 + (a.length : Int)).toNat by omega, show (cs b).length - 1 - (-p).toNat = (p - 1 + (b.length : Int)).toNat by omega]; exact e⟩))
  omega
theorem w2_ab {a b : Str} {p : Int} (h0 : p ≤ 0) (h1 : -p ≤ (lcs (cs a) (cs b) : Int)) (h : (a.length : Int) ≤ -p ∨ (b.length : Int) ≤ -p) : p = -(lcs (cs a) (cs b) : Int) := by
  have := lcs_le (cs a) (cs b)
  have la := cs_len a
  have lb := cs_len b
  omega
end Mine
namespace Mine
noncomputable def upto (x : Str) (p : Int) : Str := if p = 0 then x else Txt.slice x none (some p)
theorem upto_cs {x : Str} {p : Int} {k : Nat} (h : p = -(k : Int)) (hk : k ≤ x.length) : cs (upto x p) = (cs x).take (x.length - k) := by
  unfold upto
  split
  · rw [List.take_of_length_le]
    rw [cs_len]; omega
  · rw [slice_neg (by omega) (by omega)]
    congr 1; omega
end Mine
namespace Mine
noncomputable def inStep (c : Nat) (X : List Nat) (i : Nat) (st : Int × Int × Int × List Int) : Int × Int × Int × List Int :=
  let sub := st.1 + (if c = X.getD i 0 then 0 else 2)
  let d := st.2.2.2.getD i 0
  let e := (if d < st.2.1 then d else st.2.1) + 2
  let r := if sub < e then sub else e
  (d, r, if r < st.2.2.1 then r else st.2.2.1, st.2.2.2.set i r)
noncomputable def inner (c : Nat) (X : List Nat) (st : Int × Int × Int × List Int) : Nat → Int × Int × Int × List Int
  | 0 => st
  | i + 1 => inStep c X i (inner c X st i)
noncomputable def levGo (X Y : List Nat) (mx : Int) : Nat → Nat → List Int → Int → Int
  | 0, _, _, res => res
  | n + 1, j, row, _ =>
    let st := inner (Y.getD j 0) X ((j : Int) * 2, (j : Int) * 2, 9223372036854775807, row) X.length
    if st.2.2.1 > mx then mx + 1 else levGo X Y mx n (j + 1) st.2.2.2 st.2.1
noncomputable def levTail (X Y : List Nat) (mx : Int) : Int :=
  if ((Y.length : Int) - X.length) * 2 > mx then mx + 1 else levGo X Y mx Y.length 0 ((List.range X.length).map fun i => 2 + (i : Nat) * 2) 0
noncomputable def levMid (A B : List Nat) (mx : Int) : Int :=
  if A = [] ∨ B = [] then 2 * ((A.length : Int) + B.length) else if B.length < A.length then levTail B A mx else levTail A B mx
noncomputable def levF (A B : List Nat) (mx : Int) : Int :=
  if A = B then 0 else
  let A1 := A.drop (lcp A B)
  let B1 := B.drop (lcp A B)
  levMid (A1.take (A1.length - lcs A1 B1)) (B1.take (B1.length - lcs A1 B1)) mx
noncomputable def sw1 (x y : Str) : Str := if y.length < x.length then y else x
noncomputable def sw2 (x y : Str) : Str := if y.length < x.length then x else y
end Mine
namespace Mine
theorem levMid_nil {A B : List Nat} {mx : Int} (h : A.length = 0 ∨ B.length = 0) : levMid A B mx = 2 * ((A.length : Int) + B.length) := by
  unfold levMid
  rw [if_pos]
  rcases h with h | h
  · exact .inl (List.eq_nil_of_length_eq_zero h)
  · exact .inr (List.eq_nil_of_length_eq_zero h)
theorem levMid_sw {x y : Str} {mx : Int} (h1 : x.length ≠ 0) (h2 : y.length ≠ 0) : levMid (cs x) (cs y) mx = levTail (cs (sw1 x y)) (cs (sw2 x y)) mx := by
  unfold levMid sw1 sw2
  rw [cs_len, cs_len, if_neg]
  · split <;> rfl
  · rintro (h | h)
    · apply h1; rw [← cs_len, h]; rfl
    · apply h2; rw [← cs_len, h]; rfl
theorem sw_le (x y : Str) : (sw1 x y).length ≤ (sw2 x y).length := by unfold sw1 sw2; split <;> omega
theorem sw_le6 {x y : Str} {n : Nat} (hx : x.length ≤ n) (hy : y.length ≤ n) : (sw2 x y).length ≤ n := by unfold sw2; split <;> assumption
theorem sw_ge {x y : Str} {n : Nat} (hx : n ≤ x.length) (hy : n ≤ y.length) : n ≤ (sw1 x y).length := by unfold sw1; split <;> assumption
end Mine
namespace Mine
theorem levF_mid {a b a1 b1 a2 b2 : Str} {mx : Int} (hne : (a == b) = false) (la : cs a1 = (cs a).drop (lcp (cs a) (cs b))) (lb : cs b1 = (cs b).drop (lcp (cs a) (cs b)))
    (ea : cs a2 = (cs a1).take (a1.length - lcs (cs a1) (cs b1))) (eb : cs b2 = (cs b1).take (b1.length - lcs (cs a1) (cs b1))) : levF (cs a) (cs b) mx = levMid (cs a2) (cs b2) mx := by
  have hab : cs a ≠ cs b := fun e => by
    have : a = b := PySem.Str.ext' (Array.toList_inj.mp e)
    subst this
    simp at hne
  unfold levF
  rw [if_neg hab]
  simp only
  rw [← la, ← lb, cs_len, cs_len, ← ea, ← eb]
theorem levGo_next {x y : Str} {mx T : Int} {J : Nat} {row row' : List Int} {res d r mi : Int} {n : Nat} (h : levGo (cs x) (cs y) mx (y.length - J) J row res = T) (hJ : J < y.length)
    (hin : (d, r, mi, row') = inner ((cs y).getD J 0) (cs x) ((J : Int) * 2, (J : Int) * 2, 9223372036854775807, row) n) (hn : n = x.length) : (mx < mi → T = mx + 1) ∧ (¬ mx < mi → levGo (cs x) (cs y) mx (y.length - (J + 1)) (J + 1) row' r = T) := by
  have e : y.length - J = (y.length - (J + 1)) + 1 := by omega
  rw [e, levGo] at h
  subst hn
  rw [cs_len, ← hin] at h
  simp only at h
  constructor
  · intro q
    rw [if_pos q] at h
    exact h.symm
  · intro q
    rw [if_neg q] at h
    exact h
theorem levTail_is {x y : Str} {mx : Int} : levTail (cs x) (cs y) mx = if mx < ((y.length : Int) - x.length) * 2 then mx + 1 else levGo (cs x) (cs y) mx y.length 0 (rangeInts 2 2 x.length) 0 := by
  unfold levTail
  rw [cs_len, cs_len]
  rfl
end Mine
namespace Mine
theorem sg_b : Str.ofString " " = ⟨#[32]⟩ := by decide +kernel
theorem sg_t : Str.ofString "\t" = ⟨#[9]⟩ := by decide +kernel
theorem sg_x : Str.ofString "x" = ⟨#[120]⟩ := by decide +kernel
theorem sgb (n : Nat) : (({ cps := #[n] } : Str) == Str.ofString " ") = decide (n = 32) := by
  rw [sg_b, Bool.eq_iff_iff]; simp
theorem sgt (n : Nat) : (({ cps := #[n] } : Str) == Str.ofString "\t") = decide (n = 9) := by
  rw [sg_t, Bool.eq_iff_iff]; simp
end Mine
end

section
open PySem PySem.W PyProof.Rows
namespace Mine





theorem w1_go {a b : Str} {pre : Int} (h0 : 0 ≤ pre) (h1 : pre ≤ (lcp (cs a) (cs b) : Int)) (fa : (0 ≤ pre → pre ≤ (a.length : Int) → ((Txt.slice a (some pre) none).length : Int) = a.length - pre) ∧ ((a.length : Int) ≤ pre → ((Txt.slice a (some pre) none).length : Int) = 0))
    (na : ((Txt.slice a (some pre) none).length : Int) ≠ 0) (fb : (0 ≤ pre → pre ≤ (b.length : Int) → ((Txt.slice b (some pre) none).length : Int) = b.length - pre) ∧ ((b.length : Int) ≤ pre → ((Txt.slice b (some pre) none).length : Int) = 0))
    (nb : ((Txt.slice b (some pre) none).length : Int) ≠ 0) (e : (Txt.item a pre == Txt.item b pre) = true) : pre + 1 ≤ (lcp (cs a) (cs b) : Int) := by
  have ha : pre < a.length := Int.not_le.mp fun q => na (fa.2 q)
  have hb : pre < b.length := Int.not_le.mp fun q => nb (fb.2 q)
  rw [item_is h0 ha, item_is h0 hb, item_eq] at e
  have := lcp_step (A := cs a) (B := cs b) (i := pre.toNat) (by omega) (by rw [cs_len]; omega) (by rw [cs_len]; omega) (of_decide_eq_true e)
  omega
theorem w1_a {a b : Str} {pre : Int} (h0 : 0 ≤ pre) (h1 : pre ≤ (lcp (cs a) (cs b) : Int)) (fa : (0 ≤ pre → pre ≤ (a.length : Int) → ((Txt.slice a (some pre) none).length : Int) = a.length - pre) ∧ ((a.length : Int) ≤ pre → ((Txt.slice a (some pre) none).length : Int) = 0))
    (na : ((Txt.slice a (some pre) none).length : Int) = 0) : pre = (lcp (cs a) (cs b) : Int) := by
  have hl := cs_len a
  have := lcp_le (cs a) (cs b)
  have := lcp_stop (A := cs a) (B := cs b) (i := pre.toNat) (by omega) (.inl (by have := fa.1 h0 (by omega); omega))
  omega
theorem w1_b {a b : Str} {pre : Int} (h0 : 0 ≤ pre) (h1 : pre ≤ (lcp (cs a) (cs b) : Int)) (fb : (0 ≤ pre → pre ≤ (b.length : Int) → ((Txt.slice b (some pre) none).length : Int) = b.length - pre) ∧ ((b.length : Int) ≤ pre → ((Txt.slice b (some pre) none).length : Int) = 0))
    (nb : ((Txt.slice b (some pre) none).length : Int) = 0) : pre = (lcp (cs a) (cs b) : Int) := by
  have hl := cs_len b
  have := lcp_le (cs a) (cs b)
  have := lcp_stop (A := cs a) (B := cs b) (i := pre.toNat) (by omega) (.inr (.inl (by have := fb.1 h0 (by omega); omega)))
  omega
theorem w1_c {a b : Str} {pre : Int} (h0 : 0 ≤ pre) (h1 : pre ≤ (lcp (cs a) (cs b) : Int)) (fa : (0 ≤ pre → pre ≤ (a.length : Int) → ((Txt.slice a (some pre) none).length : Int) = a.length - pre) ∧ ((a.length : Int) ≤ pre → ((Txt.slice a (some pre) none).length : Int) = 0))
    (na : ((Txt.slice a (some pre) none).length : Int) ≠ 0) (fb : (0 ≤ pre → pre ≤ (b.length : Int) → ((Txt.slice b (some pre) none).length : Int) = b.length - pre) ∧ ((b.length : Int) ≤ pre → ((Txt.slice b (some pre) none).length : Int) = 0))
    (nb : ((Txt.slice b (some pre) none).length : Int) ≠ 0) (e : (Txt.item a pre == Txt.item b pre) = false) : pre = (lcp (cs a) (cs b) : Int) := by
  have ha : pre < a.length := Int.not_le.mp fun q => na (fa.2 q)
  have hb : pre < b.length := Int.not_le.mp fun q => nb (fb.2 q)
  rw [item_is h0 ha, item_is h0 hb, item_eq] at e
  have := lcp_stop (A := cs a) (B := cs b) (i := pre.toNat) (by omega) (.inr (.inr (of_decide_eq_false e)))
  omega

theorem ab_swap {x y : Str} {t1 t2 : Tok} {m : Str → Option Value} (h : (y.length : Int) < x.length) : ∀ z, (if z = Str.ofString "a" then some (Value.str y t2) else if z = Str.ofString "b" then some (Value.str x t1) else m z) = if z = Str.ofString "a" then some (.str (sw1 x y) t2) else if z = Str.ofString "b" then some (.str (sw2 x y) t1) else m z := by
  intro z
  have h' : y.length < x.length := by omega
  unfold sw1 sw2
  rw [if_pos h', if_pos h']
theorem ab_stay {x y : Str} {t1 t2 : Tok} {m : Str → Option Value} (h : ¬ (y.length : Int) < x.length) : ∀ z, (if z = Str.ofString "b" then some (Value.str y t2) else if z = Str.ofString "a" then some (Value.str x t1) else m z) = if z = Str.ofString "a" then some (.str (sw1 x y) t1) else if z = Str.ofString "b" then some (.str (sw2 x y) t2) else (if z = Str.ofString "b" then some (Value.str y t2) else if z = Str.ofString "a" then some (Value.str x t1) else m z) := by
  intro z
  have h' : ¬ y.length < x.length := by omega
  unfold sw1 sw2
  rw [if_neg h', if_neg h']
  by_cases h1 : z = Str.ofString "a"
  · subst h1
    rw [if_neg (by decide), if_pos rfl, if_pos rfl]
  · rw [if_neg h1, if_neg h1]
    split <;> rfl
theorem lev_done {x y : Str} {mx T res : Int} {row : List Int} (h : levGo (cs x) (cs y) mx (y.length - (rangeKs 0 ((y.length : Int) - 0).toNat).length) (rangeKs 0 ((y.length : Int) - 0).toNat).length row res = T) : res = T := by
  rw [rangeKs_length, show y.length - ((y.length : Int) - 0).toNat = 0 by omega] at h
  rw [← h]; rfl
theorem sub_items {x y : Str} {j k : Int} (hj0 : 0 ≤ j) (hj1 : j < y.length) (hk0 : 0 ≤ k) (hk1 : k < x.length) : subI (Txt.item y j) (Txt.item x k) = if (cs y).getD j.toNat 0 = (cs x).getD k.toNat 0 then 0 else 2 := by
  rw [item_is hj0 hj1, item_is hk0 hk1]
  unfold subI
  congr 1
  simp
theorem in_go {x y : Str} {j k : Int} {J n : Nat} {pre : List Int} {st0 : Int × Int × Int × List Int} {d r m : Int} {row : List Int} (hj : j = 0 + (J : Int)) (hj1 : j < y.length) (hk : k = 0 + (pre.length : Int)) (hk1 : k < x.length)
    (h : (d, r, m, row) = inner ((cs y).getD J 0) (cs x) st0 pre.length) (hl : row.length = n) (R : Int)
    (hR : R = (if d + subI (Txt.item y j) (Txt.item x k) < (if row.getD k.toNat 0 < r then row.getD k.toNat 0 else r) + 2 then d + subI (Txt.item y j) (Txt.item x k) else (if row.getD k.toNat 0 < r then row.getD k.toNat 0 else r) + 2)) :
    (row.getD k.toNat 0, R, if R < m then R else m, row.set k.toNat R) = inner ((cs y).getD J 0) (cs x) st0 (pre ++ [k]).length ∧ (row.set k.toNat R).length = n := by
  rw [sub_items (by omega) hj1 (by omega) hk1] at hR
  have e1 : j.toNat = J := by omega
  have e2 : k.toNat = pre.length := by omega
  rw [e1, e2] at hR
  rw [e2, List.length_append, List.length_singleton, inner, ← h, List.length_set]
  refine ⟨?_, hl⟩
  simp only [inStep]
  rw [← hR]
theorem in_lt {x y : Str} {j k : Int} {J n : Nat} {pre : List Int} {st0 : Int × Int × Int × List Int} {d r m : Int} {row : List Int} {R : Int} (hj : j = 0 + (J : Int)) (hj1 : j < y.length) (hk : k = 0 + (pre.length : Int)) (hk1 : k < x.length)
    (h : (d, r, m, row) = inner ((cs y).getD J 0) (cs x) st0 pre.length) (hl : row.length = n)
    (hR : R = (if d + subI (Txt.item y j) (Txt.item x k) < (if row.getD k.toNat 0 < r then row.getD k.toNat 0 else r) + 2 then d + subI (Txt.item y j) (Txt.item x k) else (if row.getD k.toNat 0 < r then row.getD k.toNat 0 else r) + 2)) (hm : R < m) :
    (row.getD k.toNat 0, R, R, row.set k.toNat R) = inner ((cs y).getD J 0) (cs x) st0 (pre ++ [k]).length ∧ (row.set k.toNat R).length = n := by
  have := in_go hj hj1 hk hk1 h hl R hR
  rwa [if_pos hm] at this
theorem in_ge {x y : Str} {j k : Int} {J n : Nat} {pre : List Int} {st0 : Int × Int × Int × List Int} {d r m : Int} {row : List Int} {R : Int} (hj : j = 0 + (J : Int)) (hj1 : j < y.length) (hk : k = 0 + (pre.length : Int)) (hk1 : k < x.length)
    (h : (d, r, m, row) = inner ((cs y).getD J 0) (cs x) st0 pre.length) (hl : row.length = n)
    (hR : R = (if d + subI (Txt.item y j) (Txt.item x k) < (if row.getD k.toNat 0 < r then row.getD k.toNat 0 else r) + 2 then d + subI (Txt.item y j) (Txt.item x k) else (if row.getD k.toNat 0 < r then row.getD k.toNat 0 else r) + 2)) (hm : ¬ R < m) :
    (row.getD k.toNat 0, R, m, row.set k.toNat R) = inner ((cs y).getD J 0) (cs x) st0 (pre ++ [k]).length ∧ (row.set k.toNat R).length = n := by
  have := in_go hj hj1 hk hk1 h hl R hR
  rwa [if_neg hm] at this
theorem sign_item {x : Str} {k : Int} (hs : ∀ c ∈ cs x, c = 32 ∨ c = 9) (h0 : 0 ≤ k) (h1 : k < x.length) : Sign (Txt.item x k) := by
  rw [item_is h0 h1]
  have hl := cs_len x
  have hlt : k.toNat < (cs x).length := by omega
  have hm : (cs x).getD k.toNat 0 ∈ cs x := by
    rw [List.getD_eq_getElem?_getD, List.getElem?_eq_getElem hlt, Option.getD_some]
    exact List.getElem_mem hlt
  have e1 : Str.ofString " " = ⟨#[32]⟩ := by decide +kernel
  have e2 : Str.ofString "\t" = ⟨#[9]⟩ := by decide +kernel
  rcases hs _ hm with q | q
  · left; rw [q, e1]
  · right; rw [q, e2]
theorem len_line6 {n : Nat} (h : n ≤ 6) : n ≤ PySem.sizeLine := by rw [PySem.sizeLine_eq]; omega
theorem len_line6t {n m : Nat} (h : n ≤ m) (h2 : m ≤ 6) : n ≤ PySem.sizeLine := len_line6 (Nat.le_trans h h2)
set_option maxRecDepth 100000 in
set_option maxHeartbeats 8000000 in
theorem lev_spec (w : World) (s₀ : Shared) (mg mb : Str → Option Value) (news : Led) (a b : Str) (t1 t2 : Tok) (mx : Int) (t3 : Tok) :
   Cl w s₀ mg mb 2 122 [.str a t1, .str b t2, .int mx t3] news (a.length ≤ 6 ∧ b.length ≤ 6 ∧ (∀ c ∈ cs a, c = 32 ∨ c = 9) ∧ (∀ c ∈ cs b, c = 32 ∨ c = 9)) (RetI news (levF (cs a) (cs b) mx)) := by
  dsimp only [Cl, RetI]
  k_fill
  w_top off
  intros
  rename_i hpre _ _ hret
  obtain ⟨ha, hb, sa, sb⟩ := hpre
  refine wpAny_call ?_
  k_dflt cell_enter
  k_with_none
  k_with "call ref" => (k_here; (show wpAny _ _ (call (Value.ref 115) _) _ _ _); (k_dflt (refine' subst_spec _ _ _ _ _ _ _ _ _ _ _ _ _ _ _ _ _ _ _ _ _ _ _ _ _ _ ?k1 ?k2 ?k3 ?k4 ?k5 ?kK ?kp ?kd ?ku ?_; (case k1 => k_asm); (case k2 => k_asm); (case k3 => k_asm); (case k4 => k_asm); (case k5 => k_asm); (case kK => first | exact rfl | assumption); (case kp => first | trivial | assumption | (k_extra "pre")); (case kd => ktr_room); (case ku => ktr_units))); intro _ _ _ _ _; (try dsimp only); (try k_fold))
  k_with "subscriptTail" => (k_here; (with_reducible show wpAny _ _ (subscriptTail _ _ (Value.str _ _) (Value.ref _)) _ _ _); (refine slice_strN_nn (s := ⟨_, _, _, _, _⟩) ‹Fr _ _ _ _› ‹News _ _ _ _› ?_); intro _ _ _ _ _; simp only [slice_all])
  k_with "subscriptTail Name Slice str ref" => first
    | ((with_reducible show wpAny _ _ (subscriptTail _ (Expr.Slice none (some _) none _) _ _) _ _ _); (refine slice_strN_ns_len (s := ⟨_, _, _, _, _⟩) (hsz := ?hsz) ‹Fr _ _ _ _› ‹News _ _ _ _› ?_); (case hsz => first | exact len_line6 (by assumption) | exact len_line6t (by assumption) (by assumption)); intro _ _ _ _ _ _)
    | ((with_reducible show wpAny _ _ (subscriptTail _ (Expr.Slice (some _) none none _) _ _) _ _ _); (refine slice_strN_sn_len (s := ⟨_, _, _, _, _⟩) (hsz := ?hsz) ‹Fr _ _ _ _› ‹News _ _ _ _› ?_); (case hsz => first | exact len_line6 (by assumption) | exact len_line6t (by assumption) (by assumption)); intro _ _ _ _ _ _)
    | ((with_reducible show wpAny _ _ (subscriptTail _ _ (Value.str _ _) (Value.ref _)) _ _ _); (refine slice_strN_nn (s := ⟨_, _, _, _, _⟩) ‹Fr _ _ _ _› ‹News _ _ _ _› ?_); intro _ _ _ _ _; simp only [slice_all])
  k_with "pyIter ref" => fail
  repeat' ((fail_if_success (with_reducible show KswEnd _ _ _ _ _ _ _ _ _ _ _ _)); (fail_if_success (with_reducible show wpAny _ _ (exec (Stmt.While _ _ _ _) _) _ _ _)); (fail_if_success (with_reducible show wpAny _ _ (pyIter _) _ _ _)); (first | (k_unfold; (try dsimp only)) | walk1 | (dsimp only; walk1) | (leave1; try dsimp only)))
  · have hq : levF (cs a) (cs b) mx = 0 := by
      have : a = b := beq_iff_eq.mp (by assumption)
      rw [this]; simp [levF]
    exact endI hret hq.symm (by assumption) (by assumption) (by intro p hp; kst_mem)
  · (rename Fr _ _ _ _ => F1); (rename News _ _ _ _ => N1)
    with_unfolding_all refine' my_while (σ := Int × Tok) (fun _ => news) (fun c => [(Str.ofString "pre", .int c.1 c.2)]) (fun _ => True) [] (fun c => 0 ≤ c.1 ∧ c.1 ≤ (lcp (cs a) (cs b) : Int)) (fun c => ((lcp (cs a) (cs b) : Int) - c.1).toNat) (fun c => c.1 = (lcp (cs a) (cs b) : Int)) (0, _) F1 N1 trivial ?kk ?kp ?turn ?done ?hE
    case hE => passes_own
    case kk => kst_all
    case kp => exact ⟨Int.le_refl _, by dsimp only; omega⟩
    case turn =>
      clear F1 N1
      refine prod2 fun pre tp => ?_
      rintro  u h tk - ⟨hp0, hp1⟩ F2 N2
      dsimp only [kstB] at F2
      dsimp only at *
      (try k_fold)
      repeat' ((fail_if_success (with_reducible show KswEnd _ _ _ _ _ _ _ _ _ _ _ _)); (fail_if_success (with_reducible show wpAny _ _ (exec (Stmt.While _ _ _ _) _) _ _ _)); (fail_if_success (with_reducible show wpAny _ _ (pyIter _) _ _ _)); (first | (k_unfold; (try dsimp only)) | walk1 | (dsimp only; walk1) | (leave1; try dsimp only)))
      · (rename Fr _ _ _ _ => F3); (rename News _ _ _ _ => N3)
        have q := w1_go hp0 hp1 (by assumption) (by assumption) (by assumption) (by assumption) (by assumption)
        refine ksw_end (pre + 1, _) F3 N3 (fun _ h => h) trivial (by kst_all) (by ksw_same) ⟨by dsimp only; omega, q⟩ (by dsimp only; omega)
      · (rename Fr _ _ _ _ => F3); (rename News _ _ _ _ => N3)
        exact out_intro (c := (pre, tp)) (u := u) F3 N3 (fun _ h => h) trivial ⟨hp0, hp1⟩ (w1_c hp0 hp1 (by assumption) (by assumption) (by assumption) (by assumption) (by assumption))
      · (rename Fr _ _ _ _ => F3); (rename News _ _ _ _ => N3)
        exact out_intro (c := (pre, tp)) (u := u) F3 N3 (fun _ h => h) trivial ⟨hp0, hp1⟩ (w1_b hp0 hp1 (by assumption) (by assumption))
      · (rename Fr _ _ _ _ => F3); (rename News _ _ _ _ => N3)
        exact out_intro (c := (pre, tp)) (u := u) F3 N3 (fun _ h => h) trivial ⟨hp0, hp1⟩ (w1_a hp0 hp1 (by assumption) (by assumption))
    case done =>
      clear F1 N1
      refine prod2 fun pre tp => ?_
      rintro  u h tk - ⟨hp0, hp1⟩ hd F2 N2
      dsimp only [kstB] at F2
      dsimp only at *
      (try k_fold)
      subst hd
      repeat' ((fail_if_success (with_reducible show KswEnd _ _ _ _ _ _ _ _ _ _ _ _)); (fail_if_success (with_reducible show wpAny _ _ (exec (Stmt.While _ _ _ _) _) _ _ _)); (fail_if_success (with_reducible show wpAny _ _ (pyIter _) _ _ _)); (first | (k_unfold; (try dsimp only)) | walk1 | (dsimp only; walk1) | (leave1; try dsimp only)))
      have la := slice_drop (x := a) (k := (lcp (cs a) (cs b) : Int)) (by omega) (by have := (lcp_le (cs a) (cs b)).1; rw [cs_len] at this; omega)
      have lb := slice_drop (x := b) (k := (lcp (cs a) (cs b) : Int)) (by omega) (by have := (lcp_le (cs a) (cs b)).2; rw [cs_len] at this; omega)
      (try clear F2); (try clear N2)
      generalize Txt.slice a (some (lcp (cs a) (cs b) : Int)) none = a1 at *
      generalize Txt.slice b (some (lcp (cs a) (cs b) : Int)) none = b1 at *
      (rename Fr _ _ _ _ => F1); (rename News _ _ _ _ => N1)
      with_unfolding_all refine' my_while (σ := Int × Tok) (fun _ => news) (fun c => [(Str.ofString "post", .int c.1 c.2)]) (fun _ => True) [] (fun c => c.1 ≤ 0 ∧ -c.1 ≤ (lcs (cs a1) (cs b1) : Int)) (fun c => ((lcs (cs a1) (cs b1) : Int) + c.1).toNat) (fun c => c.1 = -(lcs (cs a1) (cs b1) : Int)) (0, _) F1 N1 trivial ?kk ?kp ?turn ?done ?hE
      case hE => passes_own
      case kk => kst_all
      case kp => exact ⟨Int.le_refl _, by dsimp only; omega⟩
      case turn =>
        clear F1 N1
        refine prod2 fun p tp => ?_
        rintro  u h tk - ⟨hp0, hp1⟩ F2 N2
        dsimp only [kstB] at F2
        dsimp only at *
        (try k_fold)
        rcases Int.lt_or_eq_of_le hp0 with hn | rfl
        · have fa := slice_neg_len (x := a1) hn
          have fb := slice_neg_len (x := b1) hn
          repeat' ((fail_if_success (with_reducible show KswEnd _ _ _ _ _ _ _ _ _ _ _ _)); (fail_if_success (with_reducible show wpAny _ _ (exec (Stmt.While _ _ _ _) _) _ _ _)); (fail_if_success (with_reducible show wpAny _ _ (pyIter _) _ _ _)); (first | (k_unfold; (try dsimp only)) | walk1 | (dsimp only; walk1) | (leave1; try dsimp only)))
          all_goals ((rename Fr _ _ _ _ => F3); (rename News _ _ _ _ => N3); first
            | exact absurd ‹p = 0› (Int.ne_of_lt hn)
            | (have q := w2_go hp0 hp1 (by omega) (by omega) (by assumption); exact ksw_end (_, _) F3 N3 (fun _ h => h) trivial (by kst_all) (by ksw_same) ⟨by dsimp only; omega, q⟩ (by dsimp only; omega))
            | exact out_intro (c := (_, tp)) (u := u) F3 N3 (fun _ h => h) trivial ⟨hp0, hp1⟩ (w2_c hp0 hp1 (by omega) (by omega) (by assumption))
            | exact out_intro (c := (_, tp)) (u := u) F3 N3 (fun _ h => h) trivial ⟨hp0, hp1⟩ (w2_ab hp0 hp1 (by omega)))
        · repeat' ((fail_if_success (with_reducible show KswEnd _ _ _ _ _ _ _ _ _ _ _ _)); (fail_if_success (with_reducible show wpAny _ _ (exec (Stmt.While _ _ _ _) _) _ _ _)); (fail_if_success (with_reducible show wpAny _ _ (pyIter _) _ _ _)); (first | (k_unfold; (try dsimp only)) | walk1 | (dsimp only; walk1) | (leave1; try dsimp only)))
          all_goals ((rename Fr _ _ _ _ => F3); (rename News _ _ _ _ => N3); first
            | (have q := w2_go hp0 hp1 (by omega) (by omega) (by assumption); exact ksw_end (_, _) F3 N3 (fun _ h => h) trivial (by kst_all) (by ksw_same) ⟨by dsimp only; omega, q⟩ (by dsimp only; omega))
            | exact out_intro (c := (_, tp)) (u := u) F3 N3 (fun _ h => h) trivial ⟨hp0, hp1⟩ (w2_c hp0 hp1 (by omega) (by omega) (by assumption))
            | exact out_intro (c := (_, tp)) (u := u) F3 N3 (fun _ h => h) trivial ⟨hp0, hp1⟩ (w2_ab hp0 hp1 (by omega)))
      case done =>
        clear F1 N1
        refine prod2 fun p tp => ?_
        rintro  u h tk - ⟨hp0, hp1⟩ hd F2 N2
        dsimp only [kstB] at F2
        dsimp only at *
        (try k_fold)
        have la1 := cs_len a1
        have lb1 := cs_len b1
        have lca := lcs_le (cs a1) (cs b1)
        have ea := upto_cs (x := a1) (p := p) (k := lcs (cs a1) (cs b1)) hd (by omega)
        have eb := upto_cs (x := b1) (p := p) (k := lcs (cs a1) (cs b1)) hd (by omega)
        have hfin : levF (cs a) (cs b) mx = levMid (cs (upto a1 p)) (cs (upto b1 p)) mx := levF_mid (by assumption) la lb ea eb
        have sa2 : ∀ c ∈ cs (upto a1 p), c = 32 ∨ c = 9 := fun c hc => sa c (List.mem_of_mem_drop (la ▸ List.mem_of_mem_take (ea ▸ hc)))
        have sb2 : ∀ c ∈ cs (upto b1 p), c = 32 ∨ c = 9 := fun c hc => sb c (List.mem_of_mem_drop (lb ▸ List.mem_of_mem_take (eb ▸ hc)))
        have la2 : (upto a1 p).length ≤ 6 := by rw [← cs_len, ea, List.length_take, la, List.length_drop, cs_len]; omega
        have lb2 : (upto b1 p).length ≤ 6 := by rw [← cs_len, eb, List.length_take, lb, List.length_drop, cs_len]; omega
        repeat' ((fail_if_success (with_reducible show KswEnd _ _ _ _ _ _ _ _ _ _ _ _)); (fail_if_success (with_reducible show wpAny _ _ (eval (Expr.Subscript _ (Expr.Slice none (some (Expr.BoolOp _ _ _)) none _) _) _) _ _ _)); (first | (k_unfold; (try dsimp only)) | walk1 | (dsimp only; walk1) | (leave1; try dsimp only)))
        (rename Fr _ _ _ _ => F3); (rename News _ _ _ _ => N3)
        with_unfolding_all refine cut_str (upto a1 p) F3 N3 ?_ ?_
        · rcases Int.lt_or_eq_of_le hp0 with hn | hz
          · repeat' ((fail_if_success (with_reducible show KswEnd _ _ _ _ _ _ _ _ _ _ _ _)); (fail_if_success (with_reducible show wpAny _ _ (exec (Stmt.While _ _ _ _) _) _ _ _)); (fail_if_success (with_reducible show wpAny _ _ (pyIter _) _ _ _)); (first | (k_unfold; (try dsimp only)) | walk1 | (dsimp only; walk1) | (leave1; try dsimp only)))
            all_goals (first | (exfalso; omega) | exact strRet (by rw [upto, if_neg (by omega)]) (by assumption) (by assumption) (fun _ h => h))
          · subst hz
            repeat' ((fail_if_success (with_reducible show KswEnd _ _ _ _ _ _ _ _ _ _ _ _)); (fail_if_success (with_reducible show wpAny _ _ (exec (Stmt.While _ _ _ _) _) _ _ _)); (fail_if_success (with_reducible show wpAny _ _ (pyIter _) _ _ _)); (first | (k_unfold; (try dsimp only)) | walk1 | (dsimp only; walk1) | (leave1; try dsimp only)))
            exact strRet (by rw [upto, if_pos rfl]) (by assumption) (by assumption) (fun _ h => h)
        intro t4 h4 k4 F4 N4
        repeat' ((fail_if_success (with_reducible show KswEnd _ _ _ _ _ _ _ _ _ _ _ _)); (fail_if_success (with_reducible show wpAny _ _ (eval (Expr.Subscript _ (Expr.Slice none (some (Expr.BoolOp _ _ _)) none _) _) _) _ _ _)); (first | (k_unfold; (try dsimp only)) | walk1 | (dsimp only; walk1) | (leave1; try dsimp only)))
        (rename Fr _ _ _ _ => F5); (rename News _ _ _ _ => N5)
        with_unfolding_all refine cut_str (upto b1 p) F5 N5 ?_ ?_
        · rcases Int.lt_or_eq_of_le hp0 with hn | hz
          · repeat' ((fail_if_success (with_reducible show KswEnd _ _ _ _ _ _ _ _ _ _ _ _)); (fail_if_success (with_reducible show wpAny _ _ (exec (Stmt.While _ _ _ _) _) _ _ _)); (fail_if_success (with_reducible show wpAny _ _ (pyIter _) _ _ _)); (first | (k_unfold; (try dsimp only)) | walk1 | (dsimp only; walk1) | (leave1; try dsimp only)))
            all_goals (first | (exfalso; omega) | exact strRet (by rw [upto, if_neg (by omega)]) (by assumption) (by assumption) (fun _ h => h))
          · subst hz
            repeat' ((fail_if_success (with_reducible show KswEnd _ _ _ _ _ _ _ _ _ _ _ _)); (fail_if_success (with_reducible show wpAny _ _ (exec (Stmt.While _ _ _ _) _) _ _ _)); (fail_if_success (with_reducible show wpAny _ _ (pyIter _) _ _ _)); (first | (k_unfold; (try dsimp only)) | walk1 | (dsimp only; walk1) | (leave1; try dsimp only)))
            exact strRet (by rw [upto, if_pos rfl]) (by assumption) (by assumption) (fun _ h => h)
        intro t6 h6 k6 F6 N6
        repeat' ((fail_if_success (with_reducible show KswEnd _ _ _ _ _ _ _ _ _ _ _ _)); (fail_if_success (with_reducible show wpAny _ _ (exec (Stmt.If _ _ _ _) _) _ _ _)); (fail_if_success (with_reducible show wpAny _ _ (exec (Stmt.While _ _ _ _) _) _ _ _)); (first | (k_unfold; (try dsimp only)) | walk1 | (dsimp only; walk1) | (leave1; try dsimp only)))
        ((first | (k_unfold; (try dsimp only)) | walk1 | (dsimp only; walk1) | (leave1; try dsimp only)))
        repeat' ((fail_if_success (with_reducible show KswEnd _ _ _ _ _ _ _ _ _ _ _ _)); (fail_if_success (with_reducible show wpAny _ _ (exec (Stmt.If _ _ _ _) _) _ _ _)); (first | (k_unfold; (try dsimp only)) | walk1 | (dsimp only; walk1) | (leave1; try dsimp only)))
        rotate_left
        · exact endI hret (by rw [hfin, levMid_nil (by rw [cs_len, cs_len]; omega), cs_len, cs_len]) (by assumption) (by assumption) (by intro p hp; kst_mem)
        · exact endI hret (by rw [hfin, levMid_nil (by rw [cs_len, cs_len]; omega), cs_len, cs_len]) (by assumption) (by assumption) (by intro p hp; kst_mem)
        ((first | (k_unfold; (try dsimp only)) | walk1 | (dsimp only; walk1) | (leave1; try dsimp only)))
        repeat' ((fail_if_success (with_reducible show KswEnd _ _ _ _ _ _ _ _ _ _ _ _)); (fail_if_success (with_reducible show wpAny _ _ (exec (Stmt.If _ _ _ _) _) _ _ _)); (first | (k_unfold; (try dsimp only)) | walk1 | (dsimp only; walk1) | (leave1; try dsimp only)))
        (rename Fr _ _ _ _ => F7); (rename News _ _ _ _ => N7)
        with_unfolding_all refine cut_ab (sw1 (upto a1 p) (upto b1 p)) (sw2 (upto a1 p) (upto b1 p)) F7 N7 ?_ ?_
        · repeat' ((fail_if_success (with_reducible show KswEnd _ _ _ _ _ _ _ _ _ _ _ _)); (fail_if_success (with_reducible show wpAny _ _ (exec (Stmt.While _ _ _ _) _) _ _ _)); (fail_if_success (with_reducible show wpAny _ _ (pyIter _) _ _ _)); (first | (k_unfold; (try dsimp only)) | walk1 | (dsimp only; walk1) | (leave1; try dsimp only)))
          · (rename Fr _ _ _ _ => F8); (rename News _ _ _ _ => N8)
            exact abRet F8 (ab_swap (by omega)) N8 (by intro p hp; kst_mem)
          · (rename Fr _ _ _ _ => F8); (rename News _ _ _ _ => N8)
            exact abRet F8 (ab_stay (by omega)) N8 (by intro p hp; kst_mem)
        have hfin2 := hfin.trans (levMid_sw (mx := mx) (x := upto a1 p) (y := upto b1 p) (by omega) (by omega))
        have x1 : 1 ≤ (sw1 (upto a1 p) (upto b1 p)).length := sw_ge (by omega) (by omega)
        have sx : ∀ c ∈ cs (sw1 (upto a1 p) (upto b1 p)), c = 32 ∨ c = 9 := by unfold sw1; split <;> assumption
        have sy : ∀ c ∈ cs (sw2 (upto a1 p) (upto b1 p)), c = 32 ∨ c = 9 := by unfold sw2; split <;> assumption
        intro t8 t9 h8 k8 F8 N8
        have sle := sw_le (upto a1 p) (upto b1 p)
        have sl6 := sw_le6 la2 lb2
        generalize sw1 (upto a1 p) (upto b1 p) = x at *
        generalize sw2 (upto a1 p) (upto b1 p) = y at *
        have y1 : 1 ≤ y.length := by omega
        rw [levTail_is] at hfin2
        repeat' ((fail_if_success (with_reducible show KswEnd _ _ _ _ _ _ _ _ _ _ _ _)); (fail_if_success (with_reducible show wpAny _ _ (exec (Stmt.While _ _ _ _) _) _ _ _)); (fail_if_success (with_reducible show wpAny _ _ (pyIter _) _ _ _)); (first | (k_unfold; (try dsimp only)) | walk1 | (dsimp only; walk1) | (leave1; try dsimp only)))
        · exact endI hret (by rw [hfin2, if_pos (by omega)]) (by assumption) (by assumption) (by intro p hp; kst_mem)
        rw [if_neg (by omega)] at hfin2
        (rename Fr _ _ _ _ => F9); (rename News _ _ _ _ => N9); (rename IsRange _ _ _ _ _ _ _ _ => R9)
        with_unfolding_all refine list_evens (n := x.length) rfl F9 N9 R9 rfl (by omega) ?_
        intro l vs c h9 tk9 F10 N10 hl hi
        have hev : (evens x.length).length = x.length := by simp [evens, rangeInts]
        dsimp only at *
        repeat' ((fail_if_success (with_reducible show KswEnd _ _ _ _ _ _ _ _ _ _ _ _)); (fail_if_success (with_reducible show wpAny _ _ (exec (Stmt.While _ _ _ _) _) _ _ _)); (fail_if_success (with_reducible show wpAny _ _ (pyIter _) _ _ _)); (first | (k_unfold; (try dsimp only)) | walk1 | (dsimp only; walk1) | (leave1; try dsimp only)))
        k_state (fun pre result row => row.length = x.length ∧ levGo (cs x) (cs y) mx (y.length - pre.length) pre.length row result = levGo (cs x) (cs y) mx y.length 0 (evens x.length) 0) "result" "row"
        · rename_i res rtok rvs rxs rn hlen hgo kl0
          repeat' ((fail_if_success (with_reducible show KswEnd _ _ _ _ _ _ _ _ _ _ _ _)); (fail_if_success (with_reducible show wpAny _ _ (exec (Stmt.While _ _ _ _) _) _ _ _)); (fail_if_success (with_reducible show wpAny _ _ (pyIter _) _ _ _)); (first | (k_unfold; (try dsimp only)) | walk1 | (dsimp only; walk1) | (leave1; try dsimp only)))
          k_state (fun pre d r mn row => (d, r, mn, row) = inner ((cs y).getD kPre.length 0) (cs x) ((kPre.length : Int) * 2, (kPre.length : Int) * 2, 9223372036854775807, rxs) pre.length ∧ row.length = x.length) "distance" "result" "minimum" "row"
          · rename_i di dt re rt mi mt qvs qxs qn hin hql _ _
            have hk1 : kN < x.length := by omega
            have hk0 : 0 ≤ kN := by omega
            k_with "pre" => exact ⟨sign_item sy (by omega) (by omega), sign_item sx (by omega) (by omega)⟩
            repeat' ((fail_if_success (with_reducible show KswEnd _ _ _ _ _ _ _ _ _ _ _ _)); (fail_if_success (with_reducible show InvEndN _ _ _ _ _ _ _)); (first | (k_unfold; (try dsimp only)) | walk1 | (dsimp only; walk1) | (leave1; try dsimp only)))
            · k_with "state" => exact in_lt (by assumption) (by omega) (by assumption) (by omega) (by assumption) (by assumption) rfl (by assumption)
              (rename News _ _ _ _ => nE'); (try simp only [List.push_toArray] at nE'); (refine kst_end ⟨_, _, _, _, _, _, _, _, _⟩ (by assumption) nE' (by (try dsimp only); kst_anyIn) (by first | (intro p hp; kst_mem) | kst_anyIn) (by rfl) (by kst_facts) (by kst_all) (by kst_same) (by kst_p))
            · k_with "state" => exact in_ge (by assumption) (by omega) (by assumption) (by omega) (by assumption) (by assumption) rfl (by assumption)
              (rename News _ _ _ _ => nE'); (try simp only [List.push_toArray] at nE'); (refine kst_end ⟨_, _, _, _, _, _, _, _, _⟩ (by assumption) nE' (by (try dsimp only); kst_anyIn) (by first | (intro p hp; kst_mem) | kst_anyIn) (by rfl) (by kst_facts) (by kst_all) (by kst_same) (by kst_p))
          · rename_i di dt re rt mi mt qvs qxs qn hin hql _ _
            have hn := levGo_next hgo (by omega) hin (by rw [rangeKs_length]; omega)
            repeat' ((fail_if_success (with_reducible show KswEnd _ _ _ _ _ _ _ _ _ _ _ _)); (fail_if_success (with_reducible show InvEndN _ _ _ _ _ _ _)); (first | (k_unfold; (try dsimp only)) | walk1 | (dsimp only; walk1) | (leave1; try dsimp only)))
            · exact endI hret (by rw [hfin2]; exact ((hn.1 (by omega)).symm)) (by assumption) (by assumption) (by intro p hp; kst_mem)
            · k_with "state" => exact ⟨by assumption, by rw [List.length_append, List.length_singleton]; exact hn.2 (by omega)⟩
              (rename News _ _ _ _ => nE'); (try simp only [List.push_toArray] at nE'); (refine kst_end ⟨_, _, _, _, _⟩ (by assumption) nE' (by (try dsimp only); kst_anyIn) (by first | (intro p hp; kst_mem) | kst_anyIn) (by rfl) (by kst_facts) (by kst_all) (by kst_same) (by kst_p))
        · rename_i res rtok rvs rxs rn hlen hgo kl0
          repeat' ((fail_if_success (with_reducible show KswEnd _ _ _ _ _ _ _ _ _ _ _ _)); (fail_if_success (with_reducible show wpAny _ _ (exec (Stmt.While _ _ _ _) _) _ _ _)); (fail_if_success (with_reducible show wpAny _ _ (pyIter _) _ _ _)); (first | (k_unfold; (try dsimp only)) | walk1 | (dsimp only; walk1) | (leave1; try dsimp only)))
          exact endI hret (by rw [hfin2]; exact lev_done hgo) (by assumption) (by assumption) (by intro p hp; kst_mem)
end Mine
end

section
open PySem PySem.W PyProof.Rows
namespace Mine
section
variable {prog : Program} {w : World} {A : Around} {E : Value → Shared → Prop} {Q : Flow → Shared → Prop} {s : Shared} {env : Env} {h₀ : Heap} {x : Str} {body : List Stmt}

/-- the letters stand as c says -/
structure Stand {σ : Type} (h₀ : Heap) (L : Addr) (Led : σ → List (Addr × Obj)) (ps : σ → List (Str × Value)) (Facts : σ → Prop) (x : Str) (stored : List Str) (m₀ : Str → Option Value) (c : σ) (m' : Str → Option Value) : Prop where
  facts : Facts c
  here : ∀ p ∈ ps c, m' p.1 = some p.2
  rest : ∀ z, z ≠ x → (∀ p ∈ ps c, z ≠ p.1) → stored.contains z = false → m' z = m₀ z

/-- a turn of a for that may make objects and keep them; own: the iterator's objects -/
noncomputable def ForEnd {σ : Type} (h₀ : Heap) (L : Addr) (Led : σ → List (Addr × Obj)) (ps : σ → List (Str × Value)) (Facts : σ → Prop) (x : Str) (stored : List Str) (m₀ : Str → Option Value) (P : σ → Prop) (own : List (Addr × Obj)) (s₁ s₂ : Shared) : Prop :=
  ∃ (c : σ) (h' : Heap) (tk : Nat) (m' : Str → Option Value), s₂ = { s₁ with heap := h', toks := tk } ∧ Fr h₀ L h' m' ∧ News h₀ L h' (Led c ++ own) ∧ OwnOff own ((Led c).map (·.1)) ∧ Stand h₀ L Led ps Facts x stored m₀ c m' ∧ P c
noncomputable def ForPost {σ : Type} (h₀ : Heap) (L : Addr) (Led : σ → List (Addr × Obj)) (ps : σ → List (Str × Value)) (Facts : σ → Prop) (x : Str) (stored : List Str) (m₀ : Str → Option Value) (P D : σ → Prop) (own : List (Addr × Obj)) (s₁ : Shared) (Q : Flow → Shared → Prop) (f : Flow) (s₂ : Shared) : Prop :=
  match f with
  | .ret v => Q (.ret v) s₂
  | .brk => ForEnd h₀ L Led ps Facts x stored m₀ D own s₁ s₂
  | _ => ForEnd h₀ L Led ps Facts x stored m₀ P own s₁ s₂
theorem for_end {σ : Type} {h₀ : Heap} {L : Addr} {Led : σ → List (Addr × Obj)} {ps : σ → List (Str × Value)} {Facts : σ → Prop} {stored : List Str} {m₀ : Str → Option Value} {P : σ → Prop} {own news' : List (Addr × Obj)} {s₁ : Shared} {h' : Heap} {tk : Nat} {m' : Str → Option Value} (c : σ)
    (F : Fr h₀ L h' m') (N : News h₀ L h' news') (hn : ∀ p ∈ Led c, p ∈ news') (ho : ∀ p ∈ own, p ∈ news') (off : OwnOff own ((Led c).map (·.1))) (hf : Facts c) (hk : ∀ p ∈ ps c, m' p.1 = some p.2) (hr : ∀ z, z ≠ x → (∀ p ∈ ps c, z ≠ p.1) → stored.contains z = false → m' z = m₀ z) (hp : P c) :
    ForEnd h₀ L Led ps Facts x stored m₀ P own s₁ { s₁ with heap := h', toks := tk } :=
  ⟨c, h', tk, m', rfl, F, fun p hp => N p ((List.mem_append.mp hp).elim (hn p) (ho p)), off, ⟨hf, hk, hr⟩, hp⟩
theorem off_cons {own : List (Addr × Obj)} {b : Addr} {bs : List Addr} (h : ∀ p ∈ own, p.1 ≠ b) (r : OwnOff own bs) : OwnOff own (b :: bs) := fun p hp a ha => by
  rcases List.mem_cons.mp ha with rfl | ha
  · exact h p hp
  · exact r p hp a ha

theorem my_loop {σ : Type} {I : Addr} {fp : List Addr} {n : Nat} {Pv : Nat → Value → Prop} {St : Nat → Heap → Prop} {m₀ : Str → Option Value} (Led : σ → List (Addr × Obj)) (ps : σ → List (Str × Value)) (Facts : σ → Prop) (stored : List Str) (P D : Nat → σ → Prop) (c₀ : σ)
    (W : Walks prog w A I fp [I] n Pv St) (hlive : ∀ i h, St i h → ∃ o, h.get? I = some o) (hLf : env.locals ∉ fp) (hwr : h₀.get? I = none) (hsrc : ∀ b ∈ fp, b = I ∨ (∃ o, h₀.get? b = some o) ∨ ∃ o, ∀ c, (b, o) ∈ Led c)
    (hst : St 0 s.heap) (F : Fr h₀ env.locals s.heap m₀) (N : News h₀ env.locals s.heap (Led c₀)) (off : ∀ p ∈ Led c₀, p.1 ≠ I) (hf : Facts c₀) (hk : ∀ p ∈ ps c₀, m₀ p.1 = some p.2) (hp : P 0 c₀)
    (turn : ∀ i v (c : σ) (u : Str → Option Value) h tk o, i < n → Pv i v → OwnOff [(I, o)] ((Led c).map (·.1)) → Facts c → P i c →
      Fr h₀ env.locals h (fun y => if y = x then some v else kstB (fun z => if stored.contains z then u z else m₀ z) (ps c) y) → News h₀ env.locals h (Led c ++ [(I, o)]) →
      wpAny (model prog w) A (execs body env) (ForPost h₀ env.locals Led ps Facts x stored m₀ (P (i + 1)) (D i) [(I, o)] { s with heap := h, toks := tk } Q) E { s with heap := h, toks := tk })
    (done : ∀ (c : σ) (u : Str → Option Value) h tk, Facts c → (P n c ∨ ∃ i, i < n ∧ D i c) → Fr h₀ env.locals h (fun y => if y = x then u y else kstB (fun z => if stored.contains z then u z else m₀ z) (ps c) y) → News h₀ env.locals h (Led c) → Q .next { s with heap := h, toks := tk }) :
    LoopAtV prog w A h₀ env x body Q E (.ref I) s := by
  refine ⟨I, fp, [I], n, Pv, St, m₀, Led c₀, (fun i m nx => ∃ c : σ, nx = Led c ∧ Facts c ∧ (∀ p ∈ ps c, m p.1 = some p.2) ∧ (∀ z, z ≠ x → (∀ p ∈ ps c, z ≠ p.1) → stored.contains z = false → m z = m₀ z) ∧ P i c), rfl, W, hLf, ?_, ?_, hst, F, N, ⟨c₀, rfl, hf, hk, fun _ _ _ _ => rfl, hp⟩, ?_, ?_⟩
  · intro b hb
    rw [List.mem_singleton.mp hb]; exact hwr
  · intro p hp hb
    exact off p hp (List.mem_singleton.mp hb)
  · rintro i v m₁ nx s₁ own ⟨hh', tk', rfl⟩ hin hP ⟨c, rfl, hf', h1, h2, hp'⟩ hoff hsub hget hall st₁ F₁ N₁
    obtain ⟨oI, hoI⟩ := hlive _ _ st₁
    have hIfp : I ∈ fp := W.sub I (.head _)
    have hIown : (I, oI) ∈ own := hall I hIfp hwr oI hoI
    have N₂ : News h₀ env.locals hh' (Led c ++ [(I, oI)]) := fun p hp => N₁ p ((List.mem_append.mp hp).elim (fun h => List.mem_append_right _ h) fun h => List.mem_append_left _ ((List.mem_singleton.mp h) ▸ hIown))
    have hsep : OwnOff [(I, oI)] ((Led c).map (·.1)) := by
      intro p hp b hb e
      obtain ⟨q, hq, rfl⟩ := List.mem_map.mp hb
      rw [List.mem_singleton.mp hp] at e
      exact hoff q hq (e ▸ .head _)
    have fin : ∀ {R : σ → Prop} {s₂ : Shared}, ForEnd h₀ env.locals Led ps Facts x stored m₀ R [(I, oI)] { s with heap := hh', toks := tk' } s₂ →
        ∃ c' h' tk m', s₂ = { s with heap := h', toks := tk } ∧ Fr h₀ env.locals h' m' ∧ News h₀ env.locals h' (own ++ Led c') ∧ (∀ p ∈ Led c', p.1 ∉ [I]) ∧ Facts c' ∧ (∀ p ∈ ps c', m' p.1 = some p.2) ∧ (∀ z, z ≠ x → (∀ p ∈ ps c', z ≠ p.1) → stored.contains z = false → m' z = m₀ z) ∧ R c' := by
      intro R s₂ hA
      refine ex4 hA fun c' h' tk m' hB => and6 hB fun hE F' N' off' st' hR => ?_
      clear hA hB
      subst hE
      refine exI4 c' h' tk m' ⟨rfl, F', ?_, ?_, st'.facts, st'.here, st'.rest, hR⟩
      · intro p hp
        rcases List.mem_append.mp hp with h | h
        · rcases hsrc p.1 (hsub p h) with q | ⟨o, q⟩ | ⟨o, q⟩
          · have h3 : p.2 = oI := by
              have h4 := hget p h
              dsimp only at h4
              rw [q, hoI] at h4
              exact (Option.some.inj h4).symm
            have : p = (I, oI) := Prod.ext q h3
            rw [this]
            exact N' _ (List.mem_append_right _ (.head _))
          · exact absurd (N₁ p (List.mem_append_left _ h)).2.2 (by rw [q]; exact fun e => nomatch e)
          · have h3 : p.2 = o := by
              have h4 := hget p h
              have h5 := (N₁ _ (List.mem_append_right _ (q c))).1
              dsimp only at h4 h5
              rw [h5] at h4
              exact (Option.some.inj h4).symm
            have : p = (p.1, o) := Prod.ext rfl h3
            rw [this]
            exact N' _ (List.mem_append_left _ (q c'))
        · exact N' p (List.mem_append_left _ h)
      · intro p hp hb
        exact off' _ (.head _) p.1 (List.mem_map.mpr ⟨p, hp, rfl⟩) (List.mem_singleton.mp hb).symm
    refine wpAny_mono (turn i v c m₁ hh' tk' oI hin hP hsep hf' hp' (kst_fr h1 h2 F₁) N₂) (fun f s₂ p => ?_) fun _ _ e => e
    cases f with
    | ret v => exact .ret p
    | brk =>
      refine ex4 (fin p) fun c' h' tk m' hB => and8 hB fun e F' N' _ hf9 h19 h29 hR => ?_
      refine .brk ?_
      show Q .next s₂
      rw [e]
      exact done c' m' h' tk hf9 (.inr ⟨i, hin, hR⟩) (kst_frOut h19 h29 F') fun q hq => N' q (List.mem_append_right _ hq)
    | next =>
      refine ex4 (fin p) fun c' h' tk m' hB => and8 hB fun e F' N' ho hf9 h19 h29 hR => ?_
      exact .next ⟨rfl, h', tk, m', Led c', e, F', N', ho, c', rfl, hf9, h19, h29, hR⟩
    | cont =>
      refine ex4 (fin p) fun c' h' tk m' hB => and8 hB fun e F' N' ho hf9 h19 h29 hR => ?_
      exact .cont ⟨rfl, h', tk, m', Led c', e, F', N', ho, c', rfl, hf9, h19, h29, hR⟩
  · rintro h' tk m' news' F' N' _ ⟨c, rfl, hf', h1, h2, hp'⟩
    exact done c m' h' tk hf' (.inl hp') (kst_frOut h1 h2 F') N'
end
end Mine
namespace Mine
section
variable {prog : Program} {w : World} {A : Around} {E : Value → Shared → Prop} {Q : Flow → Shared → Prop} {s : Shared} {env : Env} {h₀ : Heap} {x : Str} {body : List Stmt}
theorem led_off {L I : Addr} {h : Heap} {l : List (Addr × Obj)} (N : News h₀ L h l) (hI : h.objs.size ≤ I) : ∀ p ∈ l, p.1 ≠ I := fun p hp e =>
  absurd (Heap.lt_size (N p hp).1) (by rw [e]; exact Nat.not_lt.mpr hI)
theorem my_for_str {σ : Type} {xt : Str} {tx : Tok} {m₀ : Str → Option Value} (Led : σ → List (Addr × Obj)) (ps : σ → List (Str × Value)) (Facts : σ → Prop) (stored : List Str) (P D : Nat → σ → Prop) (c₀ : σ)
    (hh : A.handled = none) (F : Fr h₀ env.locals s.heap m₀) (N : News h₀ env.locals s.heap (Led c₀)) (hf : Facts c₀) (hk : ∀ p ∈ ps c₀, m₀ p.1 = some p.2) (hp : P 0 c₀)
    (turn : ∀ (i : Nat) (ch : Nat) (t : Tok) (c : σ) (u : Str → Option Value) h tk I o, xt.cps.toList[i]? = some ch → OwnOff [(I, o)] ((Led c).map (·.1)) → Facts c → P i c →
      Fr h₀ env.locals h (fun y => if y = x then some (.str ⟨#[ch]⟩ t) else kstB (fun z => if stored.contains z then u z else m₀ z) (ps c) y) → News h₀ env.locals h (Led c ++ [(I, o)]) →
      wpAny (model prog w) A (execs body env) (ForPost h₀ env.locals Led ps Facts x stored m₀ (P (i + 1)) (D i) [(I, o)] { s with heap := h, toks := tk } Q) E { s with heap := h, toks := tk })
    (done : ∀ (c : σ) (u : Str → Option Value) h tk, Facts c → (P xt.length c ∨ ∃ i, i < xt.length ∧ D i c) → Fr h₀ env.locals h (fun y => if y = x then u y else kstB (fun z => if stored.contains z then u z else m₀ z) (ps c) y) → News h₀ env.locals h (Led c) → Q .next { s with heap := h, toks := tk }) :
    wpAny (model prog w) A (pyIter (.str xt tx)) (fun it s₂ => LoopAtV prog w A h₀ env x body Q E it s₂) E s := by
  have hI : h₀.get? s.heap.objs.size = none := by
    cases e : h₀.get? s.heap.objs.size with
    | none => rfl
    | some o => exact absurd (Heap.lt_size (F.keep _ _ e)) (Nat.lt_irrefl _)
  have hL : env.locals ∉ [s.heap.objs.size] := fun hm => absurd F.ns.lt ((List.mem_singleton.mp hm) ▸ Nat.lt_irrefl _)
  have hs : ∀ b ∈ [s.heap.objs.size], b = s.heap.objs.size ∨ (∃ o, h₀.get? b = some o) ∨ ∃ o, ∀ c, (b, o) ∈ Led c := fun b hb => .inl (List.mem_singleton.mp hb)
  cases ha : xt.cps.all (· < 128)
  · refine wpAny_pyIter_wide ha ?_
    refine my_loop Led ps Facts stored P D c₀ (Walks.strWide hh _ xt tx) (fun _ _ st => ⟨_, st.choose_spec.1⟩) hL hI hs ⟨_, Heap.get?_push_size _ rfl, rfl, rfl⟩ (F.push _) (fun p hp => ⟨Heap.get?_push_of_some _ (N p hp).1, (N p hp).2⟩) (led_off N (Nat.le_refl _)) hf hk hp ?_ done
    rintro i v c u h tk o hin ⟨ch, t, hch, rfl⟩ off hf' hp' F' N'
    exact turn i ch t c u h tk _ o (by simpa using hch) off hf' hp' F' N'
  · refine wpAny_pyIter_ascii ha ?_
    refine my_loop Led ps Facts stored P D c₀ (Walks.strAscii hh _ xt tx) (fun _ _ st => ⟨_, st.choose_spec.1⟩) hL hI hs ⟨_, Heap.get?_push_size _ rfl, rfl, rfl⟩ (F.push _) (fun p hp => ⟨Heap.get?_push_of_some _ (N p hp).1, (N p hp).2⟩) (led_off N (Nat.le_refl _)) hf hk hp ?_ done
    rintro i v c u h tk o hin ⟨ch, t, hch, rfl⟩ off hf' hp' F' N'
    exact turn i ch t c u h tk _ o (by simpa using hch) off hf' hp' F' N'
theorem my_for_range {σ : Type} {r : Addr} {a₀ b₀ : Int} {t₀ u₀ v₀ : Tok} {n : Nat} {m₀ : Str → Option Value} (Led : σ → List (Addr × Obj)) (ps : σ → List (Str × Value)) (Facts : σ → Prop) (stored : List Str) (P D : Nat → σ → Prop) (c₀ : σ)
    (hh : A.handled = none) (hr : IsRange s.heap r a₀ b₀ 1 t₀ u₀ v₀) (hsmall : Builtin.Range.small a₀ b₀ 1 = true) (hn : Builtin.Range.rangeSize a₀ b₀ 1 = (n : Int)) (F : Fr h₀ env.locals s.heap m₀) (N : News h₀ env.locals s.heap (Led c₀)) (hf : Facts c₀) (hk : ∀ p ∈ ps c₀, m₀ p.1 = some p.2) (hp : P 0 c₀)
    (turn : ∀ (i : Nat) (t : Tok) (c : σ) (u : Str → Option Value) h tk I o, i < n → OwnOff [(I, o)] ((Led c).map (·.1)) → Facts c → P i c →
      Fr h₀ env.locals h (fun y => if y = x then some (.int (a₀ + (i : Int)) t) else kstB (fun z => if stored.contains z then u z else m₀ z) (ps c) y) → News h₀ env.locals h (Led c ++ [(I, o)]) →
      wpAny (model prog w) A (execs body env) (ForPost h₀ env.locals Led ps Facts x stored m₀ (P (i + 1)) (D i) [(I, o)] { s with heap := h, toks := tk } Q) E { s with heap := h, toks := tk })
    (done : ∀ (c : σ) (u : Str → Option Value) h tk, Facts c → (P n c ∨ ∃ i, i < n ∧ D i c) → Fr h₀ env.locals h (fun y => if y = x then u y else kstB (fun z => if stored.contains z then u z else m₀ z) (ps c) y) → News h₀ env.locals h (Led c) → Q .next { s with heap := h, toks := tk }) :
    wpAny (model prog w) A (pyIter (.ref r)) (fun it s₂ => LoopAtV prog w A h₀ env x body Q E it s₂) E s := by
  have hI : h₀.get? s.heap.objs.size = none := by
    cases e : h₀.get? s.heap.objs.size with
    | none => rfl
    | some o => exact absurd (Heap.lt_size (F.keep _ _ e)) (Nat.lt_irrefl _)
  have hL : env.locals ∉ [s.heap.objs.size] := fun hm => absurd F.ns.lt ((List.mem_singleton.mp hm) ▸ Nat.lt_irrefl _)
  refine wpAny_pyIter_range hr hsmall ?_
  have W : Walks prog w A s.heap.objs.size [s.heap.objs.size] [s.heap.objs.size] n (fun i v => i < n ∧ ∃ t, v = .int (a₀ + i * 1) t)
      (fun i h => IsRangeIter h s.heap.objs.size (a₀ + (i : Nat) * 1) ((n : Int) - (i : Nat)) 1) := (Walks.range hh _ a₀ 1 n).bound
  refine my_loop Led ps Facts stored P D c₀ W (fun _ _ st => ⟨_, st⟩) hL hI (fun b hb => .inl (List.mem_singleton.mp hb)) (by show IsRangeIter _ _ _ _ _; rw [hn]; simpa using Heap.get?_push_size _ rfl) (F.push _) (fun p hp => ⟨Heap.get?_push_of_some _ (N p hp).1, (N p hp).2⟩) (led_off N (Nat.le_refl _)) hf hk hp ?_ done
  rintro i v c u h tk o hin ⟨_, t, rfl⟩ off hf' hp' F' N'
  have e1 : a₀ + (i : Int) * 1 = a₀ + (i : Int) := by omega
  rw [e1] at F'
  exact turn i t c u h tk _ o hin off hf' hp' F' N'
theorem my_for_list {σ : Type} {l : Addr} {vs : List Value} {cap : Nat} {m₀ : Str → Option Value} (Led : σ → List (Addr × Obj)) (ps : σ → List (Str × Value)) (Facts : σ → Prop) (stored : List Str) (P D : Nat → σ → Prop) (c₀ : σ)
    (hh : A.handled = none) (hl : ∀ c, (l, listOf vs.toArray cap) ∈ Led c) (F : Fr h₀ env.locals s.heap m₀) (N : News h₀ env.locals s.heap (Led c₀)) (hf : Facts c₀) (hk : ∀ p ∈ ps c₀, m₀ p.1 = some p.2) (hp : P 0 c₀)
    (turn : ∀ (i : Nat) (v : Value) (c : σ) (u : Str → Option Value) h tk I o, vs[i]? = some v → OwnOff [(I, o)] ((Led c).map (·.1)) → Facts c → P i c →
      Fr h₀ env.locals h (fun y => if y = x then some v else kstB (fun z => if stored.contains z then u z else m₀ z) (ps c) y) → News h₀ env.locals h (Led c ++ [(I, o)]) →
      wpAny (model prog w) A (execs body env) (ForPost h₀ env.locals Led ps Facts x stored m₀ (P (i + 1)) (D i) [(I, o)] { s with heap := h, toks := tk } Q) E { s with heap := h, toks := tk })
    (done : ∀ (c : σ) (u : Str → Option Value) h tk, Facts c → (P vs.length c ∨ ∃ i, i < vs.length ∧ D i c) → Fr h₀ env.locals h (fun y => if y = x then u y else kstB (fun z => if stored.contains z then u z else m₀ z) (ps c) y) → News h₀ env.locals h (Led c) → Q .next { s with heap := h, toks := tk }) :
    wpAny (model prog w) A (pyIter (.ref l)) (fun it s₂ => LoopAtV prog w A h₀ env x body Q E it s₂) E s := by
  have hI : h₀.get? s.heap.objs.size = none := by
    cases e : h₀.get? s.heap.objs.size with
    | none => rfl
    | some o => exact absurd (Heap.lt_size (F.keep _ _ e)) (Nat.lt_irrefl _)
  have hol : s.heap.get? l = some (listOf vs.toArray cap) := (N _ (hl c₀)).1
  have hls : s.heap.IsList l vs.toArray := ⟨_, hol, rfl, cap, rfl⟩
  have hne : l ≠ s.heap.objs.size := Nat.ne_of_lt (Heap.lt_size hol)
  have hL : env.locals ∉ [s.heap.objs.size, l] := fun hm => by
    rcases List.mem_cons.mp hm with e | hm
    · exact absurd F.ns.lt (e ▸ Nat.lt_irrefl _)
    · exact (N _ (hl c₀)).2.1 ((List.mem_singleton.mp hm).symm)
  refine wpAny_pyIter_list hls ?_
  have W := Walks.list (prog := prog) (w := w) hh s.heap.objs.size l hne vs.toArray
  have hlen : vs.toArray.size = vs.length := by simp
  rw [hlen] at W
  refine my_loop Led ps Facts stored P D c₀ W (fun _ _ st => ⟨_, st.1.choose_spec.1⟩) hL hI (fun b hb => ?_) ⟨⟨_, Heap.get?_push_size _ rfl, rfl, rfl⟩, hls.at fun o e => Heap.get?_push_of_some _ e⟩ (F.push _) (fun p hp => ⟨Heap.get?_push_of_some _ (N p hp).1, (N p hp).2⟩) (led_off N (Nat.le_refl _)) hf hk hp ?_ done
  · rcases List.mem_cons.mp hb with e | hb
    · exact .inl e
    · exact .inr (.inr ⟨_, fun c => (List.mem_singleton.mp hb) ▸ hl c⟩)
  · rintro i v c u h tk o hin hv off hf' hp' F' N'
    exact turn i v c u h tk _ o (by simpa using hv) off hf' hp' F' N'
end
end Mine
namespace Mine
theorem allLt_app {d : Addr} : ∀ {a b : List (Addr × Obj)}, AllLt d (a ++ b) → AllLt d a ∧ AllLt d b
  | [], _, h => ⟨trivial, h⟩
  | _ :: _, _, h => ⟨⟨h.1, (allLt_app h.2).1⟩, (allLt_app h.2).2⟩
theorem allLt_mem {d : Addr} : ∀ {l : List (Addr × Obj)}, AllLt d l → ∀ p ∈ l, p.1 < d
  | [], _, _, hp => nomatch hp
  | _ :: _, h, p, hp => by
    rcases List.mem_cons.mp hp with rfl | hp
    · exact h.1
    · exact allLt_mem h.2 p hp
end Mine
namespace Mine
theorem led_ne {h₀ h : Heap} {L a b : Addr} {oa ob : Obj} {l : List (Addr × Obj)} (N : News h₀ L h l) (ha : (a, oa) ∈ l) (hb : (b, ob) ∈ l) (hc : (oa.cls == ob.cls) = false) : @LT.lt Nat _ a b ∨ @LT.lt Nat _ b a := by
  refine Nat.lt_or_gt_of_ne fun e => ?_
  have h1 := (N _ ha).1
  have h2 := (N _ hb).1
  dsimp only at h1 h2
  rw [e, h2] at h1
  cases h1
  simp at hc
end Mine
namespace Mine
noncomputable abbrev tupOf (vs : List Value) : Obj := { cls := .type "tuple", data := .seq vs.toArray }
noncomputable abbrev headEntry (w : World) (k : Str) (tk : Tok) (v : Value) : DictEntry := ⟨PyData.keyHash w.params k, .str k tk, v⟩
/-- the dict of a Whitespace -/
noncomputable abbrev headDict (w : World) (k1 k2 k3 k4 k5 : Tok) (raw : Str) (tr : Tok) (n : Int) (tn : Tok) (nt : Int) (tnt : Tok) (tp : Addr) (sb : Bool) : Obj :=
  dictOf [headEntry w (Str.ofString "raw") k1 (.str raw tr), headEntry w (Str.ofString "n") k2 (.int n tn), headEntry w (Str.ofString "nt") k3 (.int nt tnt), headEntry w (Str.ofString "norm") k4 (.ref tp), headEntry w (Str.ofString "is_simple") k5 (.bool sb)] 5
structure HeadToks where
  k1 : Tok
  k2 : Tok
  k3 : Tok
  k4 : Tok
  k5 : Tok
  raw : Str
  tr : Tok
  tn : Tok
  tnt : Tok
  tb : Tok
  sb : Bool
noncomputable abbrev headLed (w : World) (x dx tp tc : Addr) (vs : List Value) (st : List Int × Int × Int × Int) (T : HeadToks) : Led :=
  [(tp, tupOf [.ref tc, .int st.2.1 T.tb]), (tc, tupOf vs), (x, instObj 83 dx), (dx, headDict w T.k1 T.k2 T.k3 T.k4 T.k5 T.raw T.tr st.2.2.1 T.tn st.2.2.2 T.tnt tp T.sb)]
/-- the ledger bears a Whitespace at x -/
noncomputable def HeadAt (w : World) (l : Led) (x : Addr) (st : List Int × Int × Int × Int) : Prop :=
  ∃ (dx tp tc : Addr) (vs : List Value) (T : HeadToks), (∀ p ∈ headLed w x dx tp tc vs st T, p ∈ l) ∧ IntsAre vs st.1
theorem HeadAt.mono {w : World} {l l' : Led} {x : Addr} {st : List Int × Int × Int × Int} (h : HeadAt w l x st) (hs : ∀ p ∈ l, p ∈ l') : HeadAt w l' x st := by
  obtain ⟨dx, tp, tc, vs, T, hm, hi⟩ := h
  exact ⟨dx, tp, tc, vs, T, fun p hp => hs p (hm p hp), hi⟩
noncomputable abbrev RetH (w : World) (news : Led) (st : List Int × Int × Int × Int) : Heap → Addr → (Str → Option Value) → Shared → (Value → Shared → Prop) → Prop := fun h₀ L m s Q =>
  ∀ (x dx tp tc : Addr) (vs : List Value) (T : HeadToks) (h' : Heap) (tk' : Nat), Fr h₀ L h' m → News h₀ L h' (headLed w x dx tp tc vs st T ++ news) → IntsAre vs st.1 → (∀ p ∈ news, p.1 < x ∧ p.1 < dx ∧ p.1 < tp ∧ p.1 < tc) → Q (.ref x) { s with heap := h', toks := tk' }
end Mine
namespace Mine
theorem news_skip2 {h₀ h : Heap} {L : Addr} {a b c : Addr × Obj} {r : Led} (N : News h₀ L h (a :: b :: c :: r)) : News h₀ L h (a :: b :: r) := fun p hp => by
  rcases List.mem_cons.mp hp with rfl | hp
  · exact N _ (.head _)
  · rcases List.mem_cons.mp hp with rfl | hp
    · exact N _ (.tail _ (.head _))
    · exact N _ (.tail _ (.tail _ (.tail _ hp)))
end Mine
namespace Mine
section
variable {prog : Program} {w : World} {A : Around} {E : Value → Shared → Prop} {s : Shared} {h₀ : Heap} {L l : Addr} {news : Led} {vs : List Value} {ns : List Int} {Q : Value → Shared → Prop}
theorem led_tup (N : News h₀ L s.heap news) (hm : (l, tupOf vs) ∈ news) : IsTup s.heap l vs.toArray := ⟨_, (N _ hm).1, rfl, _, rfl⟩
theorem my_len_tup {k : Nat} (N : News h₀ L s.heap news) (hm : (l, tupOf vs) ∈ news) (e : vs.length = k) (hfit : (k : Int) < 2 ^ 63) (h : Q (.int (k : Int) (s.toks + 1)) { s with toks := s.toks + 1 + 1 }) :
    wpAny (model prog w) A (call (.builtin "len") [.ref l]) Q E s := by
  have hs : vs.toArray.size = k := by simpa using e
  exact len_tuple (led_tup N hm) (by rw [hs]; exact hfit) (by rw [hs]; exact h)
theorem my_item_tup {value slice : Expr} {k : Int} {u : Tok} (N : News h₀ L s.heap news) (hm : (l, tupOf vs) ∈ news) (hi : IntsAre vs ns) (h0 : 0 ≤ k) (h1 : k < ns.length) (hfit : k < 2 ^ 63) (h : ∀ t, Q (.int (ns.getD k.toNat 0) t) s)
    (hs : subscripted slice false (.ref l) (.int k u) = operate [.ref l, .int k u] (getItem (.ref l) (.int k u))) (hg : ∀ r, letTemporaryGo value (.ref l) r = pure ()) :
    wpAny (model prog w) A (subscriptTail value slice (.ref l) (.int k u)) Q E s := item_tuple_ints (led_tup N hm) hi h0 h1 hfit h hs hg
end
end Mine
end

section
open PySem PySem.W PyProof.Rows
namespace Mine
/-- Whitespace.__init__'s turn: count, b, n, nt -/
noncomputable def wsStep (ch : Nat) (st : List Int × Int × Int × Int) : List Int × Int × Int × Int :=
  if ch = 32 then (st.1, st.2.1 + 1, st.2.2.1 + 1, st.2.2.2) else
  let ys := if (st.1.length : Int) ≤ st.2.1 then st.1 ++ List.replicate (st.2.1 - st.1.length + 1).toNat 0 else st.1
  (ys.set st.2.1.toNat (ys.getD st.2.1.toNat 0 + 1), 0, st.2.2.1 + 1, st.2.2.2 + 1)
noncomputable def wsTo (A : List Nat) : Nat → List Int × Int × Int × Int
  | 0 => ([], 0, 0, 0)
  | i + 1 => wsStep (A.getD i 0) (wsTo A i)
theorem wsTo_bnd (A : List Nat) : ∀ i, 0 ≤ (wsTo A i).2.1 ∧ (wsTo A i).2.1 ≤ i ∧ ((wsTo A i).1.length : Int) ≤ i ∧ 0 ≤ (wsTo A i).2.2.2 ∧ (wsTo A i).2.2.2 ≤ i ∧ ∀ x ∈ (wsTo A i).1, 0 ≤ x ∧ x ≤ (i : Int) := by
  intro i
  induction i with
  | zero => simp [wsTo]
  | succ i ih =>
    obtain ⟨h1, h2, h3, h4, h5, h6⟩ := ih
    rw [wsTo]
    generalize wsTo A i = st at *
    obtain ⟨xs, b, n, nt⟩ := st
    dsimp only at *
    unfold wsStep
    split
    · exact ⟨by dsimp only; omega, by dsimp only; omega, by dsimp only; omega, by dsimp only; omega, by dsimp only; omega, fun x hx => by have := h6 x hx; dsimp only at *; omega⟩
    · dsimp only
      refine ⟨by omega, by omega, ?_, by omega, by omega, fun x hx => ?_⟩
      · rw [List.length_set]
        split
        · rw [List.length_append, List.length_replicate]; omega
        · omega
      · have hys : ∀ y ∈ (if (xs.length : Int) ≤ b then xs ++ List.replicate (b - xs.length + 1).toNat 0 else xs), 0 ≤ y ∧ y ≤ (i : Int) := by
          intro y hy
          split at hy
          · rcases List.mem_append.mp hy with hy | hy
            · exact h6 y hy
            · have := (List.mem_replicate.mp hy).2; omega
          · exact h6 y hy
        generalize (if (xs.length : Int) ≤ b then xs ++ List.replicate (b - xs.length + 1).toNat 0 else xs) = ys at *
        rcases List.mem_or_eq_of_mem_set hx with hx | rfl
        · have := hys x hx; omega
        · have hg : 0 ≤ ys.getD b.toNat 0 ∧ ys.getD b.toNat 0 ≤ (i : Int) := by
            rw [List.getD_eq_getElem?_getD]
            cases e : ys[b.toNat]? with
            | none => simp
            | some y => exact hys y (List.mem_of_getElem? e)
          omega
end Mine
namespace Mine
theorem flat_zero (n : Nat) : (List.replicate n [(0 : Int)]).flatten = List.replicate n 0 := by
  induction n with
  | zero => rfl
  | succ n ih => simp [List.replicate_succ, ih]
section
variable {A R : List Nat} {i ch : Nat} {xs : List Int} {b n nt : Int}
theorem ws_at {text : Str} (hA : cs text = A ++ 120 :: R) (hch : (cs text)[i]? = some ch) (hi : i ≤ A.length) : (i < A.length ∧ ch = A.getD i 0) ∨ (i = A.length ∧ ch = 120) := by
  rw [hA] at hch
  rcases Nat.lt_or_ge i A.length with h | h
  · left
    rw [List.getElem?_append_left h] at hch
    exact ⟨h, by rw [List.getD_eq_getElem?_getD, hch]; rfl⟩
  · right
    have e : i = A.length := by omega
    subst e
    simp at hch
    exact ⟨rfl, hch.symm⟩
theorem ws_blank (h : (xs, b, n, nt) = wsTo A i) (hc : A.getD i 0 = 32) : (xs, b + 1, n + 1, nt) = wsTo A (i + 1) := by
  rw [wsTo, ← h, hc, wsStep, if_pos rfl]
theorem ws_tab (h : (xs, b, n, nt) = wsTo A i) (hc : A.getD i 0 = 9) (hb : ¬ (xs.length : Int) ≤ b) : (xs.set b.toNat (xs.getD b.toNat 0 + 1), 0, n + 1, nt + 1) = wsTo A (i + 1) := by
  rw [wsTo, ← h, hc, wsStep, if_neg (by decide)]
  simp only
  rw [if_neg hb]
theorem ws_grow (h : (xs, b, n, nt) = wsTo A i) (hc : A.getD i 0 = 9) (hb : (xs.length : Int) ≤ b) {ys : List Int} (hy : ys = xs ++ (List.replicate (b - xs.length + 1).toNat [(0 : Int)]).flatten) : (ys.set b.toNat (ys.getD b.toNat 0 + 1), 0, n + 1, nt + 1) = wsTo A (i + 1) := by
  rw [wsTo, ← h, hc, wsStep, if_neg (by decide)]
  simp only
  rw [if_pos hb, hy, flat_zero]
end
end Mine
end

section
open PySem PySem.W PyProof.Rows
namespace Mine


set_option maxRecDepth 100000 in
set_option maxHeartbeats 8000000 in
theorem head_spec (w : World) (s₀ : Shared) (mg mb : Str → Option Value) (news : Led) (text : Str) (t1 : Tok) (A R : List Nat) :
   Cl w s₀ mg mb 2 83 [.str text t1] news (cs text = A ++ 120 :: R ∧ (∀ c ∈ A, c = 32 ∨ c = 9) ∧ A.length ≤ 8 ∧ text.length ≤ 30) (RetH w news (wsTo A A.length)) := by
  dsimp only [Cl, RetH]
  k_fill
  w_top off
  intros
  rename_i hpre _ _ hret
  obtain ⟨hA, hs, hl, hl2⟩ := hpre
  k_with_none
  k_with "call type:tuple" => (k_here; (with_reducible show wpAny _ _ (call (Value.type _) [Value.ref _]) _ _ _); (k_dflt (refine' kde_tupleOf (zs := _) ?k1 ?k2 ?k3 ?k4 (List.toList_toArray) ?_; (case k1 => k_asm); (case k2 => k_asm); (case k3 => exact News.isList (by k_asm) (by k_mem)); (case k4 => (rw [List.size_toArray]; omega)))); intro _ _ _ _ l1; (try k_lt l1); revert l1; intro _)
  k_with "ForPost" => (dsimp only [ForPost])
  k_with "pyIter ref" => fail
  k_with "pyIter str" => fail
  k_dflt (refine' call_cls ?k1 ?k2 ?k3 ?k4 ?k5 ?k6 ?_; (case k1 => k_asm); (case k2 => k_asm); (case k3 => k_asm); (case k4 => k_is); (case k5 => k_is); (case k6 => k_is); k_whole)
  intro x dx h1 F1 N1 l1 l2
  have l1' := l1
  have l2' := l2
  (try k_lt l1); (try k_lt2 l2)
  k_dflt cell_enter
  repeat' ((fail_if_success (with_reducible show KswEnd _ _ _ _ _ _ _ _ _ _ _ _)); (fail_if_success (with_reducible show wpAny _ _ (exec (Stmt.While _ _ _ _) _) _ _ _)); (fail_if_success (with_reducible show wpAny _ _ (pyIter _) _ _ _)); (first | (k_unfold; (try dsimp only)) | walk1 | (dsimp only; walk1) | (leave1; try dsimp only)))
  rename_i l0 _ hl0 _ _ _ _ F2 N2
  have hl0 := hl0.2
  have N3 : ∃ (D0 : Addr) (kt : Tok) (oT : Obj), News _ _ _ ((l0, listOf #[] 0) :: (D0, oT) :: (x, instObj 83 dx) :: (dx, dictOf [⟨PyData.keyHash w.params (Str.ofString "raw"), .str (Str.ofString "raw") kt, .str text t1⟩] 1) :: news) := ⟨_, _, _, N2⟩
  obtain ⟨D0, kt, oT, N3⟩ := N3
  with_unfolding_all
    refine' my_for_str (σ := Addr × List Value × List Int × Nat × (Int × Tok) × (Int × Tok) × (Int × Tok))
      (fun c => (c.1, listOf c.2.1.toArray c.2.2.2.1) :: (x, instObj 83 dx) :: (dx, dictOf [⟨PyData.keyHash w.params (Str.ofString "raw"), .str (Str.ofString "raw") kt, .str text t1⟩] 1) :: news)
      (fun c => [(Str.ofString "count", .ref c.1), (Str.ofString "b", .int c.2.2.2.2.1.1 c.2.2.2.2.1.2), (Str.ofString "n", .int c.2.2.2.2.2.1.1 c.2.2.2.2.2.1.2), (Str.ofString "nt", .int c.2.2.2.2.2.2.1 c.2.2.2.2.2.2.2)])
      (fun c => IntsAre c.2.1 c.2.2.1 ∧ @LT.lt Nat _ x c.1 ∧ @LT.lt Nat _ dx c.1 ∧ AllLt c.1 news) []
      (fun i c => i ≤ A.length ∧ (c.2.2.1, c.2.2.2.2.1.1, c.2.2.2.2.2.1.1, c.2.2.2.2.2.2.1) = wsTo A i)
      (fun i c => i = A.length ∧ (c.2.2.1, c.2.2.2.2.1.1, c.2.2.2.2.2.1.1, c.2.2.2.2.2.2.1) = wsTo A i) (l0, [], [], 0, (0, _), (0, _), (0, _)) rfl F2 ?kn ?kf ?kk ?kp ?turn ?done
  case kn => with_unfolding_all exact fun p hp => N3 p (by
    rcases List.mem_cons.mp hp with rfl | hp
    · exact .head _
    · exact .tail _ (.tail _ hp))
  case kf => exact ⟨IntsAre.nil, hl0⟩
  case kk => kst_all
  case kp => exact ⟨Nat.zero_le _, rfl⟩
  case turn =>
    clear F2 N2 N3
    refine fun i ch t => prodS7 fun l vs xs cap b tb n tn nt tnt => ?_
    rintro  u h tk I o hch off ⟨hi, hx1, hx2, hx3⟩ ⟨hiA, hst⟩ F4 N4
    dsimp only [kstB] at F4
    simp only [List.cons_append, List.nil_append] at N4
    dsimp only at *
    (try k_fold)
    have hbn := wsTo_bnd A i
    rw [← hst] at hbn
    dsimp only at hbn
    obtain ⟨hb1, hb2, hb3, hb4, hb5, hb6⟩ := hbn
    have hlen := hi.length
    have mk := kstMark
    have off' : OwnOff [(I, o)] (l :: x :: dx :: news.map (·.1)) := off
    have hIl : @LT.lt Nat _ I l ∨ @LT.lt Nat _ l I := Nat.lt_or_gt_of_ne (off _ (.head _) _ (.head _))
    have hAt := ws_at hA hch hiA
    have hsg : i < A.length → A.getD i 0 = 32 ∨ A.getD i 0 = 9 := fun h => hs _ (by rw [List.getD_eq_getElem?_getD, List.getElem?_eq_getElem h, Option.getD_some]; exact List.getElem_mem h)
    repeat' ((fail_if_success (with_reducible show KswEnd _ _ _ _ _ _ _ _ _ _ _ _)); (fail_if_success (with_reducible show wpAny _ _ (exec (Stmt.While _ _ _ _) _) _ _ _)); (fail_if_success (with_reducible show wpAny _ _ (pyIter _) _ _ _)); (first | (k_unfold; (try dsimp only)) | walk1 | (dsimp only; walk1) | (leave1; try dsimp only)))
    all_goals ((rename Fr _ _ _ _ => F5); (rename News _ _ _ _ => N5))
    · have e1 := of_decide_eq_true (sgb ch ▸ (‹(({ cps := #[ch] } : Str) == Str.ofString " ") = true›))
      have hq : i < A.length ∧ A.getD i 0 = 32 := by omega
      exact for_end (l, vs, xs, cap, (b + 1, _), (n + 1, _), (nt, _)) F5 N5 (by intro p hp; kst_mem) (by intro p hp; kst_mem) off ⟨hi, hx1, hx2, hx3⟩ (by kst_all) (by kst_same) ⟨by omega, ws_blank hst hq.2⟩
    · have e1 := of_decide_eq_false (sgb ch ▸ (‹(({ cps := #[ch] } : Str) == Str.ofString " ") = false›))
      have e2 := of_decide_eq_true (sgt ch ▸ (‹(({ cps := #[ch] } : Str) == Str.ofString "\t") = true›))
      have hq : i < A.length ∧ A.getD i 0 = 9 := by omega
      have hI2 := ‹_ < _ ∧ _ < _ ∧ l < _ ∧ x < _ ∧ dx < _ ∧ AllLt _ (news ++ [(I, o)])›
      refine for_end (_, _, _, _, (0, _), (n + 1, _), (nt + 1, _)) F5 N5 (by kst_in) (by intro p hp; kst_mem) (off_cons (fun p hp => Nat.ne_of_lt (allLt_mem (allLt_app hI2.2.2.2.2.2).2 p hp)) fun p hp b hb => off p hp b (.tail _ hb)) ⟨by assumption, hI2.2.2.2.1, hI2.2.2.2.2.1, (allLt_app hI2.2.2.2.2.2).1⟩ (by kst_all) (by kst_same) ⟨by omega, ws_grow hst hq.2 (by assumption) rfl⟩
    · have e1 := of_decide_eq_false (sgb ch ▸ (‹(({ cps := #[ch] } : Str) == Str.ofString " ") = false›))
      have e2 := of_decide_eq_true (sgt ch ▸ (‹(({ cps := #[ch] } : Str) == Str.ofString "\t") = true›))
      have hq : i < A.length ∧ A.getD i 0 = 9 := by omega
      (rename IntsAre _ _ => hi2)
      refine for_end (l, _, _, cap, (0, _), (n + 1, _), (nt + 1, _)) F5 N5 ?hn (by intro p hp; kst_mem) off' ⟨hi2, hx1, hx2, hx3⟩ (by kst_all) (by kst_same) ⟨by omega, ws_tab hst hq.2 (by assumption)⟩
      case hn =>
        intro p hp
        dsimp only at hp
        rcases List.mem_cons.mp hp with hp | hp
        · rw [hp]; exact .head _
        · refine .tail _ ?_
          rcases List.mem_cons.mp hp with hp | hp
          · rw [hp]; exact .head _
          · refine .tail _ ?_
            rcases List.mem_cons.mp hp with hp | hp
            · rw [hp]; exact .head _
            · exact .tail _ (List.mem_append_left _ hp)
    · have e1 := of_decide_eq_false (sgb ch ▸ (‹(({ cps := #[ch] } : Str) == Str.ofString " ") = false›))
      have e2 := of_decide_eq_false (sgt ch ▸ (‹(({ cps := #[ch] } : Str) == Str.ofString "\t") = false›))
      have hq : i = A.length := by omega
      exact for_end (l, vs, xs, cap, (b, _), (n, _), (nt, _)) F5 N5 (by intro p hp; kst_mem) (by intro p hp; kst_mem) off ⟨hi, hx1, hx2, hx3⟩ (by kst_all) (by kst_same) ⟨hq, hst⟩
  case done =>
    clear F2 N2 N3
    refine prodS7 fun l vs xs cap b tb n tn nt tnt => ?_
    rintro  u h tk ⟨hi, hx1, hx2, hx3⟩ hP F4 N4
    dsimp only [kstB] at F4
    dsimp only at *
    (try k_fold)
    have hst : (xs, b, n, nt) = wsTo A A.length := by
      rcases hP with ⟨h1, h2⟩ | ⟨i, h1, h2, h3⟩
      · exfalso
        have := congrArg List.length hA
        rw [cs_len] at this
        simp at this
        omega
      · rw [h2] at h3; exact h3
    clear hP
    have hbn := wsTo_bnd A A.length
    rw [← hst] at hbn
    dsimp only at hbn
    obtain ⟨hb1, hb2, hb3, hb4, hb5, hb6⟩ := hbn
    have hlen := hi.length
    have mk := kstMark
    repeat' ((fail_if_success (with_reducible show KswEnd _ _ _ _ _ _ _ _ _ _ _ _)); (fail_if_success (with_reducible show wpAny _ _ (setAttr _ _ _) _ _ _)); (first | (k_unfold; (try dsimp only)) | walk1 | (dsimp only; walk1) | (leave1; try dsimp only)))
    ((first | (k_unfold; (try dsimp only)) | walk1 | (dsimp only; walk1) | (leave1; try dsimp only)))
    repeat' ((fail_if_success (with_reducible show KswEnd _ _ _ _ _ _ _ _ _ _ _ _)); (fail_if_success (with_reducible show wpAny _ _ (setAttr _ _ _) _ _ _)); (first | (k_unfold; (try dsimp only)) | walk1 | (dsimp only; walk1) | (leave1; try dsimp only)))
    ((first | (k_unfold; (try dsimp only)) | walk1 | (dsimp only; walk1) | (leave1; try dsimp only)))
    repeat' ((fail_if_success (with_reducible show KswEnd _ _ _ _ _ _ _ _ _ _ _ _)); (fail_if_success (with_reducible show wpAny _ _ (setAttr _ _ _) _ _ _)); (first | (k_unfold; (try dsimp only)) | walk1 | (dsimp only; walk1) | (leave1; try dsimp only)))
    (rename News _ _ _ _ => N5)
    have d1 := led_ne N5 (.tail _ (.head _)) (.tail _ (.tail _ (.tail _ (.head _)))) rfl
    have d2 := led_ne N5 (.tail _ (.head _)) (.tail _ (.tail _ (.tail _ (.tail _ (.head _))))) rfl
    repeat' ((fail_if_success (with_reducible show KswEnd _ _ _ _ _ _ _ _ _ _ _ _)); (fail_if_success (with_reducible show wpAny _ _ (exec (Stmt.While _ _ _ _) _) _ _ _)); (fail_if_success (with_reducible show wpAny _ _ (pyIter _) _ _ _)); (first | (k_unfold; (try dsimp only)) | walk1 | (dsimp only; walk1) | (leave1; try dsimp only)))
    (rename Fr _ _ _ _ => F6); (rename News _ _ _ _ => N6)
    rw [← hst] at hret
    exact hret x dx _ _ vs ⟨_, _, _, _, _, text, t1, tn, tnt, tb, _⟩ _ _ F6 (news_skip2 N6) hi (fun p hp => ⟨Nat.lt_trans (l1' p hp) l2', l1' p hp, (show ∀ p ∈ news, p.1 < _ from by (intro p hp; first | exact allLt_mem (by assumption) p hp | exact allLt_mem (by assumption : _ ∧ AllLt _ news).2 p hp | exact allLt_mem (by assumption : _ ∧ _ ∧ AllLt _ news).2.2 p hp | exact allLt_mem (by assumption : _ ∧ _ ∧ _ ∧ AllLt _ news).2.2.2 p hp | exact allLt_mem (by assumption : _ ∧ _ ∧ _ ∧ _ ∧ AllLt _ news).2.2.2.2 p hp | exact allLt_mem (by assumption : _ ∧ _ ∧ _ ∧ _ ∧ _ ∧ AllLt _ news).2.2.2.2.2 p hp | exact allLt_mem (by assumption : _ ∧ _ ∧ _ ∧ _ ∧ _ ∧ _ ∧ AllLt _ news).2.2.2.2.2.2 p hp)) p hp, (show ∀ p ∈ news, p.1 < _ from by (intro p hp; first | exact allLt_mem (by assumption) p hp | exact allLt_mem (by assumption : _ ∧ AllLt _ news).2 p hp | exact allLt_mem (by assumption : _ ∧ _ ∧ AllLt _ news).2.2 p hp | exact allLt_mem (by assumption : _ ∧ _ ∧ _ ∧ AllLt _ news).2.2.2 p hp | exact allLt_mem (by assumption : _ ∧ _ ∧ _ ∧ _ ∧ AllLt _ news).2.2.2.2 p hp | exact allLt_mem (by assumption : _ ∧ _ ∧ _ ∧ _ ∧ _ ∧ AllLt _ news).2.2.2.2.2 p hp | exact allLt_mem (by assumption : _ ∧ _ ∧ _ ∧ _ ∧ _ ∧ _ ∧ AllLt _ news).2.2.2.2.2.2 p hp)) p hp⟩)
end Mine
end

section
open PySem PySem.W PyProof.Rows
namespace Mine




noncomputable def ilTo (xs : List Int) (ts : Int) : Nat → Int
  | 0 => 0
  | k + 1 => ilTo xs ts k + Int.fdiv (ts + k) ts * xs.getD (ts + k).toNat 0
noncomputable def indentF (st : List Int × Int × Int × Int) (ts : Int) : Int := st.2.1 + ts * (ilTo st.1 ts ((st.1.length : Int) - ts).toNat + st.2.2.2)
noncomputable def longF (st : List Int × Int × Int × Int) : Int := if st.2.1 > (st.1.length : Int) - 1 then st.2.1 else (st.1.length : Int) - 1
theorem getD_bnd {xs : List Int} {a b : Int} (h : ∀ y ∈ xs, a ≤ y ∧ y ≤ b) (h0 : a ≤ 0 ∧ 0 ≤ b) (i : Nat) : a ≤ xs.getD i 0 ∧ xs.getD i 0 ≤ b := by
  rw [List.getD_eq_getElem?_getD]
  cases e : xs[i]? with
  | none => exact h0
  | some y => exact h y (List.mem_of_getElem? e)
theorem fdiv_bnd {a b : Int} (h0 : 0 ≤ a) (h1 : 1 ≤ b) : 0 ≤ Int.fdiv a b ∧ Int.fdiv a b ≤ a := by
  rw [Int.fdiv_eq_ediv_of_nonneg _ (by omega)]
  exact ⟨Int.ediv_nonneg h0 (by omega), Int.ediv_le_self _ h0⟩

set_option maxRecDepth 100000 in
set_option maxHeartbeats 8000000 in
theorem long_spec (w : World) (s₀ : Shared) (mg mb : Str → Option Value) (news : Led) (x dx tp tc : Addr) (vs : List Value) (st : List Int × Int × Int × Int) (T : HeadToks) :
   Cl w s₀ mg mb 2 45 [.ref x] (headLed w x dx tp tc vs st T ++ news) (IntsAre vs st.1 ∧ st.1.length ≤ 10) (RetI (headLed w x dx tp tc vs st T ++ news) (longF st)) := by
  dsimp only [Cl, RetI]
  k_fill
  w_top off
  obtain ⟨xs, b, n, nt⟩ := st
  obtain ⟨k1, k2, k3, k4, k5, raw, tr, tn, tnt, tb, sb⟩ := T
  dsimp only [headLed, List.cons_append, List.nil_append]
  intros
  rename_i hpre _ _ hret
  obtain ⟨hi, hl⟩ := hpre
  refine wpAny_call ?_
  k_dflt cell_enter
  k_with_none
  k_with "call builtin:len" => (k_here; (with_reducible show wpAny _ _ (call (Value.builtin "len") [Value.ref _]) _ _ _); k_dflt (refine' my_len_tup ?k1 ?k2 ?k3 ?k4 ?_; (case k1 => k_asm); (case k2 => k_memK); (case k3 => exact IntsAre.length (by assumption)); (case k4 => omega)))
  k_with "subscriptTail" => (k_here; (with_reducible show wpAny _ _ (subscriptTail _ _ (Value.ref _) (Value.int _ _)) _ _ _); k_dflt (refine' my_item_tup ?k1 ?k2 ?k3 ?k4 ?k5 ?k6 ?_ ?k7 ?k8; (case k1 => k_asm); (case k2 => k_memK); (case k3 => assumption); (case k4 => omega); (case k5 => omega); (case k6 => omega); (case k7 => with_unfolding_all rfl); (case k8 => (intro _; with_unfolding_all rfl))); intro _)
  repeat' ((fail_if_success (with_reducible show KswEnd _ _ _ _ _ _ _ _ _ _ _ _)); (fail_if_success (with_reducible show wpAny _ _ (exec (Stmt.While _ _ _ _) _) _ _ _)); (fail_if_success (with_reducible show wpAny _ _ (pyIter _) _ _ _)); (first | (k_unfold; (try dsimp only)) | walk1 | (dsimp only; walk1) | (leave1; try dsimp only)))
  exact endI hret rfl (by assumption) (by assumption) (by intro p hp; kst_mem)

theorem il_go {xs : List Int} {ts il k : Int} {pre : List Int} (e : k = ts + (pre.length : Int)) (h : il = ilTo xs ts pre.length) (h0 : 0 ≤ il) (h1 : il ≤ 200 * (pre.length : Int)) (q : 0 ≤ k.fdiv ts * xs.getD k.toNat 0 ∧ k.fdiv ts * xs.getD k.toNat 0 ≤ 10 * 10) :
    il + k.fdiv ts * xs.getD k.toNat 0 = ilTo xs ts (pre ++ [k]).length ∧ 0 ≤ il + k.fdiv ts * xs.getD k.toNat 0 ∧ il + k.fdiv ts * xs.getD k.toNat 0 ≤ 200 * (((pre ++ [k]).length : Nat) : Int) := by
  rw [List.length_append, List.length_singleton]
  refine ⟨by rw [ilTo, ← h, e], by omega, by omega⟩
theorem il_done {xs : List Int} {ts b nt il : Int} {k : Nat} (h : il = ilTo xs ts (rangeKs ts k).length) (hk : k = ((xs.length : Int) - ts).toNat := by omega) {n : Int} : b + ts * (il + nt) = indentF (xs, b, n, nt) ts := by
  rw [rangeKs_length, hk] at h
  rw [h]; rfl
set_option maxRecDepth 100000 in
set_option maxHeartbeats 8000000 in
theorem indent_spec (w : World) (s₀ : Shared) (mg mb : Str → Option Value) (news : Led) (x dx tp tc : Addr) (vs : List Value) (st : List Int × Int × Int × Int) (T : HeadToks) (ts : Int) (tt : Tok) :
   Cl w s₀ mg mb 2 52 [.ref x, .int ts tt] (headLed w x dx tp tc vs st T ++ news) (IntsAre vs st.1 ∧ st.1.length ≤ 10 ∧ 1 ≤ ts ∧ ts ≤ 20 ∧ (∀ y ∈ st.1, 0 ≤ y ∧ y ≤ 10) ∧ 0 ≤ st.2.2.2 ∧ st.2.2.2 ≤ 10) (RetI (headLed w x dx tp tc vs st T ++ news) (indentF st ts)) := by
  dsimp only [Cl, RetI]
  k_fill
  w_top off
  obtain ⟨xs, b, n, nt⟩ := st
  obtain ⟨k1, k2, k3, k4, k5, raw, tr, tn, tnt, tb, sb⟩ := T
  dsimp only [headLed, List.cons_append, List.nil_append]
  intros
  rename_i hpre _ _ hret
  obtain ⟨hi, hl, ht1, ht2, hx, hn1, hn2⟩ := hpre
  refine wpAny_call ?_
  k_dflt cell_enter
  k_with_none
  k_with "call builtin:len" => (k_here; (with_reducible show wpAny _ _ (call (Value.builtin "len") [Value.ref _]) _ _ _); k_dflt (refine' my_len_tup ?k1 ?k2 ?k3 ?k4 ?_; (case k1 => k_asm); (case k2 => k_memK); (case k3 => exact IntsAre.length (by assumption)); (case k4 => omega)))
  k_with "subscriptTail" => (k_here; (with_reducible show wpAny _ _ (subscriptTail _ _ (Value.ref _) (Value.int _ _)) _ _ _); k_dflt (refine' my_item_tup ?k1 ?k2 ?k3 ?k4 ?k5 ?k6 ?_ ?k7 ?k8; (case k1 => k_asm); (case k2 => k_memK); (case k3 => assumption); (case k4 => omega); (case k5 => omega); (case k6 => omega); (case k7 => with_unfolding_all rfl); (case k8 => (intro _; with_unfolding_all rfl))); intro _)
  k_with "pyIter ref" => fail
  repeat' ((fail_if_success (with_reducible show KswEnd _ _ _ _ _ _ _ _ _ _ _ _)); (fail_if_success (with_reducible show wpAny _ _ (exec (Stmt.While _ _ _ _) _) _ _ _)); (fail_if_success (with_reducible show wpAny _ _ (pyIter _) _ _ _)); (first | (k_unfold; (try dsimp only)) | walk1 | (dsimp only; walk1) | (leave1; try dsimp only)))
  k_state (fun pre il => il = ilTo xs ts pre.length ∧ 0 ≤ il ∧ il ≤ 200 * pre.length) "il"
  · have q1 := fdiv_bnd (a := kN) (b := ts) (by omega) (by omega)
    have q2 := getD_bnd hx (by omega) kN.toNat
    have q3 : 0 ≤ kN.fdiv ts * xs.getD kN.toNat 0 ∧ kN.fdiv ts * xs.getD kN.toNat 0 ≤ 10 * 10 := ⟨Int.mul_nonneg q1.1 q2.1, Int.mul_le_mul (by omega) q2.2 q2.1 (by omega)⟩
    repeat' ((fail_if_success (with_reducible show KswEnd _ _ _ _ _ _ _ _ _ _ _ _)); (fail_if_success (with_reducible show InvEndN _ _ _ _ _ _ _)); (first | (k_unfold; (try dsimp only)) | walk1 | (dsimp only; walk1) | (leave1; try dsimp only)))
    k_with "state" => exact il_go (by assumption) (by assumption) (by assumption) (by assumption) q3
    kst_close
  · repeat' ((fail_if_success (with_reducible show KswEnd _ _ _ _ _ _ _ _ _ _ _ _)); (fail_if_success (with_reducible show wpAny _ _ (exec (Stmt.While _ _ _ _) _) _ _ _)); (fail_if_success (with_reducible show wpAny _ _ (pyIter _) _ _ _)); (first | (k_unfold; (try dsimp only)) | walk1 | (dsimp only; walk1) | (leave1; try dsimp only)))
    exact endI hret (il_done (by assumption)) (by assumption) (by assumption) (by intro p hp; kst_mem)
end Mine
end

section
open PySem PySem.W PyProof.Rows PySem.SeqAt
namespace Mine
theorem all_eq {α : Type} [DecidableEq α] (d : α) : ∀ (xs ys : List α), ((List.range (min xs.length ys.length)).all (fun j => decide (xs.getD j d = ys.getD j d)) && xs.length == ys.length) = decide (xs = ys)
  | [], [] => by simp
  | [], _ :: _ => by simp
  | _ :: _, [] => by simp
  | x :: xs, y :: ys => by
    have ih := all_eq d xs ys
    have e1 : min (x :: xs).length (y :: ys).length = min xs.length ys.length + 1 := by simp only [List.length_cons]; omega
    rw [e1, List.range_succ_eq_map, List.all_cons, List.all_map]
    simp only [List.length_cons]
    have e2 : ((fun j => decide ((x :: xs).getD j d = (y :: ys).getD j d)) ∘ Nat.succ) = fun j => decide (xs.getD j d = ys.getD j d) := by
      funext j
      simp
    rw [e2]
    have e3 : (xs.length + 1 == ys.length + 1) = (xs.length == ys.length) := by
      rw [Bool.eq_iff_iff]; simp
    rw [e3, Bool.and_assoc, ih]
    rw [Bool.eq_iff_iff]
    simp
theorem all_eq' {α : Type} [DecidableEq α] (d : α) (xs ys : List α) (h : xs.length = ys.length) : (List.range xs.length).all (fun j => decide (xs.getD j d = ys.getD j d)) = decide (xs = ys) := by
  have := all_eq d xs ys
  rw [← h, Nat.min_self, beq_self_eq_true, Bool.and_true] at this
  exact this
section
variable {A : Around} {s : Shared} {h₀ : Heap} {L : Addr} {news : Led}
theorem led_isTuple {a : Addr} {vs : List Value} (N : News h₀ L s.heap news) (hm : (a, tupOf vs) ∈ news) : s.heap.IsTuple a vs.toArray := ⟨_, (N _ hm).1, rfl, _, rfl⟩
theorem led_isList {a : Addr} {vs : List Value} {n : Nat} (N : News h₀ L s.heap news) (hm : (a, listOf vs.toArray n) ∈ news) : s.heap.IsList a vs.toArray := ⟨_, (N _ hm).1, rfl, _, rfl⟩
/-- v is the datum d, and two of them are compared by their data -/
theorem eq_ref {a b : Addr} {k : Bool} (h : RcAt A s (.ref a) (.ref b) k) (hs : a = b → k = true) : EqAt A s (.ref a) (.ref b) k := by
  by_cases e : a = b
  · subst e
    rw [hs rfl]
    exact EqAt.same _
  · exact EqAt.of_refs e h
theorem ints_at {vs us : List Value} {xs ys : List Int} (hx : IntsAre vs xs) (hy : IntsAre us ys) (j : Nat) (h1 : j < vs.toArray.size) (h2 : j < us.toArray.size) : EqAt A s vs.toArray[j] us.toArray[j] (decide (xs.getD j 0 = ys.getD j 0)) := by
  have l1 : j < xs.length := by rw [← hx.length]; simpa using h1
  have l2 : j < ys.length := by rw [← hy.length]; simpa using h2
  obtain ⟨t, e1⟩ := hx.get j xs[j] (by simp [l1])
  obtain ⟨u, e2⟩ := hy.get j ys[j] (by simp [l2])
  have f1 : vs.toArray[j] = .int xs[j] t := by
    have : vs[j]? = some vs.toArray[j] := by simp at h1 ⊢
    rw [this] at e1; exact Option.some.inj e1
  have f2 : us.toArray[j] = .int ys[j] u := by
    have : us[j]? = some us.toArray[j] := by simp at h2 ⊢
    rw [this] at e2; exact Option.some.inj e2
  rw [f1, f2]
  have g1 : xs.getD j 0 = xs[j] := by simp [List.getD, l1]
  have g2 : ys.getD j 0 = ys[j] := by simp [List.getD, l2]
  rw [g1, g2]
  have := EqAt.int_int (A := A) (s := s) xs[j] t ys[j] u
  have e : (xs[j] == ys[j]) = decide (xs[j] = ys[j]) := by rw [Bool.eq_iff_iff]; simp
  rwa [e] at this
theorem rc_tup_ints {a b : Addr} {vs us : List Value} {xs ys : List Int} (N : News h₀ L s.heap news) (ha : (a, tupOf vs) ∈ news) (hb : (b, tupOf us) ∈ news) (hx : IntsAre vs xs) (hy : IntsAre us ys) (hu : A.units < cLine) : RcAt A s (.ref a) (.ref b) (decide (xs = ys)) := by
  have := RcAt.tuples (led_isTuple N ha) (led_isTuple N hb) hu (ints_at hx hy)
  rw [show (vs.toArray.size) = xs.length by simp [hx.length], show us.toArray.size = ys.length by simp [hy.length], all_eq] at this
  exact this
theorem rc_list_ints {a b : Addr} {vs us : List Value} {n m : Nat} {xs ys : List Int} (N : News h₀ L s.heap news) (ha : (a, listOf vs.toArray n) ∈ news) (hb : (b, listOf us.toArray m) ∈ news) (hx : IntsAre vs xs) (hy : IntsAre us ys) (hu : A.units < cLine) : RcAt A s (.ref a) (.ref b) (decide (xs = ys)) := by
  have e1 : vs.toArray.size = xs.length := by simp [hx.length]
  have e2 : us.toArray.size = ys.length := by simp [hy.length]
  by_cases hl : xs.length = ys.length
  · have := RcAt.lists (led_isList N ha) (led_isList N hb) (by rw [e1, e2, hl]) hu (ints_at hx hy)
    rw [e1, all_eq' _ _ _ hl] at this
    exact this
  · have := RcAt.lists_lengths (A := A) (led_isList N ha) (led_isList N hb) (by rw [e1, e2]; simpa using hl) hu
    have q : decide (xs = ys) = false := decide_eq_false fun e => hl (by rw [e])
    rw [q]; exact this
/-- two-place tuples -/
theorem rc_pair {a b : Addr} {v1 v2 u1 u2 : Value} {k1 k2 : Bool} (N : News h₀ L s.heap news) (ha : (a, tupOf [v1, v2]) ∈ news) (hb : (b, tupOf [u1, u2]) ∈ news) (h1 : EqAt A.in1 s v1 u1 k1) (h2 : EqAt A.in1 s v2 u2 k2) (hu : A.units < cLine) :
    RcAt A s (.ref a) (.ref b) (k1 && k2) := by
  have := RcAt.tuples (A := A) (e := fun j => if j = 0 then k1 else k2) (led_isTuple N ha) (led_isTuple N hb) hu (fun j q1 q2 => by
    match j, q1, q2 with
    | 0, _, _ => exact h1
    | 1, _, _ => exact h2
    | j + 2, q1, _ => exact absurd q1 (by simp))
  simpa [List.range_succ] using this
theorem eq_int (x y : Int) (t u : Tok) : EqAt A s (.int x t) (.int y u) (decide (x = y)) := by
  have := EqAt.int_int (A := A) (s := s) x t y u
  have e : (x == y) = decide (x = y) := by rw [Bool.eq_iff_iff]; simp
  rwa [e] at this
end
end Mine
namespace Mine
theorem RetI.mems {news ps : Led} {x : Int} (h₀ : Heap) (L : Addr) (m : Str → Option Value) (s : Shared) (Q : Value → Shared → Prop) (h : RetI news x h₀ L m s Q) : RetI (ps ++ news) x h₀ L m s Q :=
  fun t h' tk' F N => h t h' tk' F fun q hq => N q (List.mem_append_right _ hq)
theorem RetB.mems {news ps : Led} {x : Bool} (h₀ : Heap) (L : Addr) (m : Str → Option Value) (s : Shared) (Q : Value → Shared → Prop) (h : RetB news x h₀ L m s Q) : RetB (ps ++ news) x h₀ L m s Q :=
  fun h' tk' F N => h h' tk' F fun q hq => N q (List.mem_append_right _ hq)
theorem Cl.mems {w : World} {s₀ : Shared} {mg mb : Str → Option Value} {lvl : Nat} {f : Addr} {vs : List Value} {news ps : Led} {pre : Prop} {Ret Ret' : Heap → Addr → (Str → Option Value) → Shared → (Value → Shared → Prop) → Prop}
    (c : Cl w s₀ mg mb lvl f vs (ps ++ news) pre Ret') (hr : ∀ h₀ L m s Q, Ret h₀ L m s Q → Ret' h₀ L m s Q) (hm : ∀ p ∈ ps, p ∈ news) : Cl w s₀ mg mb lvl f vs news pre Ret := by
  intro dp un gd cn cs a ccd cl outer A₀ base h₀ L m s Q E B F X N T hk hp hd hu r
  refine c dp un gd cn cs a ccd cl outer A₀ base h₀ L m s Q E B F X (fun q hq => ?_) T hk hp hd hu (hr _ _ _ _ _ r)
  rcases List.mem_append.mp hq with hq | hq
  · exact N _ (hm q hq)
  · exact N _ hq
/-- a list of triples of ints, each a tuple of the ledger -/
inductive Trips (l : Led) : List Value → List (Int × Int × Int) → Prop where
  | nil : Trips l [] []
  | cons {a : Addr} {x y z : Int} {t u v : Tok} {vs : List Value} {ws : List (Int × Int × Int)} : (a, tupOf [.int x t, .int y u, .int z v]) ∈ l → Trips l vs ws → Trips l (.ref a :: vs) ((x, y, z) :: ws)
theorem Trips.mono {l l' : Led} {vs : List Value} {ws : List (Int × Int × Int)} (h : Trips l vs ws) (hs : ∀ p ∈ l, p ∈ l') : Trips l' vs ws := by
  induction h with
  | nil => exact .nil
  | cons hm _ ih => exact .cons (hs _ hm) ih
theorem Trips.snoc {l : Led} {vs : List Value} {ws : List (Int × Int × Int)} {a : Addr} {x y z : Int} {t u v : Tok} (h : Trips l vs ws) (hm : (a, tupOf [.int x t, .int y u, .int z v]) ∈ l) : Trips l (vs ++ [.ref a]) (ws ++ [(x, y, z)]) := by
  induction h with
  | nil => exact .cons hm .nil
  | cons h1 _ ih => exact .cons h1 ih
theorem Trips.length {l : Led} {vs : List Value} {ws : List (Int × Int × Int)} (h : Trips l vs ws) : vs.length = ws.length := by
  induction h with
  | nil => rfl
  | cons _ _ ih => simp [ih]
noncomputable abbrev RetT (news : Led) (ws : List (Int × Int × Int)) : Heap → Addr → (Str → Option Value) → Shared → (Value → Shared → Prop) → Prop := fun h₀ L m s Q =>
  ∀ (l : Addr) (vs : List Value) (cap : Nat) (ex : Led) (h' : Heap) (tk' : Nat), Fr h₀ L h' m → News h₀ L h' ((l, listOf vs.toArray cap) :: (ex ++ news)) → Trips ex vs ws → Q (.ref l) { s with heap := h', toks := tk' }
end Mine
namespace Mine
theorem head_mem {w : World} {l : Led} {x dx tp tc : Addr} {vs : List Value} {st : List Int × Int × Int × Int} {T : HeadToks} (h1 : (tp, tupOf [.ref tc, .int st.2.1 T.tb]) ∈ l) (h2 : (tc, tupOf vs) ∈ l) (h3 : (x, instObj 83 dx) ∈ l)
    (h4 : (dx, headDict w T.k1 T.k2 T.k3 T.k4 T.k5 T.raw T.tr st.2.2.1 T.tn st.2.2.2 T.tnt tp T.sb) ∈ l) (hi : IntsAre vs st.1) : HeadAt w l x st := by
  refine ⟨dx, tp, tc, vs, T, fun p hp => ?_, hi⟩
  rcases List.mem_cons.mp hp with rfl | hp
  · exact h1
  rcases List.mem_cons.mp hp with rfl | hp
  · exact h2
  rcases List.mem_cons.mp hp with rfl | hp
  · exact h3
  rcases List.mem_cons.mp hp with rfl | hp
  · exact h4
  · exact nomatch hp
end Mine
namespace Mine
theorem off_more {own : List (Addr × Obj)} {l1 l2 : List Addr} {D : Addr} (h : OwnOff own l1) (hs : ∀ b ∈ l2, b ∈ l1 ∨ b = D) (hD : ∀ p ∈ own, p.1 ≠ D) : OwnOff own l2 := fun p hp b hb => by
  rcases hs b hb with q | q
  · exact h p hp b q
  · rw [q]; exact hD p hp
end Mine
end

section
open PySem PySem.W PyProof.Rows
namespace Mine


theorem ints_inj {vs : List Value} {xs ys : List Int} (hx : IntsAre vs xs) (hy : IntsAre vs ys) : xs = ys := by
  induction hx generalizing ys with
  | nil => cases hy; rfl
  | cons n t _ ih => cases hy with | cons _ _ h => rw [ih h]
noncomputable def eqF (a b : List Int × Int × Int × Int) : Bool := decide (a.1 = b.1) && decide (a.2.1 = b.2.1)
set_option maxRecDepth 100000 in
set_option maxHeartbeats 8000000 in
theorem equal_spec (w : World) (s₀ : Shared) (mg mb : Str → Option Value) (news : Led) (x dx tp tc : Addr) (vs : List Value) (st : List Int × Int × Int × Int) (T : HeadToks)
    (x' dx' tp' tc' : Addr) (vs' : List Value) (st' : List Int × Int × Int × Int) (T' : HeadToks) :
   Cl w s₀ mg mb 2 59 [.ref x, .ref x'] (headLed w x dx tp tc vs st T ++ (headLed w x' dx' tp' tc' vs' st' T' ++ news)) (IntsAre vs st.1 ∧ IntsAre vs' st'.1) (RetB (headLed w x dx tp tc vs st T ++ (headLed w x' dx' tp' tc' vs' st' T' ++ news)) (eqF st st')) := by
  dsimp only [Cl, RetB]
  k_fill
  w_top off
  obtain ⟨xs, b, n, nt⟩ := st
  obtain ⟨k1, k2, k3, k4, k5, raw, tr, tn, tnt, tb, sb⟩ := T
  obtain ⟨xs', b', n', nt'⟩ := st'
  obtain ⟨k1', k2', k3', k4', k5', raw', tr', tn', tnt', tb', sb'⟩ := T'
  dsimp only [headLed, List.cons_append, List.nil_append]
  intros
  rename_i hpre _ _ hret
  obtain ⟨hi, hi'⟩ := hpre
  refine wpAny_call ?_
  k_dflt cell_enter
  k_with_none
  repeat' ((fail_if_success (with_reducible show KswEnd _ _ _ _ _ _ _ _ _ _ _ _)); (fail_if_success (with_reducible show wpAny _ _ (compareOp _ (Value.ref _) (Value.ref _)) _ _ _)); (first | (k_unfold; (try dsimp only)) | walk1 | (dsimp only; walk1) | (leave1; try dsimp only)))
  refine cmp_ofEq ?_
  (rename News _ _ _ _ => N9)
  refine rc_pair (k1 := decide (xs = xs')) (k2 := decide (b = b')) N9 (.head _) (.tail _ (.tail _ (.tail _ (.tail _ (.head _))))) (eq_ref (rc_tup_ints N9 (.tail _ (.head _)) (.tail _ (.tail _ (.tail _ (.tail _ (.tail _ (.head _)))))) hi hi' ?u1) ?hs) (eq_int _ _ _ _) ?u2 _ _ _ _ ?_
  case u1 => ktr_units
  case u2 => ktr_units
  case hs =>
    intro e
    subst e
    have h1 := (N9 _ (.tail _ (.head _))).1
    have h2 := (N9 _ (.tail _ (.tail _ (.tail _ (.tail _ (.tail _ (.head _))))))).1
    dsimp only at h1 h2
    rw [h1] at h2
    have e2 : vs.toArray = vs'.toArray := by injection h2 with h2; injection h2 with _ _ h2; injection h2
    have e3 : vs = vs' := by simpa using e2
    subst e3
    exact decide_eq_true (ints_inj hi hi')
  repeat' ((fail_if_success (with_reducible show KswEnd _ _ _ _ _ _ _ _ _ _ _ _)); (fail_if_success (with_reducible show wpAny _ _ (exec (Stmt.While _ _ _ _) _) _ _ _)); (fail_if_success (with_reducible show wpAny _ _ (pyIter _) _ _ _)); (first | (k_unfold; (try dsimp only)) | walk1 | (dsimp only; walk1) | (leave1; try dsimp only)))
  exact endB hret rfl (by assumption) (by assumption) (by intro p hp; kst_mem)
end Mine
end

section
open PySem PySem.W PyProof.Rows
namespace Mine


theorem long_use {w : World} (s₀ : Shared) (mg mb : Str → Option Value) {news : Led} {x : Addr} {st : List Int × Int × Int × Int} (hx : HeadAt w news x st) : Cl w s₀ mg mb 2 45 [.ref x] news (st.1.length ≤ 10) (RetI news (longF st)) := by
  obtain ⟨dx, tp, tc, vs, T, hm, hi⟩ := hx
  refine Cl.mems (ps := headLed w x dx tp tc vs st T) (Ret' := RetI (headLed w x dx tp tc vs st T ++ news) (longF st)) (fun dp un gd cn cs a ccd cl outer A₀ base h₀ L m s Q E B F X N T' hk hp => ?_) RetI.mems hm
  exact long_spec w s₀ mg mb news x dx tp tc vs st T dp un gd cn cs a ccd cl outer A₀ base h₀ L m s Q E B F X N T' hk ⟨hi, hp⟩
theorem indent_use {w : World} (s₀ : Shared) (mg mb : Str → Option Value) {news : Led} {x : Addr} {st : List Int × Int × Int × Int} (hx : HeadAt w news x st) (ts : Int) (tt : Tok) :
    Cl w s₀ mg mb 2 52 [.ref x, .int ts tt] news (st.1.length ≤ 10 ∧ 1 ≤ ts ∧ ts ≤ 20 ∧ (∀ y ∈ st.1, 0 ≤ y ∧ y ≤ 10) ∧ 0 ≤ st.2.2.2 ∧ st.2.2.2 ≤ 10) (RetI news (indentF st ts)) := by
  obtain ⟨dx, tp, tc, vs, T, hm, hi⟩ := hx
  refine Cl.mems (ps := headLed w x dx tp tc vs st T) (Ret' := RetI (headLed w x dx tp tc vs st T ++ news) (indentF st ts)) (fun dp un gd cn cs a ccd cl outer A₀ base h₀ L m s Q E B F X N T' hk hp => ?_) RetI.mems hm
  exact indent_spec w s₀ mg mb news x dx tp tc vs st T ts tt dp un gd cn cs a ccd cl outer A₀ base h₀ L m s Q E B F X N T' hk ⟨hi, hp⟩

/-- what holds of the counts of a head -/
noncomputable def StOk (st : List Int × Int × Int × Int) : Prop := st.1.length ≤ 10 ∧ (∀ y ∈ st.1, 0 ≤ y ∧ y ≤ 10) ∧ 0 ≤ st.2.2.2 ∧ st.2.2.2 ≤ 10 ∧ 0 ≤ st.2.1 ∧ st.2.1 ≤ 10
theorem StOk.len {st : List Int × Int × Int × Int} (h : StOk st) : st.1.length ≤ 10 := h.1
theorem StOk.pre {st : List Int × Int × Int × Int} (h : StOk st) {ts : Int} (h1 : 1 ≤ ts) (h2 : ts ≤ 20) : st.1.length ≤ 10 ∧ 1 ≤ ts ∧ ts ≤ 20 ∧ (∀ y ∈ st.1, 0 ≤ y ∧ y ≤ 10) ∧ 0 ≤ st.2.2.2 ∧ st.2.2.2 ≤ 10 := ⟨h.1, h1, h2, h.2.1, h.2.2.1, h.2.2.2.1⟩
theorem StOk.long {st : List Int × Int × Int × Int} (h : StOk st) : 0 ≤ longF st ∧ longF st ≤ 10 := by
  obtain ⟨h1, _, _, _, h2, h3⟩ := h
  unfold longF
  split <;> omega
noncomputable def witMax (a b : List Int × Int × Int × Int) : Int := if longF b > longF a then longF b else longF a
noncomputable def witTo (a b : List Int × Int × Int × Int) : Nat → List (Int × Int × Int)
  | 0 => []
  | k + 1 => if indentF a (1 + (k : Int)) = indentF b (1 + (k : Int)) then witTo a b k else witTo a b k ++ [(1 + (k : Int), indentF a (1 + (k : Int)), indentF b (1 + (k : Int)))]
noncomputable def witF (a b : List Int × Int × Int × Int) : List (Int × Int × Int) := witTo a b (witMax a b + 1).toNat


set_option maxRecDepth 100000 in
set_option maxHeartbeats 8000000 in
theorem witness_spec (w : World) (s₀ : Shared) (mg mb : Str → Option Value) (news : Led) (x dx tp tc : Addr) (vs : List Value) (st : List Int × Int × Int × Int) (T : HeadToks)
    (x' dx' tp' tc' : Addr) (vs' : List Value) (st' : List Int × Int × Int × Int) (T' : HeadToks) :
   Cl w s₀ mg mb 3 66 [.ref x, .ref x'] (headLed w x dx tp tc vs st T ++ (headLed w x' dx' tp' tc' vs' st' T' ++ news)) (IntsAre vs st.1 ∧ IntsAre vs' st'.1 ∧ StOk st ∧ StOk st') (RetT (headLed w x dx tp tc vs st T ++ (headLed w x' dx' tp' tc' vs' st' T' ++ news)) (witF st st')) := by
  dsimp only [Cl, RetT]
  k_fill
  w_top off
  intros
  rename_i hpre _ _ hret
  obtain ⟨hi, hi', ho, ho'⟩ := hpre
  have lo := ho.long
  have lo' := ho'.long
  have hx : HeadAt w (headLed w x dx tp tc vs st T ++ (headLed w x' dx' tp' tc' vs' st' T' ++ news)) x st := ⟨dx, tp, tc, vs, T, fun p hp => List.mem_append_left _ hp, hi⟩
  have hx' : HeadAt w (headLed w x dx tp tc vs st T ++ (headLed w x' dx' tp' tc' vs' st' T' ++ news)) x' st' := ⟨dx', tp', tc', vs', T', fun p hp => List.mem_append_right _ (List.mem_append_left _ hp), hi'⟩
  obtain ⟨xs, b, n, nt⟩ := st
  obtain ⟨k1, k2, k3, k4, k5, raw, tr, tn, tnt, tb, sb⟩ := T
  obtain ⟨xs', b', n', nt'⟩ := st'
  obtain ⟨k1', k2', k3', k4', k5', raw', tr', tn', tnt', tb', sb'⟩ := T'
  dsimp only [headLed, List.cons_append, List.nil_append] at *
  refine wpAny_call ?_
  k_dflt cell_enter
  k_with_none
  k_with "ForPost" => (dsimp only [ForPost])
  k_with "call ref" => (k_here; (show wpAny _ _ (call (Value.ref 45) [_]) _ _ _); (k_dflt (refine' long_use _ _ _ (HeadAt.mono (by assumption) ?hs) _ _ _ _ _ _ _ _ _ _ _ _ _ _ _ _ _ ?k1 ?k2 ?k3 ?k4 ?k5 ?kK ?kp ?kd ?ku ?_; (case k1 => k_asm); (case k2 => k_asm); (case k3 => k_asm); (case k4 => k_asm); (case hs => (intro p hp; first | exact hp | kst_mem)); (case k5 => k_asm); (case kK => first | exact rfl | assumption); (case kp => exact StOk.len (by assumption)); (case kd => ktr_room); (case ku => ktr_units))); intro _ _ _ _ _; (try dsimp only); (try k_fold))
  k_with "call ref" => (k_here; (show wpAny _ _ (call (Value.ref 52) [_, _]) _ _ _); (k_dflt (refine' indent_use _ _ _ (HeadAt.mono (by assumption) ?hs) _ _ _ _ _ _ _ _ _ _ _ _ _ _ _ _ _ _ _ ?k1 ?k2 ?k3 ?k4 ?k5 ?kK ?kp ?kd ?ku ?_; (case k1 => k_asm); (case k2 => k_asm); (case k3 => k_asm); (case k4 => k_asm); (case hs => (intro p hp; first | exact hp | kst_mem)); (case k5 => k_asm); (case kK => first | exact rfl | assumption); (case kp => exact StOk.pre (by assumption) (by omega) (by omega)); (case kd => ktr_room); (case ku => ktr_units))); intro _ _ _ _ _; (try dsimp only); (try k_fold))
  k_with "pyIter ref" => fail
  repeat' ((fail_if_success (with_reducible show KswEnd _ _ _ _ _ _ _ _ _ _ _ _)); (fail_if_success (with_reducible show wpAny _ _ (exec (Stmt.While _ _ _ _) _) _ _ _)); (fail_if_success (with_reducible show wpAny _ _ (pyIter _) _ _ _)); (first | (k_unfold; (try dsimp only)) | walk1 | (dsimp only; walk1) | (leave1; try dsimp only)))
  rename_i la _ hl _ F0 N0 _ _ _ _ _ R F1 N1 _
  clear F0 N0
  with_unfolding_all
    refine' my_for_range (σ := List Value × Nat × Led) (n := (witMax (xs, b, n, nt) (xs', b', n', nt') + 1).toNat)
      (fun c => (la, listOf c.1.toArray c.2.1) :: (headLed w x dx tp tc vs (xs, b, n, nt) ⟨k1, k2, k3, k4, k5, raw, tr, tn, tnt, tb, sb⟩ ++ (headLed w x' dx' tp' tc' vs' (xs', b', n', nt') ⟨k1', k2', k3', k4', k5', raw', tr', tn', tnt', tb', sb'⟩ ++ (news ++ c.2.2))))
      (fun _ => []) (fun c => OwnOff c.2.2 [la] ∧ c.1.length ≤ 30) [] (fun i c => Trips c.2.2 c.1 (witTo (xs, b, n, nt) (xs', b', n', nt') i) ∧ c.1.length ≤ i) (fun _ _ => False) ([], 0, []) rfl R ?hs ?hn F1 ?kn ?kf ?kk ?kp ?turn ?done
  case hs => exact small_one (by omega) (by omega) (by split <;> omega) (by split <;> omega)
  case hn =>
    rw [rangeSize_one]
    unfold witMax
    split <;> split <;> omega
  case kn => exact fun p hp => N1 p (by simpa [headLed] using hp)
  case kf => exact ⟨fun p hp => (nomatch hp), Nat.zero_le _⟩
  case kk => kst_all
  case kp => exact ⟨.nil, Nat.le_refl _⟩
  case turn =>
    clear F1 N1 hx hx'
    refine fun i t => prod3 fun us cap ex => ?_
    rintro  u h tk I o hin off ⟨hof, hlen⟩ ⟨htr, hle⟩ F4 N4
    dsimp only [kstB] at F4
    dsimp only at *
    (try k_fold)
    dsimp only [headLed, List.cons_append, List.nil_append] at N4 off
    have mk := kstMark
    have hw : witMax (xs, b, n, nt) (xs', b', n', nt') ≤ 10 := by unfold witMax; split <;> omega
    simp only [List.append_assoc] at N4
    have hxT : HeadAt w _ x (xs, b, n, nt) := head_mem (l := (la, listOf us.toArray cap) :: (headLed w x dx tp tc vs (xs, b, n, nt) ⟨k1, k2, k3, k4, k5, raw, tr, tn, tnt, tb, sb⟩ ++ (headLed w x' dx' tp' tc' vs' (xs', b', n', nt') ⟨k1', k2', k3', k4', k5', raw', tr', tn', tnt', tb', sb'⟩ ++ (news ++ (ex ++ [(I, o)]))))) (dx := dx) (tp := tp) (tc := tc) (vs := vs) (T := ⟨k1, k2, k3, k4, k5, raw, tr, tn, tnt, tb, sb⟩) (by k_memK) (by k_memK) (by k_memK) (by k_memK) hi
    have hxT' : HeadAt w _ x' (xs', b', n', nt') := head_mem (l := (la, listOf us.toArray cap) :: (headLed w x dx tp tc vs (xs, b, n, nt) ⟨k1, k2, k3, k4, k5, raw, tr, tn, tnt, tb, sb⟩ ++ (headLed w x' dx' tp' tc' vs' (xs', b', n', nt') ⟨k1', k2', k3', k4', k5', raw', tr', tn', tnt', tb', sb'⟩ ++ (news ++ (ex ++ [(I, o)]))))) (dx := dx') (tp := tp') (tc := tc') (vs := vs') (T := ⟨k1', k2', k3', k4', k5', raw', tr', tn', tnt', tb', sb'⟩) (by k_memK) (by k_memK) (by k_memK) (by k_memK) hi'
    dsimp only [headLed, List.cons_append, List.nil_append] at hxT hxT'
    repeat' ((fail_if_success (with_reducible show KswEnd _ _ _ _ _ _ _ _ _ _ _ _)); (fail_if_success (with_reducible show wpAny _ _ (exec (Stmt.While _ _ _ _) _) _ _ _)); (fail_if_success (with_reducible show wpAny _ _ (pyIter _) _ _ _)); (first | (k_unfold; (try dsimp only)) | walk1 | (dsimp only; walk1) | (leave1; try dsimp only)))
    · have hne := ‹indentF (xs, b, n, nt) (1 + (i : Int)) ≠ indentF (xs', b', n', nt') (1 + (i : Int))›
      rename_i D _ hD _ F5 N5
      simp only [List.push_toArray] at N5
      have N6 : ∃ (ta tb2 : Tok), News _ _ _ ((D, tupOf [.int (1 + (i : Int)) t, .int (indentF (xs, b, n, nt) (1 + (i : Int))) ta, .int (indentF (xs', b', n', nt') (1 + (i : Int))) tb2]) :: _) := ⟨_, _, N5⟩
      obtain ⟨ta, tb2, N6⟩ := N6
      have hDI := (allLt_mem (allLt_app (allLt_app hD.2.2.2.2.2.2.2.2.2).2).2) (I, o) (.head _)
      refine for_end (us ++ [.ref D], cap + 1, ex ++ [(D, tupOf [.int (1 + (i : Int)) t, .int (indentF (xs, b, n, nt) (1 + (i : Int))) ta, .int (indentF (xs', b', n', nt') (1 + (i : Int))) tb2])]) F5 N6 ?hn ?ho ?off ⟨?f1, ?f2⟩ (by kst_all) (by kst_same) ⟨?tr, ?le⟩
      case hn =>
        intro p hp
        simp only [headLed, List.cons_append, List.nil_append, List.mem_cons, List.mem_append, List.not_mem_nil, or_false] at hp ⊢
        rcases hp with h | h | h | h | h | h | h | h | h | h | h | h <;> first | (simp only [h, true_or, or_true]; done) | exact .inl h
      case ho =>
        intro p hp
        simp only [List.mem_cons, List.mem_append, List.not_mem_nil, or_false] at hp ⊢
        simp only [hp, true_or, or_true]
      case off =>
        refine off_more off (D := D) (fun a ha => ?_) fun p hp => ?_
        · simp only [headLed, List.cons_append, List.nil_append, List.map_cons, List.map_append, List.map_nil, List.mem_cons, List.mem_append, List.not_mem_nil, or_false] at ha ⊢
          rcases ha with h | h | h | h | h | h | h | h | h | h | h | h <;> first | (simp only [h, true_or, or_true]; done) | exact .inl h
        · rw [List.mem_singleton.mp hp]
          exact Nat.ne_of_lt hDI
      case f1 =>
        intro p hp a ha
        rcases List.mem_append.mp hp with hp | hp
        · exact hof p hp a ha
        · rw [List.mem_singleton.mp hp, List.mem_singleton.mp ha]
          exact Nat.ne_of_gt hD.1
      case f2 => dsimp only; rw [List.length_append, List.length_singleton]; omega
      case tr =>
        dsimp only
        rw [witTo, if_neg hne]
        exact (htr.mono fun p hp => List.mem_append_left _ hp).snoc (List.mem_append_right _ (.head _))
      case le => dsimp only; rw [List.length_append, List.length_singleton]; omega
    · (rename Fr _ _ _ _ => F5); (rename News _ _ _ _ => N5)
      have he : indentF (xs, b, n, nt) (1 + (i : Int)) = indentF (xs', b', n', nt') (1 + (i : Int)) := by first | assumption | exact Classical.not_not.mp (by assumption)
      refine for_end (us, cap, ex) F5 N5 ?hn ?ho off ⟨hof, hlen⟩ (by kst_all) (by kst_same) ⟨?tr, ?le⟩
      case hn =>
        intro p hp
        simp only [headLed, List.cons_append, List.nil_append, List.mem_cons, List.mem_append, List.not_mem_nil, or_false] at hp ⊢
        rcases hp with h | h | h | h | h | h | h | h | h | h | h <;> first | (simp only [h, true_or, or_true]; done) | exact .inl h
      case ho =>
        intro p hp
        simp only [List.mem_cons, List.mem_append, List.not_mem_nil, or_false] at hp ⊢
        simp only [hp, true_or, or_true]
      case tr =>
        dsimp only
        rw [witTo, if_pos he]
        exact htr
      case le => dsimp only; omega
  case done =>
    clear F1 N1
    refine prod3 fun us cap ex => ?_
    rintro  u h tk ⟨hof, hlen⟩ hP F4 N4
    dsimp only [kstB] at F4
    dsimp only at *
    (try k_fold)
    have htr : Trips ex us (witTo (xs, b, n, nt) (xs', b', n', nt') (witMax (xs, b, n, nt) (xs', b', n', nt') + 1).toNat) := by
      rcases hP with h | ⟨_, _, h⟩
      · exact h.1
      · exact h.elim
    clear hP
    dsimp only [headLed, List.cons_append, List.nil_append] at N4
    repeat' ((fail_if_success (with_reducible show KswEnd _ _ _ _ _ _ _ _ _ _ _ _)); (fail_if_success (with_reducible show wpAny _ _ (exec (Stmt.While _ _ _ _) _) _ _ _)); (fail_if_success (with_reducible show wpAny _ _ (pyIter _) _ _ _)); (first | (k_unfold; (try dsimp only)) | walk1 | (dsimp only; walk1) | (leave1; try dsimp only)))
    (rename Fr _ _ _ _ => F5); (rename News _ _ _ _ => N5)
    refine hret la us cap ex _ _ F5 (fun p hp => N5 p ?_) htr
    simp only [List.mem_cons, List.mem_append] at hp ⊢
    rcases hp with h | h | h | h | h | h | h | h | h | h | h <;> first | (simp only [h, true_or, or_true]; done) | exact .inl h
end Mine
end

section
open PySem PySem.W PyProof.Rows
namespace Mine


noncomputable def shStep (place : Int) (st : List Int × Int) (size : Int) : List Int × Int :=
  (if st.2 < place then (if place < st.2 + size then st.1 ++ [place - st.2 + 1, st.2 + size - place] else if place = st.2 + size then st.1 ++ [size + 1] else st.1 ++ [size]) else if place = st.2 + size then st.1 ++ [size + 1] else st.1 ++ [size], st.2 + size)
theorem sh_next {gs : List Int} {place : Int} {st0 : List Int × Int} {xs : List Int} {start size : Int} {i : Nat} (hs : gs[i]? = some size) (h : (xs, start) = (gs.take i).foldl (shStep place) st0) : (gs.take (i + 1)).foldl (shStep place) st0 = shStep place (xs, start) size := by
  rw [List.take_add_one, hs, List.foldl_append, ← h]
  rfl
noncomputable abbrev RetP (news : Led) (xs : List Int) : Heap → Addr → (Str → Option Value) → Shared → (Value → Shared → Prop) → Prop := fun h₀ L m s Q =>
  ∀ (D D1 D2 : Addr) (va vb : List Value) (na : List Int) (c : Nat) (h' : Heap) (tk' : Nat), Fr h₀ L h' m →
    News h₀ L h' ((D, tupOf [.ref D2, .ref D1]) :: (D1, listOf vb.toArray 0) :: (D2, listOf va.toArray c) :: news) →
    IntsAre va na → na.Perm (xs.take (xs.length - 1)) → na.Pairwise (· ≤ ·) → IntsAre vb (xs.drop (xs.length - 1)) → (∀ p ∈ news, p.1 < D ∧ p.1 < D1 ∧ p.1 < D2) →
    Q (.ref D) { s with heap := h', toks := tk' }
noncomputable def shapeF (gs : List Int) (place : Int) : List Int := (gs.foldl (shStep place) (if 0 < place then [] else [1], 0)).1
set_option maxRecDepth 100000 in
set_option maxHeartbeats 8000000 in
theorem shape_spec (w : World) (s₀ : Shared) (mg mb : Str → Option Value) (news : Led) (lg : Addr) (gv : List Value) (gc : Nat) (gs : List Int) (place : Int) (tp : Tok) :
   Cl w s₀ mg mb 2 160 [.ref lg, .int place tp] ((lg, listOf gv.toArray gc) :: news) (IntsAre gv gs ∧ gs.length ≤ 10 ∧ (∀ y ∈ gs, 0 ≤ y ∧ y ≤ 10) ∧ 0 ≤ place ∧ place ≤ 10) (RetP ((lg, listOf gv.toArray gc) :: news) (shapeF gs place)) := by
  dsimp only [Cl, RetP]
  k_fill
  w_top off
  intros
  rename_i hpre _ _ hret
  obtain ⟨hi, hl, hx, hp0, hp1⟩ := hpre
  refine wpAny_call ?_
  k_dflt cell_enter
  k_with_none
  k_with "ForPost" => (dsimp only [ForPost])
  k_with "pyIter ref" => fail
  rcases Int.lt_or_le 0 place with hpl | hpl
  · repeat' ((fail_if_success (with_reducible show KswEnd _ _ _ _ _ _ _ _ _ _ _ _)); (fail_if_success (with_reducible show wpAny _ _ (exec (Stmt.While _ _ _ _) _) _ _ _)); (fail_if_success (with_reducible show wpAny _ _ (pyIter _) _ _ _)); (first | (k_unfold; (try dsimp only)) | walk1 | (dsimp only; walk1) | (leave1; try dsimp only)))
    rename_i la _ hl _ _ F1 N1
    with_unfolding_all
      refine' my_for_list (σ := Addr × List Value × List Int × Nat × Int × Tok)
        (fun c => (c.1, listOf c.2.1.toArray c.2.2.2.1) :: (lg, listOf gv.toArray gc) :: news)
        (fun c => [(Str.ofString "longer", .ref c.1), (Str.ofString "start", .int c.2.2.2.2.1 c.2.2.2.2.2)])
        (fun c => IntsAre c.2.1 c.2.2.1) [] (fun i c => (c.2.2.1, c.2.2.2.2.1) = (gs.take i).foldl (shStep place) ([], 0) ∧ c.2.2.1.length ≤ 2 * i + 1) (fun _ _ => False) (la, [], [], 0, 0, _) rfl (fun _ => .tail _ (.head _)) F1 ?kn ?kf ?kk ?kp ?turn ?done
    case kn => with_unfolding_all exact N1
    case kf => exact IntsAre.nil
    case kk => kst_all
    case kp => exact ⟨rfl, by simp⟩
    case turn =>
      clear F1 N1
      refine fun i v => prod6 fun lb us xs cap start tt => ?_
      rintro  u h tk I o hv off hfa ⟨hst, hlen⟩ F4 N4
      dsimp only [kstB] at F4
      dsimp only at *
      (try k_fold)
      simp only [List.cons_append, List.nil_append] at N4
      have mk := kstMark
      obtain ⟨size, hsz⟩ : ∃ size, gs[i]? = some size := by
        have : i < gs.length := by rw [← hi.length]; exact (List.getElem?_eq_some_iff.mp hv).1
        exact ⟨_, List.getElem?_eq_getElem this⟩
      obtain ⟨ts, hts⟩ := hi.get i size hsz
      have hve : v = .int size ts := by rw [hts] at hv; exact (Option.some.inj hv).symm
      subst hve
      have hlt : i < gs.length := (List.getElem?_eq_some_iff.mp hsz).1
      have hso := hx size (List.mem_of_getElem? hsz)
      have hne := sh_next (place := place) (st0 := ([], 0)) hsz hst
      have off' : OwnOff [(I, o)] (lg :: news.map (·.1)) := fun p hp b hb => off p hp b (.tail _ hb)
      repeat' ((fail_if_success (with_reducible show KswEnd _ _ _ _ _ _ _ _ _ _ _ _)); (fail_if_success (with_reducible show wpAny _ _ (exec (Stmt.While _ _ _ _) _) _ _ _)); (fail_if_success (with_reducible show wpAny _ _ (pyIter _) _ _ _)); (first | (k_unfold; (try dsimp only)) | walk1 | (dsimp only; walk1) | (leave1; try dsimp only)))
      all_goals ((rename Fr _ _ _ _ => F5); (rename News _ _ _ _ => N5))
      all_goals
        rename_i D zs _ _ _ hI hl1 _ _
        refine for_end (D, zs, _, 0, start + size, _) F5 N5 ?hn ?ho ?off hI (by kst_all) (by kst_same) ⟨?pp, ?ll⟩
        case hn =>
          intro p hp
          simp only [List.mem_cons, List.mem_append, List.not_mem_nil, or_false] at hp ⊢
          rcases hp with h | h | h <;> first | (simp only [h, true_or, or_true]; done) | exact .inl h
        case ho =>
          intro p hp
          simp only [List.mem_cons, List.mem_append, List.not_mem_nil, or_false] at hp ⊢
          simp only [hp, true_or, or_true]
        case off =>
          have hDI := allLt_mem (allLt_app hl1.2.2.2).2 (I, o) (.head _)
          exact off_cons (fun p hp => by rw [List.mem_singleton.mp hp]; exact Nat.ne_of_lt hDI) off'
        case pp =>
          dsimp only
          rw [hne]
          simp only [shStep]
          repeat' split
          all_goals first | rfl | (exfalso; omega)
        case ll =>
          dsimp only
          simp only [List.length_append, List.length_cons, List.length_nil]
          omega
    case done =>
      clear F1 N1
      refine prod6 fun lb us xs cap start tt => ?_
      rintro  u h tk hfa hP F4 N4
      dsimp only [kstB] at F4
      dsimp only at *
      (try k_fold)
      have mk := kstMark
      have hst : (xs, start) = (gs.take gv.length).foldl (shStep place) ([], 0) ∧ xs.length ≤ 2 * gv.length + 1 := by
        rcases hP with h | ⟨_, _, h⟩
        · exact h
        · exact h.elim
      clear hP
      have hgl := hi.length
      repeat' ((fail_if_success (with_reducible show KswEnd _ _ _ _ _ _ _ _ _ _ _ _)); (fail_if_success (with_reducible show wpAny _ _ (exec (Stmt.While _ _ _ _) _) _ _ _)); (fail_if_success (with_reducible show wpAny _ _ (pyIter _) _ _ _)); (first | (k_unfold; (try dsimp only)) | walk1 | (dsimp only; walk1) | (leave1; try dsimp only)))
      (rename Fr _ _ _ _ => F5); (rename News _ _ _ _ => N5)
      rename_i D2 va na c1 _ hA _ hP hO _ _ _ D1 vb _ hB _ _ _ D _ _ _ _ _ _
      have hxe : xs = shapeF gs place := by
        rw [hgl, List.take_length] at hst
        simp only [shapeF, if_pos hpl]
        exact congrArg Prod.fst hst.1
      subst hxe
      refine hret D D1 D2 va vb na c1 _ _ F5 (fun p hp => N5 p ?_) hA hP hO hB (fun p hp => ⟨(show ∀ p ∈ (lg, listOf gv.toArray gc) :: news, p.1 < _ from by (intro p hp; first | exact allLt_mem (l := (lg, listOf gv.toArray gc) :: news) (by assumption : lg < _ ∧ AllLt _ news) p hp | exact allLt_mem (l := (lg, listOf gv.toArray gc) :: news) (by assumption : _ ∧ lg < _ ∧ AllLt _ news).2 p hp | exact allLt_mem (l := (lg, listOf gv.toArray gc) :: news) (by assumption : _ ∧ _ ∧ lg < _ ∧ AllLt _ news).2.2 p hp | exact allLt_mem (l := (lg, listOf gv.toArray gc) :: news) (by assumption : _ ∧ _ ∧ _ ∧ lg < _ ∧ AllLt _ news).2.2.2 p hp | exact allLt_mem (l := (lg, listOf gv.toArray gc) :: news) (by assumption : _ ∧ _ ∧ _ ∧ _ ∧ lg < _ ∧ AllLt _ news).2.2.2.2 p hp | exact allLt_mem (l := (lg, listOf gv.toArray gc) :: news) (by assumption : _ ∧ _ ∧ _ ∧ _ ∧ _ ∧ lg < _ ∧ AllLt _ news).2.2.2.2.2 p hp | exact allLt_mem (l := (lg, listOf gv.toArray gc) :: news) (by assumption : _ ∧ _ ∧ _ ∧ _ ∧ _ ∧ _ ∧ lg < _ ∧ AllLt _ news).2.2.2.2.2.2 p hp | exact allLt_mem (l := (lg, listOf gv.toArray gc) :: news) (by assumption : _ ∧ _ ∧ _ ∧ _ ∧ _ ∧ _ ∧ _ ∧ lg < _ ∧ AllLt _ news).2.2.2.2.2.2.2 p hp)) p hp, (show ∀ p ∈ (lg, listOf gv.toArray gc) :: news, p.1 < _ from by (intro p hp; first | exact allLt_mem (l := (lg, listOf gv.toArray gc) :: news) (by assumption : lg < _ ∧ AllLt _ news) p hp | exact allLt_mem (l := (lg, listOf gv.toArray gc) :: news) (by assumption : _ ∧ lg < _ ∧ AllLt _ news).2 p hp | exact allLt_mem (l := (lg, listOf gv.toArray gc) :: news) (by assumption : _ ∧ _ ∧ lg < _ ∧ AllLt _ news).2.2 p hp | exact allLt_mem (l := (lg, listOf gv.toArray gc) :: news) (by assumption : _ ∧ _ ∧ _ ∧ lg < _ ∧ AllLt _ news).2.2.2 p hp | exact allLt_mem (l := (lg, listOf gv.toArray gc) :: news) (by assumption : _ ∧ _ ∧ _ ∧ _ ∧ lg < _ ∧ AllLt _ news).2.2.2.2 p hp | exact allLt_mem (l := (lg, listOf gv.toArray gc) :: news) (by assumption : _ ∧ _ ∧ _ ∧ _ ∧ _ ∧ lg < _ ∧ AllLt _ news).2.2.2.2.2 p hp | exact allLt_mem (l := (lg, listOf gv.toArray gc) :: news) (by assumption : _ ∧ _ ∧ _ ∧ _ ∧ _ ∧ _ ∧ lg < _ ∧ AllLt _ news).2.2.2.2.2.2 p hp | exact allLt_mem (l := (lg, listOf gv.toArray gc) :: news) (by assumption : _ ∧ _ ∧ _ ∧ _ ∧ _ ∧ _ ∧ _ ∧ lg < _ ∧ AllLt _ news).2.2.2.2.2.2.2 p hp)) p hp, (show ∀ p ∈ (lg, listOf gv.toArray gc) :: news, p.1 < _ from by (intro p hp; first | exact allLt_mem (l := (lg, listOf gv.toArray gc) :: news) (by assumption : lg < _ ∧ AllLt _ news) p hp | exact allLt_mem (l := (lg, listOf gv.toArray gc) :: news) (by assumption : _ ∧ lg < _ ∧ AllLt _ news).2 p hp | exact allLt_mem (l := (lg, listOf gv.toArray gc) :: news) (by assumption : _ ∧ _ ∧ lg < _ ∧ AllLt _ news).2.2 p hp | exact allLt_mem (l := (lg, listOf gv.toArray gc) :: news) (by assumption : _ ∧ _ ∧ _ ∧ lg < _ ∧ AllLt _ news).2.2.2 p hp | exact allLt_mem (l := (lg, listOf gv.toArray gc) :: news) (by assumption : _ ∧ _ ∧ _ ∧ _ ∧ lg < _ ∧ AllLt _ news).2.2.2.2 p hp | exact allLt_mem (l := (lg, listOf gv.toArray gc) :: news) (by assumption : _ ∧ _ ∧ _ ∧ _ ∧ _ ∧ lg < _ ∧ AllLt _ news).2.2.2.2.2 p hp | exact allLt_mem (l := (lg, listOf gv.toArray gc) :: news) (by assumption : _ ∧ _ ∧ _ ∧ _ ∧ _ ∧ _ ∧ lg < _ ∧ AllLt _ news).2.2.2.2.2.2 p hp | exact allLt_mem (l := (lg, listOf gv.toArray gc) :: news) (by assumption : _ ∧ _ ∧ _ ∧ _ ∧ _ ∧ _ ∧ _ ∧ lg < _ ∧ AllLt _ news).2.2.2.2.2.2.2 p hp)) p hp⟩)
      simp only [List.mem_cons] at hp ⊢
      rcases hp with h | h | h | h | h <;> first | (simp only [h, true_or, or_true]; done) | exact .inl h
  · repeat' ((fail_if_success (with_reducible show KswEnd _ _ _ _ _ _ _ _ _ _ _ _)); (fail_if_success (with_reducible show wpAny _ _ (exec (Stmt.While _ _ _ _) _) _ _ _)); (fail_if_success (with_reducible show wpAny _ _ (pyIter _) _ _ _)); (first | (k_unfold; (try dsimp only)) | walk1 | (dsimp only; walk1) | (leave1; try dsimp only)))
    rename_i la _ hl _ _ F1 N1
    with_unfolding_all
      refine' my_for_list (σ := Addr × List Value × List Int × Nat × Int × Tok)
        (fun c => (c.1, listOf c.2.1.toArray c.2.2.2.1) :: (lg, listOf gv.toArray gc) :: news)
        (fun c => [(Str.ofString "longer", .ref c.1), (Str.ofString "start", .int c.2.2.2.2.1 c.2.2.2.2.2)])
        (fun c => IntsAre c.2.1 c.2.2.1) [] (fun i c => (c.2.2.1, c.2.2.2.2.1) = (gs.take i).foldl (shStep place) ([1], 0) ∧ c.2.2.1.length ≤ 2 * i + 1) (fun _ _ => False) (la, [.int 1 _], [1], 0, 0, _) rfl (fun _ => .tail _ (.head _)) F1 ?kn ?kf ?kk ?kp ?turn ?done
    case kn => with_unfolding_all exact N1
    case kf => exact IntsAre.cons _ _ IntsAre.nil
    case kk => kst_all
    case kp => exact ⟨rfl, by simp⟩
    case turn =>
      clear F1 N1
      refine fun i v => prod6 fun lb us xs cap start tt => ?_
      rintro  u h tk I o hv off hfa ⟨hst, hlen⟩ F4 N4
      dsimp only [kstB] at F4
      dsimp only at *
      (try k_fold)
      simp only [List.cons_append, List.nil_append] at N4
      have mk := kstMark
      obtain ⟨size, hsz⟩ : ∃ size, gs[i]? = some size := by
        have : i < gs.length := by rw [← hi.length]; exact (List.getElem?_eq_some_iff.mp hv).1
        exact ⟨_, List.getElem?_eq_getElem this⟩
      obtain ⟨ts, hts⟩ := hi.get i size hsz
      have hve : v = .int size ts := by rw [hts] at hv; exact (Option.some.inj hv).symm
      subst hve
      have hlt : i < gs.length := (List.getElem?_eq_some_iff.mp hsz).1
      have hso := hx size (List.mem_of_getElem? hsz)
      have hne := sh_next (place := place) (st0 := ([1], 0)) hsz hst
      have off' : OwnOff [(I, o)] (lg :: news.map (·.1)) := fun p hp b hb => off p hp b (.tail _ hb)
      repeat' ((fail_if_success (with_reducible show KswEnd _ _ _ _ _ _ _ _ _ _ _ _)); (fail_if_success (with_reducible show wpAny _ _ (exec (Stmt.While _ _ _ _) _) _ _ _)); (fail_if_success (with_reducible show wpAny _ _ (pyIter _) _ _ _)); (first | (k_unfold; (try dsimp only)) | walk1 | (dsimp only; walk1) | (leave1; try dsimp only)))
      all_goals ((rename Fr _ _ _ _ => F5); (rename News _ _ _ _ => N5))
      all_goals
        rename_i D zs _ _ _ hI hl1 _ _
        refine for_end (D, zs, _, 0, start + size, _) F5 N5 ?hn ?ho ?off hI (by kst_all) (by kst_same) ⟨?pp, ?ll⟩
        case hn =>
          intro p hp
          simp only [List.mem_cons, List.mem_append, List.not_mem_nil, or_false] at hp ⊢
          rcases hp with h | h | h <;> first | (simp only [h, true_or, or_true]; done) | exact .inl h
        case ho =>
          intro p hp
          simp only [List.mem_cons, List.mem_append, List.not_mem_nil, or_false] at hp ⊢
          simp only [hp, true_or, or_true]
        case off =>
          have hDI := allLt_mem (allLt_app hl1.2.2.2).2 (I, o) (.head _)
          exact off_cons (fun p hp => by rw [List.mem_singleton.mp hp]; exact Nat.ne_of_lt hDI) off'
        case pp =>
          dsimp only
          rw [hne]
          simp only [shStep]
          repeat' split
          all_goals first | rfl | (exfalso; omega)
        case ll =>
          dsimp only
          simp only [List.length_append, List.length_cons, List.length_nil]
          omega
    case done =>
      clear F1 N1
      refine prod6 fun lb us xs cap start tt => ?_
      rintro  u h tk hfa hP F4 N4
      dsimp only [kstB] at F4
      dsimp only at *
      (try k_fold)
      have mk := kstMark
      have hst : (xs, start) = (gs.take gv.length).foldl (shStep place) ([1], 0) ∧ xs.length ≤ 2 * gv.length + 1 := by
        rcases hP with h | ⟨_, _, h⟩
        · exact h
        · exact h.elim
      clear hP
      have hgl := hi.length
      repeat' ((fail_if_success (with_reducible show KswEnd _ _ _ _ _ _ _ _ _ _ _ _)); (fail_if_success (with_reducible show wpAny _ _ (exec (Stmt.While _ _ _ _) _) _ _ _)); (fail_if_success (with_reducible show wpAny _ _ (pyIter _) _ _ _)); (first | (k_unfold; (try dsimp only)) | walk1 | (dsimp only; walk1) | (leave1; try dsimp only)))
      (rename Fr _ _ _ _ => F5); (rename News _ _ _ _ => N5)
      rename_i D2 va na c1 _ hA _ hP hO _ _ _ D1 vb _ hB _ _ _ D _ _ _ _ _ _
      have hxe : xs = shapeF gs place := by
        rw [hgl, List.take_length] at hst
        simp only [shapeF, if_neg (Int.not_lt.mpr hpl)]
        exact congrArg Prod.fst hst.1
      subst hxe
      refine hret D D1 D2 va vb na c1 _ _ F5 (fun p hp => N5 p ?_) hA hP hO hB (fun p hp => ⟨(show ∀ p ∈ (lg, listOf gv.toArray gc) :: news, p.1 < _ from by (intro p hp; first | exact allLt_mem (l := (lg, listOf gv.toArray gc) :: news) (by assumption : lg < _ ∧ AllLt _ news) p hp | exact allLt_mem (l := (lg, listOf gv.toArray gc) :: news) (by assumption : _ ∧ lg < _ ∧ AllLt _ news).2 p hp | exact allLt_mem (l := (lg, listOf gv.toArray gc) :: news) (by assumption : _ ∧ _ ∧ lg < _ ∧ AllLt _ news).2.2 p hp | exact allLt_mem (l := (lg, listOf gv.toArray gc) :: news) (by assumption : _ ∧ _ ∧ _ ∧ lg < _ ∧ AllLt _ news).2.2.2 p hp | exact allLt_mem (l := (lg, listOf gv.toArray gc) :: news) (by assumption : _ ∧ _ ∧ _ ∧ _ ∧ lg < _ ∧ AllLt _ news).2.2.2.2 p hp | exact allLt_mem (l := (lg, listOf gv.toArray gc) :: news) (by assumption : _ ∧ _ ∧ _ ∧ _ ∧ _ ∧ lg < _ ∧ AllLt _ news).2.2.2.2.2 p hp | exact allLt_mem (l := (lg, listOf gv.toArray gc) :: news) (by assumption : _ ∧ _ ∧ _ ∧ _ ∧ _ ∧ _ ∧ lg < _ ∧ AllLt _ news).2.2.2.2.2.2 p hp | exact allLt_mem (l := (lg, listOf gv.toArray gc) :: news) (by assumption : _ ∧ _ ∧ _ ∧ _ ∧ _ ∧ _ ∧ _ ∧ lg < _ ∧ AllLt _ news).2.2.2.2.2.2.2 p hp)) p hp, (show ∀ p ∈ (lg, listOf gv.toArray gc) :: news, p.1 < _ from by (intro p hp; first | exact allLt_mem (l := (lg, listOf gv.toArray gc) :: news) (by assumption : lg < _ ∧ AllLt _ news) p hp | exact allLt_mem (l := (lg, listOf gv.toArray gc) :: news) (by assumption : _ ∧ lg < _ ∧ AllLt _ news).2 p hp | exact allLt_mem (l := (lg, listOf gv.toArray gc) :: news) (by assumption : _ ∧ _ ∧ lg < _ ∧ AllLt _ news).2.2 p hp | exact allLt_mem (l := (lg, listOf gv.toArray gc) :: news) (by assumption : _ ∧ _ ∧ _ ∧ lg < _ ∧ AllLt _ news).2.2.2 p hp | exact allLt_mem (l := (lg, listOf gv.toArray gc) :: news) (by assumption : _ ∧ _ ∧ _ ∧ _ ∧ lg < _ ∧ AllLt _ news).2.2.2.2 p hp | exact allLt_mem (l := (lg, listOf gv.toArray gc) :: news) (by assumption : _ ∧ _ ∧ _ ∧ _ ∧ _ ∧ lg < _ ∧ AllLt _ news).2.2.2.2.2 p hp | exact allLt_mem (l := (lg, listOf gv.toArray gc) :: news) (by assumption : _ ∧ _ ∧ _ ∧ _ ∧ _ ∧ _ ∧ lg < _ ∧ AllLt _ news).2.2.2.2.2.2 p hp | exact allLt_mem (l := (lg, listOf gv.toArray gc) :: news) (by assumption : _ ∧ _ ∧ _ ∧ _ ∧ _ ∧ _ ∧ _ ∧ lg < _ ∧ AllLt _ news).2.2.2.2.2.2.2 p hp)) p hp, (show ∀ p ∈ (lg, listOf gv.toArray gc) :: news, p.1 < _ from by (intro p hp; first | exact allLt_mem (l := (lg, listOf gv.toArray gc) :: news) (by assumption : lg < _ ∧ AllLt _ news) p hp | exact allLt_mem (l := (lg, listOf gv.toArray gc) :: news) (by assumption : _ ∧ lg < _ ∧ AllLt _ news).2 p hp | exact allLt_mem (l := (lg, listOf gv.toArray gc) :: news) (by assumption : _ ∧ _ ∧ lg < _ ∧ AllLt _ news).2.2 p hp | exact allLt_mem (l := (lg, listOf gv.toArray gc) :: news) (by assumption : _ ∧ _ ∧ _ ∧ lg < _ ∧ AllLt _ news).2.2.2 p hp | exact allLt_mem (l := (lg, listOf gv.toArray gc) :: news) (by assumption : _ ∧ _ ∧ _ ∧ _ ∧ lg < _ ∧ AllLt _ news).2.2.2.2 p hp | exact allLt_mem (l := (lg, listOf gv.toArray gc) :: news) (by assumption : _ ∧ _ ∧ _ ∧ _ ∧ _ ∧ lg < _ ∧ AllLt _ news).2.2.2.2.2 p hp | exact allLt_mem (l := (lg, listOf gv.toArray gc) :: news) (by assumption : _ ∧ _ ∧ _ ∧ _ ∧ _ ∧ _ ∧ lg < _ ∧ AllLt _ news).2.2.2.2.2.2 p hp | exact allLt_mem (l := (lg, listOf gv.toArray gc) :: news) (by assumption : _ ∧ _ ∧ _ ∧ _ ∧ _ ∧ _ ∧ _ ∧ lg < _ ∧ AllLt _ news).2.2.2.2.2.2.2 p hp)) p hp⟩)
      simp only [List.mem_cons] at hp ⊢
      rcases hp with h | h | h | h | h <;> first | (simp only [h, true_or, or_true]; done) | exact .inl h
end Mine
end

section
open PySem PySem.W PyProof.Rows
namespace Mine
section
variable {prog : Program} {w : World} {A : Around} {s : Shared} {h₀ : Heap} {L : Addr} {m : Str → Option Value} {env : Env} {elt : Expr} {x : Str} {scope : Scope} {cl : List (Str × Addr)} {S : List (Addr × Obj) → Prop} {P : Nat → Value → Prop} {Fin : List Value → List (Addr × Obj) → Prop}
theorem my_comp (n : Nat) (J : Nat → List Value → Led → Prop)
    (turn : ∀ i v ys news I oI C oC D m₂ h tk (E' : Value → Shared → Prop), i < n → P i v → J i ys news → LCg.NsObj oC m₂ → m₂ x = some v → Fr h₀ L h m → News h₀ L h ((I, oI) :: (C, oC) :: (D, LCg.lst ys) :: news) → LCg.Off3 I C D news → ((@Ne Nat I C) ∧ (@Ne Nat I D) ∧ (@Ne Nat C D)) →
      wpAny (model prog w) A (eval elt (compEnvC scope cl C env)) (LCg.CompEnd h₀ L m { s with heap := h, toks := tk } I oI C oC D (LCg.lst ys) S (fun y news' => J (i + 1) (ys ++ [y]) news')) E' { s with heap := h, toks := tk })
    (fin : ∀ ys news, J n ys news → Fin ys news) : ∀ k i ys news, k + i = n → J i ys news → LCg.CompRest prog w A h₀ L m env elt x scope cl s S P Fin k i ys news := by
  intro k
  induction k with
  | zero =>
    intro i ys news e hJ
    have e' : i = n := by omega
    subst e'
    exact LCg.CompRest.zero (fin _ _ hJ)
  | succ k ih =>
    intro i ys news e hJ
    refine LCg.CompRest.succ ?_
    intro v I oI C oC D m₂ h tk E' hP hC hx F N off ne
    refine wpAny_mono (turn i v ys news I oI C oC D m₂ h tk E' (by omega) hP hJ hC hx F N off ne) (fun y s' hend => ?_) fun _ _ e => e
    obtain ⟨h', tk', news', rfl, F', N', off', hS', r⟩ := hend
    exact ⟨h', tk', news', rfl, F', N', off', hS', ih _ _ _ (by omega) r⟩
theorem my_comp0 (n : Nat) (J : Nat → List Value → Led → Prop) {news : Led} (h0 : J 0 [] news)
    (turn : ∀ i v ys news I oI C oC D m₂ h tk (E' : Value → Shared → Prop), i < n → P i v → J i ys news → LCg.NsObj oC m₂ → m₂ x = some v → Fr h₀ L h m → News h₀ L h ((I, oI) :: (C, oC) :: (D, LCg.lst ys) :: news) → LCg.Off3 I C D news → ((@Ne Nat I C) ∧ (@Ne Nat I D) ∧ (@Ne Nat C D)) →
      wpAny (model prog w) A (eval elt (compEnvC scope cl C env)) (LCg.CompEnd h₀ L m { s with heap := h, toks := tk } I oI C oC D (LCg.lst ys) S (fun y news' => J (i + 1) (ys ++ [y]) news')) E' { s with heap := h, toks := tk })
    (fin : ∀ ys news, J n ys news → Fin ys news) : LCg.CompRest prog w A h₀ L m env elt x scope cl s S P Fin n 0 [] news := my_comp n J turn fin n 0 [] news rfl h0
end
end Mine
end

section
open PySem PySem.W PyProof.Rows
namespace Mine

noncomputable def moreF (ahead behind : Int) (shut : Bool) (size : Int) : Int := if shut = true then (if Int.fmod ahead size + Int.fmod behind size < size - 1 then size else 0) else size - 1 - Int.fmod ahead size
noncomputable def lwTo (ahead behind : Int) (shut : Bool) (cs : List Int) : Nat → List (Int × Int × Int)
  | 0 => []
  | k + 1 => if 0 < moreF ahead behind shut (1 + (k : Int)) then lwTo ahead behind shut cs k ++ [(1 + (k : Int), colI (1 + (k : Int)) cs + moreF ahead behind shut (1 + (k : Int)), colI (1 + (k : Int)) cs)] else lwTo ahead behind shut cs k


set_option maxRecDepth 100000 in
set_option maxHeartbeats 8000000 in
theorem lwit_spec (w : World) (s₀ : Shared) (mg mb : Str → Option Value) (news : Led) (one other : Str) (ahead behind : Int) (t1 t2 ta tb : Tok) (shut : Bool) (qs : List Str) (mx : Int) :
   Cl w s₀ mg mb 2 172 [.str one t1, .str other t2, .int ahead ta, .int behind tb, .bool shut] news (one.length ≤ 30 ∧ other.length ≤ 30 ∧ 0 ≤ ahead ∧ 0 ≤ behind ∧ ahead ≤ 20 ∧ behind ≤ 20 ∧ Txt.split (one ++ Str.ofString "\t" ++ other) (Str.ofString "\t") = qs ∧ 0 < qs.length ∧ qs.length ≤ 20 ∧ (∀ q ∈ qs, (q.length : Int) ≤ mx) ∧ (∃ q ∈ qs, (q.length : Int) = mx) ∧ mx ≤ 20) (RetT news (lwTo ahead behind shut (KStt.codes other) (mx + 1).toNat)) := by
  dsimp only [Cl, RetT]
  k_fill
  w_top off
  intros
  rename_i hpre _ _ hret
  obtain ⟨ho1, ho2, ha, hb, ha2, hb2, hqs, hq0, hq1, hq2, ⟨qm, hqm, hqe⟩, hmx⟩ := hpre
  refine wpAny_call ?_
  k_dflt cell_enter
  k_with_none
  k_with "ForPost" => (dsimp only [ForPost])
  k_with "call ref" => (k_here; (show wpAny _ _ (call (Value.ref 167) _) _ _ _); (k_dflt (refine' column_spec _ _ _ _ _ _ _ _ _ _ _ _ _ _ _ _ _ _ _ _ _ _ _ _ _ _ ?k1 ?k2 ?k3 ?k4 ?k5 ?kK ?kp ?kd ?ku ?_; (case k1 => k_asm); (case k2 => k_asm); (case k3 => k_asm); (case k4 => k_asm); (case k5 => k_asm); (case kK => first | exact rfl | assumption); (case kp => first | trivial | assumption | (k_extra "pre")); (case kd => ktr_room); (case ku => ktr_units))); intro _ _ _ _ _; (try dsimp only); (try k_fold))
  k_with "pyIter ref" => fail
  k_with "CompSrc" => fail
  repeat' ((fail_if_success (with_reducible show KswEnd _ _ _ _ _ _ _ _ _ _ _ _)); (fail_if_success (with_reducible show wpAny _ _ (exec (Stmt.While _ _ _ _) _) _ _ _)); (fail_if_success (with_reducible show wpAny _ _ (pyIter _) _ _ _)); (fail_if_success (with_reducible show wpAny _ _ (eval (Expr.ListComp _ _ _ _) _) _ _ _)); (first | (k_unfold; (try dsimp only)) | walk1 | (dsimp only; walk1) | (leave1; try dsimp only)))
  refine LCg.ListComp_U (F₀ := by k_asm) (by with_unfolding_all rfl) (by decide) (by rfl) (by decide) (by rfl) ?_
  repeat' ((fail_if_success (with_reducible show KswEnd _ _ _ _ _ _ _ _ _ _ _ _)); (fail_if_success (with_reducible show wpAny _ _ (exec (Stmt.While _ _ _ _) _) _ _ _)); (fail_if_success (with_reducible show wpAny _ _ (pyIter _) _ _ _)); (fail_if_success (with_reducible show wpAny _ _ (eval (Expr.ListComp _ _ _ _) _) _ _ _)); (first | (k_unfold; (try dsimp only)) | walk1 | (dsimp only; walk1) | (leave1; try dsimp only)))
  rename_i l _ _ hm hI hB hL F1 N1
  rw [hm, hqs] at hI
  have hlen : (strValues l).length = qs.length := hI.len_eq
  refine LCg.CompSrc.ledger (by rfl) F1 N1 (.head _) (by rw [List.size_toArray, hlen, PySem.sizeLine_eq]; omega) ?_
  intro g
  refine my_comp0 _ (fun i ys nw => nw = _ ∧ IntsAre ys ((qs.take i).map fun q => (q.length : Int))) ⟨rfl, .nil⟩ ?turn ?fin
  case turn =>
    rintro i v ys _ I oI C oC D m₂ h tk E' hlt hP ⟨rfl, hJ⟩ hC hx F2 N2 off ne
    simp only [LCg.Off3, and_true] at off
    obtain ⟨q, tq, rfl, hq⟩ := StrsAre.item hI i v (by simpa using hP)
    have hql := hq2 q (List.mem_of_getElem? hq)
    have mk := kstMark
    repeat' ((fail_if_success (with_reducible show KswEnd _ _ _ _ _ _ _ _ _ _ _ _)); (fail_if_success (with_reducible show wpAny _ _ (exec (Stmt.While _ _ _ _) _) _ _ _)); (fail_if_success (with_reducible show wpAny _ _ (pyIter _) _ _ _)); (first | (k_unfold; (try dsimp only)) | walk1 | (dsimp only; walk1) | (leave1; try dsimp only)))
    refine LCg.CompEnd.intro (by assumption) (by assumption) _ (by kcf_all) (by first | assumption | (simp only [LCg.Off3, and_true]; done) | (simp only [LCg.Off3, and_true]; assumption)) (by first | lcg_src | assumption) ⟨rfl, ?_⟩
    rw [List.take_add_one, hq, List.map_append]
    exact IntsAre.append hJ (.cons _ _ .nil)
  case fin =>
    rintro ys _ ⟨rfl, hJ⟩
    rw [List.size_toArray, hlen, List.take_length] at hJ
    have hn0 : 0 < (qs.map fun q => (q.length : Int)).length := by rw [List.length_map]; exact hq0
    have hn1 : (qs.map fun q => (q.length : Int)).length ≤ 20 := by rw [List.length_map]; exact hq1
    have hn2 : ∀ z ∈ (qs.map fun q => (q.length : Int)), 0 ≤ z ∧ z ≤ mx := fun z hz => by
      obtain ⟨q, hq, rfl⟩ := List.mem_map.mp hz
      have := hq2 q hq
      omega
    have hn3 : mx ∈ (qs.map fun q => (q.length : Int)) := List.mem_map.mpr ⟨qm, hqm, hqe⟩
    generalize (qs.map fun q => (q.length : Int)) = ns at hJ hn0 hn1 hn2 hn3
    have mk := kstMark
    repeat' ((fail_if_success (with_reducible show KswEnd _ _ _ _ _ _ _ _ _ _ _ _)); (fail_if_success (with_reducible show wpAny _ _ (pyIter _) _ _ _)); (first | (k_unfold; (try dsimp only)) | walk1 | (dsimp only; walk1) | (leave1; try dsimp only)))
    rename_i M _ _ hMa hMb _ _ la _ hl _ F0 N0 _ _ _ _ _ R F1 N1 _
    clear F0 N0
    have hM : M = mx := by
      have h1 := hMb _ hn3
      have h2 := (hn2 _ hMa).2
      omega
    subst hM
    have hmx0 := (hn2 _ hMa).1
    clear hMa hMb hn2 hn3
    with_unfolding_all
      refine' my_for_range (σ := List Value × Nat × Led) (n := (M + 1).toNat)
        (fun c => (la, listOf c.1.toArray c.2.1) :: (c.2.2 ++ news))
        (fun _ => []) (fun c => OwnOff c.2.2 [la] ∧ c.1.length ≤ 30) [Str.ofString "more", Str.ofString "column"] (fun i c => Trips c.2.2 c.1 (lwTo ahead behind shut (KStt.codes other) i) ∧ c.1.length ≤ i) (fun _ _ => False) ([], 0, []) rfl R ?hs ?hn F1 ?kn ?kf ?kk ?kp ?turn ?done
    case hs => exact small_one (by omega) (by omega) (by omega) (by omega)
    case hn => rw [rangeSize_one]; omega
    case kn =>
      intro p hp
      refine N1 p ?_
      simp only [List.nil_append, List.mem_cons] at hp ⊢
      rcases hp with h | h <;> simp only [h, true_or, or_true]
    case kf => exact ⟨fun p hp => (nomatch hp), Nat.zero_le _⟩
    case kk => kst_all
    case kp => exact ⟨.nil, Nat.le_refl _⟩
    case turn =>
      clear F1 N1
      refine fun i t => prod3 fun us cap ex => ?_
      rintro  u h tk I o hin off ⟨hof, hlen⟩ ⟨htr, hle⟩ F4 N4
      dsimp only [kstB] at F4
      dsimp only at *
      (try k_fold)
      simp only [List.cons_append, List.nil_append, (List.append_assoc)] at N4
      have mk := kstMark
      have hfa := fmod_bnd ahead (1 + (i : Int)) (by omega)
      have hfb := fmod_bnd behind (1 + (i : Int)) (by omega)
      have hsz : (1 : Int) + i ≤ 21 := by omega
      have hcp : 0 < (1 : Int) + i ∧ (1 : Int) + i < 100 ∧ other.length < 100 := ⟨by omega, by omega, by omega⟩
      repeat' ((fail_if_success (with_reducible show KswEnd _ _ _ _ _ _ _ _ _ _ _ _)); (fail_if_success (with_reducible show wpAny _ _ (exec (Stmt.While _ _ _ _) _) _ _ _)); (fail_if_success (with_reducible show wpAny _ _ (pyIter _) _ _ _)); (first | (k_unfold; (try dsimp only)) | walk1 | (dsimp only; walk1) | (leave1; try dsimp only)))
      · have hmo : moreF ahead behind shut (1 + (i : Int)) = 1 + (i : Int) := by
          unfold moreF
          rw [if_pos (by assumption), if_pos (by assumption)]
        rename_i D _ hD _ F5 N5
        simp only [List.push_toArray] at N5
        have N6 : ∃ (tc td : Tok), News _ _ _ ((D, tupOf [.int (1 + (i : Int)) t, .int (colI (1 + (i : Int)) (KStt.codes other) + (1 + (i : Int))) tc, .int (colI (1 + (i : Int)) (KStt.codes other)) td]) :: _) := ⟨_, _, N5⟩
        obtain ⟨tc, td, N6⟩ := N6
        have hDI := (allLt_mem (allLt_app (allLt_app hD.2).2).2) (I, o) (.head _)
        refine for_end (us ++ [.ref D], cap + 1, ex ++ [(D, tupOf [.int (1 + (i : Int)) t, .int (colI (1 + (i : Int)) (KStt.codes other) + (1 + (i : Int))) tc, .int (colI (1 + (i : Int)) (KStt.codes other)) td])]) F5 N6 ?hn ?ho ?off ⟨?f1, ?f2⟩ (by kst_all) (by kst_same) ⟨?tr, ?le⟩
        case hn =>
          intro p hp
          simp only [List.mem_cons, List.mem_append, List.not_mem_nil, or_false] at hp ⊢
          rcases hp with h | (h | h) | h <;> simp only [h, true_or, or_true]
        case ho =>
          intro p hp
          simp only [List.mem_cons, List.mem_append, List.not_mem_nil, or_false] at hp ⊢
          simp only [hp, true_or, or_true]
        case off =>
          refine off_more off (D := D) (fun a ha => ?_) fun p hp => ?_
          · simp only [List.map_cons, List.map_append, List.map_nil, List.mem_cons, List.mem_append, List.not_mem_nil, or_false] at ha ⊢
            rcases ha with h | (h | h) | h <;> simp only [h, true_or, or_true]
          · rw [List.mem_singleton.mp hp]
            exact Nat.ne_of_lt hDI
        case f1 =>
          intro p hp a ha
          rcases List.mem_append.mp hp with hp | hp
          · exact hof p hp a ha
          · rw [List.mem_singleton.mp hp, List.mem_singleton.mp ha]
            exact Nat.ne_of_gt hD.1
        case f2 => dsimp only; rw [List.length_append, List.length_singleton]; omega
        case tr =>
          dsimp only
          rw [lwTo, if_pos (by rw [hmo]; omega), hmo]
          exact (htr.mono fun p hp => List.mem_append_left _ hp).snoc (List.mem_append_right _ (.head _))
        case le => dsimp only; rw [List.length_append, List.length_singleton]; omega
      · have hmo : moreF ahead behind shut (1 + (i : Int)) = 0 := by
          unfold moreF
          rw [if_pos (by assumption), if_neg (by assumption)]
        (rename Fr _ _ _ _ => F5); (rename News _ _ _ _ => N5)
        refine for_end (us, cap, ex) F5 N5 ?hn ?ho off ⟨hof, hlen⟩ (by kst_all) (by kst_same) ⟨?tr, by dsimp only; omega⟩
        case hn =>
          intro p hp
          simp only [List.mem_cons, List.mem_append, List.not_mem_nil, or_false] at hp ⊢
          rcases hp with h | h | h <;> simp only [h, true_or, or_true]
        case ho =>
          intro p hp
          simp only [List.mem_cons, List.mem_append, List.not_mem_nil, or_false] at hp ⊢
          simp only [hp, true_or, or_true]
        case tr =>
          dsimp only
          rw [lwTo, if_neg (by rw [hmo]; omega)]
          exact htr
      · have hmo : moreF ahead behind shut (1 + (i : Int)) = 1 + (i : Int) - 1 - Int.fmod ahead (1 + (i : Int)) := by
          unfold moreF
          rw [if_neg (by first | assumption | simp_all)]
        rename_i D _ hD _ F5 N5
        simp only [List.push_toArray] at N5
        have N6 : ∃ (tc td : Tok), News _ _ _ ((D, tupOf [.int (1 + (i : Int)) t, .int (colI (1 + (i : Int)) (KStt.codes other) + (1 + (i : Int) - 1 - Int.fmod ahead (1 + (i : Int)))) tc, .int (colI (1 + (i : Int)) (KStt.codes other)) td]) :: _) := ⟨_, _, N5⟩
        obtain ⟨tc, td, N6⟩ := N6
        have hDI := (allLt_mem (allLt_app (allLt_app hD.2).2).2) (I, o) (.head _)
        refine for_end (us ++ [.ref D], cap + 1, ex ++ [(D, tupOf [.int (1 + (i : Int)) t, .int (colI (1 + (i : Int)) (KStt.codes other) + (1 + (i : Int) - 1 - Int.fmod ahead (1 + (i : Int)))) tc, .int (colI (1 + (i : Int)) (KStt.codes other)) td])]) F5 N6 ?hn ?ho ?off ⟨?f1, ?f2⟩ (by kst_all) (by kst_same) ⟨?tr, ?le⟩
        case hn =>
          intro p hp
          simp only [List.mem_cons, List.mem_append, List.not_mem_nil, or_false] at hp ⊢
          rcases hp with h | (h | h) | h <;> simp only [h, true_or, or_true]
        case ho =>
          intro p hp
          simp only [List.mem_cons, List.mem_append, List.not_mem_nil, or_false] at hp ⊢
          simp only [hp, true_or, or_true]
        case off =>
          refine off_more off (D := D) (fun a ha => ?_) fun p hp => ?_
          · simp only [List.map_cons, List.map_append, List.map_nil, List.mem_cons, List.mem_append, List.not_mem_nil, or_false] at ha ⊢
            rcases ha with h | (h | h) | h <;> simp only [h, true_or, or_true]
          · rw [List.mem_singleton.mp hp]
            exact Nat.ne_of_lt hDI
        case f1 =>
          intro p hp a ha
          rcases List.mem_append.mp hp with hp | hp
          · exact hof p hp a ha
          · rw [List.mem_singleton.mp hp, List.mem_singleton.mp ha]
            exact Nat.ne_of_gt hD.1
        case f2 => dsimp only; rw [List.length_append, List.length_singleton]; omega
        case tr =>
          dsimp only
          rw [lwTo, if_pos (by rw [hmo]; omega), hmo]
          exact (htr.mono fun p hp => List.mem_append_left _ hp).snoc (List.mem_append_right _ (.head _))
        case le => dsimp only; rw [List.length_append, List.length_singleton]; omega
      · have hmo : moreF ahead behind shut (1 + (i : Int)) = 1 + (i : Int) - 1 - Int.fmod ahead (1 + (i : Int)) := by
          unfold moreF
          rw [if_neg (by first | assumption | simp_all)]
        (rename Fr _ _ _ _ => F5); (rename News _ _ _ _ => N5)
        refine for_end (us, cap, ex) F5 N5 ?hn ?ho off ⟨hof, hlen⟩ (by kst_all) (by kst_same) ⟨?tr, by dsimp only; omega⟩
        case hn =>
          intro p hp
          simp only [List.mem_cons, List.mem_append, List.not_mem_nil, or_false] at hp ⊢
          rcases hp with h | h | h <;> simp only [h, true_or, or_true]
        case ho =>
          intro p hp
          simp only [List.mem_cons, List.mem_append, List.not_mem_nil, or_false] at hp ⊢
          simp only [hp, true_or, or_true]
        case tr =>
          dsimp only
          rw [lwTo, if_neg (by rw [hmo]; omega)]
          exact htr
    case done =>
      clear F1 N1
      refine prod3 fun us cap ex => ?_
      rintro  u h tk ⟨hof, hlen⟩ hP F4 N4
      dsimp only [kstB] at F4
      dsimp only at *
      (try k_fold)
      have mk := kstMark
      have htr : Trips ex us (lwTo ahead behind shut (KStt.codes other) (M + 1).toNat) := by
        rcases hP with h | ⟨_, _, h⟩
        · exact h.1
        · exact h.elim
      clear hP
      repeat' ((fail_if_success (with_reducible show KswEnd _ _ _ _ _ _ _ _ _ _ _ _)); (fail_if_success (with_reducible show wpAny _ _ (exec (Stmt.While _ _ _ _) _) _ _ _)); (fail_if_success (with_reducible show wpAny _ _ (pyIter _) _ _ _)); (first | (k_unfold; (try dsimp only)) | walk1 | (dsimp only; walk1) | (leave1; try dsimp only)))
      (rename Fr _ _ _ _ => F5); (rename News _ _ _ _ => N5)
      refine hret la us cap ex _ _ F5 (fun p hp => N5 p ?_) htr
      simp only [List.mem_cons, List.mem_append] at hp ⊢
      rcases hp with h | h | h <;> simp only [h, true_or, or_true]
end Mine
end

section
open PySem PySem.W PyProof.Rows
namespace Mine
section
variable {prog : Program} {w : World} {A : Around} {E : Value → Shared → Prop} {Q : Flow → Shared → Prop} {s : Shared} {env : Env} {h₀ : Heap} {target : Expr} {body : List Stmt}
theorem kst_all' {ps : List (Str × Value)} {stored : List Str} {m₀ m₁ : Str → Option Value} (h1 : ∀ p ∈ ps, m₁ p.1 = some p.2) (h2 : ∀ z, (∀ p ∈ ps, z ≠ p.1) → stored.contains z = false → m₁ z = m₀ z) :
    kstB (fun z => if stored.contains z then m₁ z else m₀ z) ps = m₁ := by
  funext z
  refine kstB_eq h1 fun hz => ?_
  cases e : stored.contains z
  · exact (h2 z hz e).symm
  · rfl
/-- a for of any target whose turn may make and keep objects -/
theorem my_turns {σ : Type} {x : Str} {I : Addr} {fp wr ow : List Addr} {n : Nat} {Pv Md : Nat → Value → Heap → Prop} {St : Nat → Heap → Prop} {m₀ : Str → Option Value} (Led : σ → List (Addr × Obj)) (ps : σ → List (Str × Value)) (Facts : σ → Prop) (stored : List Str) (P D : Nat → σ → Prop) (c₀ : σ)
    (W : KTurns prog w A target I fp wr n Pv Md St) (hlive : ∀ i h, St i h → ∀ b ∈ ow, ∃ o, h.get? b = some o) (hx : stored.contains x = true) (hLf : env.locals ∉ fp) (how : ∀ b ∈ ow, h₀.get? b = none) (hwo : ∀ b ∈ wr, b ∈ ow) (hof : ∀ b ∈ ow, b ∈ fp) (hsrc : ∀ b ∈ fp, b ∈ ow ∨ (∃ o, h₀.get? b = some o) ∨ ∃ o, ∀ c, (b, o) ∈ Led c)
    (hst : St 0 s.heap) (F : Fr h₀ env.locals s.heap m₀) (N : News h₀ env.locals s.heap (Led c₀)) (off : ∀ p ∈ Led c₀, p.1 ∉ ow) (hf : Facts c₀) (hk : ∀ p ∈ ps c₀, m₀ p.1 = some p.2) (hp : P 0 c₀)
    (turn : ∀ i v (c : σ) (u : Str → Option Value) h tk own, i < n → Pv i v h → OwnOff own ((Led c).map (·.1)) → Facts c → P i c →
      Fr h₀ env.locals h (kstB (fun z => if stored.contains z then u z else m₀ z) (ps c)) → News h₀ env.locals h (Led c ++ own) →
      wpAny (model prog w) A (assign target env v) (fun _ s₃ => wpAny (model prog w) A (execs body env) (ForPost h₀ env.locals Led ps Facts x stored m₀ (P (i + 1)) (D i) own { s with heap := h, toks := tk } Q) E s₃) E { s with heap := h, toks := tk })
    (done : ∀ (c : σ) (u : Str → Option Value) h tk, Facts c → (P n c ∨ ∃ i, i < n ∧ D i c) → Fr h₀ env.locals h (kstB (fun z => if stored.contains z then u z else m₀ z) (ps c)) → News h₀ env.locals h (Led c) → Q .next { s with heap := h, toks := tk }) :
    TurnsAt prog w A h₀ env target body Q E (.ref I) s := by
  refine ⟨I, fp, wr, n, Pv, Md, St, m₀, Led c₀, (fun i m nx => ∃ c : σ, nx = Led c ∧ (∀ p ∈ Led c, p.1 ∉ ow) ∧ Facts c ∧ (∀ p ∈ ps c, m p.1 = some p.2) ∧ (∀ z, (∀ p ∈ ps c, z ≠ p.1) → stored.contains z = false → m z = m₀ z) ∧ P i c), rfl, W, hLf,
    fun b hb => how b (hwo b hb), fun p hp hb => off p hp (hwo _ hb), hst, F, N, ⟨c₀, rfl, off, hf, hk, fun _ _ _ => rfl, hp⟩, ?_, ?_⟩
  · rintro i v m₁ nx hh' tk' own hin hP ⟨c, rfl, hoff, hf', h1, h2, hp'⟩ _ hsub hget hall st₁ F₁ N₁
    -- the objects that are the iterator's own
    generalize hO : own.filter (fun p => ow.contains p.1) = own'
    have hO1 : ∀ p ∈ own', p ∈ own ∧ p.1 ∈ ow := fun p hp => by
      rw [← hO, List.mem_filter] at hp
      exact ⟨hp.1, by simpa using hp.2⟩
    have hO2 : ∀ p ∈ own, p.1 ∈ ow → p ∈ own' := fun p hp hw => by
      rw [← hO, List.mem_filter]
      exact ⟨hp, by simpa using hw⟩
    have N₂ : News h₀ env.locals hh' (Led c ++ own') := fun p hp => N₁ p ((List.mem_append.mp hp).elim (fun h => List.mem_append_right _ h) fun h => List.mem_append_left _ (hO1 p h).1)
    have hsep : OwnOff own' ((Led c).map (·.1)) := by
      intro p hp b hb e
      obtain ⟨q, hq, rfl⟩ := List.mem_map.mp hb
      exact hoff q hq (e ▸ (hO1 p hp).2)
    have fin : ∀ {R : σ → Prop} {s₂ : Shared}, ForEnd h₀ env.locals Led ps Facts x stored m₀ R own' { s with heap := hh', toks := tk' } s₂ →
        ∃ c' h' tk m', s₂ = { s with heap := h', toks := tk } ∧ Fr h₀ env.locals h' m' ∧ News h₀ env.locals h' (own ++ Led c') ∧ (∀ p ∈ Led c', p.1 ∉ ow) ∧ Facts c' ∧ (∀ p ∈ ps c', m' p.1 = some p.2) ∧ (∀ z, (∀ p ∈ ps c', z ≠ p.1) → stored.contains z = false → m' z = m₀ z) ∧ R c' := by
      intro R s₂ hA
      refine ex4 hA fun c' h' tk m' hB => and6 hB fun hE F' N' off' st' hR => ?_
      clear hA hB
      subst hE
      refine exI4 c' h' tk m' ⟨rfl, F', ?_, ?_, st'.facts, st'.here, fun z hz hs => st'.rest z (fun e => by rw [e, hx] at hs; cases hs) hz hs, hR⟩
      · intro p hp
        rcases List.mem_append.mp hp with h | h
        · rcases hsrc p.1 (hsub p h) with q | ⟨o, q⟩ | ⟨o, q⟩
          · exact N' p (List.mem_append_right _ (hO2 p h q))
          · exact absurd (N₁ p (List.mem_append_left _ h)).2.2 (by rw [q]; exact fun e => nomatch e)
          · have h3 : p.2 = o := by
              have h4 := hget p h
              have h5 := (N₁ _ (List.mem_append_right _ (q c))).1
              dsimp only at h4 h5
              rw [h5] at h4
              exact (Option.some.inj h4).symm
            have : p = (p.1, o) := Prod.ext rfl h3
            rw [this]
            exact N' _ (List.mem_append_left _ (q c'))
        · exact N' p (List.mem_append_left _ h)
      · intro p hp hb
        obtain ⟨o, hg⟩ := hlive _ _ st₁ _ hb
        exact off' _ (hO2 _ (hall _ (hof _ hb) (how _ hb) o hg) hb) p.1 (List.mem_map.mpr ⟨p, hp, rfl⟩) rfl
    have F₂ : Fr h₀ env.locals hh' (kstB (fun z => if stored.contains z then m₁ z else m₀ z) (ps c)) := by rw [kst_all' h1 h2]; exact F₁
    refine wpAny_mono (turn i v c m₁ hh' tk' own' hin hP hsep hf' hp' F₂ N₂) (fun _ s₃ q => wpAny_mono q (fun f s₂ p => ?_) fun _ _ e => e) fun _ _ e => e
    cases f with
    | ret v => exact .ret p
    | brk =>
      refine ex4 (fin p) fun c' h' tk m' hB => and8 hB fun e F' N' _ hf9 h19 h29 hR => ?_
      refine .brk ?_
      show Q .next s₂
      rw [e]
      exact done c' m' h' tk hf9 (.inr ⟨i, hin, hR⟩) (by rw [kst_all' h19 h29]; exact F') fun q hq => N' q (List.mem_append_right _ hq)
    | next =>
      refine ex4 (fin p) fun c' h' tk m' hB => and8 hB fun e F' N' ho hf9 h19 h29 hR => ?_
      exact .next ⟨rfl, h', tk, m', Led c', e, F', N', fun p hp hw => ho p hp (hwo _ hw), c', rfl, ho, hf9, h19, h29, hR⟩
    | cont =>
      refine ex4 (fin p) fun c' h' tk m' hB => and8 hB fun e F' N' ho hf9 h19 h29 hR => ?_
      exact .cont ⟨rfl, h', tk, m', Led c', e, F', N', fun p hp hw => ho p hp (hwo _ hw), c', rfl, ho, hf9, h19, h29, hR⟩
  · rintro h' tk m' news' F' N' _ ⟨c, rfl, _, hf', h1, h2, hp'⟩
    exact done c m' h' tk hf' (.inl hp') (by rw [kst_all' h1 h2]; exact F') N'
end
end Mine
namespace Mine
section
variable {prog : Program} {w : World} {A : Around} {E : Value → Shared → Prop} {Q : Flow → Shared → Prop} {s : Shared} {env : Env} {h₀ : Heap} {body : List Stmt}
theorem my_for_zip {σ : Type} {x : Str} {elts : List Expr} {k : Nat} {pos : Pos} {l1 l2 : Addr} {xs ys : List Value} {n1 n2 : Nat} {m₀ : Str → Option Value} (Led : σ → List (Addr × Obj)) (ps : σ → List (Str × Value)) (Facts : σ → Prop) (stored : List Str) (P D : Nat → σ → Prop) (c₀ : σ)
    (hh : A.handled = none) (hx : stored.contains x = true) (F : Fr h₀ env.locals s.heap m₀) (N : News h₀ env.locals s.heap (Led c₀)) (hm1 : ∀ c, (l1, listOf xs.toArray n1) ∈ Led c) (hm2 : ∀ c, (l2, listOf ys.toArray n2) ∈ Led c) (hf : Facts c₀) (hk : ∀ p ∈ ps c₀, m₀ p.1 = some p.2) (hp : P 0 c₀)
    (turn : ∀ i v1 v2 T (c : σ) (u : Str → Option Value) h tk own, xs[i]? = some v1 → ys[i]? = some v2 → IsTup h T #[v1, v2] → OwnOff own ((Led c).map (·.1)) → Facts c → P i c →
      Fr h₀ env.locals h (kstB (fun z => if stored.contains z then u z else m₀ z) (ps c)) → News h₀ env.locals h (Led c ++ own) →
      wpAny (model prog w) A (assign (.Tuple elts k pos) env (.ref T)) (fun _ s₃ => wpAny (model prog w) A (execs body env) (ForPost h₀ env.locals Led ps Facts x stored m₀ (P (i + 1)) (D i) own { s with heap := h, toks := tk } Q) E s₃) E { s with heap := h, toks := tk })
    (done : ∀ (c : σ) (u : Str → Option Value) h tk, Facts c → (P (min xs.length ys.length) c ∨ ∃ i, i < min xs.length ys.length ∧ D i c) → Fr h₀ env.locals h (kstB (fun z => if stored.contains z then u z else m₀ z) (ps c)) → News h₀ env.locals h (Led c) → Q .next { s with heap := h, toks := tk }) :
    wpAny (model prog w) A (call (.type "zip") [.ref l1, .ref l2]) (fun xv s₁ => wpAny (model prog w) A (pyIter xv) (fun it s₂ => TurnsAt prog w A h₀ env (.Tuple elts k pos) body Q E it s₂) E s₁) E s := by
  have hax1 := N _ (hm1 c₀)
  have hax2 := N _ (hm2 c₀)
  have hl1 : s.heap.IsList l1 xs.toArray := ⟨_, hax1.1, rfl, n1, rfl⟩
  have hl2 : s.heap.IsList l2 ys.toArray := ⟨_, hax2.1, rfl, n2, rfl⟩
  have hlt1 : l1 < s.heap.objs.size := Heap.lt_size hax1.1
  have hlt2 : l2 < s.heap.objs.size := Heap.lt_size hax2.1
  have hLs : env.locals < s.heap.objs.size := F.ns.lt
  have AP : ZipApart (s.heap.objs.size + 4) (s.heap.objs.size + 2) (s.heap.objs.size + 3) s.heap.objs.size (s.heap.objs.size + 1) l1 l2 := ktu_apart _ _ _ hlt1 hlt2
  refine call_zip_2 hl1 hl2 fun h' hz hTI hTO hi1 hi2 hsz hkk => ?_
  refine wpAny_pyIter_zip hz ?_
  have hmin : min xs.toArray.size ys.toArray.size = min xs.length ys.length := by simp
  have W := KTurns.ofWalksU (elts := elts) (k := k) (pos := pos) (WalksT.zip2 (prog := prog) (w := w) hh _ _ _ _ _ _ _ AP xs.toArray ys.toArray).toU
  rw [hmin] at W
  refine my_turns (ow := [s.heap.objs.size + 4, s.heap.objs.size + 2, s.heap.objs.size + 3, s.heap.objs.size, s.heap.objs.size + 1]) Led ps Facts stored P D c₀ W ?hlive hx ?hLf ?how ?hwo ?hof ?hsrc
    ⟨hz, hTI, ⟨_, _, hTO⟩, hi1, hi2, hl1.at fun o e => hkk l1 o e, hl2.at fun o e => hkk l2 o e⟩ (F.keeps hkk) (N.grown hkk) ?off hf hk hp ?turn done
  case hlive =>
    rintro i h ⟨hz, hTI, ⟨a, b, hTO⟩, ⟨o1, ho1, _⟩, ⟨o2, ho2, _⟩, _⟩ b hb
    have hb' : b = s.heap.objs.size + 4 ∨ b = s.heap.objs.size + 2 ∨ b = s.heap.objs.size + 3 ∨ b = s.heap.objs.size ∨ b = s.heap.objs.size + 1 := by simpa using hb
    rcases hb' with rfl | rfl | rfl | rfl | rfl
    · exact ⟨_, hz⟩
    · exact ⟨_, hTI⟩
    · exact ⟨_, hTO⟩
    · exact ⟨_, ho1⟩
    · exact ⟨_, ho2⟩
  case hLf =>
    intro hI'
    have hb' : env.locals = s.heap.objs.size + 4 ∨ env.locals = s.heap.objs.size + 2 ∨ env.locals = s.heap.objs.size + 3 ∨ env.locals = s.heap.objs.size ∨ env.locals = s.heap.objs.size + 1 ∨ env.locals = l1 ∨ env.locals = l2 := by simpa using hI'
    rcases hb' with e | e | e | e | e | e | e
    · exact ktu_ne 4 hLs e
    · exact ktu_ne 2 hLs e
    · exact ktu_ne 3 hLs e
    · exact Nat.ne_of_lt hLs e
    · exact ktu_ne 1 hLs e
    · exact hax1.2.1 e.symm
    · exact hax2.2.1 e.symm
  case how =>
    intro b hb
    have hb' : b = s.heap.objs.size + 4 ∨ b = s.heap.objs.size + 2 ∨ b = s.heap.objs.size + 3 ∨ b = s.heap.objs.size ∨ b = s.heap.objs.size + 1 := by simpa using hb
    rcases hb' with rfl | rfl | rfl | rfl | rfl
    · exact ktu_new F (Nat.le_add_right _ _)
    · exact ktu_new F (Nat.le_add_right _ _)
    · exact ktu_new F (Nat.le_add_right _ _)
    · exact ktu_new F (Nat.le_refl _)
    · exact ktu_new F (Nat.le_add_right _ _)
  case hwo =>
    intro b hb
    have hb' : b = s.heap.objs.size + 4 ∨ b = s.heap.objs.size + 3 ∨ b = s.heap.objs.size ∨ b = s.heap.objs.size + 1 := by simpa using hb
    rcases hb' with rfl | rfl | rfl | rfl <;> simp
  case hof =>
    intro b hb
    have hb' : b = s.heap.objs.size + 4 ∨ b = s.heap.objs.size + 2 ∨ b = s.heap.objs.size + 3 ∨ b = s.heap.objs.size ∨ b = s.heap.objs.size + 1 := by simpa using hb
    rcases hb' with rfl | rfl | rfl | rfl | rfl <;> simp
  case hsrc =>
    intro b hb
    have hb' : b = s.heap.objs.size + 4 ∨ b = s.heap.objs.size + 2 ∨ b = s.heap.objs.size + 3 ∨ b = s.heap.objs.size ∨ b = s.heap.objs.size + 1 ∨ b = l1 ∨ b = l2 := by simpa using hb
    rcases hb' with rfl | rfl | rfl | rfl | rfl | rfl | rfl
    · exact .inl (by simp)
    · exact .inl (by simp)
    · exact .inl (by simp)
    · exact .inl (by simp)
    · exact .inl (by simp)
    · exact .inr (.inr ⟨_, hm1⟩)
    · exact .inr (.inr ⟨_, hm2⟩)
  case off =>
    intro p hp hI'
    have hb' : p.1 = s.heap.objs.size + 4 ∨ p.1 = s.heap.objs.size + 2 ∨ p.1 = s.heap.objs.size + 3 ∨ p.1 = s.heap.objs.size ∨ p.1 = s.heap.objs.size + 1 := by simpa using hI'
    have hlp := Heap.lt_size (N p hp).1
    rcases hb' with e | e | e | e | e
    · exact ktu_ne 4 hlp e
    · exact ktu_ne 2 hlp e
    · exact ktu_ne 3 hlp e
    · exact Nat.ne_of_lt hlp e
    · exact ktu_ne 1 hlp e
  case turn =>
    rintro i v c u h tk own hin ⟨T, vals, rfl, ⟨v1, v2, h1, h2, rfl⟩, hT⟩ hoff hf' hp' F' N'
    exact turn i v1 v2 T c u h tk own (by simpa using h1) (by simpa using h2) hT hoff hf' hp' F' N'
end
end Mine
end

section
open PySem PySem.W PyProof.Rows
namespace Mine

noncomputable abbrev Stk := Int × Int × Int × Int × Bool
/-- a list of five-place tuples of the ledger -/
inductive Quints (l : Led) : List Value → List Stk → Prop where
  | nil : Quints l [] []
  | cons {a : Addr} {x y z q : Int} {b : Bool} {t u v r : Tok} {vs : List Value} {ws : List Stk} : (a, tupOf [.int x t, .int y u, .int z v, .int q r, .bool b]) ∈ l → Quints l vs ws → Quints l (.ref a :: vs) ((x, y, z, q, b) :: ws)
theorem Quints.mono {l l' : Led} {vs : List Value} {ws : List Stk} (h : Quints l vs ws) (hs : ∀ p ∈ l, p ∈ l') : Quints l' vs ws := by
  induction h with
  | nil => exact .nil
  | cons hm _ ih => exact .cons (hs _ hm) ih
theorem Quints.snoc {l : Led} {vs : List Value} {ws : List Stk} {a : Addr} {x y z q : Int} {b : Bool} {t u v r : Tok} (h : Quints l vs ws) (hm : (a, tupOf [.int x t, .int y u, .int z v, .int q r, .bool b]) ∈ l) : Quints l (vs ++ [.ref a]) (ws ++ [(x, y, z, q, b)]) := by
  induction h with
  | nil => exact .cons hm .nil
  | cons h1 _ ih => exact .cons h1 ih
theorem Quints.length {l : Led} {vs : List Value} {ws : List Stk} (h : Quints l vs ws) : vs.length = ws.length := by
  induction h with
  | nil => rfl
  | cons _ _ ih => simp [ih]
theorem Quints.get {l : Led} {vs : List Value} {ws : List Stk} (h : Quints l vs ws) : ∀ (i : Nat) (v : Value), vs[i]? = some v → ∃ (a : Addr) (x y z q : Int) (b : Bool) (t u e r : Tok), v = .ref a ∧ ws[i]? = some (x, y, z, q, b) ∧ (a, tupOf [.int x t, .int y u, .int z e, .int q r, .bool b]) ∈ l := by
  induction h with
  | nil => intro i v hv; simp at hv
  | @cons a x y z q b t u e r _ _ hm _ ih =>
    intro i v hv
    cases i with
    | zero => exact ⟨a, x, y, z, q, b, t, u, e, r, by simpa using hv.symm, rfl, hm⟩
    | succ i => exact ih i v (by simpa using hv)
noncomputable abbrev RetQ (news : Led) (ws : List Stk) : Heap → Addr → (Str → Option Value) → Shared → (Value → Shared → Prop) → Prop := fun h₀ L m s Q =>
  ∀ (l : Addr) (vs : List Value) (cap : Nat) (ex : Led) (h' : Heap) (tk' : Nat), Fr h₀ L h' m → News h₀ L h' ((l, listOf vs.toArray cap) :: (ex ++ news)) → Quints ex vs ws → Q (.ref l) { s with heap := h', toks := tk' }
noncomputable def startsF (gs : List Int) : List Int := (List.range gs.length).map fun k => (gs.take k).sum
/-- down by falls alone -/
noncomputable def fallF (starts : List Int) : Nat → Int → Int
  | 0, f => f
  | k + 1, f => if 0 < f ∧ f ∈ starts then fallF starts k (f - 1) else f
noncomputable def strokesIn (starts : List Int) (tot start size : Int) : Nat → List Stk
  | 0 => []
  | k + 1 => strokesIn starts tot start size k ++ [(fallF starts (start + (k : Int)).toNat (start + (k : Int)), start + size, (k : Int), size - 1 - (k : Int), decide (start + size < tot))]
noncomputable def strokesTo (gs : List Int) : Nat → List Stk
  | 0 => []
  | i + 1 => strokesTo gs i ++ strokesIn (startsF gs) gs.sum ((startsF gs).getD i 0) (gs.getD i 0) (gs.getD i 0).toNat
noncomputable def strokesF (gs : List Int) : List Stk := strokesTo gs gs.length
theorem any_ints {vs : List Value} {S : List Int} {f : Int} (hi : IntsAre vs S) : (vs.any fun y => match y with | .int k _ => decide (k = f) | _ => false) = decide (f ∈ S) := by
  induction hi with
  | nil => simp
  | cons k u _ ih =>
    rw [List.any_cons, ih]
    simp only
    rw [Bool.eq_iff_iff]
    simp only [Bool.or_eq_true, decide_eq_true_eq, List.mem_cons]
    have hkf : (k = f) = (f = k) := propext ⟨fun q => q.symm, fun q => q.symm⟩
    rw [hkf]
theorem in_ints {prog : Program} {w : World} {A : Around} {E : Value → Shared → Prop} {s : Shared} {h₀ : Heap} {L l : Addr} {news : Led} {vs : List Value} {n : Nat} {S : List Int} {f : Int} {t : Tok} {Q : Value → Shared → Prop}
    (N : News h₀ L s.heap news) (hm : (l, listOf vs.toArray n) ∈ news) (hi : IntsAre vs S) (h : Q (.bool (decide (f ∈ S))) s) : wpAny (model prog w) A (compareOp .In (.int f t) (.ref l)) Q E s := by
  refine SeqAt.in_listAt (fun y => match y with | .int k _ => decide (k = f) | _ => false) (led_isList N hm) (fun y hy => ?_) ?_
  · have hy : y ∈ vs := by simpa using hy
    obtain ⟨i, hi2⟩ := List.mem_iff_getElem?.mp hy
    have hl : i < S.length := by rw [← hi.length]; exact (List.getElem?_eq_some_iff.mp hi2).1
    obtain ⟨u, hu⟩ := hi.get i S[i] (List.getElem?_eq_getElem hl)
    rw [hi2] at hu
    cases hu
    exact eq_int _ _ _ _
  · rw [List.any_toArray, any_ints hi]; exact h
theorem starts_is {gs : List Int} : (List.map (fun k' => if (List.take (Int.toNat k') gs).length = min (Int.toNat k') gs.length ∧ (List.take (Int.toNat k') gs).length ≤ gs.length then (List.take (Int.toNat k') gs).sum else k') (rangeKs 0 ((gs.length : Int) - 0).toNat)) = startsF gs := by
  have : ((gs.length : Int) - 0).toNat = gs.length := by omega
  rw [this, startsF, rangeKs, List.map_map]
  refine List.map_congr_left fun k hk => ?_
  have hk := List.mem_range.mp hk
  have e : (0 + (k : Int)).toNat = k := by omega
  simp only [Function.comp_apply, e, List.length_take]
  rw [if_pos ⟨trivial, Nat.min_le_right _ _⟩]
theorem sum_bnd : ∀ {gs : List Int}, (∀ y ∈ gs, 0 ≤ y ∧ y ≤ 10) → 0 ≤ gs.sum ∧ gs.sum ≤ 10 * (gs.length : Int)
  | [], _ => by simp
  | g :: gs, h => by
    have h1 := h g (.head _)
    have h2 := sum_bnd (gs := gs) fun y hy => h y (.tail _ hy)
    rw [List.sum_cons, List.length_cons]
    omega
theorem starts_get {gs : List Int} {i : Nat} (h : i < gs.length) : (startsF gs)[i]? = some (gs.take i).sum := by
  simp [startsF, h]
theorem starts_bnd {gs : List Int} {i : Nat} (h : i < gs.length) (hl : gs.length ≤ 10) (hx : ∀ y ∈ gs, 0 ≤ y ∧ y ≤ 10) : 0 ≤ (gs.take i).sum ∧ (gs.take i).sum ≤ 100 := by
  have := sum_bnd (gs := gs.take i) fun y hy => hx y (List.mem_of_mem_take hy)
  have h2 : (gs.take i).length ≤ 10 := by rw [List.length_take]; omega
  omega
theorem fall_go {S : List Int} {f : Int} (h0 : 0 < f) (h1 : f ∈ S) : fallF S f.toNat f = fallF S (f - 1).toNat (f - 1) := by
  obtain ⟨k, hk⟩ : ∃ k : Nat, f = (k : Int) + 1 := ⟨(f - 1).toNat, by omega⟩
  subst hk
  have e1 : ((k : Int) + 1).toNat = k + 1 := by omega
  have e2 : ((k : Int) + 1 - 1) = k := by omega
  rw [e1, e2, Int.toNat_natCast, fallF, if_pos ⟨h0, h1⟩, e2]
theorem fall_out {S : List Int} {f : Int} {k : Nat} (h : ¬ (0 < f ∧ f ∈ S)) : fallF S k f = f := by
  cases k with
  | zero => rfl
  | succ k => rw [fallF, if_neg h]
set_option maxRecDepth 100000 in
set_option maxHeartbeats 8000000 in
theorem strokes_spec (w : World) (s₀ : Shared) (mg mb : Str → Option Value) (news : Led) (lg : Addr) (gv : List Value) (gc : Nat) (gs : List Int) :
   Cl w s₀ mg mb 2 153 [.ref lg] ((lg, listOf gv.toArray gc) :: news) (IntsAre gv gs ∧ gs.length ≤ 10 ∧ (∀ y ∈ gs, 0 ≤ y ∧ y ≤ 10)) (RetQ ((lg, listOf gv.toArray gc) :: news) (strokesF gs)) := by
  dsimp only [Cl, RetQ]
  k_fill
  w_top off
  intros
  rename_i hpre _ _ hret
  obtain ⟨hi, hl, hx⟩ := hpre
  refine wpAny_call ?_
  k_dflt (refine' code_defC ?k1 ?k2 ?k3 ?k4 ?k5 ?kA ?kF ?kK ?k6 ?k7 ?k8 ?k9 ?kB ?kD ?_ ?c2 ?c3 ?c4; (case kA => exact rfl); (case kF => exact rfl); (case kK => assumption); (case k1 => k_asm); (case k2 => k_asm); (case k3 => k_asm); (case k4 => k_asm); (case k5 => k_asm); (case k6 => k_is); (case k7 => k_is); (case k8 => ktr_room); (case k9 => exact BindsTo.of_eq rfl); (case kB => exact rfl); (case kD => decide +kernel); (case c2 => exact rfl); (case c3 => exact rfl); (case c4 => exact rfl); k_whole; intro g' L' h' tk' cells' FG' F' N' Y' B' X' T' l1; (try k_lt l1); k_cells Y'; (try simp only [List.cons_append, List.nil_append] at N'); (try dsimp only); (try k_lift B'); (try k_fold))
  k_with_none
  k_with "ForPost" => (dsimp only [ForPost])
  k_with "pyIter ref" => fail
  repeat' ((fail_if_success (with_reducible show KswEnd _ _ _ _ _ _ _ _ _ _ _ _)); (fail_if_success (with_reducible show wpAny _ _ (exec (Stmt.While _ _ _ _) _) _ _ _)); (fail_if_success (with_reducible show wpAny _ _ (exec (Stmt.For _ _ _ _ _) _) _ _ _)); (first | (k_unfold; (try dsimp only)) | walk1 | (dsimp only; walk1) | (leave1; try dsimp only)))
  (rename Fr _ _ _ _ => F1)
  refine For_turns F1 ?_
  repeat' ((fail_if_success (with_reducible show KswEnd _ _ _ _ _ _ _ _ _ _ _ _)); (fail_if_success (with_reducible show wpAny _ _ (exec (Stmt.While _ _ _ _) _) _ _ _)); (fail_if_success (with_reducible show wpAny _ _ (exec (Stmt.For _ _ _ _ _) _) _ _ _)); (fail_if_success (with_reducible show wpAny _ _ (call (Value.type "zip") _) _ _ _)); (first | (k_unfold; (try dsimp only)) | walk1 | (dsimp only; walk1) | (leave1; try dsimp only)))
  rename_i o' d1' _ _ _ _ _ _ _ hkl _ hI hL D' _ _ o1 la _ l1' _ N1
  rw [starts_is] at hI
  clear hL
  have hlen : ys.length = gs.length := by rw [hI.length]; simp [startsF]
  have hmin : min ys.length gv.length = gs.length := by rw [hlen, hkl]; exact Nat.min_self _
  with_unfolding_all
    refine' my_for_zip (σ := List Value × Nat × Led) (x := Str.ofString "start") (n1 := ys.length) (n2 := gc)
      (fun c => (la, listOf c.1.toArray c.2.1) :: (D', LCg.lst ys) :: (L' + 1, o') :: (lg, listOf gv.toArray gc) :: (c.2.2 ++ news))
      (fun _ => []) (fun c => OwnOff c.2.2 [la]) [Str.ofString "start", Str.ofString "size", Str.ofString "ahead", Str.ofString "first"] (fun i c => Quints c.2.2 c.1 (strokesTo gs i) ∧ c.1.length ≤ 10 * i) (fun _ _ => False) ([], 0, []) rfl rfl F1 ?kn ?km1 ?km2 ?kf ?kk ?kp ?turn ?done
  case kn =>
    intro p hp
    refine N1 p ?_
    simp only [List.nil_append, List.mem_cons] at hp ⊢
    rcases hp with h | h | h | h | h <;> simp only [h, true_or, or_true]
  case km1 => intro c; exact .tail _ (.head _)
  case km2 => intro c; exact .tail _ (.tail _ (.tail _ (.head _)))
  case kf => intro p hp; exact nomatch hp
  case kk => kst_all
  case kp => exact ⟨.nil, Nat.le_refl _⟩
  case turn =>
    clear F1 N1
    refine fun i v1 v2 T => prod3 fun us cap ex => ?_
    rintro  u h tk own hv1 hv2 hT off hof ⟨htr, hle⟩ F4 N4
    dsimp only [kstB] at F4
    dsimp only at *
    (try k_fold)
    simp only [List.cons_append, List.nil_append, (List.append_assoc)] at N4
    have hig : i < gs.length := by rw [← hlen]; exact (List.getElem?_eq_some_iff.mp hv1).1
    obtain ⟨t1, e1⟩ := hI.get i _ (starts_get hig)
    obtain ⟨t2, e2⟩ := hi.get i gs[i] (List.getElem?_eq_getElem hig)
    rw [hv1] at e1
    rw [hv2] at e2
    cases e1
    cases e2
    have hso := hx gs[i] (List.getElem_mem hig)
    have hst := starts_bnd hig hl hx
    have hsum := sum_bnd hx
    generalize hS : (gs.take i).sum = start at *
    generalize hZ : gs[i] = size at *
    have mk := kstMark
    repeat' ((fail_if_success (with_reducible show KswEnd _ _ _ _ _ _ _ _ _ _ _ _)); (fail_if_success (with_reducible show wpAny _ _ (exec (Stmt.While _ _ _ _) _) _ _ _)); (fail_if_success (with_reducible show wpAny _ _ (pyIter _) _ _ _)); (first | (k_unfold; (try dsimp only)) | walk1 | (dsimp only; walk1) | (leave1; try dsimp only)))
    rename_i R FR NR KR
    with_unfolding_all
      refine' my_for_range (σ := List Value × Nat × Led) (n := size.toNat)
        (fun c => (la, listOf c.1.toArray c.2.1) :: (D', LCg.lst ys) :: (L' + 1, o') :: (lg, listOf gv.toArray gc) :: (c.2.2 ++ (news ++ own)))
        (fun _ => []) (fun c => OwnOff c.2.2 [la] ∧ OwnOff own (c.2.2.map (·.1))) [Str.ofString "first"] (fun j c => Quints c.2.2 c.1 (strokesTo gs i ++ strokesIn (startsF gs) gs.sum start size j) ∧ c.1.length ≤ 10 * i + j) (fun _ _ => False) (us, cap, ex) rfl R ?hs2 ?hn2 FR ?kn2 ?kf2 ?kk2 ?kp2 ?turn2 ?done2
    case hs2 => exact small_one (by omega) (by omega) (by omega) (by omega)
    case hn2 => rw [rangeSize_one]; omega
    case kn2 => exact NR
    case kf2 => exact ⟨hof, fun p hp b hb => off p hp b (by simp only [List.map_cons, List.map_append, List.mem_cons, List.mem_append]; exact .inr (.inr (.inr (.inr (.inl hb)))))⟩
    case kk2 => kst_all
    case kp2 => exact ⟨by rw [strokesIn, List.append_nil]; exact htr, by omega⟩
    case turn2 =>
      clear R FR NR KR
      refine fun j ta => prod3 fun us cap ex => ?_
      rintro  u h tk I o hj offI ⟨hof, hoo⟩ ⟨htr, hle⟩ F4 N4
      dsimp only [kstB] at F4
      dsimp only at *
      (try k_fold)
      simp only [List.cons_append, List.nil_append, (List.append_assoc)] at N4
      have mk := kstMark
      repeat' ((fail_if_success (with_reducible show KswEnd _ _ _ _ _ _ _ _ _ _ _ _)); (fail_if_success (with_reducible show wpAny _ _ (exec (Stmt.While _ _ _ _) _) _ _ _)); (fail_if_success (with_reducible show wpAny _ _ (pyIter _) _ _ _)); (first | (k_unfold; (try dsimp only)) | walk1 | (dsimp only; walk1) | (leave1; try dsimp only)))
      (rename Fr _ _ _ _ => FW); (rename News _ _ _ _ => NW)
      with_unfolding_all
        refine' my_while (σ := Int × Tok) (fun _ => (la, listOf us.toArray cap) :: (D', LCg.lst ys) :: (L' + 1, o') :: (lg, listOf gv.toArray gc) :: (ex ++ (news ++ (own ++ [(I, o)])))) (fun c => [(Str.ofString "first", .int c.1 c.2)]) (fun _ => True) []
          (fun c => 0 ≤ c.1 ∧ c.1 ≤ start + (j : Int) ∧ fallF (startsF gs) c.1.toNat c.1 = fallF (startsF gs) (start + (j : Int)).toNat (start + (j : Int))) (fun c => c.1.toNat) (fun c => c.1 = fallF (startsF gs) (start + (j : Int)).toNat (start + (j : Int))) (start + (0 + (j : Int)), _) FW NW trivial ?kk3 ?kp3 ?turn3 ?done3 ?hE3
      case hE3 => passes_own
      case kk3 => kst_all
      case kp3 =>
        have e : start + (0 + (j : Int)) = start + (j : Int) := by omega
        dsimp only
        rw [e]
        exact ⟨by omega, Int.le_refl _, rfl⟩
      case turn3 =>
        clear FW NW
        refine prod2 fun first tf => ?_
        rintro  u h tk - ⟨hf0, hf1, hf2⟩ F5 N5
        dsimp only [kstB] at F5
        dsimp only at *
        (try k_fold)
        have mk := kstMark
        repeat' ((fail_if_success (with_reducible show KswEnd _ _ _ _ _ _ _ _ _ _ _ _)); (fail_if_success (with_reducible show wpAny _ _ (exec (Stmt.While _ _ _ _) _) _ _ _)); (fail_if_success (with_reducible show wpAny _ _ (pyIter _) _ _ _)); (fail_if_success (with_reducible show wpAny _ _ (compareOp _ (Value.int _ _) (Value.ref _)) _ _ _)); (first | (k_unfold; (try dsimp only)) | walk1 | (dsimp only; walk1) | (leave1; try dsimp only)))
        · (rename News _ _ _ _ => N6)
          refine in_ints (n := ys.length) N6 (.tail _ (.head _)) hI ?_
          dsimp only
          repeat' ((fail_if_success (with_reducible show KswEnd _ _ _ _ _ _ _ _ _ _ _ _)); (fail_if_success (with_reducible show wpAny _ _ (exec (Stmt.While _ _ _ _) _) _ _ _)); (fail_if_success (with_reducible show wpAny _ _ (pyIter _) _ _ _)); (first | (k_unfold; (try dsimp only)) | walk1 | (dsimp only; walk1) | (leave1; try dsimp only)))
          · (rename Fr _ _ _ _ => F7); (rename News _ _ _ _ => N7)
            have q := fall_go (show 0 < first by assumption) (show first ∈ startsF gs by assumption)
            exact ksw_end (first - 1, _) F7 N7 (fun _ h => h) trivial (by kst_all) (by ksw_same) ⟨by dsimp only; omega, by dsimp only; omega, by dsimp only; rw [← q]; exact hf2⟩ (by dsimp only; omega)
          · (rename Fr _ _ _ _ => F7); (rename News _ _ _ _ => N7)
            exact out_intro (c := (first, tf)) (u := u) F7 N7 (fun _ h => h) trivial ⟨hf0, hf1, hf2⟩ (by dsimp only; rw [← hf2]; exact (fall_out fun q => (show ¬ first ∈ startsF gs by assumption) q.2).symm)
        · (rename Fr _ _ _ _ => F7); (rename News _ _ _ _ => N7)
          exact out_intro (c := (first, tf)) (u := u) F7 N7 (fun _ h => h) trivial ⟨hf0, hf1, hf2⟩ (by dsimp only; rw [← hf2]; exact (fall_out fun q => (show ¬ 0 < first by assumption) q.1).symm)
      case done3 =>
        clear FW NW
        refine prod2 fun first tf => ?_
        rintro  u h tk - ⟨hf0, hf1, hf2⟩ hfd F5 N5
        dsimp only [kstB] at F5
        dsimp only at *
        (try k_fold)
        have mk := kstMark
        repeat' ((fail_if_success (with_reducible show KswEnd _ _ _ _ _ _ _ _ _ _ _ _)); (fail_if_success (with_reducible show wpAny _ _ (exec (Stmt.While _ _ _ _) _) _ _ _)); (fail_if_success (with_reducible show wpAny _ _ (pyIter _) _ _ _)); (first | (k_unfold; (try dsimp only)) | walk1 | (dsimp only; walk1) | (leave1; try dsimp only)))
        rename_i _ _ _ D _ hD _ F7 N7
        simp only [List.push_toArray, Int.zero_add] at N7
        rw [hfd] at N7
        have N8 : ∃ (ta tb tc td : Tok), News _ _ _ ((D, tupOf [.int (fallF (startsF gs) (start + (j : Int)).toNat (start + (j : Int))) ta, .int (start + size) tb, .int (j : Int) tc, .int (size - 1 - (j : Int)) td, .bool (decide (start + size < gs.sum))]) :: _) := ⟨_, _, _, _, N7⟩
        obtain ⟨ta', tb', tc', td', N8⟩ := N8
        have hDX := (allLt_app (allLt_app hD.2.2.2.2).2).2
        have hDI := allLt_mem (allLt_app hDX).2 (I, o) (.head _)
        have hDO := allLt_mem (allLt_app hDX).1
        refine for_end (us ++ [.ref D], cap + 1, ex ++ [(D, tupOf [.int (fallF (startsF gs) (start + (j : Int)).toNat (start + (j : Int))) ta', .int (start + size) tb', .int (j : Int) tc', .int (size - 1 - (j : Int)) td', .bool (decide (start + size < gs.sum))])]) F7 N8 ?hn4 ?ho4 ?off4 ⟨?f14, ?f24⟩ (by kst_all) (by kst_same) ⟨?tr4, ?le4⟩
        case hn4 =>
          intro p hp
          simp only [List.mem_cons, List.mem_append, List.not_mem_nil, or_false] at hp ⊢
          rcases hp with h | h | h | h | (h | h) | h | h <;> simp only [h, true_or, or_true]
        case ho4 =>
          intro p hp
          simp only [List.mem_cons, List.mem_append, List.not_mem_nil, or_false] at hp ⊢
          simp only [hp, true_or, or_true]
        case off4 =>
          refine off_more offI (D := D) (fun a ha => ?_) fun p hp => ?_
          · simp only [List.map_cons, List.map_append, List.map_nil, List.mem_cons, List.mem_append, List.not_mem_nil, or_false] at ha ⊢
            rcases ha with h | h | h | h | (h | h) | h | h <;> simp only [h, true_or, or_true]
          · rw [List.mem_singleton.mp hp]
            exact Nat.ne_of_lt hDI
        case f14 =>
          intro p hp a ha
          rcases List.mem_append.mp hp with hp | hp
          · exact hof p hp a ha
          · rw [List.mem_singleton.mp hp, List.mem_singleton.mp ha]
            exact Nat.ne_of_gt hD.1
        case f24 =>
          intro p hp a ha
          simp only [List.map_append, List.map_cons, List.map_nil, List.mem_append, List.mem_singleton] at ha
          rcases ha with ha | rfl
          · exact hoo p hp a ha
          · exact Nat.ne_of_lt (hDO p hp)
        case tr4 =>
          dsimp only
          rw [strokesIn, ← List.append_assoc]
          exact (htr.mono fun p hp => List.mem_append_left _ hp).snoc (List.mem_append_right _ (.head _))
        case le4 => dsimp only; rw [List.length_append, List.length_singleton]; omega
    case done2 =>
      clear R FR NR KR
      refine prod3 fun us cap ex => ?_
      rintro  u h tk ⟨hof, hoo⟩ hP F5 N5
      dsimp only [kstB] at F5
      dsimp only at *
      (try k_fold)
      have mk := kstMark
      have htr2 : Quints ex us (strokesTo gs i ++ strokesIn (startsF gs) gs.sum start size size.toNat) ∧ us.length ≤ 10 * i + size.toNat := by
        rcases hP with h | ⟨_, _, h⟩
        · exact h
        · exact h.elim
      clear hP
      repeat' ((fail_if_success (with_reducible show KswEnd _ _ _ _ _ _ _ _ _ _ _ _)); (fail_if_success (with_reducible show wpAny _ _ (exec (Stmt.While _ _ _ _) _) _ _ _)); (fail_if_success (with_reducible show wpAny _ _ (pyIter _) _ _ _)); (first | (k_unfold; (try dsimp only)) | walk1 | (dsimp only; walk1) | (leave1; try dsimp only)))
      (rename Fr _ _ _ _ => F7); (rename News _ _ _ _ => N7)
      refine for_end (us, cap, ex) F7 N7 ?hn5 ?ho5 ?off5 hof (by kst_all) (by kst_same) ⟨?tr5, ?le5⟩
      case hn5 =>
        intro p hp
        simp only [List.mem_cons, List.mem_append, List.not_mem_nil, or_false] at hp ⊢
        rcases hp with h | h | h | h | h | h <;> simp only [h, true_or, or_true]
      case ho5 =>
        intro p hp
        simp only [List.mem_cons, List.mem_append, List.not_mem_nil, or_false] at hp ⊢
        simp only [hp, true_or, or_true]
      case off5 =>
        intro p hp b hb
        simp only [List.map_cons, List.map_append, List.mem_cons, List.mem_append] at hb
        rcases hb with h | h | h | h | h | h
        · exact off p hp b (by rw [h]; simp)
        · exact off p hp b (by rw [h]; simp)
        · exact off p hp b (by rw [h]; simp)
        · exact off p hp b (by rw [h]; simp)
        · exact hoo p hp b h
        · exact off p hp b (by simp only [List.map_cons, List.map_append, List.mem_cons, List.mem_append]; exact .inr (.inr (.inr (.inr (.inr h)))))
      case tr5 =>
        dsimp only
        have e1 : (startsF gs).getD i 0 = start := by rw [List.getD_eq_getElem?_getD, starts_get hig, hS]; rfl
        have e2 : gs.getD i 0 = size := by rw [List.getD_eq_getElem?_getD, List.getElem?_eq_getElem hig, hZ]; rfl
        rw [strokesTo, e1, e2]
        exact htr2.1
      case le5 => dsimp only; have := htr2.2; omega
  case done =>
    clear F1 N1
    refine prod3 fun us cap ex => ?_
    rintro  u h tk hof hP F4 N4
    dsimp only [kstB] at F4
    dsimp only at *
    (try k_fold)
    have mk := kstMark
    have htr : Quints ex us (strokesF gs) := by
      rcases hP with h | ⟨_, _, h⟩
      · rw [hmin] at h; exact h.1
      · exact h.elim
    clear hP
    repeat' ((fail_if_success (with_reducible show KswEnd _ _ _ _ _ _ _ _ _ _ _ _)); (fail_if_success (with_reducible show wpAny _ _ (exec (Stmt.While _ _ _ _) _) _ _ _)); (fail_if_success (with_reducible show wpAny _ _ (pyIter _) _ _ _)); (first | (k_unfold; (try dsimp only)) | walk1 | (dsimp only; walk1) | (leave1; try dsimp only)))
    (rename Fr _ _ _ _ => F5); (rename News _ _ _ _ => N5)
    refine hret la us cap ex _ _ F5 (fun p hp => N5 p ?_) htr
    simp only [List.mem_cons, List.mem_append] at hp ⊢
    rcases hp with h | h | h | h <;> simp only [h, true_or, or_true]
end Mine
end

section
open PySem PySem.W PyProof.Rows
namespace Mine
theorem bind_wrap {α β γ : Type} (m : Sem α) (k : α → Sem β) (K : β → Sem γ) (H : Value → Sem γ) (gd lv) : (m >>= k).wrap K H gd lv = m.wrap (fun a => (k a).wrap K H gd lv) H gd lv := by
  rw [Sem.bind_eq_wrap', Sem.wrap_wrap]
  rfl
section
variable {M : Model} {A : Around} {R : GenEnd} {Y : Protocol} {n : Nat} {s₀ : Shared} {c : Code} {fs : List Frame} {s : Shared} {env : Env}
  {K : Flow → Sem Fin} {H : Value → Sem Fin} {gd : Bool → Bool} {lv : List Value → List Value}
theorem seg_bindw {α β : Type} {m : Sem α} {k : α → Sem β} {K : β → Sem Fin}
    (h : wpAny M (A.over c fs) m (fun a s' => Seg M A R Y n s₀ c ((k a).wrap K H gd lv) fs s') (fun x s' => Seg M A R Y n s₀ c (H x) fs s') s) :
    Seg M A R Y n s₀ c ((m >>= k).wrap K H gd lv) fs s := by
  rw [bind_wrap]; exact seg_wrap h
theorem seg_execs {st : Stmt} {rest : List Stmt}
    (h : wpAny M (A.over c fs) (exec st env) (fun f s' => match f with | .next => Seg M A R Y n s₀ c ((execs rest env).wrap K H gd lv) fs s' | f => Seg M A R Y n s₀ c (K f) fs s') (fun x s' => Seg M A R Y n s₀ c (H x) fs s') s) :
    Seg M A R Y n s₀ c ((execs (st :: rest) env).wrap K H gd lv) fs s := by
  refine seg_execs_cons (seg_wrap (wpAny_mono h (fun f s' q => ?_) fun _ _ e => e))
  cases f <;> exact q
theorem seg_If {test : Expr} {body orelse rest : List Stmt} {pos : Pos}
    (h : wpAny M (A.over c fs) (isTrue test env (eval test env)) (fun b s' =>
      Seg M A R Y n s₀ c ((execs (if b = true then body else orelse) env).wrap (fun f => match f with | .next => (execs rest env).wrap K H gd lv | f => K f) H gd lv) fs s') (fun x s' => Seg M A R Y n s₀ c (H x) fs s') s) :
    Seg M A R Y n s₀ c ((execs (.If test body orelse pos :: rest) env).wrap K H gd lv) fs s := by
  refine seg_execs_cons ?_
  rw [arm_exec_If]
  refine seg_bindw (wpAny_standAt ?_)
  refine seg_bindw (wpAny_mono h (fun b s' q => ?_) fun _ _ e => e)
  cases b <;> exact q
end
section
variable {prog : Program} {w : World} {A : Around} {R : GenEnd} {Y : Protocol} {n : Nat} {s₀ : Shared} {c : Code} {fs : List Frame} {s : Shared} {env : Env}
  {K : Flow → Sem Fin} {H : Value → Sem Fin} {gd : Bool → Bool} {lv : List Value → List Value}
/-- what stands below a loop's frame -/
noncomputable abbrev ownK (env : Env) (K : Flow → Sem Fin) (H : Value → Sem Fin) (gd : Bool → Bool) (lv : List Value → List Value) : Result → Sem Fin := fun r =>
  ((match r with | .ok f => (.pure f : Sem Flow) | .error e => .raise e).onRaise fun (x : Value) => do
    if (← field x 1) == Value.none then unsupported "frame.own-activation:exception-without-traceback"
    setFlight x env.frame).wrap K H gd lv
noncomputable abbrev noteK (env : Env) : Value → Sem Fin := fun e => (do noteFrame e env; theTreesLotGoes e : Sem Unit).wrap (fun _ => .raise e) .raise id id
noncomputable abbrev loopK (C : Code) : Flow → Sem Fin := fun f => match f with | .next | .cont => .pure (.again C) | .brk => .pure (.done .next) | .ret v => .pure (.done (.ret v))
theorem seg_For {target iter : Expr} {body orelse : List Stmt} {pos : Pos}
    (h : wpAny (model prog w) (A.over c fs) (eval iter env) (fun x s₁ => wpAny (model prog w) (A.over c fs) (pyIter x) (fun it s₂ =>
      ∀ p, Seg (model prog w) A R Y n s₀ (.forLoop target it body orelse env) ((model prog w).den (.forLoop target it body orelse env)) (.ret (ownK env K H gd lv) none (gd false) (lv []) c p [] :: fs) s₂)
      (fun x s' => Seg (model prog w) A R Y n s₀ c (H x) fs s') s₁) (fun x s' => Seg (model prog w) A R Y n s₀ c (H x) fs s') s)
    (hs : ∀ x, foldedSetIterable iter env x = pure x := by intro _; rfl) :
    Seg (model prog w) A R Y n s₀ c ((exec (.For target iter body orelse pos) env).wrap K H gd lv) fs s := by
  rw [arm_exec_For]
  refine seg_bindw (wpAny_standAt ?_)
  refine seg_bindw (wpAny_mono h (fun x s₁ h₁ => ?_) fun _ _ e => e)
  rw [hs x]
  refine seg_bindw (wpAny_pure ?_)
  refine seg_bindw (wpAny_standAt ?_)
  refine seg_bindw (wpAny_holding (wpAny_mono h₁ (fun it s₂ h₂ => ?_) fun _ _ e => e))
  exact seg_call h₂
theorem seg_forLoop {target : Expr} {it : Value} {body orelse : List Stmt}
    (h : wpAny (model prog w) (A.over (.forLoop target it body orelse env) fs) (pyNext it) (fun r s₁ => match r with
      | none => Seg (model prog w) A R Y n s₀ (.block orelse env) ((model prog w).den (.block orelse env)) fs s₁
      | some v => wpAny (model prog w) (A.over (.forLoop target it body orelse env) fs) (letOwnedTupleGo target it v) (fun _ s₂ => wpAny (model prog w) (A.over (.forLoop target it body orelse env) fs) (assign target env v) (fun _ s₃ =>
          Seg (model prog w) A R Y n s₀ (.forLoop target it body orelse env) ((execs body env).wrap (loopK (.forLoop target it body orelse env)) (noteK env) id id) fs s₃)
          (fun e s' => Seg (model prog w) A R Y n s₀ (.forLoop target it body orelse env) (noteK env e) fs s') s₂) (fun e s' => Seg (model prog w) A R Y n s₀ (.forLoop target it body orelse env) (noteK env e) fs s') s₁)
      (fun e s' => Seg (model prog w) A R Y n s₀ (.forLoop target it body orelse env) (noteK env e) fs s') s)
    (hq : (Code.block orelse env).quiet = true := by rfl) :
    Seg (model prog w) A R Y n s₀ (.forLoop target it body orelse env) ((model prog w).den (.forLoop target it body orelse env)) fs s := by
  show Seg _ A R Y n s₀ _ ((forTurn target it body orelse env).onRaise (fun x => do noteFrame x env; theTreesLotGoes x)) fs s
  rw [Sem.onRaise_eq_wrap]
  have eH : (fun e => (do noteFrame e env; theTreesLotGoes e : Sem Unit).bind fun _ => (.raise e : Sem Fin)) = noteK env := by
    funext e
    exact Sem.bind_eq_wrap _ _
  rw [eH]
  unfold forTurn
  refine seg_bindw (wpAny_standAt ?_)
  refine seg_bindw (wpAny_onRaise (wpAny_mono h (fun r s₁ h₁ => ?_) fun _ _ h' => wpAny_standAt h'))
  cases r with
  | none => exact seg_again hq h₁
  | some v =>
    refine seg_bindw (wpAny_mono h₁ (fun _ s₂ h₂ => ?_) fun _ _ e => e)
    refine seg_bindw (wpAny_mono h₂ (fun _ s₃ h₃ => ?_) fun _ _ e => e)
    rw [bind_wrap]
    rw [Sem.wrap_congr (execs body env) _ _ (K' := loopK (.forLoop target it body orelse env)) (H' := noteK env) (fun f => by cases f <;> rfl) (fun _ => rfl)]
    exact h₃
theorem seg_block_nil (h : Seg (model prog w) A R Y n s₀ (.block [] env) (leafOf (.ok .next)) fs s) :
    Seg (model prog w) A R Y n s₀ (.block [] env) ((model prog w).den (.block [] env)) fs s := h
end
end Mine
end

section
open PySem PySem.W PyProof.Rows
namespace Mine

/-- what the generator tells at its j-th asking -/
noncomputable def genOut : List Int → Int → Nat → Option Int
  | [], _, _ => none
  | r :: rs, last, j => if r = 127 then none else if r = 0 then some last else match j with
    | 0 => some r
    | j + 1 => genOut rs r j
theorem genOut_stop (rs : List Int) (last : Int) (j : Nat) : genOut (127 :: rs) last j = none := by unfold genOut; rw [if_pos rfl]
theorem genOut_rep (rs : List Int) (last : Int) (j : Nat) : genOut (0 :: rs) last j = some last := by unfold genOut; rw [if_neg (by decide), if_pos rfl]
theorem genOut_first {x : Int} (h1 : ¬ x = 127) (h2 : ¬ x = 0) (rs : List Int) (last : Int) : genOut (x :: rs) last 0 = some x := by unfold genOut; rw [if_neg h1, if_neg h2]
theorem genOut_next {x : Int} (h1 : ¬ x = 127) (h2 : ¬ x = 0) (rs : List Int) (last : Int) (j : Nat) : genOut (x :: rs) last (j + 1) = genOut rs x j := by
  conv => lhs; unfold genOut
  rw [if_neg h1, if_neg h2]
noncomputable abbrev genObj (gi : Nat) (nm qn : Str) (t1 t2 : Tok) : Obj := { cls := .type "generator", data := .fields #[.int gi 0, .str nm t1, .str qn t2] }
/-- s₁ is s₀ but for the generator's frame and its list iterator -/
noncomputable def GenKeeps (Lg IL : Addr) (h h' : Heap) : Prop := ∀ b o, b ≠ Lg → b ≠ IL → h.get? b = some o → h'.get? b = some o
noncomputable abbrev ItObj (o : Obj) : Prop := o.cls = .type "list_iterator" ∧ ∀ v, o.data ≠ .cell v
noncomputable def GenY (h₀ : Heap) (Lg lr : Addr) (vs : List Value) (cap : Nat) (N : Nat) (out : Nat → Option Int) : Protocol := fun n s₀ v s₁ kap =>
  ∃ (x : Int) (t : Tok) (IL : Addr) (oLg oIL : Obj) (h₁ : Heap) (tk : Nat), v = .int x t ∧ out (N - (n + 1)) = some x ∧ s₁ = { s₀ with heap := h₁, toks := tk } ∧
    h₁.get? Lg = some oLg ∧ h₁.get? IL = some oIL ∧ ItObj oIL ∧ Lg < IL ∧ (s₀.heap.get? IL = none ∨ ∃ o, s₀.heap.get? IL = some o ∧ ItObj o) ∧ GenKeeps Lg IL s₀.heap h₁ ∧
    (0 < n → ∀ s'' : Shared, s''.heap.get? Lg = some oLg → s''.heap.get? IL = some oIL → s''.heap.get? lr = some (listOf vs.toArray cap) → (∀ b o, h₀.get? b = some o → s''.heap.get? b = some o) → kap (.send .none) s'')
noncomputable def GenR (Lg : Addr) (N : Nat) (out : Nat → Option Int) : GenEnd := fun n s₀ r s₁ =>
  r = .ok (.ret .none) ∧ out (N - n) = none ∧ ∃ (IL : Addr) (h₁ : Heap) (tk : Nat), s₁ = { s₀ with heap := h₁, toks := tk } ∧ Lg < IL ∧ (s₀.heap.get? IL = none ∨ ∃ o, s₀.heap.get? IL = some o ∧ ItObj o) ∧ GenKeeps Lg IL s₀.heap h₁
/-- the generator stands ready to be asked -/
noncomputable def GenReady (prog : Program) (w : World) (A : Around) (h₀ : Heap) (Lg lr : Addr) (vs : List Value) (cap N : Nat) (out : Nat → Option Int) (n gi : Nat) (oLg : Obj) (own : Led) (gs : GenState) : Prop :=
  gs.bare = true ∧ ∀ s'' : Shared, s''.heap.get? Lg = some oLg → (∀ p ∈ own, s''.heap.get? p.1 = some p.2) → s''.heap.get? lr = some (listOf vs.toArray cap) → (∀ b o, h₀.get? b = some o → s''.heap.get? b = some o) →
    gs.Goes (model prog w) A.in1 (GenR Lg N out) (GenY h₀ Lg lr vs cap N out) n (.send .none) (s''.setGen gi .running)
theorem seg_ind {M : Model} {A : Around} {R : GenEnd} {Y : Protocol} {C : Code} {fs : List Frame} (Inv : Nat → Shared → Shared → Prop)
    (step : ∀ n s₀ s, Inv n s₀ s → (∀ s₀' s', 0 < n → Inv (n - 1) s₀' s' → Seg M A R Y n s₀' C (M.den C) fs s') → Seg M A R Y (n + 1) s₀ C (M.den C) fs s) : ∀ n s₀ s, Inv n s₀ s → Seg M A R Y (n + 1) s₀ C (M.den C) fs s := by
  intro n
  induction n with
  | zero => exact fun s₀ s h => step 0 s₀ s h fun _ _ h0 => absurd h0 (Nat.lt_irrefl _)
  | succ n ih => exact fun s₀ s h => step (n + 1) s₀ s h fun s₀' s' _ hi => ih s₀' s' hi
theorem all_news (h₀ h : Heap) (Lg : Addr) (xs : List Addr) : ∃ rest : Led, (∀ p ∈ rest, h.get? p.1 = some p.2 ∧ p.1 ≠ Lg ∧ h₀.get? p.1 = none) ∧ ∀ b o, h.get? b = some o → b ≠ Lg → h₀.get? b = none → b ∉ xs → (b, o) ∈ rest := by
  refine ⟨(List.range h.objs.size).filterMap fun b => if b ≠ Lg ∧ h₀.get? b = none ∧ b ∉ xs then (h.get? b).map (b, ·) else none, fun p hp => ?_, fun b o hb hL h0 hx => ?_⟩
  · obtain ⟨b, _, hb⟩ := List.mem_filterMap.mp hp
    split at hb
    · rename_i hc
      obtain ⟨o, ho, rfl⟩ := Option.map_eq_some_iff.mp hb
      exact ⟨ho, hc.1, hc.2.1⟩
    · cases hb
  · refine List.mem_filterMap.mpr ⟨b, List.mem_range.mpr (Heap.lt_size hb), ?_⟩
    rw [if_pos ⟨hL, h0, hx⟩, hb]
    rfl
theorem ns_move {h h' : Heap} {Lg : Addr} {o : Obj} {m : Str → Option Value} (hn : h.Ns Lg m) (e : h.get? Lg = some o) (e' : h'.get? Lg = some o) : h'.Ns Lg m := by
  obtain ⟨o', es, ep, ho, r⟩ := hn
  rw [e] at ho
  cases ho
  exact ⟨_, es, ep, e', r⟩
/-- a call that makes a generator -/
theorem call_gen {prog : Program} {w : World} {A : Around} {E : Value → Shared → Prop} {Q : Value → Shared → Prop} {s : Shared} {h₀ : Heap} {L : Addr} {m : Str → Option Value} {news : Led} {K : Frag} {p : Program} {loose : List Str} {mean : ExcName → Option Value} {mg mb : Str → Option Value}
    {name qual : Str} {params : Arguments} {body : List Stmt} {scope : Scope} {dV kV doc pm cdv ct oc : Value} {an od : Option Addr} {osl : Array (Option Value)} {f : Addr} {args : Args} {binds : List (Str × Value)}
    (F : Fr h₀ L s.heap m) (X₀ : K.In h₀) (N : News h₀ L s.heap news) (T : Top p loose mean mg mb h₀)
    (ho : K.lookup f = some ⟨oc, od, .func (fnOf name qual params body scope dV kV doc pm an cdv ct), osl⟩) (hcd : codeIn K cdv qual = true) (hroom : A.depth < recursionLimit)
    (hbind : BindsTo s (fnOf name qual params body scope dV kV doc pm an cdv ct) args binds) (hloc : ∀ y ∈ binds, scope.names.lookup y.1 = some .local)
    (hco : scope.isCoroutine = false) (hgen : scope.isGenerator = true) (hk : scope.kind = .function) (hcell : ∀ x ∈ scope.names, x.2 ≠ .cell)
    (h : ∀ (Lg G : Addr) (oLg : Obj) (h₁ : Heap) (t1 t2 : Tok) (tk : Nat), h₀.objs.size ≤ Lg → h₀.get? Lg = none → Fr h₀ L h₁ m → News h₀ L h₁ ((G, genObj s.gens.size name qual t1 t2) :: (Lg, oLg) :: news) → (∀ q ∈ news, q.1 < Lg) → L < Lg → Lg < G → h₁.Ns Lg (fun y => binds.reverse.lookup y) →
      Q (.ref G) { s with gens := s.gens.push (.fresh (.func body (envOf qual scope Lg f cdv))), toks := tk, heap := h₁ }) :
    wpAny (model prog w) A (call (.ref f) args.pos args.kw) Q E s := by
  refine wpAny_call ?_
  refine codeAny_call_generator hroom ((X₀.keeps F.keep) _ _ ho) rfl hco hgen rfl (codeRec_of (X₀.keeps F.keep) hcd) ?_
  refine hbind _ _ _ _ ?_
  refine wpAny_newFunctionEnv hcell hloc (fun h' hns hsb => ?_) hk
  have hk₁ : ∀ b o, s.heap.get? b = some o → h'.get? b = some o := fun b o e => hsb.extBut b o (Nat.ne_of_lt (Heap.lt_size e)) (Heap.get?_push_of_some _ e)
  refine ⟨(T.nolimit.keeps F.keep).keeps hk₁, ?_⟩
  obtain ⟨oLg, es, ep, hg, hr⟩ := id hns
  have hlt := Heap.lt_size hg
  have hn0 : h₀.get? s.heap.objs.size = none := by
    cases e : h₀.get? s.heap.objs.size with
    | none => rfl
    | some o => exact absurd (Heap.lt_size (F.keep _ _ e)) (Nat.lt_irrefl _)
  have hn1 : h₀.get? h'.objs.size = none := by
    cases e : h₀.get? h'.objs.size with
    | none => rfl
    | some o => exact absurd (Heap.lt_size (hk₁ _ _ (F.keep _ _ e))) (Nat.lt_irrefl _)
  have hL := F.ns.lt
  refine h s.heap.objs.size h'.objs.size oLg _ (s.toks + binds.length) (s.toks + binds.length + 1) _ ?_ hn0 ((F.keeps hk₁).push _) ?_ (fun q hq => Heap.lt_size (N q hq).1) hL hlt (hns.push _)
  · exact Nat.le_trans F.above (Nat.le_of_lt hL)
  · intro q hq
    rcases List.mem_cons.mp hq with rfl | hq
    · exact ⟨Heap.get?_push_size _ rfl, Nat.ne_of_gt (Nat.lt_trans hL hlt), hn1⟩
    · rcases List.mem_cons.mp hq with rfl | hq
      · exact ⟨Heap.get?_push_of_some _ hg, Nat.ne_of_gt hL, hn0⟩
      · exact ⟨Heap.get?_push_of_some _ (hk₁ _ _ (N q hq).1), (N q hq).2⟩
theorem keeps_of {h' h4 h₀ : Heap} {Lg IL lr : Addr} {lo oIL : Obj} {rest : Led} {m4 : Str → Option Value} (hr2 : ∀ b o, h'.get? b = some o → b ≠ Lg → h₀.get? b = none → b ∉ [IL, lr] → (b, o) ∈ rest)
    (hkeep : ∀ b o, h₀.get? b = some o → h'.get? b = some o) (hlr : h'.get? lr = some lo) (F4 : Fr h₀ Lg h4 m4) (N4 : News h₀ Lg h4 ((IL, oIL) :: (lr, lo) :: rest)) : GenKeeps Lg IL h' h4 := by
  intro b o hL hI hb
  cases e : h₀.get? b with
  | some o' =>
    have := hkeep _ _ e
    rw [hb] at this
    cases this
    exact F4.keep _ _ e
  | none =>
    by_cases hl : b = lr
    · subst hl
      rw [hlr] at hb
      cases hb
      exact (N4 _ (.tail _ (.head _))).1
    · refine (N4 _ (.tail _ (.tail _ (hr2 b o hb hL e ?_)))).1
      intro hm
      rcases List.mem_cons.mp hm with h | hm
      · exact hI h
      · exact hl (List.mem_singleton.mp hm)
theorem GenKeeps.trans {Lg IL : Addr} {h1 h2 h3 : Heap} (a : GenKeeps Lg IL h1 h2) (b : GenKeeps Lg IL h2 h3) : GenKeeps Lg IL h1 h3 := fun x o n1 n2 e => b x o n1 n2 (a x o n1 n2 e)
theorem GenKeeps.of_same {Lg IL : Addr} {h1 h2 : Heap} (a : Heap.SameBut IL h1 h2) : GenKeeps Lg IL h1 h2 := fun x o _ n2 e => a.extBut x o n2 e
theorem ns_obj {h : Heap} {a : Addr} {m : Str → Option Value} (hn : h.Ns a m) : ∃ o, h.get? a = some o := let ⟨o, _, _, e, _⟩ := hn; ⟨o, e⟩
end Mine
end

section
open PySem PySem.W PyProof.Rows
namespace Mine

set_option maxRecDepth 100000 in
set_option maxHeartbeats 8000000 in
theorem gen_call (w : World) (s₀ : Shared) (mg mb : Str → Option Value) (dp un : Nat) (gd : Option (List Code)) (cn : Str) (cs : Scope) (La a : Addr) (ccd : Value) (cl : List (Str × Addr)) (outer : List Env) (env : Env)
    (NN : Nat) (h₀ : Heap) (L : Addr) (s : Shared) (m : Str → Option Value) (news : Led) (lr : Addr) (vs : List Value) (cap : Nat) (rs : List Int) (Q E : Value → Shared → Prop)
    (F : Fr h₀ L s.heap m) (X : (hd.heap_1 w.params).In h₀) (N : News h₀ L s.heap news) (T : Top hdview (looseW hdview [Str.ofString "Whitespace"]) (ExcName.means s₀.heap) mg mb h₀)
    (hlr : (lr, listOf vs.toArray cap) ∈ news) (hi : IntsAre vs rs) (hb : ∀ y ∈ rs, 0 ≤ y ∧ y ≤ 127) (hh0 : rs.head? ≠ some 0) (hroom : dp + 4 < recursionLimit)
    (hret : ∀ (Lg G : Addr) (oLg : Obj) (h₁ : Heap) (nm qn : Str) (t1 t2 : Tok) (tk : Nat) (gs : GenState), h₀.objs.size ≤ Lg → h₀.get? Lg = none → Fr h₀ L h₁ m → News h₀ L h₁ ((G, genObj s.gens.size nm qn t1 t2) :: (Lg, oLg) :: news) → (∀ q ∈ news, q.1 < Lg) → L < Lg → Lg < G →
      GenReady Challenge.rw_sh0037_01.row.prog w ((ktrTop dp un gd cn cs La a ccd cl outer).deeper env) h₀ Lg lr vs cap (NN + 1) (genOut rs 0) (NN + 1) s.gens.size oLg [] gs →
      Q (.ref G) { s with gens := s.gens.push gs, toks := tk, heap := h₁ }) :
    wpAny (model Challenge.rw_sh0037_01.row.prog w) ((ktrTop dp un gd cn cs La a ccd cl outer).deeper env) (call (.ref 108) [.ref lr]) Q E s := by
  revert X; k_fill; intro X; w_top off
  k_dflt (refine' call_gen (args := ⟨[.ref lr], []⟩) F X N T ?ho ?hcd ?hroom ?hbind ?hloc ?hco ?hgen ?hk ?hcell ?_)
  case ho => exact rfl
  case hcd => exact rfl
  case hroom => ktr_room
  case hbind => exact BindsTo.of_eq rfl
  case hloc => exact locs rfl
  case hco => exact rfl
  case hgen => exact rfl
  case hk => exact rfl
  case hcell => decide
  intro Lg G oLg h₁ t1 t2 tk hLg hLg0 F1 N1 hnl hLL hLG hns
  refine hret Lg G oLg h₁ _ _ t1 t2 tk _ hLg hLg0 F1 N1 hnl hLL hLG ⟨rfl, fun s'' e1 _ e3 e4 => ⟨rfl, ?_⟩⟩
  have hlr1 := (N1 _ (.tail _ (.tail _ hlr))).1
  have hlr0 := (N1 _ (.tail _ (.tail _ hlr))).2.2
  have hne : lr ≠ Lg := Nat.ne_of_lt (hnl _ hlr)
  have hg0 := (N1 _ (.tail _ (.head _))).1
  have f1 : (s''.setGen s.gens.size .running).heap.get? Lg = some oLg := e1
  have f3 : (s''.setGen s.gens.size .running).heap.get? lr = some (listOf vs.toArray cap) := e3
  have f4 : ∀ b o, h₀.get? b = some o → (s''.setGen s.gens.size .running).heap.get? b = some o := e4
  generalize s''.setGen s.gens.size .running = sg at f1 f3 f4 ⊢
  clear e1 e3 e4 hret F1 N1 N F
  have FG := Fr.mk (ns_move hns hg0 f1) f4 hLg
  obtain ⟨rest, hr1, hr2⟩ := all_news h₀ sg.heap Lg [lr]
  have NG : News h₀ Lg sg.heap ((lr, listOf vs.toArray cap) :: rest) := fun q hq => by
    rcases List.mem_cons.mp hq with rfl | hq
    · exact ⟨f3, hne, hlr0⟩
    · exact hr1 q hq
  refine seg_func ?_
  refine seg_execs ?_
  repeat' ((fail_if_success (with_reducible show KswEnd _ _ _ _ _ _ _ _ _ _ _ _)); (fail_if_success (with_reducible show wpAny _ _ (exec (Stmt.While _ _ _ _) _) _ _ _)); (fail_if_success (with_reducible show wpAny _ _ (pyIter _) _ _ _)); (first | (k_unfold; (try dsimp only)) | walk1 | (dsimp only; walk1) | (leave1; try dsimp only)))
  (rename Fr _ _ _ _ => F2); (rename News _ _ _ _ => N2)
  dsimp only
  refine seg_execs_cons (seg_For ?_)
  repeat' ((fail_if_success (with_reducible show KswEnd _ _ _ _ _ _ _ _ _ _ _ _)); (fail_if_success (with_reducible show wpAny _ _ (exec (Stmt.While _ _ _ _) _) _ _ _)); (fail_if_success (with_reducible show wpAny _ _ (pyIter _) _ _ _)); (first | (k_unfold; (try dsimp only)) | walk1 | (dsimp only; walk1) | (leave1; try dsimp only)))
  rename_i h2
  have hls : h2.IsList lr vs.toArray := ⟨_, (N2 _ (.head _)).1, rfl, cap, rfl⟩
  refine wpAny_pyIter_list hls ?_
  intro p
  dsimp only
  have hILg : Lg < h2.objs.size := F2.ns.lt
  have hILn : h2.get? h2.objs.size = none := by
    cases e : h2.get? h2.objs.size with
    | none => rfl
    | some o => exact absurd (Heap.lt_size e) (Nat.lt_irrefl _)
  have hIL0 : h₀.get? h2.objs.size = none := by
    cases e : h₀.get? h2.objs.size with
    | none => rfl
    | some o => rw [F2.keep _ _ e] at hILn; cases hILn
  have hILr : lr ≠ h2.objs.size := Nat.ne_of_lt (Heap.lt_size (N2 _ (.head _)).1)
  have hsgk : ∀ b o, b ≠ Lg → sg.heap.get? b = some o → h2.get? b = some o := fun b o hbL hb => by
    rcases Decidable.em (b ∈ [lr]) with hl | hl
    · rw [List.mem_singleton.mp hl] at hb ⊢
      rw [f3] at hb
      cases hb
      exact (N2 _ (.head _)).1
    · cases e : h₀.get? b with
      | none => exact (N2 _ (.tail _ (hr2 b o hb hbL e hl))).1
      | some o' =>
        have := f4 _ _ e
        rw [hb] at this
        cases this
        exact F2.keep _ _ e
  have hsgn : sg.heap.get? h2.objs.size = none := by
    cases e : sg.heap.get? h2.objs.size with
    | none => rfl
    | some o => rw [hsgk _ _ (Nat.ne_of_gt hILg) e] at hILn; cases hILn
  refine seg_ind (fun n s₀ s => ∃ (i : Nat) (v : Value) (last : Int) (u : Str → Option Value) (h : Heap) (tk : Nat), s = { s₀ with heap := h, toks := tk } ∧ Fr h₀ Lg h (fun y => if y = Str.ofString "last_interval" then some v else u y) ∧ h.IsListIter h2.objs.size lr i ∧ h.get? lr = some (listOf vs.toArray cap) ∧
    (s₀.heap.get? h2.objs.size = none ∨ ∃ o, s₀.heap.get? h2.objs.size = some o ∧ ItObj o) ∧ GenKeeps Lg h2.objs.size s₀.heap h ∧ ((v = .none ∧ i = 0) ∨ ∃ t, v = .int last t) ∧ (∀ k, genOut (rs.drop i) last k = genOut rs 0 (NN + 1 - (n + 1) + k)) ∧ n ≤ NN) ?step NN _ _ ?inv0
  case inv0 =>
    exact exI6 0 .none 0 _ _ _ ⟨rfl, F2.push _, ⟨_, Heap.get?_push_size _ rfl, rfl, rfl⟩, Heap.get?_push_of_some _ (N2 _ (.head _)).1, .inl hsgn, fun b o hbL hbI hb => Heap.get?_push_of_some _ (hsgk b o hbL hb), .inl ⟨rfl, rfl⟩, fun k => by rw [List.drop_zero]; congr 1; omega, Nat.le_refl _⟩
  case step =>
    clear hls hsgk hsgn hr1 hr2; clear f1 f3 f4; clear F2 N2
    intro n s₀' s hA
    refine ex6 hA fun i v last u h tk hB => and9 hB fun hE Fi hit hl hfr hk hv hout hn => ?_
    clear hA hB
    subst hE
    intro IH
    have hls : h.IsList lr vs.toArray := ⟨_, hl, rfl, cap, rfl⟩
    refine seg_forLoop ?_
    rcases Nat.lt_or_ge i rs.length with hlt | hge
    · obtain ⟨t, hvt⟩ := hi.get i rs[i] (List.getElem?_eq_getElem hlt)
      have hxb := hb rs[i] (List.getElem_mem hlt)
      have hdrop : rs.drop i = rs[i] :: rs.drop (i + 1) := List.drop_eq_getElem_cons hlt
      generalize hx : rs[i] = x at *
      refine wpAny_pyNext_list_item hit hls (by simpa using hvt) fun h' hit' hs' => ?_
      dsimp only
      refine wpAny_pure ?_
      obtain ⟨oIL, hoI, hoc0, hod⟩ := id hit'
      have hoc : ItObj oIL := ⟨hoc0, fun v e => by rw [hod] at e; cases e⟩
      obtain ⟨rest', hr1, hr2⟩ := all_news h₀ h' Lg [h2.objs.size, lr]
      have F3 : Fr h₀ Lg h' (fun y => if y = Str.ofString "last_interval" then some v else u y) := ⟨Fi.ns.sameBut hs' (Nat.ne_of_lt hILg), fun b o e => hs'.extBut b o (fun q => by rw [q, hIL0] at e; cases e) (Fi.keep b o e), Fi.above⟩
      have N3 : News h₀ Lg h' ((h2.objs.size, oIL) :: (lr, listOf vs.toArray cap) :: rest') := fun q hq => by
        rcases List.mem_cons.mp hq with rfl | hq
        · exact ⟨hoI, Nat.ne_of_gt hILg, hIL0⟩
        rcases List.mem_cons.mp hq with rfl | hq
        · exact ⟨hs'.extBut _ _ hILr hl, hne, hlr0⟩
        · exact hr1 q hq
      have hk3 := F3.keep
      have hl3 := hs'.extBut _ _ hILr hl
      repeat' ((fail_if_success (with_reducible show KswEnd _ _ _ _ _ _ _ _ _ _ _ _)); (fail_if_success (with_reducible show wpAny _ _ (exec (Stmt.While _ _ _ _) _) _ _ _)); (fail_if_success (with_reducible show wpAny _ _ (pyIter _) _ _ _)); (first | (k_unfold; (try dsimp only)) | walk1 | (dsimp only; walk1) | (leave1; try dsimp only)))
      dsimp only
      refine seg_If ?_
      repeat' ((fail_if_success (with_reducible show KswEnd _ _ _ _ _ _ _ _ _ _ _ _)); (fail_if_success (with_reducible show wpAny _ _ (exec (Stmt.While _ _ _ _) _) _ _ _)); (fail_if_success (with_reducible show wpAny _ _ (pyIter _) _ _ _)); (first | (k_unfold; (try dsimp only)) | walk1 | (dsimp only; walk1) | (leave1; try dsimp only)))
      (rename Fr _ _ _ _ => F4); (rename News _ _ _ _ => N4)
      rename_i h4
      have hk4 : GenKeeps Lg h2.objs.size s₀'.heap h4 := (hk.trans (.of_same hs')).trans (keeps_of hr2 hk3 hl3 F4 N4)
      rcases Decidable.em (x = 127) with h127 | h127
      · subst h127
        rw [if_pos (by simp)]
        refine seg_execs ?_
        repeat' ((fail_if_success (with_reducible show KswEnd _ _ _ _ _ _ _ _ _ _ _ _)); (fail_if_success (with_reducible show wpAny _ _ (exec (Stmt.While _ _ _ _) _) _ _ _)); (fail_if_success (with_reducible show wpAny _ _ (pyIter _) _ _ _)); (first | (k_unfold; (try dsimp only)) | walk1 | (dsimp only; walk1) | (leave1; try dsimp only)))
        refine seg_leaf (.ok (.ret .none)) ?_
        refine seg_end (.ok (.ret .none)) ⟨rfl, ?_, h2.objs.size, _, _, rfl, hILg, hfr, hk4⟩
        have := hout 0
        rw [hdrop, genOut_stop] at this
        exact this.symm
      · rw [if_neg (by simpa using h127)]
        refine seg_execs_nil ?_
        dsimp only
        refine seg_If ?_
        repeat' ((fail_if_success (with_reducible show KswEnd _ _ _ _ _ _ _ _ _ _ _ _)); (fail_if_success (with_reducible show wpAny _ _ (exec (Stmt.While _ _ _ _) _) _ _ _)); (fail_if_success (with_reducible show wpAny _ _ (pyIter _) _ _ _)); (first | (k_unfold; (try dsimp only)) | walk1 | (dsimp only; walk1) | (leave1; try dsimp only)))
        rcases Decidable.em (x = 0) with h0 | h0
        · subst h0
          rw [if_pos (by simp)]
          obtain ⟨tl, rfl⟩ : ∃ t, v = .int last t := by
            rcases hv with ⟨_, hi0⟩ | hv
            · subst hi0
              exact absurd (by rw [List.head?_eq_getElem?, List.getElem?_eq_getElem hlt, hx]) hh0
            · exact hv
          refine seg_If ?_
          repeat' ((fail_if_success (with_reducible show KswEnd _ _ _ _ _ _ _ _ _ _ _ _)); (fail_if_success (with_reducible show wpAny _ _ (exec (Stmt.While _ _ _ _) _) _ _ _)); (fail_if_success (with_reducible show wpAny _ _ (pyIter _) _ _ _)); (first | (k_unfold; (try dsimp only)) | walk1 | (dsimp only; walk1) | (leave1; try dsimp only)))
          refine seg_execs_nil ?_
          dsimp only
          refine seg_execs_cons (seg_While ?_)
          intro p2
          (rename Fr _ _ _ _ => F5); (rename News _ _ _ _ => N5)
          have hinf : ∀ k, NN - n ≤ k → genOut rs 0 k = some last := fun k hkn => by
            have := hout (k - (NN - n))
            rw [hdrop, genOut_rep] at this
            rw [this]; congr 1; omega
          clear hout IH
          refine seg_ind (fun n' s₀ s => ∃ (u : Str → Option Value) (h : Heap) (tk : Nat), s = { s₀ with heap := h, toks := tk } ∧ Fr h₀ Lg h (fun y => if y = Str.ofString "last_interval" then some (.int last tl) else u y) ∧ h.get? h2.objs.size = some oIL ∧ h.get? lr = some (listOf vs.toArray cap) ∧
            (s₀.heap.get? h2.objs.size = none ∨ ∃ o, s₀.heap.get? h2.objs.size = some o ∧ ItObj o) ∧ GenKeeps Lg h2.objs.size s₀.heap h ∧ n' ≤ n) ?step2 n _ _ ?inv2
          case inv2 => exact exI3 (fun y => if y = Str.ofString "interval" then some (.int 0 t) else u y) _ _ ⟨rfl, fr_congr F5 (fun z => by by_cases hz : z = Str.ofString "last_interval"; (subst hz; rfl); (simp only [if_neg hz])), (N5 _ (.head _)).1, (N5 _ (.tail _ (.head _))).1, hfr, hk4, Nat.le_refl _⟩
          case step2 =>
            clear F5 N5
            intro n' s₁ s hA
            refine ex3 hA fun u h tk hB => and7 hB fun hE Fi hoI hl hfr hk hn' => ?_
            clear hA hB
            subst hE
            intro IH
            refine seg_whileLoop ?_
            obtain ⟨rest2, hr1, hr2⟩ := all_news h₀ h Lg [h2.objs.size, lr]
            have N3 : News h₀ Lg h ((h2.objs.size, oIL) :: (lr, listOf vs.toArray cap) :: rest2) := fun q hq => by
              rcases List.mem_cons.mp hq with rfl | hq
              · exact ⟨hoI, Nat.ne_of_gt hILg, hIL0⟩
              rcases List.mem_cons.mp hq with rfl | hq
              · exact ⟨hl, hne, hlr0⟩
              · exact hr1 q hq
            have hk3 := Fi.keep
            repeat' ((fail_if_success (with_reducible show KswEnd _ _ _ _ _ _ _ _ _ _ _ _)); (fail_if_success (with_reducible show wpAny _ _ (exec (Stmt.While _ _ _ _) _) _ _ _)); (fail_if_success (with_reducible show wpAny _ _ (pyIter _) _ _ _)); (first | (k_unfold; (try dsimp only)) | walk1 | (dsimp only; walk1) | (leave1; try dsimp only)))
            refine seg_execs_cons (seg_Expr_Yield rfl rfl rfl ?_)
            repeat' ((fail_if_success (with_reducible show KswEnd _ _ _ _ _ _ _ _ _ _ _ _)); (fail_if_success (with_reducible show wpAny _ _ (exec (Stmt.While _ _ _ _) _) _ _ _)); (fail_if_success (with_reducible show wpAny _ _ (pyIter _) _ _ _)); (first | (k_unfold; (try dsimp only)) | walk1 | (dsimp only; walk1) | (leave1; try dsimp only)))
            rename_i kap hkap
            (rename Fr _ _ _ _ => F6); (rename News _ _ _ _ => N6)
            obtain ⟨oLg', hoL⟩ := ns_obj F6.ns
            refine exI7 last tl h2.objs.size oLg' oIL _ _ ⟨rfl, hinf _ (by omega), rfl, hoL, (N6 _ (.head _)).1, hoc, hILg, hfr, hk.trans (keeps_of hr2 hk3 hl F6 N6), fun hn0 s'' e1 e2 e3 e4 => hkap .none s'' ?_⟩
            dsimp only
            refine seg_execs_nil ?_
            dsimp only
            refine seg_again rfl ?_
            exact IH _ _ hn0 (exI3 u s''.heap s''.toks ⟨rfl, ⟨ns_move F6.ns hoL e1, e4, hLg⟩, e2, e3, .inr ⟨oIL, e2, hoc⟩, fun _ _ _ _ e => e, by omega⟩)
        · rw [if_neg (by simpa using h0)]
          refine seg_execs_nil ?_
          dsimp only
          refine seg_execs_cons (seg_Expr_Yield rfl rfl rfl ?_)
          repeat' ((fail_if_success (with_reducible show KswEnd _ _ _ _ _ _ _ _ _ _ _ _)); (fail_if_success (with_reducible show wpAny _ _ (exec (Stmt.While _ _ _ _) _) _ _ _)); (fail_if_success (with_reducible show wpAny _ _ (pyIter _) _ _ _)); (first | (k_unfold; (try dsimp only)) | walk1 | (dsimp only; walk1) | (leave1; try dsimp only)))
          rename_i kap hkap
          (rename Fr _ _ _ _ => F6); (rename News _ _ _ _ => N6)
          obtain ⟨oLg', hoL⟩ := ns_obj F6.ns
          have hx0 := hout 0
          rw [hdrop, genOut_first h127 h0] at hx0
          refine exI7 x t h2.objs.size oLg' oIL _ _ ⟨rfl, hx0.symm, rfl, hoL, (N6 _ (.head _)).1, hoc, hILg, hfr, hk4, fun hn0 s'' e1 e2 e3 e4 => hkap .none s'' ?_⟩
          dsimp only
          have F7 := Fr.mk (ns_move F6.ns hoL e1) e4 hLg
          obtain ⟨rest2, hr1', hr2'⟩ := all_news h₀ s''.heap Lg [h2.objs.size, lr]
          have N7 : News h₀ Lg s''.heap ((h2.objs.size, oIL) :: (lr, listOf vs.toArray cap) :: rest2) := fun q hq => by
            rcases List.mem_cons.mp hq with rfl | hq
            · exact ⟨e2, Nat.ne_of_gt hILg, hIL0⟩
            rcases List.mem_cons.mp hq with rfl | hq
            · exact ⟨e3, hne, hlr0⟩
            · exact hr1' q hq
          clear F6 N6 hkap
          refine seg_execs ?_
          repeat' ((fail_if_success (with_reducible show KswEnd _ _ _ _ _ _ _ _ _ _ _ _)); (fail_if_success (with_reducible show wpAny _ _ (exec (Stmt.While _ _ _ _) _) _ _ _)); (fail_if_success (with_reducible show wpAny _ _ (pyIter _) _ _ _)); (first | (k_unfold; (try dsimp only)) | walk1 | (dsimp only; walk1) | (leave1; try dsimp only)))
          (try dsimp only)
          refine seg_execs_nil ?_
          (try dsimp only)
          refine seg_again rfl ?_
          (rename Fr _ _ _ _ => F8); (rename News _ _ _ _ => N8)
          refine IH _ _ hn0 (exI6 (i + 1) _ x _ _ _ ⟨rfl, F8, ⟨oIL, (N8 _ (.head _)).1, hoc0, hod⟩, (N8 _ (.tail _ (.head _))).1, .inr ⟨oIL, e2, hoc⟩, keeps_of hr2' e4 e3 F8 N8, .inr ⟨_, rfl⟩, fun k => ?_, by omega⟩)
          have hxk := hout (k + 1)
          rw [hdrop, genOut_next h127 h0] at hxk
          rw [hxk]; congr 1; omega
    · refine wpAny_pyNext_list_end rfl hit hls (by simp [← hi.length] at hge ⊢; exact hge) fun h' hk' => ?_
      dsimp only
      refine seg_block_nil ?_
      refine seg_leaf _ ?_
      refine seg_end (.ok (.ret .none)) ⟨rfl, ?_, h2.objs.size, _, _, rfl, hILg, hfr, hk.trans fun b o _ hbI e => hk' b o hbI e⟩
      have := hout 0
      rw [List.drop_eq_nil_of_le hge] at this
      exact this.symm
end Mine
end

section
open PySem PySem.W PyProof.Rows
namespace Mine
section
variable {prog : Program} {w : World} {A : Around} {E : Value → Shared → Prop} {s : Shared}
theorem next_gen {a : Addr} {g n : Nat} {gs : GenState} {P : Nat → Shared → Shared → Prop} {Y : Protocol} {Q : Option Value → Shared → Prop} (hh : A.handled = none)
    (hl : s.heap.NoLimit) (hroom : A.depth < recursionLimit)
    (hg : s.heap.IsGen a g) (hgs : s.gens[g]? = some gs)
    (hgo : gs.Goes (model prog w) A.in1 (fun n s₀ r s₁ => r = .ok (.ret .none) ∧ P n s₀ s₁) Y n (.send .none) (s.setGen g .running))
    (hY : ∀ v s₁ gs', gs'.bare = true → Y (n - 1) (s.setGen g .running) v s₁ (fun r' s'' => match n with
        | 0 => False
        | m + 1 => gs'.Goes (model prog w) A.in1 (fun n s₀ r s₁ => r = .ok (.ret .none) ∧ P n s₀ s₁) Y m r' s'') → Q (some v) (s₁.setGen g gs'))
    (hP : ∀ s₁, P n (s.setGen g .running) s₁ → ∀ h', (∀ b o, s₁.heap.get? b = some o → h'.get? b = some o) → Q none { s₁.setGen g .finished with heap := h' }) :
    wpAny (model prog w) A (pyNext (.ref a)) Q E s := by
  unfold pyNext
  refine wpAny_bind (wpAny_attempt (wpAny_callSpecial?_slot (name := Str.ofString "__next__") hg.typeIs slot_gen_next
    (wpAny_call_entry slot_gen_next hg.typeIs entry_gen_next ?_ (args_gen_next _))))
  show wpAny _ A.in1 (Builtin.Generator.genWake (.ref a) (.send .none)) _ _ s
  unfold Builtin.Generator.genWake
  refine wpAny_bind (wpAny_holding (wpAny_genNumber hg (wpAny_bind (wpAny_genState hgs ?_))))
  cases gs with
  | running => exact hgo.elim
  | finished => exact hgo.elim
  | _ =>
    refine wpAny_bind (wpAny_roomToWake hl hroom ?_)
    show wpAny _ A.in1 (.resume g (.send .none) [] _) _ _ s
    refine wpAny_resumeQ hgs hgo (fun x s₁ hx => ?_) (fun v s₁ gs' hb hv => ?_)
    · obtain ⟨rfl, hp⟩ := hx
      show wpAny _ A.in1 (newExc (.type "StopIteration") [] >>= _) _ _ _
      refine wpAny_bind ?_
      simp only [newExc, newTuple]
      refine wpAny_bind (wpAny_newObj_type ?_ (by size_fits))
      refine wpAny_bind (m := firstArgMember _ _) (wpAny_of_eq (a := Value.none) (by first | rfl | (simp only [firstArgMember]; rfl)) ?_)
      refine wpAny_newObj_type ?_ (by size_fits)
      simp only [raiseNew]
      refine wpAny_bind (wpAny_bind (wpAny_handled ?_))
      first | rw [show A.in1.handled = none from hh] | rw [hh]
      refine wpAny_throw ?_
      refine wpAny_bind (wpAny_isInstance (T := "StopIteration") (b := true) ⟨_, Heap.get?_push_size _ rfl, rfl⟩ isSubtype_stop ?_)
      exact wpAny_pure (hP s₁ hp _ fun b o hb => Heap.get?_push_of_some _ (Heap.get?_push_of_some _ hb))
    · exact wpAny_pure ⟨v, rfl, wpAny_pure (hY v s₁ gs' hb hv)⟩
noncomputable abbrev frM {h₀ : Heap} {L : Addr} {h : Heap} {m : Str → Option Value} (_ : Fr h₀ L h m) : Str → Option Value := m
theorem bare_set {gens : Array GenState} {gi : Nat} {g : GenState} (h : AllBare gens) (hb : g.bare = true) : AllBare (gens.setIfInBounds gi g) := by
  intro y hy
  obtain ⟨i, hi, rfl⟩ := Array.mem_iff_getElem.mp hy
  rw [Array.getElem_setIfInBounds (by simpa using hi)]
  split
  · exact hb
  · exact h _ (Array.getElem_mem _)
theorem bare_push {gens : Array GenState} {g : GenState} (h : AllBare gens) (hb : g.bare = true) : AllBare (gens.push g) := by
  intro y hy
  rcases Array.mem_push.mp hy with hy | rfl
  · exact h y hy
  · exact hb
/-- one asking of the generator -/
theorem gen_pull {h₀ : Heap} {L Lg lr G : Addr} {vs : List Value} {cap N : Nat} {out : Nat → Option Int} {n gi : Nat} {oLg : Obj} {own news : Led} {gs : GenState} {m : Str → Option Value} {nm qn : Str} {t1 t2 : Tok} {Q : Option Value → Shared → Prop}
    (hh : A.handled = none) (hl : h₀.NoLimit) (hroom : A.depth < recursionLimit)
    (F : Fr h₀ L s.heap m) (N0 : News h₀ L s.heap ((G, genObj gi nm qn t1 t2) :: (Lg, oLg) :: (own ++ news))) (hlr : (lr, listOf vs.toArray cap) ∈ news)
    (hown : ∀ p ∈ own, ItObj p.2) (hnews : ∀ p ∈ news, ¬ ItObj p.2 ∧ p.1 ≠ Lg) (hLd : L < Lg) (hGL : G ≠ Lg) (hbase : h₀.objs.size ≤ Lg)
    (hgs : s.gens[gi]? = some gs) (hbare : AllBare s.gens) (R : GenReady prog w A h₀ Lg lr vs cap N out (n + 1) gi oLg own gs)
    (hY : ∀ (x : Int) (t : Tok) (IL : Addr) (oLg' oIL : Obj) (gs' : GenState) (g' : Array GenState) (h' : Heap) (tk : Nat), out (N - (n + 1)) = some x → Fr h₀ L h' m → News h₀ L h' ((G, genObj gi nm qn t1 t2) :: (Lg, oLg') :: ([(IL, oIL)] ++ news)) → Lg < IL → ItObj oIL →
      g'[gi]? = some gs' → AllBare g' → (0 < n → GenReady prog w A h₀ Lg lr vs cap N out n gi oLg' [(IL, oIL)] gs') → Q (some (.int x t)) { s with gens := g', heap := h', toks := tk })
    (hP : ∀ (g' : Array GenState) (h' : Heap) (tk : Nat), out (N - (n + 1)) = none → Fr h₀ L h' m → News h₀ L h' news → AllBare g' → Q none { s with gens := g', heap := h', toks := tk }) :
    wpAny (model prog w) A (pyNext (.ref G)) Q E s := by
  have hG := (N0 _ (.head _))
  have hg : s.heap.IsGen G gi := ⟨_, _, _, hG.1, rfl, rfl, rfl⟩
  have hgi : gi < s.gens.size := (Array.getElem?_eq_some_iff.mp hgs).1
  have keepF : ∀ (IL : Addr) (h' : Heap), (s.heap.get? IL = none ∨ ∃ o, s.heap.get? IL = some o ∧ ItObj o) → Lg < IL → GenKeeps Lg IL s.heap h' → Fr h₀ L h' m ∧ News h₀ L h' news ∧ h'.get? G = some (genObj gi nm qn t1 t2) ∧ h₀.get? IL = none := by
    intro IL h' hfr hLI hk
    have h0 : h₀.get? IL = none := by
      cases e : h₀.get? IL with
      | none => rfl
      | some o => exact absurd (Nat.lt_of_lt_of_le (Heap.lt_size e) hbase) (Nat.not_lt.mpr (Nat.le_of_lt hLI))
    have ne : ∀ a o, s.heap.get? a = some o → ¬ ItObj o → a ≠ IL := fun a o ha hc e => by
      rcases hfr with h | ⟨o', h, hc'⟩
      · rw [← e, ha] at h; cases h
      · rw [← e, ha] at h; cases h; exact hc hc'
    refine ⟨⟨F.ns.at' fun o e => hk L o (Nat.ne_of_lt hLd) (Nat.ne_of_lt (Nat.lt_trans hLd hLI)) e, fun b o e => hk b o ?_ ?_ (F.keep b o e), F.above⟩, fun p hp => ⟨hk _ _ (hnews p hp).2 (ne _ _ (N0 p (.tail _ (.tail _ (List.mem_append_right _ hp)))).1 (hnews p hp).1) (N0 p (.tail _ (.tail _ (List.mem_append_right _ hp)))).1, (N0 p (.tail _ (.tail _ (List.mem_append_right _ hp)))).2⟩, hk _ _ hGL (ne _ _ hG.1 ?_) hG.1, h0⟩
    · exact Nat.ne_of_lt (Nat.lt_of_lt_of_le (Heap.lt_size e) hbase)
    · exact Nat.ne_of_lt (Nat.lt_trans (Nat.lt_of_lt_of_le (Heap.lt_size e) hbase) hLI)
    · exact fun e => by have e1 := e.1; simp at e1
  have hLg := N0 _ (.tail _ (.head _))
  have hgo := R.2 s hLg.1 (fun p hp => (N0 p (.tail _ (.tail _ (List.mem_append_left _ hp)))).1) (N0 _ (.tail _ (.tail _ (List.mem_append_right _ hlr)))).1 F.keep
  refine next_gen (P := fun n s₀ s₁ => out (N - n) = none ∧ ∃ (IL : Addr) (h₁ : Heap) (tk : Nat), s₁ = { s₀ with heap := h₁, toks := tk } ∧ Lg < IL ∧ (s₀.heap.get? IL = none ∨ ∃ o, s₀.heap.get? IL = some o ∧ ItObj o) ∧ GenKeeps Lg IL s₀.heap h₁) hh (hl.keeps F.keep) hroom hg hgs hgo (fun v s₁ gs' hb hy => ?_) (fun s₁ hp h' hk => ?_)
  · refine ex7 hy fun x t IL oLg' oIL h₁ tk hB => and10 hB fun hE1 ho hE2 e1 e2 hc hlt hfr hk hgoes => ?_
    clear hy hB
    subst hE1
    subst hE2
    obtain ⟨F', N', hG', h0⟩ := keepF IL h₁ hfr hlt hk
    refine hY x t IL oLg' oIL gs' ((s.gens.setIfInBounds gi .running).setIfInBounds gi gs') h₁ tk ho F' (fun p hp => ?_) hlt hc ?_ (bare_set (bare_set hbare rfl) hb) fun hn => ⟨hb, fun s'' f1 f2 f3 f4 => ?_⟩
    · rcases List.mem_cons.mp hp with rfl | hp
      · exact ⟨hG', hG.2⟩
      rcases List.mem_cons.mp hp with rfl | hp
      · exact ⟨e1, hLg.2⟩
      rcases List.mem_cons.mp hp with rfl | hp
      · exact ⟨e2, Nat.ne_of_gt (Nat.lt_trans hLd hlt), h0⟩
      · exact N' p hp
    · rw [Array.getElem?_setIfInBounds_self_of_lt (by simpa using hgi)]
    · exact hgoes hn (s''.setGen gi .running) f1 (f2 _ (.head _)) f3 f4
  · obtain ⟨ho, IL, h₁, tk, rfl, hlt, hfr, hk₁⟩ := hp
    obtain ⟨F', N', _, _⟩ := keepF IL h₁ hfr hlt hk₁
    exact hP ((s.gens.setIfInBounds gi .running).setIfInBounds gi .finished) h' tk ho (F'.keeps hk) (N'.grown hk) (bare_set (bare_set hbare rfl) rfl)
end
end Mine
end

section
open PySem PySem.W PyProof.Rows
namespace Mine

/-- Cl, for a def that leaves a generator behind -/
noncomputable abbrev ClG (w : World) (s₀ : Shared) (mg mb : Str → Option Value) (lvl : Nat) (f : Addr) (vs : List Value) (news : Led) (pre : Prop)
    (Ret : Heap → Addr → (Str → Option Value) → Shared → (Value → Shared → Prop) → Prop) : Prop :=
  ∀ (dp un : Nat) (gd : Option (List Code)) (cn : Str) (cs : Scope) (a : Addr) (ccd : Value) (cl : List (Str × Addr)) (outer : List Env) (A₀ : Around) (base h₀ : Heap) (L : Addr) (m : Str → Option Value) (s : Shared) (Q E : Value → Shared → Prop),
    Below A₀ base outer h₀ → Fr h₀ L s.heap m → (hd.heap_1 w.params).In h₀ → News h₀ L s.heap news →
    Top hdview (looseW hdview [Str.ofString "Whitespace"]) (ExcName.means s₀.heap) mg mb h₀ → cs.kind = .function →
    pre → AllBare s.gens → dp + 4 * lvl < recursionLimit → un + 20 * lvl < cLine → Ret h₀ L m s Q →
    wpAny (model Challenge.rw_sh0037_01.row.prog w) (ktrTop dp un gd cn cs L a ccd cl outer) (call (.ref f) vs) Q E s
/-- a new list of ints; a generator may have been made -/
noncomputable abbrev RetLG (news : Led) (xs : List Int) : Heap → Addr → (Str → Option Value) → Shared → (Value → Shared → Prop) → Prop := fun h₀ L m s Q =>
  ∀ (l : Addr) (vs : List Value) (n : Nat) (g' : Array GenState) (h' : Heap) (tk' : Nat), Fr h₀ L h' m → News h₀ L h' ((l, listOf vs.toArray n) :: news) → (∀ p ∈ news, p.1 < l) → IntsAre vs xs → AllBare g' → Q (.ref l) { s with gens := g', heap := h', toks := tk' }
noncomputable def groupsGo (out : Nat → Option Int) (count : Int) : Nat → Nat → Int → List Int → List Int
  | 0, _, left, acc => acc ++ [left]
  | k + 1, j, left, acc => match out j with
    | none => acc ++ [left]
    | some size => if size > count then [] else if size ≥ left then acc ++ [left] else groupsGo out count k (j + 1) (left - size) (acc ++ [size])
noncomputable def groupsF (rs : List Int) (count : Int) : List Int := groupsGo (genOut rs 0) count 11 0 count []
theorem genOut_pos : ∀ {rs : List Int} {last : Int} {j : Nat} {x : Int}, (∀ y ∈ rs, 0 ≤ y ∧ y ≤ 127) → (1 ≤ last ∨ rs.head? ≠ some 0) → genOut rs last j = some x → 1 ≤ x ∧ (x ≤ 127 ∨ x = last)
  | [], _, _, _, _, _, h => by unfold genOut at h; cases h
  | r :: rs, last, j, x, hb, hl, h => by
    by_cases h1 : r = 127
    · subst h1; rw [genOut_stop] at h; cases h
    by_cases h2 : r = 0
    · subst h2; rw [genOut_rep] at h
      cases h
      rcases hl with hl | hl
      · exact ⟨hl, .inr rfl⟩
      · exact absurd rfl hl
    have hr := hb r (.head _)
    cases j with
    | zero => rw [genOut_first h1 h2] at h; cases h; exact ⟨by omega, .inl hr.2⟩
    | succ j =>
      rw [genOut_next h1 h2] at h
      have := genOut_pos (fun y hy => hb y (.tail _ hy)) (.inl (by omega)) h
      exact ⟨this.1, .inl (by rcases this.2 with q | q <;> omega)⟩
set_option maxRecDepth 100000 in
set_option maxHeartbeats 8000000 in
theorem groups_spec (w : World) (s₀ : Shared) (mg mb : Str → Option Value) (news : Led) (lr : Addr) (rv : List Value) (rc : Nat) (rs : List Int) (count : Int) (tc : Tok) :
   ClG w s₀ mg mb 2 141 [.ref lr, .int count tc] ((lr, listOf rv.toArray rc) :: news) (IntsAre rv rs ∧ (∀ y ∈ rs, 0 ≤ y ∧ y ≤ 127) ∧ rs.head? ≠ some 0 ∧ 1 ≤ count ∧ count ≤ 10 ∧ (∀ p ∈ news, ¬ ItObj p.2)) (RetLG ((lr, listOf rv.toArray rc) :: news) (groupsF rs count)) := by
  dsimp only [ClG, RetLG]
  k_fill
  w_top off
  intros
  rename_i s0 Q0 E0 hA hB hC hN hT hcs hpre hbare hdp _ hret
  obtain ⟨hi, hb, hh0, hc1, hc2, hni⟩ := hpre
  refine wpAny_call ?_
  k_dflt cell_enter
  k_with_none
  repeat' ((fail_if_success (with_reducible show KswEnd _ _ _ _ _ _ _ _ _ _ _ _)); (fail_if_success (with_reducible show wpAny _ _ (exec (Stmt.While _ _ _ _) _) _ _ _)); (fail_if_success (with_reducible show wpAny _ _ (pyIter _) _ _ _)); (fail_if_success (with_reducible show wpAny _ _ (exec (Stmt.For _ _ _ _ _) _) _ _ _)); (first | (k_unfold; (try dsimp only)) | walk1 | (dsimp only; walk1) | (leave1; try dsimp only)))
  refine wpAny_For ?_
  repeat' ((fail_if_success (with_reducible show KswEnd _ _ _ _ _ _ _ _ _ _ _ _)); (fail_if_success (with_reducible show wpAny _ _ (exec (Stmt.While _ _ _ _) _) _ _ _)); (fail_if_success (with_reducible show wpAny _ _ (pyIter _) _ _ _)); (fail_if_success (with_reducible show wpAny _ _ (call (Value.ref _) _) _ _ _)); (first | (k_unfold; (try dsimp only)) | walk1 | (dsimp only; walk1) | (leave1; try dsimp only)))
  (rename Fr _ _ _ _ => F0); (rename News _ _ _ _ => N0)
  rename_i g L' _ FG B' X' T' _ la _ l1 _ h0
  k_dflt (refine' gen_call w s₀ mg mb _ _ _ _ _ _ _ _ _ _ _ 10 g L' _ _ _ lr rv rc rs _ _ F0 X' N0 T' (.tail _ (.head _)) hi hb hh0 (by ktr_room) ?_)
  intro Lg G oLg h₁ nm qn t1 t2 tk2 gst hLg hLg0 F1 N1 hnl hLL hLG R
  refine wpAny_pyIter_gen ⟨_, _, _, (N1 _ (.head _)).1, rfl, rfl, rfl⟩ ?_
  have hGne : G ≠ Lg := Nat.ne_of_gt hLG
  have hlan : la < Lg := hnl _ (.head _)
  have hlrn : lr < Lg := hnl _ (.tail _ (.head _))
  have hnn : ∀ p ∈ news, p.1 < Lg := fun p hp => hnl _ (.tail _ (.tail _ hp))
  obtain ⟨AA, hAA, R⟩ := (⟨_, rfl, R⟩ : ∃ AA, AA = _ ∧ GenReady _ _ AA _ _ _ _ _ _ _ _ _ _ _ _)
  refine codeAny_forLoop (fun k s' => ∃ (j : Nat) (us : List Value) (gs : List Int) (cap : Nat) (left : Int) (tl : Tok) (u : Str → Option Value) (oLg : Obj) (own : Led) (gst : GenState) (g' : Array GenState) (h : Heap) (tk : Nat),
    s' = { heap := h, gens := g', drawn := s0.drawn, toks := tk, os := s0.os } ∧
    Fr g L' h (fun y => if y = Str.ofString "left" then some (.int left tl) else if y = Str.ofString "groups" then some (.ref la) else if y = Str.ofString "count" then some (.int count tc) else u y) ∧
    News g L' h ((G, genObj s0.gens.size nm qn t1 t2) :: (Lg, oLg) :: (own ++ ((la, listOf us.toArray cap) :: (lr, listOf rv.toArray rc) :: news))) ∧ IntsAre us gs ∧ g'[s0.gens.size]? = some gst ∧ AllBare g' ∧
    GenReady Challenge.rw_sh0037_01.row.prog w AA g Lg lr rv rc 11 (genOut rs 0) (10 - j + 1) s0.gens.size oLg own gst ∧ (∀ p ∈ own, ItObj p.2) ∧
    1 ≤ left ∧ left ≤ count - (j : Int) ∧ groupsGo (genOut rs 0) count (11 - j) j left gs = groupsF rs count ∧ gs.length ≤ j ∧ k = 11 - j) ?turn 11 ?init
  case init =>
    refine exI13 0 [] [] 0 count ?tl0 (frM F1) oLg [] gst _ _ _ ⟨rfl, fr_congr F1 ?zz, N1, .nil, Array.getElem?_push_size, bare_push hbare R.1, R, (fun p hp => nomatch hp), hc1, by simp, rfl, Nat.le_refl _, rfl⟩
    case zz =>
      intro z
      by_cases h1 : z = Str.ofString "left"
      · subst h1; rfl
      by_cases h2 : z = Str.ofString "groups"
      · subst h2; rfl
      by_cases h3 : z = Str.ofString "count"
      · subst h3; rfl
      simp only [frM, if_neg h1, if_neg h2, if_neg h3]
  case turn =>
    clear F0 N0 F1 N1 R
    intro k s' hA
    refine ex13 hA fun j us gs cap left tl u oLg own gst g' h tk hB => and13 hB fun hE F2 N2 hI hgs hbare' R hown hl1 hl2 hgo hgl hK => ?_
    clear hA hB
    subst hE
    subst hK
    subst hAA
    have hj : 11 - j = (10 - j) + 1 := by omega
    refine gen_pull (n := 10 - j) rfl T'.nolimit ?hroom F2 N2 (.tail _ (.head _)) hown ?hnews hLL hGne hLg hgs hbare' R ?hY ?hP
    case hroom => ktr_room
    case hnews =>
      intro p hp
      rcases List.mem_cons.mp hp with rfl | hp
      · exact ⟨fun e => by have e1 := e.1; simp at e1, Nat.ne_of_lt hlan⟩
      rcases List.mem_cons.mp hp with rfl | hp
      · exact ⟨fun e => by have e1 := e.1; simp at e1, Nat.ne_of_lt hlrn⟩
      · exact ⟨hni p hp, Nat.ne_of_lt (hnn p hp)⟩
    case hP =>
      intro g2 h2 tk2 ho F3 N3 hb3
      dsimp only
      clear F2 N2 R
      repeat' ((fail_if_success (with_reducible show KswEnd _ _ _ _ _ _ _ _ _ _ _ _)); (fail_if_success (with_reducible show wpAny _ _ (exec (Stmt.While _ _ _ _) _) _ _ _)); (fail_if_success (with_reducible show wpAny _ _ (pyIter _) _ _ _)); (first | (k_unfold; (try dsimp only)) | walk1 | (dsimp only; walk1) | (leave1; try dsimp only)))
      have he : gs ++ [left] = groupsF rs count := by
        rw [← hgo, hj, groupsGo, show genOut rs 0 j = none by rw [← ho]; congr 1; omega]
      (rename IntsAre _ (gs ++ [left]) => hI2); (rename Fr _ _ _ _ => F5); (rename News _ _ _ _ => N5)
      rw [he] at hI2
      refine hret _ _ 0 g2 _ _ F5 (fun p hp => N5 p ?_) (by (intro p hp; first | exact allLt_mem (l := (lr, listOf rv.toArray rc) :: news) (by assumption : lr < _ ∧ AllLt _ news) p hp | exact allLt_mem (l := (lr, listOf rv.toArray rc) :: news) (by assumption : _ ∧ lr < _ ∧ AllLt _ news).2 p hp | exact allLt_mem (l := (lr, listOf rv.toArray rc) :: news) (by assumption : _ ∧ _ ∧ lr < _ ∧ AllLt _ news).2.2 p hp | exact allLt_mem (l := (lr, listOf rv.toArray rc) :: news) (by assumption : _ ∧ _ ∧ _ ∧ lr < _ ∧ AllLt _ news).2.2.2 p hp | exact allLt_mem (l := (lr, listOf rv.toArray rc) :: news) (by assumption : _ ∧ _ ∧ _ ∧ _ ∧ lr < _ ∧ AllLt _ news).2.2.2.2 p hp | exact allLt_mem (l := (lr, listOf rv.toArray rc) :: news) (by assumption : _ ∧ _ ∧ _ ∧ _ ∧ _ ∧ lr < _ ∧ AllLt _ news).2.2.2.2.2 p hp | exact allLt_mem (l := (lr, listOf rv.toArray rc) :: news) (by assumption : _ ∧ _ ∧ _ ∧ _ ∧ _ ∧ _ ∧ lr < _ ∧ AllLt _ news).2.2.2.2.2.2 p hp | exact allLt_mem (l := (lr, listOf rv.toArray rc) :: news) (by assumption : _ ∧ _ ∧ _ ∧ _ ∧ _ ∧ _ ∧ _ ∧ lr < _ ∧ AllLt _ news).2.2.2.2.2.2.2 p hp)) hI2 hb3
      simp only [List.mem_cons] at hp ⊢
      rcases hp with h | h | h <;> simp only [h, true_or, or_true]
    case hY =>
      intro x t IL oLg' oIL gs' g2 h2 tk2 ho F3 N3 hlt hc hg2 hb3 R3
      have q1 : @LT.lt Nat _ la Lg := hlan
      have q2 : @LT.lt Nat _ Lg IL := hlt
      have q3 : @LT.lt Nat _ Lg G := hLG
      dsimp only
      simp only [List.cons_append, List.nil_append] at N3
      clear F2 N2 R
      have hxp := genOut_pos hb (.inr hh0) ho
      have hx1 : 1 ≤ x := hxp.1
      have hx2 : x ≤ 127 := by rcases hxp.2 with q | q <;> omega
      clear hxp
      have hN11 : 0 < 10 - j := by omega
      repeat' ((fail_if_success (with_reducible show KswEnd _ _ _ _ _ _ _ _ _ _ _ _)); (fail_if_success (with_reducible show wpAny _ _ (exec (Stmt.While _ _ _ _) _) _ _ _)); (fail_if_success (with_reducible show wpAny _ _ (pyIter _) _ _ _)); (fail_if_success (with_reducible show Exists _)); (first | (k_unfold; (try dsimp only)) | walk1 | (dsimp only; walk1) | (leave1; try dsimp only)))
      · (rename Fr _ _ _ _ => F5); (rename News _ _ _ _ => N5)
        have he : [] = groupsF rs count := by
          rw [← hgo, hj, groupsGo, show genOut rs 0 j = some x by rw [← ho]; congr 1; omega]
          simp only
          rw [if_pos (by omega)]
        refine hret _ [] 0 g2 _ _ F5 (fun p hp => N5 p ?_) (by (intro p hp; first | exact allLt_mem (l := (lr, listOf rv.toArray rc) :: news) (by assumption : lr < _ ∧ AllLt _ news) p hp | exact allLt_mem (l := (lr, listOf rv.toArray rc) :: news) (by assumption : _ ∧ lr < _ ∧ AllLt _ news).2 p hp | exact allLt_mem (l := (lr, listOf rv.toArray rc) :: news) (by assumption : _ ∧ _ ∧ lr < _ ∧ AllLt _ news).2.2 p hp | exact allLt_mem (l := (lr, listOf rv.toArray rc) :: news) (by assumption : _ ∧ _ ∧ _ ∧ lr < _ ∧ AllLt _ news).2.2.2 p hp | exact allLt_mem (l := (lr, listOf rv.toArray rc) :: news) (by assumption : _ ∧ _ ∧ _ ∧ _ ∧ lr < _ ∧ AllLt _ news).2.2.2.2 p hp | exact allLt_mem (l := (lr, listOf rv.toArray rc) :: news) (by assumption : _ ∧ _ ∧ _ ∧ _ ∧ _ ∧ lr < _ ∧ AllLt _ news).2.2.2.2.2 p hp | exact allLt_mem (l := (lr, listOf rv.toArray rc) :: news) (by assumption : _ ∧ _ ∧ _ ∧ _ ∧ _ ∧ _ ∧ lr < _ ∧ AllLt _ news).2.2.2.2.2.2 p hp | exact allLt_mem (l := (lr, listOf rv.toArray rc) :: news) (by assumption : _ ∧ _ ∧ _ ∧ _ ∧ _ ∧ _ ∧ _ ∧ lr < _ ∧ AllLt _ news).2.2.2.2.2.2.2 p hp)) (by rw [← he]; exact .nil) hb3
        simp only [List.mem_cons] at hp ⊢
        rcases hp with h | h | h <;> simp only [h, true_or, or_true]
      · have he : gs ++ [left] = groupsF rs count := by
          rw [← hgo, hj, groupsGo, show genOut rs 0 j = some x by rw [← ho]; congr 1; omega]
          simp only
          rw [if_neg (by omega), if_pos (by omega)]
        (rename IntsAre _ (gs ++ [left]) => hI2); (rename Fr _ _ _ _ => F5); (rename News _ _ _ _ => N5)
        rw [he] at hI2
        refine hret _ _ 0 g2 _ _ F5 (fun p hp => N5 p ?_) (by (intro p hp; first | exact allLt_mem (l := (lr, listOf rv.toArray rc) :: news) (by assumption : lr < _ ∧ AllLt _ news) p hp | exact allLt_mem (l := (lr, listOf rv.toArray rc) :: news) (by assumption : _ ∧ lr < _ ∧ AllLt _ news).2 p hp | exact allLt_mem (l := (lr, listOf rv.toArray rc) :: news) (by assumption : _ ∧ _ ∧ lr < _ ∧ AllLt _ news).2.2 p hp | exact allLt_mem (l := (lr, listOf rv.toArray rc) :: news) (by assumption : _ ∧ _ ∧ _ ∧ lr < _ ∧ AllLt _ news).2.2.2 p hp | exact allLt_mem (l := (lr, listOf rv.toArray rc) :: news) (by assumption : _ ∧ _ ∧ _ ∧ _ ∧ lr < _ ∧ AllLt _ news).2.2.2.2 p hp | exact allLt_mem (l := (lr, listOf rv.toArray rc) :: news) (by assumption : _ ∧ _ ∧ _ ∧ _ ∧ _ ∧ lr < _ ∧ AllLt _ news).2.2.2.2.2 p hp | exact allLt_mem (l := (lr, listOf rv.toArray rc) :: news) (by assumption : _ ∧ _ ∧ _ ∧ _ ∧ _ ∧ _ ∧ lr < _ ∧ AllLt _ news).2.2.2.2.2.2 p hp | exact allLt_mem (l := (lr, listOf rv.toArray rc) :: news) (by assumption : _ ∧ _ ∧ _ ∧ _ ∧ _ ∧ _ ∧ _ ∧ lr < _ ∧ AllLt _ news).2.2.2.2.2.2.2 p hp)) hI2 hb3
        simp only [List.mem_cons] at hp ⊢
        rcases hp with h | h | h <;> simp only [h, true_or, or_true]
      · dsimp only
        (rename Fr _ _ _ _ => F5); (rename News _ _ _ _ => N5)
        simp only [List.push_toArray] at N5
        have hne1 : ¬ count < x := by assumption
        have hne2 : ¬ left ≤ x := by assumption
        refine ⟨11 - (j + 1), by omega, exI13 (j + 1) (us ++ [Value.int x t]) (gs ++ [x]) (cap + 1) (left - x) ?tl1 (fun y => if y = Str.ofString "size" then some (.int x t) else u y) oLg' [(IL, oIL)] gs' g2 _ _ ⟨rfl, fr_congr F5 ?zz2, (by simp only [List.cons_append, List.nil_append]; exact N5), IntsAre.append hI (.cons _ _ .nil), hg2, hb3, ?rd, ?own2, by omega, by omega, ?go2, ?len2, rfl⟩⟩
        case zz2 =>
          intro z
          by_cases h1 : z = Str.ofString "left"
          · subst h1; rfl
          by_cases h2 : z = Str.ofString "size"
          · subst h2; rfl
          simp only [if_neg h1, if_neg h2]
        case rd =>
          have e : 10 - (j + 1) + 1 = 10 - j := by omega
          rw [e]
          exact R3 hN11
        case own2 => intro p hp; rw [List.mem_singleton.mp hp]; exact hc
        case go2 =>
          rw [← hgo, hj]
          conv => rhs; rw [groupsGo, show genOut rs 0 j = some x by rw [← ho]; congr 1; omega]
          simp only
          rw [if_neg hne1, if_neg hne2, show 11 - (j + 1) = 10 - j by omega]
        case len2 => rw [List.length_append, List.length_singleton]; omega
end Mine
end

section
open PySem PySem.W PyProof.Rows
namespace Mine

noncomputable def dropEq : Nat → List Int → List Int
  | 0, S => S
  | k + 1, S => if 1 < S.length ∧ S.getD (S.length - 1) 0 = S.getD (S.length - 2) 0 then dropEq k (S.take (S.length - 1)) else S
noncomputable def rulerF (S : List Int) (kind : Int) : List Int :=
  if kind = 1 then S.take (S.length - 1) ++ [127, 1] else if kind = 2 then S.take (S.length - 1) else
  dropEq 20 (if 1 < S.length ∧ S.getD (S.length - 1) 0 ≤ S.getD (S.length - 2) 0 then S.take (S.length - 1) else S) ++ [0, 4]
theorem getD_neg1 (S : List Int) : S.getD (-1 + (S.length : Int)).toNat 0 = S.getD (S.length - 1) 0 := by congr 1; omega
theorem getD_neg2 (S : List Int) : S.getD (-2 + (S.length : Int)).toNat 0 = S.getD (S.length - 2) 0 := by congr 1; omega
theorem dropEq_out {k : Nat} {S : List Int} (h : ¬ (1 < (S.length : Int) ∧ S.getD (-1 + (S.length : Int)).toNat 0 = S.getD (-2 + (S.length : Int)).toNat 0)) : dropEq k S = S := by
  cases k with
  | zero => rfl
  | succ k =>
    rw [dropEq, if_neg]
    rw [getD_neg1, getD_neg2] at h
    exact fun q => h ⟨by omega, q.2⟩
theorem dropEq_go {k : Nat} {S : List Int} (hk : S.length ≤ k) (h1 : 1 < (S.length : Int)) (h2 : S.getD (-1 + (S.length : Int)).toNat 0 = S.getD (-2 + (S.length : Int)).toNat 0) : ∃ k', (S.take (S.length - 1)).length ≤ k' ∧ dropEq k S = dropEq k' (S.take (S.length - 1)) := by
  obtain ⟨k', rfl⟩ : ∃ k', k = k' + 1 := ⟨k - 1, by omega⟩
  rw [getD_neg1, getD_neg2] at h2
  refine ⟨k', by rw [List.length_take]; omega, ?_⟩
  conv => lhs; rw [dropEq, if_pos ⟨by omega, h2⟩]
theorem take_bnd {S : List Int} {n : Nat} (h : ∀ z ∈ S, 0 ≤ z ∧ z ≤ 21) : ∀ z ∈ S.take n, 0 ≤ z ∧ z ≤ 21 := fun z hz => h z (List.mem_of_mem_take hz)
set_option maxRecDepth 100000 in
set_option maxHeartbeats 8000000 in
theorem ruler_spec (w : World) (s₀ : Shared) (mg mb : Str → Option Value) (news : Led) (lead : Str) (kind : Int) (t1 t2 : Tok) (qs : List Str) :
   Cl w s₀ mg mb 2 134 [.str lead t1, .int kind t2] news (lead.length ≤ 30 ∧ Txt.split lead (Str.ofString "\t") = qs ∧ 0 < qs.length ∧ qs.length ≤ 20 ∧ (∀ q ∈ qs, q.length ≤ 20)) (RetL news (rulerF (qs.map fun q => (q.length : Int) + 1) kind)) := by
  dsimp only [Cl, RetL]
  k_fill
  w_top off
  intros
  rename_i hpre _ _ hret
  obtain ⟨ho1, hqs, hq0, hq1, hq2⟩ := hpre
  refine wpAny_call ?_
  k_dflt cell_enter
  k_with_none
  k_with "pyIter ref" => fail
  k_with "CompSrc" => fail
  repeat' ((fail_if_success (with_reducible show KswEnd _ _ _ _ _ _ _ _ _ _ _ _)); (fail_if_success (with_reducible show wpAny _ _ (exec (Stmt.While _ _ _ _) _) _ _ _)); (fail_if_success (with_reducible show wpAny _ _ (pyIter _) _ _ _)); (fail_if_success (with_reducible show wpAny _ _ (exec (Stmt.Assign _ (Expr.ListComp _ _ _ _) _) _) _ _ _)); (first | (k_unfold; (try dsimp only)) | walk1 | (dsimp only; walk1) | (leave1; try dsimp only)))
  (k_dflt (refine LCg.Assign_ListComp_U (F₀ := by k_asm) (by rfl) (by with_unfolding_all rfl) (by with_unfolding_all rfl) (by decide) (by rfl) (by decide) (by rfl) (by rfl) (by rfl) ?_))
  repeat' ((fail_if_success (with_reducible show KswEnd _ _ _ _ _ _ _ _ _ _ _ _)); (fail_if_success (with_reducible show wpAny _ _ (exec (Stmt.While _ _ _ _) _) _ _ _)); (fail_if_success (with_reducible show wpAny _ _ (pyIter _) _ _ _)); (fail_if_success (with_reducible show wpAny _ _ (exec (Stmt.Assign _ (Expr.ListComp _ _ _ _) _) _) _ _ _)); (first | (k_unfold; (try dsimp only)) | walk1 | (dsimp only; walk1) | (leave1; try dsimp only)))
  rename_i l _ _ hm hI hB hL F1 N1
  rw [hm, hqs] at hI
  have hlen : (strValues l).length = qs.length := hI.len_eq
  refine LCg.CompSrc.ledger (by rfl) F1 N1 (.head _) (by rw [List.size_toArray, hlen, PySem.sizeLine_eq]; omega) ?_
  intro g
  refine my_comp0 _ (fun i ys nw => nw = _ ∧ IntsAre ys ((qs.take i).map fun q => (q.length : Int) + 1)) ⟨rfl, .nil⟩ ?turn ?fin
  case turn =>
    rintro i v ys _ I oI C oC D m₂ h tk E' hlt hP ⟨rfl, hJ⟩ hC hx F2 N2 off ne
    simp only [LCg.Off3, and_true] at off
    obtain ⟨q, tq, rfl, hq⟩ := StrsAre.item hI i v (by simpa using hP)
    have hql := hq2 q (List.mem_of_getElem? hq)
    have mk := kstMark
    repeat' ((fail_if_success (with_reducible show KswEnd _ _ _ _ _ _ _ _ _ _ _ _)); (fail_if_success (with_reducible show wpAny _ _ (exec (Stmt.While _ _ _ _) _) _ _ _)); (fail_if_success (with_reducible show wpAny _ _ (pyIter _) _ _ _)); (first | (k_unfold; (try dsimp only)) | walk1 | (dsimp only; walk1) | (leave1; try dsimp only)))
    refine LCg.CompEnd.intro (by assumption) (by assumption) _ (by kcf_all) (by first | assumption | (simp only [LCg.Off3, and_true]; done) | (simp only [LCg.Off3, and_true]; assumption)) (by first | lcg_src | assumption) ⟨rfl, ?_⟩
    rw [List.take_add_one, hq, List.map_append]
    exact IntsAre.append hJ (.cons _ _ .nil)
  case fin =>
    rintro ys _ ⟨rfl, hJ⟩
    rw [List.size_toArray, hlen, List.take_length] at hJ
    have hn0 : 0 < (qs.map fun q => (q.length : Int) + 1).length := by rw [List.length_map]; exact hq0
    have hn1 : (qs.map fun q => (q.length : Int) + 1).length ≤ 20 := by rw [List.length_map]; exact hq1
    have hn2 : ∀ z ∈ (qs.map fun q => (q.length : Int) + 1), 0 ≤ z ∧ z ≤ 21 := fun z hz => by
      obtain ⟨q, hq, rfl⟩ := List.mem_map.mp hz
      have := hq2 q hq
      omega
    generalize (qs.map fun q => (q.length : Int) + 1) = S at hJ hn0 hn1 hn2 hret
    have mk := kstMark
    repeat' ((fail_if_success (with_reducible show KswEnd _ _ _ _ _ _ _ _ _ _ _ _)); (fail_if_success (with_reducible show wpAny _ _ (exec (Stmt.While _ _ _ _) _) _ _ _)); (fail_if_success (with_reducible show wpAny _ _ (pyIter _) _ _ _)); (first | (k_unfold; (try dsimp only)) | walk1 | (dsimp only; walk1) | (leave1; try dsimp only)))
    · have he : S.take (S.length - 1) ++ [127, 1] = rulerF S kind := by rw [rulerF, if_pos (by assumption)]
      (rename IntsAre _ (List.take (S.length - 1) S ++ [127, 1]) => hI2); (rename Fr _ _ _ _ => F6); (rename News _ _ _ _ => N6)
      rw [he] at hI2
      refine hret _ _ 0 _ _ F6 (fun p hp => N6 p ?_) ?_ hI2
      · simp only [List.mem_cons] at hp ⊢
        rcases hp with h | h <;> simp only [h, true_or, or_true]
      · (intro p hp; first | exact allLt_mem (by assumption) p hp | exact allLt_mem (by assumption : _ ∧ AllLt _ news).2 p hp | exact allLt_mem (by assumption : _ ∧ _ ∧ AllLt _ news).2.2 p hp | exact allLt_mem (by assumption : _ ∧ _ ∧ _ ∧ AllLt _ news).2.2.2 p hp | exact allLt_mem (by assumption : _ ∧ _ ∧ _ ∧ _ ∧ AllLt _ news).2.2.2.2 p hp | exact allLt_mem (by assumption : _ ∧ _ ∧ _ ∧ _ ∧ _ ∧ AllLt _ news).2.2.2.2.2 p hp | exact allLt_mem (by assumption : _ ∧ _ ∧ _ ∧ _ ∧ _ ∧ _ ∧ AllLt _ news).2.2.2.2.2.2 p hp)
    · have he : S.take (S.length - 1) = rulerF S kind := by rw [rulerF, if_neg (by assumption), if_pos (by assumption)]
      (rename IntsAre _ (List.take (S.length - 1) S) => hI2); (rename Fr _ _ _ _ => F6); (rename News _ _ _ _ => N6)
      rw [he] at hI2
      refine hret _ _ 0 _ _ F6 (fun p hp => N6 p ?_) ?_ hI2
      · simp only [List.mem_cons] at hp ⊢
        rcases hp with h | h <;> simp only [h, true_or, or_true]
      · (intro p hp; first | exact allLt_mem (by assumption) p hp | exact allLt_mem (by assumption : _ ∧ AllLt _ news).2 p hp | exact allLt_mem (by assumption : _ ∧ _ ∧ AllLt _ news).2.2 p hp | exact allLt_mem (by assumption : _ ∧ _ ∧ _ ∧ AllLt _ news).2.2.2 p hp | exact allLt_mem (by assumption : _ ∧ _ ∧ _ ∧ _ ∧ AllLt _ news).2.2.2.2 p hp | exact allLt_mem (by assumption : _ ∧ _ ∧ _ ∧ _ ∧ _ ∧ AllLt _ news).2.2.2.2.2 p hp | exact allLt_mem (by assumption : _ ∧ _ ∧ _ ∧ _ ∧ _ ∧ _ ∧ AllLt _ news).2.2.2.2.2.2 p hp)
    · have hTl : (S.take (S.length - 1)).length = S.length - 1 := by rw [List.length_take]; omega
      have hS2 : 1 < (S.length : Int) := by assumption
      (rename IntsAre _ (List.take (S.length - 1) S) => hI2)
      (rename Fr _ _ _ _ => FW); (rename News _ _ _ _ => NW)
      with_unfolding_all
        refine' my_while (σ := Addr × List Value × Nat × List Int) (fun c => (c.1, listOf c.2.1.toArray c.2.2.1) :: news) (fun c => [(Str.ofString "sizes", .ref c.1)]) (fun c => IntsAre c.2.1 c.2.2.2) []
          (fun c => 1 ≤ c.2.2.2.length ∧ c.2.2.2.length ≤ 20 ∧ (∀ z ∈ c.2.2.2, 0 ≤ z ∧ z ≤ 21) ∧ ∃ k, c.2.2.2.length ≤ k ∧ dropEq k c.2.2.2 = dropEq 20 (S.take (S.length - 1))) (fun c => c.2.2.2.length) (fun c => c.2.2.2 = dropEq 20 (S.take (S.length - 1)))
          (_, _, 0, (S.take (S.length - 1))) FW ?kn1 hI2 ?kk1 ?kp1 ?turn1 ?done1 ?hE1
      case hE1 => passes_own
      case kk1 => kst_all
      case kn1 =>
        intro p hp
        rcases List.mem_cons.mp hp with h | h
        · rw [h]; exact NW _ (.head _)
        · exact NW p (by simp only [List.mem_cons, h, or_true])
      case kp1 => exact ⟨by dsimp only; omega, by dsimp only; omega, take_bnd hn2, 20, by dsimp only; omega, rfl⟩
      case turn1 =>
        clear FW NW
        refine prod4 fun D us cap T => ?_
        rintro  u h tk hIT ⟨hT0, hT1, hTb, k, hk, hkd⟩ F5 N5
        dsimp only [kstB] at F5
        dsimp only at *
        (try k_fold)
        have mk := kstMark
        repeat' ((fail_if_success (with_reducible show KswEnd _ _ _ _ _ _ _ _ _ _ _ _)); (fail_if_success (with_reducible show wpAny _ _ (exec (Stmt.While _ _ _ _) _) _ _ _)); (fail_if_success (with_reducible show wpAny _ _ (pyIter _) _ _ _)); (first | (k_unfold; (try dsimp only)) | walk1 | (dsimp only; walk1) | (leave1; try dsimp only)))
        · (rename Fr _ _ _ _ => F6); (rename News _ _ _ _ => N6)
          obtain ⟨k', hk', hkk⟩ := dropEq_go hk (show 1 < (T.length : Int) by assumption) (show T.getD (-1 + (T.length : Int)).toNat 0 = T.getD (-2 + (T.length : Int)).toNat 0 by assumption)
          have hTl : (T.take (T.length - 1)).length = T.length - 1 := by rw [List.length_take]; omega
          have hT2 : 1 < (T.length : Int) := by assumption
          (rename IntsAre _ (List.take (T.length - 1) T) => hI2)
          refine ksw_end (_, _, 0, T.take (T.length - 1)) F6 N6 ?_ hI2 (by kst_all) (by ksw_same) ⟨by dsimp only; omega, by dsimp only; omega, take_bnd hTb, k', hk', by dsimp only; rw [← hkk]; exact hkd⟩ (by dsimp only; omega)
          intro p hp
          rcases List.mem_cons.mp hp with h | h
          · rw [h]; exact .head _
          · simp only [List.mem_cons, h, or_true]
        all_goals
          (rename Fr _ _ _ _ => F6); (rename News _ _ _ _ => N6)
          refine out_intro (c := (D, us, cap, T)) (u := u) F6 N6 ?_ hIT ⟨hT0, hT1, hTb, k, hk, hkd⟩ ?_
          · intro p hp
            simp only [List.mem_cons] at hp ⊢
            rcases hp with h | h <;> simp only [h, true_or, or_true]
          · dsimp only
            rw [← hkd]
            exact (dropEq_out (fun q => by first | exact absurd q.1 (by assumption) | exact absurd q.2 (by assumption))).symm
      case done1 =>
        clear FW NW
        refine prod4 fun D us cap T => ?_
        rintro  u h tk hIT ⟨hT0, hT1, hTb, k, hk, hkd⟩ hd F5 N5
        dsimp only [kstB] at F5
        dsimp only at *
        (try k_fold)
        have mk := kstMark
        repeat' ((fail_if_success (with_reducible show KswEnd _ _ _ _ _ _ _ _ _ _ _ _)); (fail_if_success (with_reducible show wpAny _ _ (exec (Stmt.While _ _ _ _) _) _ _ _)); (fail_if_success (with_reducible show wpAny _ _ (pyIter _) _ _ _)); (first | (k_unfold; (try dsimp only)) | walk1 | (dsimp only; walk1) | (leave1; try dsimp only)))
        have he : T ++ [0, 4] = rulerF S kind := by
          rw [rulerF, if_neg (by assumption), if_neg (by assumption), hd]
          congr 2
          first | exact (if_pos ⟨by omega, by rw [← getD_neg1, ← getD_neg2]; assumption⟩).symm | exact (if_neg (fun q => by first | (have q2 := q.2; rw [← getD_neg1, ← getD_neg2] at q2; exact absurd q2 (by assumption)) | (have q1 := q.1; omega))).symm
        (rename IntsAre _ (T ++ [0, 4]) => hI2); (rename Fr _ _ _ _ => F6); (rename News _ _ _ _ => N6)
        rw [he] at hI2
        refine hret _ _ 0 _ _ F6 (fun p hp => N6 p ?_) ?_ hI2
        · simp only [List.mem_cons] at hp ⊢
          rcases hp with h | h <;> simp only [h, true_or, or_true]
        · (intro p hp; first | exact allLt_mem (by assumption) p hp | exact allLt_mem (by assumption : _ ∧ AllLt _ news).2 p hp | exact allLt_mem (by assumption : _ ∧ _ ∧ AllLt _ news).2.2 p hp | exact allLt_mem (by assumption : _ ∧ _ ∧ _ ∧ AllLt _ news).2.2.2 p hp | exact allLt_mem (by assumption : _ ∧ _ ∧ _ ∧ _ ∧ AllLt _ news).2.2.2.2 p hp | exact allLt_mem (by assumption : _ ∧ _ ∧ _ ∧ _ ∧ _ ∧ AllLt _ news).2.2.2.2.2 p hp | exact allLt_mem (by assumption : _ ∧ _ ∧ _ ∧ _ ∧ _ ∧ _ ∧ AllLt _ news).2.2.2.2.2.2 p hp)
    · (rename Fr _ _ _ _ => FW); (rename News _ _ _ _ => NW)
      with_unfolding_all
        refine' my_while (σ := Addr × List Value × Nat × List Int) (fun c => (c.1, listOf c.2.1.toArray c.2.2.1) :: news) (fun c => [(Str.ofString "sizes", .ref c.1)]) (fun c => IntsAre c.2.1 c.2.2.2) []
          (fun c => 1 ≤ c.2.2.2.length ∧ c.2.2.2.length ≤ 20 ∧ (∀ z ∈ c.2.2.2, 0 ≤ z ∧ z ≤ 21) ∧ ∃ k, c.2.2.2.length ≤ k ∧ dropEq k c.2.2.2 = dropEq 20 S) (fun c => c.2.2.2.length) (fun c => c.2.2.2 = dropEq 20 S)
          (_, ys, ys.length, S) FW ?kn2 hJ ?kk2 ?kp2 ?turn2 ?done2 ?hE2
      case hE2 => passes_own
      case kk2 => kst_all
      case kn2 =>
        intro p hp
        rcases List.mem_cons.mp hp with h | h
        · rw [h]; exact NW _ (.head _)
        · exact NW p (by simp only [List.mem_cons, h, or_true])
      case kp2 => exact ⟨hn0, hn1, hn2, 20, hn1, rfl⟩
      case turn2 =>
        clear FW NW
        refine prod4 fun D us cap T => ?_
        rintro  u h tk hIT ⟨hT0, hT1, hTb, k, hk, hkd⟩ F5 N5
        dsimp only [kstB] at F5
        dsimp only at *
        (try k_fold)
        have mk := kstMark
        repeat' ((fail_if_success (with_reducible show KswEnd _ _ _ _ _ _ _ _ _ _ _ _)); (fail_if_success (with_reducible show wpAny _ _ (exec (Stmt.While _ _ _ _) _) _ _ _)); (fail_if_success (with_reducible show wpAny _ _ (pyIter _) _ _ _)); (first | (k_unfold; (try dsimp only)) | walk1 | (dsimp only; walk1) | (leave1; try dsimp only)))
        · (rename Fr _ _ _ _ => F6); (rename News _ _ _ _ => N6)
          obtain ⟨k', hk', hkk⟩ := dropEq_go hk (show 1 < (T.length : Int) by assumption) (show T.getD (-1 + (T.length : Int)).toNat 0 = T.getD (-2 + (T.length : Int)).toNat 0 by assumption)
          have hTl : (T.take (T.length - 1)).length = T.length - 1 := by rw [List.length_take]; omega
          have hT2 : 1 < (T.length : Int) := by assumption
          (rename IntsAre _ (List.take (T.length - 1) T) => hI2)
          refine ksw_end (_, _, 0, T.take (T.length - 1)) F6 N6 ?_ hI2 (by kst_all) (by ksw_same) ⟨by dsimp only; omega, by dsimp only; omega, take_bnd hTb, k', hk', by dsimp only; rw [← hkk]; exact hkd⟩ (by dsimp only; omega)
          intro p hp
          rcases List.mem_cons.mp hp with h | h
          · rw [h]; exact .head _
          · simp only [List.mem_cons, h, or_true]
        all_goals
          (rename Fr _ _ _ _ => F6); (rename News _ _ _ _ => N6)
          refine out_intro (c := (D, us, cap, T)) (u := u) F6 N6 ?_ hIT ⟨hT0, hT1, hTb, k, hk, hkd⟩ ?_
          · intro p hp
            simp only [List.mem_cons] at hp ⊢
            rcases hp with h | h <;> simp only [h, true_or, or_true]
          · dsimp only
            rw [← hkd]
            exact (dropEq_out (fun q => by first | exact absurd q.1 (by assumption) | exact absurd q.2 (by assumption))).symm
      case done2 =>
        clear FW NW
        refine prod4 fun D us cap T => ?_
        rintro  u h tk hIT ⟨hT0, hT1, hTb, k, hk, hkd⟩ hd F5 N5
        dsimp only [kstB] at F5
        dsimp only at *
        (try k_fold)
        have mk := kstMark
        repeat' ((fail_if_success (with_reducible show KswEnd _ _ _ _ _ _ _ _ _ _ _ _)); (fail_if_success (with_reducible show wpAny _ _ (exec (Stmt.While _ _ _ _) _) _ _ _)); (fail_if_success (with_reducible show wpAny _ _ (pyIter _) _ _ _)); (first | (k_unfold; (try dsimp only)) | walk1 | (dsimp only; walk1) | (leave1; try dsimp only)))
        have he : T ++ [0, 4] = rulerF S kind := by
          rw [rulerF, if_neg (by assumption), if_neg (by assumption), hd]
          congr 2
          first | exact (if_pos ⟨by omega, by rw [← getD_neg1, ← getD_neg2]; assumption⟩).symm | exact (if_neg (fun q => by first | (have q2 := q.2; rw [← getD_neg1, ← getD_neg2] at q2; exact absurd q2 (by assumption)) | (have q1 := q.1; omega))).symm
        (rename IntsAre _ (T ++ [0, 4]) => hI2); (rename Fr _ _ _ _ => F6); (rename News _ _ _ _ => N6)
        rw [he] at hI2
        refine hret _ _ 0 _ _ F6 (fun p hp => N6 p ?_) ?_ hI2
        · simp only [List.mem_cons] at hp ⊢
          rcases hp with h | h <;> simp only [h, true_or, or_true]
        · (intro p hp; first | exact allLt_mem (by assumption) p hp | exact allLt_mem (by assumption : _ ∧ AllLt _ news).2 p hp | exact allLt_mem (by assumption : _ ∧ _ ∧ AllLt _ news).2.2 p hp | exact allLt_mem (by assumption : _ ∧ _ ∧ _ ∧ AllLt _ news).2.2.2 p hp | exact allLt_mem (by assumption : _ ∧ _ ∧ _ ∧ _ ∧ AllLt _ news).2.2.2.2 p hp | exact allLt_mem (by assumption : _ ∧ _ ∧ _ ∧ _ ∧ _ ∧ AllLt _ news).2.2.2.2.2 p hp | exact allLt_mem (by assumption : _ ∧ _ ∧ _ ∧ _ ∧ _ ∧ _ ∧ AllLt _ news).2.2.2.2.2.2 p hp)
    · (rename Fr _ _ _ _ => FW); (rename News _ _ _ _ => NW)
      with_unfolding_all
        refine' my_while (σ := Addr × List Value × Nat × List Int) (fun c => (c.1, listOf c.2.1.toArray c.2.2.1) :: news) (fun c => [(Str.ofString "sizes", .ref c.1)]) (fun c => IntsAre c.2.1 c.2.2.2) []
          (fun c => 1 ≤ c.2.2.2.length ∧ c.2.2.2.length ≤ 20 ∧ (∀ z ∈ c.2.2.2, 0 ≤ z ∧ z ≤ 21) ∧ ∃ k, c.2.2.2.length ≤ k ∧ dropEq k c.2.2.2 = dropEq 20 S) (fun c => c.2.2.2.length) (fun c => c.2.2.2 = dropEq 20 S)
          (_, ys, ys.length, S) FW ?kn3 hJ ?kk3 ?kp3 ?turn3 ?done3 ?hE3
      case hE3 => passes_own
      case kk3 => kst_all
      case kn3 =>
        intro p hp
        rcases List.mem_cons.mp hp with h | h
        · rw [h]; exact NW _ (.head _)
        · exact NW p (by simp only [List.mem_cons, h, or_true])
      case kp3 => exact ⟨hn0, hn1, hn2, 20, hn1, rfl⟩
      case turn3 =>
        clear FW NW
        refine prod4 fun D us cap T => ?_
        rintro  u h tk hIT ⟨hT0, hT1, hTb, k, hk, hkd⟩ F5 N5
        dsimp only [kstB] at F5
        dsimp only at *
        (try k_fold)
        have mk := kstMark
        repeat' ((fail_if_success (with_reducible show KswEnd _ _ _ _ _ _ _ _ _ _ _ _)); (fail_if_success (with_reducible show wpAny _ _ (exec (Stmt.While _ _ _ _) _) _ _ _)); (fail_if_success (with_reducible show wpAny _ _ (pyIter _) _ _ _)); (first | (k_unfold; (try dsimp only)) | walk1 | (dsimp only; walk1) | (leave1; try dsimp only)))
        · (rename Fr _ _ _ _ => F6); (rename News _ _ _ _ => N6)
          obtain ⟨k', hk', hkk⟩ := dropEq_go hk (show 1 < (T.length : Int) by assumption) (show T.getD (-1 + (T.length : Int)).toNat 0 = T.getD (-2 + (T.length : Int)).toNat 0 by assumption)
          have hTl : (T.take (T.length - 1)).length = T.length - 1 := by rw [List.length_take]; omega
          have hT2 : 1 < (T.length : Int) := by assumption
          (rename IntsAre _ (List.take (T.length - 1) T) => hI2)
          refine ksw_end (_, _, 0, T.take (T.length - 1)) F6 N6 ?_ hI2 (by kst_all) (by ksw_same) ⟨by dsimp only; omega, by dsimp only; omega, take_bnd hTb, k', hk', by dsimp only; rw [← hkk]; exact hkd⟩ (by dsimp only; omega)
          intro p hp
          rcases List.mem_cons.mp hp with h | h
          · rw [h]; exact .head _
          · simp only [List.mem_cons, h, or_true]
        all_goals
          (rename Fr _ _ _ _ => F6); (rename News _ _ _ _ => N6)
          refine out_intro (c := (D, us, cap, T)) (u := u) F6 N6 ?_ hIT ⟨hT0, hT1, hTb, k, hk, hkd⟩ ?_
          · intro p hp
            simp only [List.mem_cons] at hp ⊢
            rcases hp with h | h <;> simp only [h, true_or, or_true]
          · dsimp only
            rw [← hkd]
            exact (dropEq_out (fun q => by first | exact absurd q.1 (by assumption) | exact absurd q.2 (by assumption))).symm
      case done3 =>
        clear FW NW
        refine prod4 fun D us cap T => ?_
        rintro  u h tk hIT ⟨hT0, hT1, hTb, k, hk, hkd⟩ hd F5 N5
        dsimp only [kstB] at F5
        dsimp only at *
        (try k_fold)
        have mk := kstMark
        repeat' ((fail_if_success (with_reducible show KswEnd _ _ _ _ _ _ _ _ _ _ _ _)); (fail_if_success (with_reducible show wpAny _ _ (exec (Stmt.While _ _ _ _) _) _ _ _)); (fail_if_success (with_reducible show wpAny _ _ (pyIter _) _ _ _)); (first | (k_unfold; (try dsimp only)) | walk1 | (dsimp only; walk1) | (leave1; try dsimp only)))
        have he : T ++ [0, 4] = rulerF S kind := by
          rw [rulerF, if_neg (by assumption), if_neg (by assumption), hd]
          congr 2
          first | exact (if_pos ⟨by omega, by rw [← getD_neg1, ← getD_neg2]; assumption⟩).symm | exact (if_neg (fun q => by first | (have q2 := q.2; rw [← getD_neg1, ← getD_neg2] at q2; exact absurd q2 (by assumption)) | (have q1 := q.1; omega))).symm
        (rename IntsAre _ (T ++ [0, 4]) => hI2); (rename Fr _ _ _ _ => F6); (rename News _ _ _ _ => N6)
        rw [he] at hI2
        refine hret _ _ 0 _ _ F6 (fun p hp => N6 p ?_) ?_ hI2
        · simp only [List.mem_cons] at hp ⊢
          rcases hp with h | h <;> simp only [h, true_or, or_true]
        · (intro p hp; first | exact allLt_mem (by assumption) p hp | exact allLt_mem (by assumption : _ ∧ AllLt _ news).2 p hp | exact allLt_mem (by assumption : _ ∧ _ ∧ AllLt _ news).2.2 p hp | exact allLt_mem (by assumption : _ ∧ _ ∧ _ ∧ AllLt _ news).2.2.2 p hp | exact allLt_mem (by assumption : _ ∧ _ ∧ _ ∧ _ ∧ AllLt _ news).2.2.2.2 p hp | exact allLt_mem (by assumption : _ ∧ _ ∧ _ ∧ _ ∧ _ ∧ AllLt _ news).2.2.2.2.2 p hp | exact allLt_mem (by assumption : _ ∧ _ ∧ _ ∧ _ ∧ _ ∧ _ ∧ AllLt _ news).2.2.2.2.2.2 p hp)
end Mine
end

section
open PySem PySem.W PyProof.Rows
namespace Mine
section
variable {prog : Program} {w : World} {A : Around} {E : Value → Shared → Prop} {s : Shared} {h₀ : Heap} {L : Addr} {m : Str → Option Value} {env : Env}
/-- a turn of a comprehension of any target -/
noncomputable def CompEndT (h₀ : Heap) (L : Addr) (m : Str → Option Value) (s₁ : Shared) (own : Led) (C : Addr) (oC : Obj) (D : Addr) (oD : Obj) (J : Value → Led → Prop) (y : Value) (s₂ : Shared) : Prop :=
  ∃ h' tk news', s₂ = { s₁ with heap := h', toks := tk } ∧ Fr h₀ L h' m ∧ News h₀ L h' ((C, oC) :: (D, oD) :: (news' ++ own)) ∧ (∀ p ∈ news', p.1 ≠ C ∧ p.1 ≠ D ∧ ∀ q ∈ own, p.1 ≠ q.1) ∧ J y news'
theorem own_of (ow : List Addr) (h : Heap) (hl : ∀ b ∈ ow, ∃ o, h.get? b = some o) : ∃ own : Led, (∀ p ∈ own, h.get? p.1 = some p.2 ∧ p.1 ∈ ow) ∧ ∀ b ∈ ow, ∀ o, h.get? b = some o → (b, o) ∈ own := by
  induction ow with
  | nil => exact ⟨[], (fun _ hp => nomatch hp), (fun _ hb => nomatch hb)⟩
  | cons a r ih =>
    obtain ⟨own, h1, h2⟩ := ih fun b hb => hl b (.tail _ hb)
    obtain ⟨o, ho⟩ := hl a (.head _)
    refine ⟨(a, o) :: own, fun p hp => ?_, fun b hb o' ho' => ?_⟩
    · rcases List.mem_cons.mp hp with rfl | hp
      · exact ⟨ho, .head _⟩
      · exact ⟨(h1 p hp).1, .tail _ (h1 p hp).2⟩
    · rcases List.mem_cons.mp hb with rfl | hb
      · rw [ho] at ho'; cases ho'; exact .head _
      · exact .tail _ (h2 b hb o' ho')
theorem block_T {elt iter target : Expr} {scope : Scope} {cl : List (Str × Addr)} {pos : Pos} {s₂ : Shared} {I : Addr} {fp wr ow : List Addr} {n : Nat} {Pv Md : Nat → Value → Heap → Prop} {St : Nat → Heap → Prop} {B : Nat → (Str → Option Value) → Prop} {news : Led} (J : Nat → List Value → Led → Prop)
    {RR : Value → Addr → Result → Shared → Prop}
    (W : KTurns prog w A target I fp wr n Pv Md St) (hself : ∀ (s : Shared) (Q : Value → Shared → Prop) (E : Value → Shared → Prop), St 0 s.heap → Q (.ref I) s → wpAny (model prog w) A (pyIter (.ref I)) Q E s)
    (hlive : ∀ i h, St i h → ∀ b ∈ ow, ∃ o, h.get? b = some o) (hsz : n ≤ sizeLine)
    (hasg : ∀ i v C (s : Shared) (m₁ : Str → Option Value) (Q : Unit → Shared → Prop) (E : Value → Shared → Prop), i < n → Pv i v s.heap → s.heap.Ns C m₁ → (∀ h' tk m₂, B i m₂ → h'.Ns C m₂ → (∀ b o, b ≠ C → s.heap.get? b = some o → h'.get? b = some o) → Q () { s with heap := h', toks := tk }) → wpAny (model prog w) A (assign target (compEnvC scope cl C env) v) Q E s)
    (hcell : ∀ y ∈ scope.names, y.2 ≠ .cell) (hkind : scope.kind = .function) (hst : St 0 s₂.heap) (hfp : ∀ b ∈ fp, b < s₂.heap.objs.size)
    (F : Fr h₀ L s₂.heap m) (N : News h₀ L s₂.heap news) (hLw : L ∉ fp) (how : ∀ b ∈ ow, h₀.get? b = none) (hwo : ∀ b ∈ wr, b ∈ ow) (hof : ∀ b ∈ ow, b ∈ fp) (off : ∀ p ∈ news, p.1 ∉ ow)
    (hsrc : ∀ b ∈ fp, b ∈ ow ∨ (∃ o, h₀.get? b = some o) ∨ ∃ o, ∀ i ys nw, J i ys nw → (b, o) ∈ nw) (hJ : J 0 [] news)
    (turn : ∀ i ys nw own C oC D m₂ h tk (E' : Value → Shared → Prop), i < n → B i m₂ → J i ys nw → LCg.NsObj oC m₂ → Fr h₀ L h m → News h₀ L h ((C, oC) :: (D, LCg.lst ys) :: (nw ++ own)) → (∀ p ∈ nw, p.1 ≠ C ∧ p.1 ≠ D ∧ ∀ q ∈ own, p.1 ≠ q.1) → @Ne Nat C D →
      wpAny (model prog w) A (eval elt (compEnvC scope cl C env)) (CompEndT h₀ L m { s₂ with heap := h, toks := tk } own C oC D (LCg.lst ys) (fun y nw' => J (i + 1) (ys ++ [y]) nw')) E' { s₂ with heap := h, toks := tk })
    (hRR : ∀ D C h tk m' ys nw, Fr h₀ L h m → News h₀ L h ((D, LCg.lst ys) :: nw) → (∀ p ∈ nw, p.1 ≠ D) → h.Ns C m' → h₀.get? C = none → h₀.get? D = none → C ≠ L → D ≠ L → C ≠ D → (∀ p ∈ nw, p.1 ≠ C) → J n ys nw → RR (.ref D) C (.ok .next) { s₂ with heap := h, toks := tk }) :
    wpAny (model prog w) A (newList []) (fun acc s₃ => wpAny (model prog w) A (newFunctionEnv scope env.globals cl [] env.qual none .none (some env)) (fun cenv s₄ =>
      codeAny (model prog w) A (.compStart (.ListComp elt [⟨target, iter, [], 0⟩] scope pos) 0 (.ref I) acc { cenv with scope := relabel scope env }) (RR acc cenv.locals) s₄) E s₃) E s₂ := by
  refine wpAny_newObj_type (wpAny_newFunctionEnv hcell (by intro y hy; simp at hy) (fun h₁ hns₁ hsb₁ => ?_) hkind)
  dsimp only at hns₁ hsb₁ ⊢
  generalize hH2 : s₂.heap.push { cls := .type "list", dict := none, data := .seq ([] : List Value).toArray } = H2 at hns₁ hsb₁ ⊢
  have hC : H2.objs.size = s₂.heap.objs.size + 1 := by rw [← hH2, Heap.size_push]
  have hDC : s₂.heap.objs.size ≠ H2.objs.size := by rw [hC]; exact Nat.ne_of_lt (Nat.lt_succ_self _)
  have below : ∀ b, b < s₂.heap.objs.size → b ≠ H2.objs.size ∧ b ≠ s₂.heap.objs.size := fun b hb => ⟨by rw [hC]; exact Nat.ne_of_lt (Nat.lt_succ_of_lt hb), Nat.ne_of_lt hb⟩
  have hDf : s₂.heap.objs.size ∉ fp := fun hm => Nat.lt_irrefl _ (hfp _ hm)
  have hCf : H2.objs.size ∉ fp := fun hm => by have := hfp _ hm; rw [hC] at this; exact Nat.lt_irrefl _ (Nat.lt_of_succ_lt this)
  have old : ∀ b o, s₂.heap.get? b = some o → h₁.get? b = some o := fun b o e => hsb₁.extBut b o (below b (Heap.lt_size e)).1 (Heap.get?_push_of_some _ (hH2 ▸ Heap.get?_push_of_some _ e))
  have hacc : h₁.get? s₂.heap.objs.size = some (LCg.lst []) := hsb₁.extBut _ _ hDC (Heap.get?_push_of_some _ (hH2 ▸ Heap.get?_push_size _ rfl))
  have hst₁ : St 0 h₁ := W.frame _ _ _ hst fun b _ o e => old b o e
  have fresh : ∀ a, s₂.heap.objs.size ≤ a → s₂.heap.get? a = none := fun a ha => by
    cases e : s₂.heap.get? a with
    | none => rfl
    | some o' => exact absurd (Heap.lt_size e) (Nat.not_lt.mpr ha)
  have fresh₀ : ∀ a, s₂.heap.objs.size ≤ a → h₀.get? a = none := fun a ha => by
    cases e : h₀.get? a with
    | none => rfl
    | some o' => have := F.keep a o' e; rw [fresh a ha] at this; cases this
  have hD₀ : h₀.get? s₂.heap.objs.size = none := fresh₀ _ (Nat.le_refl _)
  have hC₀ : h₀.get? H2.objs.size = none := fresh₀ _ (by rw [hC]; exact Nat.le_succ _)
  have hLlt : L < s₂.heap.objs.size := F.ns.lt
  have hDL : s₂.heap.objs.size ≠ L := Ne.symm (below L hLlt).2
  have hCL : H2.objs.size ≠ L := Ne.symm (below L hLlt).1
  have hwf : ∀ b ∈ wr, b ∈ fp := W.sub
  have hwL : L ∉ wr := fun h => hLw (hwf _ h)
  have hwC : H2.objs.size ∉ wr := fun h => hCf (hwf _ h)
  have hwD : s₂.heap.objs.size ∉ wr := fun h => hDf (hwf _ h)
  have hw0 : ∀ b o, h₀.get? b = some o → b ∉ wr := fun b o e hb => by rw [how b (hwo b hb)] at e; cases e
  have loop : ∀ s₃ : Shared, s₃ = { s₂ with heap := h₁, toks := s₂.toks + ([] : List (Str × Value)).length } →
      codeAny (model prog w) A (.compLoop (.ListComp elt [⟨target, iter, [], 0⟩] scope pos) 0 (.ref I) (.ref s₂.heap.objs.size) (compEnvC scope cl H2.objs.size env))
        (RR (.ref s₂.heap.objs.size) H2.objs.size) s₃ := by
    rintro s₃ rfl
    refine kcp_loop
      (fun k s' => ∃ h' tk i ys m' nw, s' = { s₂ with heap := h', toks := tk } ∧ i ≤ n ∧ k = n + 1 - i ∧ ys.length = i ∧ St i h' ∧ Fr h₀ L h' m ∧ h'.Ns H2.objs.size m' ∧ News h₀ L h' ((s₂.heap.objs.size, LCg.lst ys) :: nw) ∧
        (∀ p ∈ nw, p.1 ∉ ow ∧ p.1 ≠ H2.objs.size ∧ p.1 ≠ s₂.heap.objs.size) ∧ J i ys nw) ?_ (n + 1)
      ⟨h₁, _, 0, [], _, news, rfl, Nat.zero_le _, rfl, rfl, hst₁, F.keeps old, hns₁, fun p hp => ?_, fun p hp => ⟨off p hp, (below _ (Heap.lt_size (N p hp).1)).1, (below _ (Heap.lt_size (N p hp).1)).2⟩, hJ⟩
    · intro k s' hA
      refine ex6 hA fun h' tk i ys m' nw hB => and10 hB fun hE hi hK hyl hst' F' hn' N' off' hJ' => ?_
      clear hA hB
      subst hE
      subst hK
      by_cases hlt : i < n
      · refine W.item i _ _ _ hlt hst' fun v h₂ tk₂ hMd hk₂ => ?_
        refine W.go i v _ _ _ hMd fun h₃ hPv hst₃ hk₃ => ?_
        have hn₃ : h₃.Ns H2.objs.size m' := (hn'.at' fun o e => hk₂ _ o hwC e).at' fun o e => hk₃ _ o hwC e
        refine hasg i v H2.objs.size _ m' _ _ hlt hPv hn₃ fun h₄ tk₄ m₂ hB hn₄ hk₄ => ?_
        have up : ∀ b o, b ∉ wr → b ≠ H2.objs.size → h'.get? b = some o → h₄.get? b = some o := fun b o hb hbC e => hk₄ b o hbC (hk₃ b o hb (hk₂ b o hb e))
        have hst₄ : St (i + 1) h₄ := W.frame _ _ _ hst₃ fun b hb o e => hk₄ b o (fun q => hCf (by have q' : b = H2.objs.size := q; rw [← q']; exact hb)) e
        obtain ⟨own, ho1, ho2⟩ := own_of ow h₄ (hlive _ _ hst₄)
        obtain ⟨oC, heC, hoC⟩ := LCg.ns_obj hn₄
        have F₄ : Fr h₀ L h₄ m := ⟨F'.ns.at' fun o e => up L o hwL (Ne.symm hCL) e, fun b o e => up b o (hw0 b o e) (fun q => by rw [q, hC₀] at e; cases e) (F'.keep b o e), F'.above⟩
        have N₄ : News h₀ L h₄ ((H2.objs.size, oC) :: (s₂.heap.objs.size, LCg.lst ys) :: (nw ++ own)) := fun p hp => by
          rcases List.mem_cons.mp hp with rfl | hp
          · exact ⟨heC, hCL, hC₀⟩
          rcases List.mem_cons.mp hp with rfl | hp
          · exact ⟨up _ _ hwD hDC (N' _ (.head _)).1, hDL, hD₀⟩
          rcases List.mem_append.mp hp with hp | hp
          · have z := N' p (.tail _ hp)
            exact ⟨up _ _ (fun hw => (off' p hp).1 (hwo _ hw)) (off' p hp).2.1 z.1, z.2⟩
          · exact ⟨(ho1 p hp).1, fun e => hLw (e ▸ hof _ (ho1 p hp).2), how _ (ho1 p hp).2⟩
        have offT : ∀ p ∈ nw, p.1 ≠ H2.objs.size ∧ p.1 ≠ s₂.heap.objs.size ∧ ∀ q ∈ own, p.1 ≠ q.1 := fun p hp => ⟨(off' p hp).2.1, (off' p hp).2.2, fun q hq e => (off' p hp).1 (e ▸ (ho1 q hq).2)⟩
        refine wpAny_mono (turn i ys nw own H2.objs.size oC s₂.heap.objs.size m₂ h₄ _ _ hlt hB hJ' hoC F₄ N₄ offT (Ne.symm hDC)) (fun y s₅ hA₅ => ?_) fun _ _ e => e
        refine ex3 hA₅ fun h₅ tk₅ nw₅ hB => and5 hB fun hE F₅ N₅ off₅ hJ₅ => ?_
        clear hA₅ hB
        subst hE
        have zC := (N₅ (H2.objs.size, oC) (.head _)).1
        have zD := (N₅ (s₂.heap.objs.size, LCg.lst ys) (.tail _ (.head _))).1
        have hst₅ : St (i + 1) h₅ := W.frame _ _ _ hst₄ fun b hb o e => by
          rcases hsrc b hb with hw | ⟨o', hw⟩ | ⟨o', hw⟩
          · exact (N₅ _ (.tail _ (.tail _ (List.mem_append_right _ (ho2 b hw o e))))).1
          · have := F₄.keep _ _ hw
            rw [e] at this
            cases this
            exact F₅.keep _ _ hw
          · have := (N₄ _ (.tail _ (.tail _ (List.mem_append_left _ (hw _ _ _ hJ'))))).1
            dsimp only at this
            rw [e] at this
            cases this
            exact (N₅ _ (.tail _ (.tail _ (List.mem_append_left _ (hw _ _ _ hJ₅))))).1
        refine append_at (hsz := by show ys.toArray.size ≤ sizeLine; rw [List.size_toArray, hyl]; exact Nat.le_trans hi hsz) zD fun h₆ hs₆ hD₆ => ?_
        refine ⟨n + 1 - (i + 1), by omega, exI6 h₆ tk₅ (i + 1) (ys ++ [y]) _ nw₅ ⟨rfl, hlt, rfl, by rw [List.length_append, List.length_singleton, hyl], W.frame _ _ _ hst₅ fun b hb o e => hs₆.extBut b o (fun q => hDf (q ▸ hb)) e, F₅.change hs₆ hDL hD₀,
          (hoC.ns zC).sameBut hs₆ (Ne.symm hDC), fun p hp => ?_, fun p hp => ⟨fun hw => ?_, (off₅ p hp).1, (off₅ p hp).2.1⟩, hJ₅⟩⟩
        · rcases List.mem_cons.mp hp with rfl | hp
          · exact ⟨hD₆.trans (congrArg some (LCg.lst_snoc ys y)), hDL, hD₀⟩
          · have z := N₅ p (.tail _ (.tail _ (List.mem_append_left _ hp)))
            exact ⟨hs₆.extBut _ _ (off₅ p hp).2.1 z.1, z.2⟩
        · obtain ⟨o, ho⟩ := hlive _ _ hst₄ _ hw
          exact (off₅ p hp).2.2 _ (ho2 _ hw o ho) rfl
      · obtain rfl : i = n := Nat.le_antisymm hi (Nat.not_lt.mp hlt)
        refine W.done _ _ _ hst' fun h₂ tk₂ hk₂ => ?_
        exact hRR _ _ h₂ tk₂ _ ys nw ⟨F'.ns.at' fun o e => hk₂ L o hwL e, fun b o e => hk₂ b o (hw0 b o e) (F'.keep b o e), F'.above⟩ (fun p hp => by
          rcases List.mem_cons.mp hp with rfl | hp
          · exact ⟨hk₂ _ _ hwD (N' _ (.head _)).1, (N' _ (.head _)).2⟩
          · exact ⟨hk₂ _ _ (fun hw => (off' p hp).1 (hwo _ hw)) (N' p (.tail _ hp)).1, (N' p (.tail _ hp)).2⟩) (fun p hp => (off' p hp).2.2) (hn'.at' fun o e => hk₂ _ o hwC e) hC₀ hD₀ hCL hDL (Ne.symm hDC) (fun p hp => (off' p hp).2.1) hJ'
    · rcases List.mem_cons.mp hp with rfl | hp
      · exact ⟨hacc, hDL, hD₀⟩
      · exact ⟨old _ _ (N p hp).1, (N p hp).2⟩
  exact codeAny_compStart_list (loop _ rfl) (hself _ _ _ hst₁ (loop _ rfl))
end
end Mine
end

section
open PySem PySem.W PyProof.Rows
namespace Mine
section
variable {prog : Program} {w : World} {A : Around} {E : Value → Shared → Prop} {s : Shared} {h₀ : Heap} {L : Addr} {m : Str → Option Value} {env : Env}
theorem off_change {h h'' : Heap} {C D : Addr} {oD : Obj} {nw : Led} (N : News h₀ L h ((D, oD) :: nw)) (hs : Heap.SameBut C h h'') (hCD : C ≠ D) (hC : ∀ p ∈ nw, p.1 ≠ C) : News h₀ L h'' ((D, oD) :: nw) := fun p hp => by
  refine ⟨hs.extBut _ _ ?_ (N p hp).1, (N p hp).2⟩
  rcases List.mem_cons.mp hp with rfl | hp
  · exact Ne.symm hCD
  · exact hC p hp
/-- the comprehension's value is handed on -/
theorem Eval_compT {elt iter target : Expr} {scope : Scope} {cl : List (Str × Addr)} {pos : Pos} {Q : Value → Shared → Prop}
    (hclos : closureFor scope env = pure cl) (hkind : scope.kind = .function) (hnames : ∀ y ∈ scope.names, y.2 = .local → scope.names.lookup y.1 = some .local)
    (h : wpAny (model prog w) A (eval iter env) (fun xv s₁ => wpAny (model prog w) A (pyIter xv) (fun it s₂ => wpAny (model prog w) A (newList []) (fun acc s₃ => wpAny (model prog w) A (newFunctionEnv scope env.globals cl [] env.qual none .none (some env)) (fun cenv s₄ =>
      codeAny (model prog w) A (.compStart (.ListComp elt [⟨target, iter, [], 0⟩] scope pos) 0 it acc { cenv with scope := relabel scope env }) (compPost (model prog w) A E none Q acc cenv.locals) s₄) E s₃) E s₂) E s₁) E s)
    (hs : ∀ x, foldedSetIterable iter env x = pure x := by intro _; rfl) :
    wpAny (model prog w) A (eval (.ListComp elt [⟨target, iter, [], 0⟩] scope pos) env) Q E s := by
  rw [eval_ListComp]
  exact wpAny_comprehension_free (use := none) rfl hs hclos hkind hnames h
theorem eval_rr {s₂ : Shared} {Q : Value → Shared → Prop} {P : List Value → Led → Prop}
    (fin : ∀ D h tk ys nw, Fr h₀ L h m → News h₀ L h ((D, LCg.lst ys) :: nw) → (∀ p ∈ nw, p.1 ≠ D) → P ys nw → Q (.ref D) { s₂ with heap := h, toks := tk }) :
    ∀ D C h tk m' ys nw, Fr h₀ L h m → News h₀ L h ((D, LCg.lst ys) :: nw) → (∀ p ∈ nw, p.1 ≠ D) → h.Ns C m' → h₀.get? C = none → h₀.get? D = none → C ≠ L → D ≠ L → C ≠ D → (∀ p ∈ nw, p.1 ≠ C) → P ys nw →
      compPost (model prog w) A E none Q (.ref D) C (.ok .next) { s₂ with heap := h, toks := tk } :=
  fun D C h tk m' ys nw F N hD hn hC₀ _ hCL _ hCD hC hJ => ⟨m', hn, fun h'' hs => fin D h'' tk ys nw (F.change hs hCL hC₀) (off_change N hs hCD hC) hD hJ⟩
/-- the comprehension's value is stored at once -/
theorem Assign_compT {elt iter target : Expr} {y : Str} {py : Pos} {scope : Scope} {cl : List (Str × Addr)} {pos spos : Pos} {Q : Flow → Shared → Prop}
    (hsw : swapsWith (.ListComp elt [⟨target, iter, [], 0⟩] scope pos) (some (.Name y py)) spos.line env = pure true)
    (hclos : closureFor scope env = pure cl) (hkind : scope.kind = .function) (hnames : ∀ y ∈ scope.names, y.2 = .local → scope.names.lookup y.1 = some .local)
    (h : wpAny (model prog w) A (eval iter env) (fun xv s₁ => wpAny (model prog w) A (pyIter xv) (fun it s₂ => wpAny (model prog w) A (newList []) (fun acc s₃ => wpAny (model prog w) A (newFunctionEnv scope env.globals cl [] env.qual none .none (some env)) (fun cenv s₄ =>
      codeAny (model prog w) A (.compStart (.ListComp elt [⟨target, iter, [], 0⟩] scope pos) 0 it acc { cenv with scope := relabel scope env }) (compPost (model prog w) A E (some (assign (.Name y py) env)) (fun _ s' => Q .next s') acc cenv.locals) s₄) E s₃) E s₂) E s₁) E s)
    (hs : ∀ x, foldedSetIterable iter env x = pure x := by intro _; rfl) :
    wpAny (model prog w) A (exec (.Assign [.Name y py] (.ListComp elt [⟨target, iter, [], 0⟩] scope pos) spos) env) Q E s := by
  rw [exec_Assign_Name_used _ _ _ _ hsw]
  refine wpAny_bind (wpAny_standAt (wpAny_bind ?_))
  show wpAny _ A (do let _ ← comprehension (.ListComp elt [⟨target, iter, [], 0⟩] scope pos) scope env _ (newList []) false (eval iter env) (some (assign (.Name y py) env))) _ _ s
  exact wpAny_bind (wpAny_mono (wpAny_comprehension_free (use := some (assign (.Name y py) env)) (Q := fun _ s' => Q .next s') rfl hs hclos hkind hnames h) (fun _ s' hq => wpAny_pure (wpAny_pure hq)) fun _ _ e => e)
theorem asg_rr {y : Str} {py : Pos} {s₂ : Shared} {Q : Flow → Shared → Prop} {P : List Value → Led → Prop} (hLe : env.locals = L) (hy : env.kindOf y = some .local) (hp : (env.scope.kind == .class || (env.scope.kind == .module && env.locals != env.globals)) = false)
    (fin : ∀ D h tk ys nw, Fr h₀ L h (fun z => if z = y then some (.ref D) else m z) → News h₀ L h ((D, LCg.lst ys) :: nw) → (∀ p ∈ nw, p.1 ≠ D) → P ys nw → Q .next { s₂ with heap := h, toks := tk }) :
    ∀ D C h tk m' ys nw, Fr h₀ L h m → News h₀ L h ((D, LCg.lst ys) :: nw) → (∀ p ∈ nw, p.1 ≠ D) → h.Ns C m' → h₀.get? C = none → h₀.get? D = none → C ≠ L → D ≠ L → C ≠ D → (∀ p ∈ nw, p.1 ≠ C) → P ys nw →
      compPost (model prog w) A E (some (assign (.Name y py) env)) (fun _ s' => Q .next s') (.ref D) C (.ok .next) { s₂ with heap := h, toks := tk } := by
  subst hLe
  intro D C h tk m' ys nw F N hD hn hC₀ _ hCL _ hCD hC hJ
  show wpAny _ A (assign (.Name y py) env (.ref D)) _ _ _
  refine wpAny_assign_Name (wpAny_storeName_local hy F.ns (fun h₂ hn₂ hs₂ => ?_) hp)
  have hL₀ : h₀.get? env.locals = none := Heap.get?_none_of_le F.above
  have F₂ : Fr h₀ env.locals h₂ (fun z => if z = y then some (.ref D) else m z) := ⟨hn₂, fun b o e => hs₂.extBut b o (fun q => by rw [q, hL₀] at e; cases e) (F.keep b o e), F.above⟩
  have N₂ : News h₀ env.locals h₂ ((D, LCg.lst ys) :: nw) := fun p hp => ⟨hs₂.extBut _ _ (N p hp).2.1 (N p hp).1, (N p hp).2⟩
  exact ⟨m', hn.sameBut hs₂ hCL, fun h'' hs => fin D h'' _ ys nw (F₂.change hs hCL hC₀) (off_change N₂ hs hCD hC) hD hJ⟩
end
end Mine
end

section
open PySem PySem.W PyProof.Rows
namespace Mine
noncomputable abbrev ASCII : String := "str_ascii_iterator"
section
variable {prog : Program} {w : World} {A : Around} {E : Value → Shared → Prop} {s : Shared}
/-- an ascii text's iterator, asked by zip -/
theorem nextOf_sign {it : Addr} {x : Str} {t : Tok} {i c : Nat} {Q : Value → Shared → Prop} (hit : s.heap.IsStrIter it ASCII x t i) (hx : x.cps[i]? = some c)
    (hQ : ∀ h', h'.IsStrIter it ASCII x t (i + 1) → Heap.SameBut it s.heap h' → Q (.str ⟨#[c]⟩ s.toks) { s with heap := h', toks := s.toks + 1 }) :
    wpAny (model prog w) A (Builtin.SmallTypes.nextOf (.ref it)) Q E s := by
  obtain ⟨o, ho, hc, hd⟩ := id hit
  unfold Builtin.SmallTypes.nextOf
  refine wpAny_bind (wpAny_callSpecial?_slot (name := Str.ofString "__next__") hit.typeIs F.slot_str_ascii_iterator_next
    (wpAny_call_entry F.slot_str_ascii_iterator_next hit.typeIs F.entry_str_ascii_iterator_next ?_ (F.args_str_ascii_iterator_next_1 _)))
  show wpAny _ _ (field (.ref it) 0 >>= _) _ _ s
  refine wpAny_bind (wpAny_field ho hd (x := .str x t) rfl ?_)
  show wpAny _ _ (field (.ref it) 1 >>= _) _ _ s
  refine wpAny_bind (wpAny_field ho hd (x := .int i 0) rfl ?_)
  simp only [Int.toNat_natCast, hx]
  refine wpAny_bind (wpAny_setField ho hd (by simp) (wpAny_bind (wpAny_mkStr (wpAny_pure ⟨_, rfl, wpAny_pure (hQ _ ?_ (Heap.SameBut.update ..))⟩) (by show 1 ≤ sizeLine; decide))))
  exact ⟨_, Heap.get?_update_self _ ho (Obj.isFreed_of_fields (Obj.data_mapFields hd _)), (Obj.cls_mapFields ..).trans hc, by
    rw [Obj.data_mapFields hd]; simp [rawInt]⟩
/-- the five objects of a zip of a list and a text -/
structure ZsAt (h : Heap) (z TI TO i1 i2 l1 : Addr) (x : Str) (t : Tok) (f0 : Value) (k : Nat) : Prop where
  z : IsZip h z TI TO f0
  ti : IsPair h TI (.ref i1) (.ref i2)
  tO : ∃ a b, IsPair h TO a b
  i1 : h.IsListIter i1 l1 k
  i2 : h.IsStrIter i2 ASCII x t k
structure ZsNe (z TI TO i1 i2 l1 : Addr) : Prop where
  a : TI ≠ z ∧ TO ≠ z ∧ i1 ≠ z ∧ i2 ≠ z
  b : TI ≠ TO ∧ TI ≠ i1 ∧ TI ≠ i2 ∧ TO ≠ i1 ∧ TO ≠ i2 ∧ i1 ≠ i2
  c : l1 ≠ z ∧ l1 ≠ TO ∧ l1 ≠ i1 ∧ l1 ≠ i2
theorem ZsAt.frame {h h' : Heap} {z TI TO i1 i2 l1 : Addr} {x : Str} {t : Tok} {f0 : Value} {k : Nat} (Z : ZsAt h z TI TO i1 i2 l1 x t f0 k) (e : ∀ b ∈ [z, TI, TO, i1, i2], ∀ o, h.get? b = some o → h'.get? b = some o) : ZsAt h' z TI TO i1 i2 l1 x t f0 k := by
  obtain ⟨hz, hti, ⟨a, b, hto⟩, h1, ⟨o2, e2, r2⟩⟩ := Z
  exact ⟨e z (by simp) _ hz, e TI (by simp) _ hti, ⟨a, b, e TO (by simp) _ hto⟩, h1.at fun o q => e i1 (by simp) o q, ⟨o2, e i2 (by simp) _ e2, r2⟩⟩
theorem zs_item {z TI TO i1 i2 l1 : Addr} {x : Str} {t : Tok} {k c : Nat} {xs : Array Value} {v : Value} {Q : Option Value → Shared → Prop} (D : ZsNe z TI TO i1 i2 l1)
    (Z : ZsAt s.heap z TI TO i1 i2 l1 x t .none k) (hl : s.heap.IsList l1 xs) (hv : xs[k]? = some v) (hc : x.cps[k]? = some c)
    (hQ : ∀ h', ZsAt h' z TI TO i1 i2 l1 x t (rawInt s.heap.objs.size) (k + 1) → IsPair h' s.heap.objs.size v (.str ⟨#[c]⟩ s.toks) → h'.objs.size = s.heap.objs.size + 1 →
      (∀ b o, b ≠ z → b ≠ TO → b ≠ i1 → b ≠ i2 → s.heap.get? b = some o → h'.get? b = some o) → Q (some (.ref s.heap.objs.size)) { s with heap := h', toks := s.toks + 1 }) :
    wpAny (model prog w) A (pyNext (.ref z)) Q E s := by
  obtain ⟨hz, hTI, ⟨a, b, hTO⟩, h1, h2⟩ := Z
  obtain ⟨⟨na1, na2, na3, na4⟩, ⟨nb1, nb2, nb3, nb4, nb5, nb6⟩, nc1, nc2, nc3, nc4⟩ := D
  have hT : s.TypeIs (.ref z) "zip" := ⟨_, hz, rfl⟩
  unfold pyNext
  refine wpAny_bind (wpAny_attempt (wpAny_callSpecial?_slot (name := Str.ofString "__next__") hT F.slot_zip_next (wpAny_call_entry F.slot_zip_next hT F.entry_zip_next ?_ (F.args_zip_next_1 _))))
  show wpAny _ _ (field (.ref z) 2 >>= _) _ _ _
  refine wpAny_bind (wpAny_field hz rfl (x := .bool false) rfl ?_)
  show wpAny _ _ (field (.ref z) 3 >>= _) _ _ _
  refine wpAny_bind (wpAny_field hz rfl (x := .ref TI) rfl ?_)
  refine wpAny_bind (wpAny_seqItems hTI rfl ?_)
  show wpAny _ _ (Builtin.SmallTypes.ownedTupleIsFree (.ref z) >>= _) _ _ _
  refine wpAny_bind ?_
  unfold Builtin.SmallTypes.ownedTupleIsFree
  refine wpAny_bind (wpAny_field hz rfl (x := .none) rfl (wpAny_pure ?_))
  simp only [if_true]
  refine wpAny_bind (wpAny_rule ?_)
  refine wpAny_bind (wpAny_field hz rfl (x := .ref TO) rfl ?_)
  refine wpAny_bind (wpAny_setField_rec hz (by simp) fun h₁ hz₁ hs₁ => ?_)
  replace hz₁ : IsZip h₁ z TI TO .ellipsis := hz₁
  refine wpAny_bind ?_
  simp only [List.zipIdx_cons, List.zipIdx_nil, List.forIn_cons, List.forIn_nil]
  refine wpAny_bind (wpAny_bind (wpAny_onRaise ?_))
  show wpAny _ _ (Builtin.SmallTypes.nextOf (.ref i1) >>= _) _ _ _
  refine wpAny_bind (wpAny_nextOf_list_item (h1.extBut hs₁.extBut na3) (hl.extBut hs₁.extBut nc1) hv fun h₂ h1₂ hs₂ => wpAny_pure ?_)
  have hTO₂ : IsPair h₂ TO a b := hs₂.extBut _ _ nb4 (hs₁.extBut _ _ na2 hTO)
  refine wpAny_bind (wpAny_seqItems hTO₂ rfl ?_)
  refine wpAny_bind (wpAny_updateSeq_pair hTO₂ fun h₃ hTO₃ hs₃ => ?_)
  replace hTO₃ : IsPair h₃ TO v b := hTO₃
  refine wpAny_bind (wpAny_letGo (wpAny_pure ?_))
  refine wpAny_bind (wpAny_bind (wpAny_onRaise ?_))
  show wpAny _ _ (Builtin.SmallTypes.nextOf (.ref i2) >>= _) _ _ _
  refine wpAny_bind (nextOf_sign (((h2.extBut hs₁.extBut na4).extBut hs₂.extBut nb6.symm).extBut hs₃.extBut nb5.symm) hc fun h₄ h2₄ hs₄ => wpAny_pure ?_)
  replace hs₄ : Heap.SameBut i2 h₃ h₄ := hs₄
  have hTO₄ : IsPair h₄ TO v b := hs₄.extBut _ _ nb5 hTO₃
  refine wpAny_bind (wpAny_seqItems hTO₄ rfl ?_)
  refine wpAny_bind (wpAny_updateSeq_pair hTO₄ fun h₅ hTO₅ hs₅ => ?_)
  replace hTO₅ : IsPair h₅ TO v (.str ⟨#[c]⟩ s.toks) := hTO₅
  replace hs₅ : Heap.SameBut TO h₄ h₅ := hs₅
  refine wpAny_bind (wpAny_letGo (wpAny_pure (wpAny_pure ?_)))
  refine wpAny_bind (wpAny_seqItems hTO₅ rfl ?_)
  refine wpAny_bind (wpAny_newTuple ?_)
  have hsz : h₅.objs.size = s.heap.objs.size := by rw [hs₅.1, hs₄.1, hs₃.1, hs₂.1, hs₁.1]
  have hz₅ : IsZip h₅ z TI TO .ellipsis := hs₅.extBut _ _ na2.symm (hs₄.extBut _ _ na4.symm (hs₃.extBut _ _ na2.symm (hs₂.extBut _ _ na3.symm hz₁)))
  have hk₅ : ∀ c o, c ≠ z → c ≠ TO → c ≠ i1 → c ≠ i2 → s.heap.get? c = some o → h₅.get? c = some o := fun c o c1 c2 c3 c4 e =>
    hs₅.extBut _ _ c2 (hs₄.extBut _ _ c4 (hs₃.extBut _ _ c2 (hs₂.extBut _ _ c3 (hs₁.extBut _ _ c1 e))))
  have h1₅ : h₅.IsListIter i1 l1 (k + 1) := ((h1₂.extBut hs₃.extBut nb4.symm).extBut hs₄.extBut nb6).extBut hs₅.extBut nb4.symm
  have h2₅ : h₅.IsStrIter i2 ASCII x t (k + 1) := h2₄.extBut hs₅.extBut nb5.symm
  have hzlt : z < h₅.objs.size := Heap.lt_size hz₅
  show wpAny _ _ (Builtin.SmallTypes.ownedTupleHandOut (.ref z) (.ref h₅.objs.size) >>= _) _ _ _
  refine wpAny_bind ?_
  unfold Builtin.SmallTypes.ownedTupleHandOut
  have hz₆ : IsZip (h₅.push { cls := .type "tuple", data := .seq #[v, .str ⟨#[c]⟩ s.toks] }) z TI TO .ellipsis := Heap.get?_push_of_some _ hz₅
  refine wpAny_bind (wpAny_setField_rec hz₆ (by simp) fun h₇ hz₇ hs₇ => ?_)
  replace hz₇ : IsZip h₇ z TI TO (rawInt h₅.objs.size) := hz₇
  refine wpAny_setField_rec hz₇ (by simp) fun h₈ hz₈ hs₈ => ?_
  replace hz₈ : IsZip h₈ z TI TO (rawInt h₅.objs.size) := hz₈
  have up : ∀ c o, c ≠ z → h₅.get? c = some o → h₈.get? c = some o := fun c o c1 e => hs₈.extBut _ _ c1 (hs₇.extBut _ _ c1 (Heap.get?_push_of_some _ e))
  have hT₈ : IsPair h₈ h₅.objs.size v (.str ⟨#[c]⟩ s.toks) := hs₈.extBut _ _ (Nat.ne_of_gt hzlt) (hs₇.extBut _ _ (Nat.ne_of_gt hzlt) (Heap.get?_push_size _ rfl))
  have hz8 : h₈.objs.size = h₅.objs.size + 1 := by rw [hs₈.1, hs₇.1, Heap.size_push]
  rw [hsz] at hz₈ hT₈ hz8
  refine wpAny_pure ⟨_, rfl, wpAny_pure ?_⟩
  rw [hsz]
  obtain ⟨o2, e2, r2⟩ := h2₅
  exact hQ h₈ ⟨hz₈, up _ _ na1 (hk₅ _ _ na1 nb1 nb2 nb3 hTI), ⟨_, _, up _ _ na2 hTO₅⟩, h1₅.at fun o e => up _ o na3 e, ⟨o2, up _ _ na4 e2, r2⟩⟩ hT₈ hz8 fun c o c1 c2 c3 c4 e => up c o c1 (hk₅ c o c1 c2 c3 c4 e)
theorem zs_done {z TI TO i1 i2 l1 : Addr} {x : Str} {t : Tok} {k : Nat} {xs : Array Value} {Q : Option Value → Shared → Prop} (hh : A.handled = none) (D : ZsNe z TI TO i1 i2 l1)
    (Z : ZsAt s.heap z TI TO i1 i2 l1 x t .none k) (hl : s.heap.IsList l1 xs) (hv : xs[k]? = none)
    (hQ : ∀ h', (∀ b o, b ≠ z → b ≠ i1 → s.heap.get? b = some o → h'.get? b = some o) → Q none { s with heap := h' }) :
    wpAny (model prog w) A (pyNext (.ref z)) Q E s := by
  obtain ⟨hz, hTI, ⟨a, b, hTO⟩, h1, h2⟩ := Z
  obtain ⟨⟨na1, na2, na3, na4⟩, ⟨nb1, nb2, nb3, nb4, nb5, nb6⟩, nc1, nc2, nc3, nc4⟩ := D
  have hT : s.TypeIs (.ref z) "zip" := ⟨_, hz, rfl⟩
  unfold pyNext
  refine wpAny_bind (wpAny_attempt (wpAny_callSpecial?_slot (name := Str.ofString "__next__") hT F.slot_zip_next (wpAny_call_entry F.slot_zip_next hT F.entry_zip_next ?_ (F.args_zip_next_1 _))))
  show wpAny _ _ (field (.ref z) 2 >>= _) _ _ _
  refine wpAny_bind (wpAny_field hz rfl (x := .bool false) rfl ?_)
  show wpAny _ _ (field (.ref z) 3 >>= _) _ _ _
  refine wpAny_bind (wpAny_field hz rfl (x := .ref TI) rfl ?_)
  refine wpAny_bind (wpAny_seqItems hTI rfl ?_)
  show wpAny _ _ (Builtin.SmallTypes.ownedTupleIsFree (.ref z) >>= _) _ _ _
  refine wpAny_bind ?_
  unfold Builtin.SmallTypes.ownedTupleIsFree
  refine wpAny_bind (wpAny_field hz rfl (x := .none) rfl (wpAny_pure ?_))
  simp only [if_true]
  refine wpAny_bind (wpAny_rule ?_)
  refine wpAny_bind (wpAny_field hz rfl (x := .ref TO) rfl ?_)
  refine wpAny_bind (wpAny_setField_rec hz (by simp) fun h₁ hz₁ hs₁ => ?_)
  replace hz₁ : IsZip h₁ z TI TO .ellipsis := hz₁
  refine wpAny_bind ?_
  simp only [List.zipIdx_cons, List.zipIdx_nil, List.forIn_cons, List.forIn_nil]
  refine wpAny_bind (wpAny_bind (wpAny_onRaise ?_))
  show wpAny _ _ (Builtin.SmallTypes.nextOf (.ref i1) >>= _) _ _ _
  refine wpAny_bind (wpAny_nextOf_list_end hh (h1.extBut hs₁.extBut na3) (hl.extBut hs₁.extBut nc1) hv fun h₂ e hs₂ he => ?_)
  obtain ⟨oe, hoe, hce⟩ := he
  have hz₂ : IsZip h₂ z TI TO .ellipsis := hs₂ _ _ na3.symm hz₁
  have hez : e ≠ z := fun x => by subst x; rw [hz₂] at hoe; cases hoe; simp at hce
  refine wpAny_setField_rec hz₂ (by simp) fun h₃ _ hs₃ => ?_
  refine wpAny_bind (wpAny_isInstance (T := "StopIteration") (b := true) ⟨oe, hs₃.extBut _ _ hez hoe, hce⟩ isSubtype_stop ?_)
  exact wpAny_pure (hQ _ fun c o c1 c3 x => hs₃.extBut _ _ c1 (hs₂ _ _ c3 (hs₁.extBut _ _ c1 x)))
/-- zip(list, text) -/
theorem zs_turns {elts : List Expr} {kk : Nat} {pos : Pos} {z TI TO i1 i2 l1 : Addr} {x : Str} {t : Tok} {xs : Array Value} (hh : A.handled = none) (D : ZsNe z TI TO i1 i2 l1) (hsz : xs.size ≤ x.cps.size) :
    KTurns prog w A (.Tuple elts kk pos) z [z, TI, TO, i1, i2, l1] [z, TO, i1, i2] xs.size
      (fun i v h => ∃ T y c u, v = .ref T ∧ xs[i]? = some y ∧ x.cps[i]? = some c ∧ h.IsTuple T #[y, .str ⟨#[c]⟩ u])
      (fun i v h => ∃ T y c u, v = .ref T ∧ xs[i]? = some y ∧ x.cps[i]? = some c ∧ IsPair h T y (.str ⟨#[c]⟩ u) ∧ ZsAt h z TI TO i1 i2 l1 x t (rawInt T) (i + 1) ∧ h.IsList l1 xs ∧ T ≠ z)
      (fun i h => ZsAt h z TI TO i1 i2 l1 x t .none i ∧ h.IsList l1 xs) where
  sub := fun b hb => by simp at hb ⊢; rcases hb with rfl | rfl | rfl | rfl <;> simp
  frame := fun i h h' st e => ⟨st.1.frame fun b hb o q => e b (by simp at hb ⊢; rcases hb with rfl | rfl | rfl | rfl | rfl <;> simp) o q, st.2.at fun o q => e l1 (by simp) o q⟩
  item := fun i s Q E hi st hQ => by
    have hix : i < x.cps.size := Nat.lt_of_lt_of_le hi hsz
    refine zs_item D st.1 st.2 (Array.getElem?_eq_getElem hi) (Array.getElem?_eq_getElem hix) fun h' Z hp hs hk => ?_
    have hzl : s.heap.objs.size ≠ z := Nat.ne_of_gt (Heap.lt_size st.1.z)
    refine hQ _ h' _ ⟨_, _, _, _, rfl, Array.getElem?_eq_getElem hi, Array.getElem?_eq_getElem hix, hp, Z, st.2.at fun o e => hk _ o D.c.1 D.c.2.1 D.c.2.2.1 D.c.2.2.2 e, hzl⟩ fun b o hb e => ?_
    simp only [List.mem_cons, List.not_mem_nil, or_false, not_or] at hb
    exact hk b o hb.1 hb.2.1 hb.2.2.1 hb.2.2.2 e
  go := fun i v s Q E hm hQ => by
    obtain ⟨T, y, c, u, rfl, h1, h2, hp, Z, hl, hTz⟩ := hm
    refine wpAny_letOwnedTupleGo_zip Z.z fun h' hz' hs' => hQ h' ⟨T, y, c, u, rfl, h1, h2, ⟨_, hs'.extBut _ _ hTz hp, rfl, _, rfl⟩⟩ ⟨?_, hl.extBut hs'.extBut D.c.1⟩ fun b o hb e => hs'.extBut _ _ (fun q => hb (by simp [q])) e
    obtain ⟨_, hti, ⟨a, b, hto⟩, hi1, ⟨o2, e2, r2⟩⟩ := Z
    exact ⟨hz', hs'.extBut _ _ D.a.1 hti, ⟨a, b, hs'.extBut _ _ D.a.2.1 hto⟩, hi1.extBut hs'.extBut D.a.2.2.1, ⟨o2, hs'.extBut _ _ D.a.2.2.2 e2, r2⟩⟩
  done := fun s Q E st hQ => by
    refine zs_done hh D st.1 st.2 (Array.getElem?_eq_none (Nat.le_refl _)) fun h' hk => hQ h' s.toks fun b o hb e => ?_
    simp only [List.mem_cons, List.not_mem_nil, or_false, not_or] at hb
    exact hk b o hb.1 hb.2.2.1 e
noncomputable abbrev zsH1 (h : Heap) (l1 : Addr) : Heap := h.push { cls := .type "list_iterator", data := .fields #[.ref l1, .int 0 0] }
noncomputable abbrev zsH2 (h : Heap) (l1 : Addr) (x : Str) (t : Tok) : Heap := (zsH1 h l1).push { cls := .type ASCII, data := .fields #[.str x t, .int 0 0] }
noncomputable abbrev zsH3 (h : Heap) (l1 : Addr) (x : Str) (t : Tok) : Heap := (zsH2 h l1 x t).push { cls := .type "tuple", data := .seq #[.ref h.objs.size, .ref (zsH1 h l1).objs.size] }
noncomputable abbrev zsH4 (h : Heap) (l1 : Addr) (x : Str) (t : Tok) : Heap := (zsH3 h l1 x t).push { cls := .type "tuple", data := .seq #[.none, .none] }
noncomputable abbrev zsH5 (h : Heap) (l1 : Addr) (x : Str) (t : Tok) : Heap := (zsH4 h l1 x t).push { cls := .type "zip", data := .fields #[.none, .bool false, .bool false, .ref (zsH2 h l1 x t).objs.size, .ref (zsH3 h l1 x t).objs.size] }
set_option maxHeartbeats 2000000 in
theorem meets_zs (l1 : Addr) (xs : Array Value) (x : Str) (t : Tok) (ha : x.cps.all (· < 128) = true) :
    Meets (Builtin.«zip.__new__» ⟨[.type "zip", .ref l1, .str x t], []⟩) (fun _ R s => s.heap.IsList l1 xs ∧
      R (.ok (.ret (.ref (zsH4 s.heap l1 x t).objs.size))) { s with heap := zsH5 s.heap l1 x t }) :=
  .of_wp fun prog w A R s h => by
    obtain ⟨hp, g, d, tk, os⟩ := s; obtain ⟨hl1, h⟩ := h
    have hsub := sub_zip
    have hL1 : Heap.IsList (Shared.heap ⟨hp, g, d, tk, os⟩) l1 xs := hl1
    have hA := fun (A : Around) (Q : Value → Shared → Prop) (E : Value → Shared → Prop) (s : Shared) => wpAny_pyIter_ascii (prog := prog) (w := w) (A := A) (E := E) (s := s) (t := t) (Q := Q) ha
    wp_walk using wpAny_pyIter_list hL1, hA
    exact ⟨_, rfl, h⟩
theorem call_zs {l1 : Addr} {xs : Array Value} {x : Str} {t : Tok} {Q : Value → Shared → Prop} (ha : x.cps.all (· < 128) = true) (hl1 : s.heap.IsList l1 xs)
    (h : ∀ h', ZsAt h' (s.heap.objs.size + 4) (s.heap.objs.size + 2) (s.heap.objs.size + 3) s.heap.objs.size (s.heap.objs.size + 1) l1 x t .none 0 → h'.objs.size = s.heap.objs.size + 5 →
      (∀ c o, s.heap.get? c = some o → h'.get? c = some o) → Q (.ref (s.heap.objs.size + 4)) { s with heap := h' }) :
    wpAny (model prog w) A (call (.type "zip") [.ref l1, .str x t]) Q E s := by
  refine callType_new F.called_zip (by decide) (F.typeCall_zip_2 _ _) (F.newCall_zip_2 _ _) (fun obj => F.args_object_init_3 obj _ _) F.entry_zip_new (meets_zs l1 xs x t ha) ⟨hl1, ?_⟩
  have z1 : (zsH1 s.heap l1).objs.size = s.heap.objs.size + 1 := Heap.size_push ..
  have z2 : (zsH2 s.heap l1 x t).objs.size = s.heap.objs.size + 2 := by rw [Heap.size_push, z1]
  have z3 : (zsH3 s.heap l1 x t).objs.size = s.heap.objs.size + 3 := by rw [Heap.size_push, z2]
  have z4 : (zsH4 s.heap l1 x t).objs.size = s.heap.objs.size + 4 := by rw [Heap.size_push, z3]
  have z5 : (zsH5 s.heap l1 x t).objs.size = s.heap.objs.size + 5 := by rw [Heap.size_push, z4]
  have g5 : (zsH5 s.heap l1 x t).get? (zsH4 s.heap l1 x t).objs.size = some _ := Heap.get?_push_size _ rfl
  have g4 : (zsH5 s.heap l1 x t).get? (zsH3 s.heap l1 x t).objs.size = some _ := Heap.get?_push_of_some _ (Heap.get?_push_size _ rfl)
  have g3 : (zsH5 s.heap l1 x t).get? (zsH2 s.heap l1 x t).objs.size = some _ := Heap.get?_push_of_some _ (Heap.get?_push_of_some _ (Heap.get?_push_size _ rfl))
  have g2 : (zsH5 s.heap l1 x t).get? (zsH1 s.heap l1).objs.size = some _ := Heap.get?_push_of_some _ (Heap.get?_push_of_some _ (Heap.get?_push_of_some _ (Heap.get?_push_size _ rfl)))
  have g1 : (zsH5 s.heap l1 x t).get? s.heap.objs.size = some _ := Heap.get?_push_of_some _ (Heap.get?_push_of_some _ (Heap.get?_push_of_some _ (Heap.get?_push_of_some _ (Heap.get?_push_size _ rfl))))
  show _ ∧ _
  rw [z2, z3, z4] at g5
  rw [z1, z2] at g3
  rw [z3] at g4
  rw [z1] at g2
  rw [z4]
  exact ⟨⟨_, g5, rfl⟩, h _ ⟨g5, g3, ⟨_, _, g4⟩, ⟨_, g1, rfl, rfl⟩, ⟨_, g2, rfl, rfl⟩⟩ z5 fun c o x =>
    Heap.get?_push_of_some _ (Heap.get?_push_of_some _ (Heap.get?_push_of_some _ (Heap.get?_push_of_some _ (Heap.get?_push_of_some _ x))))⟩
end
end Mine
end

section
open PySem PySem.W PyProof.Rows
namespace Mine
section
variable {prog : Program} {w : World} {A : Around} {E : Value → Shared → Prop} {s : Shared} {h₀ : Heap} {L : Addr} {m : Str → Option Value} {env : Env} {elt iter : Expr} {scope : Scope} {cl : List (Str × Addr)} {pos : Pos} {news : Led} {RR : Value → Addr → Result → Shared → Prop}
/-- [elt for a, b in zip(list, text)] -/
theorem comp_zs {a b : Str} {pa pb tp : Pos} {kk : Nat} {l1 : Addr} {vs : List Value} {cap : Nat} {x : Str} {t : Tok} (J : Nat → List Value → Led → Prop)
    (hh : A.handled = none) (F : Fr h₀ L s.heap m) (N : News h₀ L s.heap news) (ha : x.cps.all (· < 128) = true) (hm : (l1, listOf vs.toArray cap) ∈ news) (hsz : vs.length ≤ x.cps.size) (hsl : vs.length ≤ sizeLine)
    (hcell : ∀ y ∈ scope.names, y.2 ≠ .cell) (hkind : scope.kind = .function) (hxa : scope.names.lookup a = some .local) (hxb : scope.names.lookup b = some .local) (hab : ¬ a = b)
    (hJ : J 0 [] news) (hJl : ∀ i ys nw, J i ys nw → (l1, listOf vs.toArray cap) ∈ nw)
    (turn : ∀ i y c u ys nw own C oC D m₂ h tk (s₂ : Shared) (E' : Value → Shared → Prop), vs[i]? = some y → x.cps[i]? = some c → m₂ a = some y → m₂ b = some (.str ⟨#[c]⟩ u) → J i ys nw → LCg.NsObj oC m₂ → Fr h₀ L h m → News h₀ L h ((C, oC) :: (D, LCg.lst ys) :: (nw ++ own)) → (∀ p ∈ nw, p.1 ≠ C ∧ p.1 ≠ D ∧ ∀ q ∈ own, p.1 ≠ q.1) → @Ne Nat C D →
      wpAny (model prog w) A (eval elt (compEnvC scope cl C env)) (CompEndT h₀ L m { s₂ with heap := h, toks := tk } own C oC D (LCg.lst ys) (fun y nw' => J (i + 1) (ys ++ [y]) nw')) E' { s₂ with heap := h, toks := tk })
    (hRR : ∀ s₂ : Shared, s₂.gens = s.gens → s₂.drawn = s.drawn → s₂.os = s.os → ∀ D C h tk m' ys nw, Fr h₀ L h m → News h₀ L h ((D, LCg.lst ys) :: nw) → (∀ p ∈ nw, p.1 ≠ D) → h.Ns C m' → h₀.get? C = none → h₀.get? D = none → C ≠ L → D ≠ L → C ≠ D → (∀ p ∈ nw, p.1 ≠ C) → J vs.length ys nw → RR (.ref D) C (.ok .next) { s₂ with heap := h, toks := tk }) :
    wpAny (model prog w) A (call (.type "zip") [.ref l1, .str x t]) (fun xv s₁ => wpAny (model prog w) A (pyIter xv) (fun it s₂ => wpAny (model prog w) A (newList []) (fun acc s₃ => wpAny (model prog w) A (newFunctionEnv scope env.globals cl [] env.qual none .none (some env)) (fun cenv s₄ =>
      codeAny (model prog w) A (.compStart (.ListComp elt [⟨.Tuple [.Name a pa, .Name b pb] kk tp, iter, [], 0⟩] scope pos) 0 it acc { cenv with scope := relabel scope env }) (RR acc cenv.locals) s₄) E s₃) E s₂) E s₁) E s := by
  have hl : s.heap.IsList l1 vs.toArray := ⟨_, (N _ hm).1, rfl, cap, rfl⟩
  have hlt : l1 < s.heap.objs.size := Heap.lt_size (N _ hm).1
  have hLs : L < s.heap.objs.size := F.ns.lt
  refine call_zs ha hl fun h' Z hsz' hkk => ?_
  refine wpAny_pyIter_zip Z.z ?_
  have D : ZsNe (s.heap.objs.size + 4) (s.heap.objs.size + 2) (s.heap.objs.size + 3) s.heap.objs.size (s.heap.objs.size + 1) l1 := by
    generalize s.heap.objs.size = n at hlt ⊢
    have hlt : @LT.lt Nat _ l1 n := hlt
    have q : ∀ a b : Nat, a ≠ b → (show Addr from a) ≠ b := fun _ _ h => h
    refine ⟨⟨q _ _ (by omega), q _ _ (by omega), q _ _ (by omega), q _ _ (by omega)⟩, ⟨q _ _ (by omega), q _ _ (by omega), q _ _ (by omega), q _ _ (by omega), q _ _ (by omega), q _ _ (by omega)⟩, q _ _ (by omega), q _ _ (by omega), q _ _ (by omega), q _ _ (by omega)⟩
  have hsv : vs.toArray.size = vs.length := by simp
  have W := zs_turns (prog := prog) (w := w) (A := A) (elts := [.Name a pa, .Name b pb]) (kk := kk) (pos := tp) (x := x) (t := t) (xs := vs.toArray) hh D (by rw [hsv]; exact hsz)
  rw [hsv] at W
  refine block_T (ow := [s.heap.objs.size + 4, s.heap.objs.size + 2, s.heap.objs.size + 3, s.heap.objs.size, s.heap.objs.size + 1]) (B := fun i m₂ => ∃ y c u, vs[i]? = some y ∧ x.cps[i]? = some c ∧ m₂ a = some y ∧ m₂ b = some (.str ⟨#[c]⟩ u)) J W
    (fun _ _ _ st hq => wpAny_pyIter_zip st.1.z hq) ?hlive hsl ?hasg hcell hkind ⟨Z, hl.at fun o e => hkk l1 o e⟩ ?hfp (F.keeps hkk) (N.grown hkk) ?hLw ?how ?hwo ?hof ?off ?hsrc hJ ?turn (hRR _ rfl rfl rfl)
  case hlive =>
    rintro i h ⟨⟨hz, hTI, ⟨a, b, hTO⟩, ⟨o1, ho1, _⟩, ⟨o2, ho2, _⟩⟩, _⟩ b hb
    have hb' : b = s.heap.objs.size + 4 ∨ b = s.heap.objs.size + 2 ∨ b = s.heap.objs.size + 3 ∨ b = s.heap.objs.size ∨ b = s.heap.objs.size + 1 := by simpa using hb
    rcases hb' with rfl | rfl | rfl | rfl | rfl
    · exact ⟨_, hz⟩
    · exact ⟨_, hTI⟩
    · exact ⟨_, hTO⟩
    · exact ⟨_, ho1⟩
    · exact ⟨_, ho2⟩
  case hasg =>
    rintro i v C s₁ m₁ Q E₁ hi ⟨T, y, c, u, rfl, h1, h2, hT⟩ hn hQ
    refine kcp_assign hh hT (lookup_relabel_local hxa) (lookup_relabel_local hxb) (by simp [compEnvC, relabel, hkind]) hn fun h'' tk hn' hk' => ?_
    exact hQ h'' tk _ ⟨y, c, u, by simpa using h1, h2, by simp [hab], by simp⟩ hn' hk'
  case hfp =>
    intro b hb
    have hb' : b = s.heap.objs.size + 4 ∨ b = s.heap.objs.size + 2 ∨ b = s.heap.objs.size + 3 ∨ b = s.heap.objs.size ∨ b = s.heap.objs.size + 1 ∨ b = l1 := by simpa using hb
    show @LT.lt Nat _ b h'.objs.size
    have hlt : @LT.lt Nat _ l1 s.heap.objs.size := hlt
    rw [hsz']
    rcases hb' with rfl | rfl | rfl | rfl | rfl | rfl <;> omega
  case hLw =>
    intro hI'
    have hb' : L = s.heap.objs.size + 4 ∨ L = s.heap.objs.size + 2 ∨ L = s.heap.objs.size + 3 ∨ L = s.heap.objs.size ∨ L = s.heap.objs.size + 1 ∨ L = l1 := by simpa using hI'
    rcases hb' with e | e | e | e | e | e
    · exact ktu_ne 4 hLs e
    · exact ktu_ne 2 hLs e
    · exact ktu_ne 3 hLs e
    · exact Nat.ne_of_lt hLs e
    · exact ktu_ne 1 hLs e
    · exact (N _ hm).2.1 e.symm
  case how =>
    intro b hb
    have hb' : b = s.heap.objs.size + 4 ∨ b = s.heap.objs.size + 2 ∨ b = s.heap.objs.size + 3 ∨ b = s.heap.objs.size ∨ b = s.heap.objs.size + 1 := by simpa using hb
    rcases hb' with rfl | rfl | rfl | rfl | rfl
    · exact ktu_new F (Nat.le_add_right _ _)
    · exact ktu_new F (Nat.le_add_right _ _)
    · exact ktu_new F (Nat.le_add_right _ _)
    · exact ktu_new F (Nat.le_refl _)
    · exact ktu_new F (Nat.le_add_right _ _)
  case hwo =>
    intro b hb
    have hb' : b = s.heap.objs.size + 4 ∨ b = s.heap.objs.size + 3 ∨ b = s.heap.objs.size ∨ b = s.heap.objs.size + 1 := by simpa using hb
    rcases hb' with rfl | rfl | rfl | rfl <;> simp
  case hof =>
    intro b hb
    have hb' : b = s.heap.objs.size + 4 ∨ b = s.heap.objs.size + 2 ∨ b = s.heap.objs.size + 3 ∨ b = s.heap.objs.size ∨ b = s.heap.objs.size + 1 := by simpa using hb
    rcases hb' with rfl | rfl | rfl | rfl | rfl <;> simp
  case off =>
    intro p hp hI'
    have hb' : p.1 = s.heap.objs.size + 4 ∨ p.1 = s.heap.objs.size + 2 ∨ p.1 = s.heap.objs.size + 3 ∨ p.1 = s.heap.objs.size ∨ p.1 = s.heap.objs.size + 1 := by simpa using hI'
    have hlp := Heap.lt_size (N p hp).1
    rcases hb' with e | e | e | e | e
    · exact ktu_ne 4 hlp e
    · exact ktu_ne 2 hlp e
    · exact ktu_ne 3 hlp e
    · exact Nat.ne_of_lt hlp e
    · exact ktu_ne 1 hlp e
  case hsrc =>
    intro b hb
    have hb' : b = s.heap.objs.size + 4 ∨ b = s.heap.objs.size + 2 ∨ b = s.heap.objs.size + 3 ∨ b = s.heap.objs.size ∨ b = s.heap.objs.size + 1 ∨ b = l1 := by simpa using hb
    rcases hb' with rfl | rfl | rfl | rfl | rfl | rfl
    · exact .inl (by simp)
    · exact .inl (by simp)
    · exact .inl (by simp)
    · exact .inl (by simp)
    · exact .inl (by simp)
    · exact .inr (.inr ⟨_, hJl⟩)
  case turn =>
    rintro i ys nw own C oC D m₂ h tk E' hi ⟨y, c, u, h1, h2, h3, h4⟩ hJ' hC F' N' off' ne
    exact turn i y c u ys nw own C oC D m₂ h tk _ E' h1 h2 h3 h4 hJ' hC F' N' off' ne
/-- five names from a five-place tuple -/
theorem asg5 {env : Env} {n1 n2 n3 n4 n5 : Str} {p1 p2 p3 p4 p5 tp : Pos} {kk : Nat} {T : Addr} {v1 v2 v3 v4 v5 : Value} {m : Str → Option Value} {Q : Unit → Shared → Prop} (hh : A.handled = none) (ht : s.heap.IsTuple T #[v1, v2, v3, v4, v5])
    (h1 : env.kindOf n1 = some .local) (h2 : env.kindOf n2 = some .local) (h3 : env.kindOf n3 = some .local) (h4 : env.kindOf n4 = some .local) (h5 : env.kindOf n5 = some .local) (hp : (env.scope.kind == .class || (env.scope.kind == .module && env.locals != env.globals)) = false) (hn : s.heap.Ns env.locals m)
    (h : ∀ (h' : Heap) (tk : Nat), h'.Ns env.locals (fun z => if z = n5 then some v5 else if z = n4 then some v4 else if z = n3 then some v3 else if z = n2 then some v2 else if z = n1 then some v1 else m z) → (∀ c o, c ≠ env.locals → s.heap.get? c = some o → h'.get? c = some o) → Q () { s with heap := h', toks := tk }) :
    wpAny (model prog w) A (assign (.Tuple [.Name n1 p1, .Name n2 p2, .Name n3 p3, .Name n4 p4, .Name n5 p5] kk tp) env (.ref T)) Q E s := by
  refine wpAny_assign_Tuple hh ht rfl rfl fun h₁ he₁ => ?_
  have hL : env.locals ≠ s.heap.objs.size := Nat.ne_of_lt hn.lt
  have hn₁ : h₁.Ns env.locals m := hn.at' fun o e => he₁ _ o hL e
  have up₁ : ∀ c o, s.heap.get? c = some o → h₁.get? c = some o := fun c o e => he₁ c o (Nat.ne_of_lt (Heap.lt_size e)) e
  show wpAny _ _ (assignInOrder [assign (.Name n1 p1) env, assign (.Name n2 p2) env, assign (.Name n3 p3) env, assign (.Name n4 p4) env, assign (.Name n5 p5) env] [v1, v2, v3, v4, v5]) _ _ _
  refine assignInOrder_cons (wpAny_assign_Name (wpAny_storeName_local h1 hn₁ (fun g1 m1 s1 => ?_) hp))
  refine assignInOrder_cons (wpAny_assign_Name (wpAny_storeName_local h2 m1 (fun g2 m2 s2 => ?_) hp))
  refine assignInOrder_cons (wpAny_assign_Name (wpAny_storeName_local h3 m2 (fun g3 m3 s3 => ?_) hp))
  refine assignInOrder_cons (wpAny_assign_Name (wpAny_storeName_local h4 m3 (fun g4 m4 s4 => ?_) hp))
  refine assignInOrder_cons (wpAny_assign_Name (wpAny_storeName_local h5 m4 (fun g5 m5 s5 => ?_) hp))
  refine assignInOrder_nil ?_
  exact h g5 _ m5 fun c o hc e => s5.extBut c o hc (s4.extBut c o hc (s3.extBut c o hc (s2.extBut c o hc (s1.extBut c o hc (up₁ c o e)))))
end
end Mine
end

section
open PySem PySem.W PyProof.Rows
set_option maxRecDepth 100000
set_option maxHeartbeats 4000000
namespace Mine
/-- what the key hands back -/
noncomputable def KeyEnd (h₀ : Heap) (L : Addr) (m : Str → Option Value) (need : Led) (k : Str) (s₁ : Shared) (v : Value) (s₂ : Shared) : Prop :=
  ∃ h' tk t', s₂ = { s₁ with heap := h', toks := tk } ∧ v = .str k t' ∧ Fr h₀ L h' m ∧ News h₀ L h' need
noncomputable def Rising (ss : List Str) : Prop := ss.Pairwise (fun a b => ¬ b.cps.toList < a.cps.toList)
theorem zip_same : ∀ {ks vs : List Value} {ss : List Str}, StrsAre ks ss → StrsAre vs ss → ∀ p ∈ ks.zip vs, ∃ x t u, p = (Value.str x t, Value.str x u)
  | _, _, _, .nil, .nil, p, hp => by simp at hp
  | _, _, _, .cons x t h, .cons _ u h', p, hp => by
    rcases List.mem_cons.mp hp with rfl | hp
    · exact ⟨x, t, u, rfl⟩
    · exact zip_same h h' p hp
theorem srt_out {keys : Array Value} {vs : List Value} {ss : List Str} (hk : StrsAre keys.toList ss) (hS : StrsAre vs ss) {xs : Array Keyed} (hp : xs.Perm (keys.zip vs.toArray)) (hs : SortedToK strKind xs xs.size) :
    ∃ ss', StrsAre (xs.map (·.2)).toList ss' ∧ ss'.Perm ss ∧ Rising ss' := by
  have hl : xs.toList.Perm (keys.toList.zip vs) := by rw [← ksk_zip]; exact Array.perm_iff_toList_perm.mp hp
  have hmem : ∀ p ∈ xs.toList, ∃ x t u, p = (Value.str x t, Value.str x u) := fun p hp' => zip_same hk hS p (hl.mem_iff.mp hp')
  refine ⟨xs.toList.map (fun p => strOf p.2), ?_, ?_, ?_⟩
  · have h1 := strsAre_map (xs.toList.map (·.2)) (by
      intro v hv
      obtain ⟨p, hp', rfl⟩ := List.mem_map.mp hv
      obtain ⟨x, t, u, rfl⟩ := hmem p hp'
      exact ⟨x, u, rfl⟩)
    rw [List.map_map] at h1
    rw [Array.toList_map]
    exact h1
  · have h1 := hl.map (fun p => strOf p.2)
    have e2 : (keys.toList.zip vs).map (fun p => strOf p.2) = ss := by
      have : (keys.toList.zip vs).map (fun p => strOf p.2) = ((keys.toList.zip vs).map Prod.snd).map strOf := by rw [List.map_map]; rfl
      rw [this, List.map_snd_zip (by rw [hk.length, hS.length]; exact Nat.le_refl _), hS.strs]
    rwa [e2] at h1
  · show List.Pairwise _ _
    rw [List.pairwise_iff_getElem]
    intro i j hi hj hij
    have hi' : i < xs.size := by simpa using hi
    have hj' : j < xs.size := by simpa using hj
    have h1 := hs i j (Nat.le_of_lt hij) hj'
    obtain ⟨x, t, u, ex⟩ := hmem xs[i] (by simp)
    obtain ⟨y, t', u', ey⟩ := hmem xs[j] (by simp)
    rw [KK_str hi' ex, KK_str hj' ey] at h1
    change decide (y.cps.toList < x.cps.toList) = false at h1
    simp only [List.getElem_map, Array.getElem_toList]
    rw [ex, ey]
    show ¬ y.cps.toList < x.cps.toList
    exact of_decide_eq_false h1
section
variable {prog : Program} {w : World} {A : Around} {E : Value → Shared → Prop} {s : Shared} {h₀ : Heap} {L : Addr} {m : Str → Option Value} {news : Led} {a kS : Addr} {vs : List Value} {ss : List Str} {keys : Array Value} {e e1 : Nat} {P : PySem.Fin → Shared → Prop}
theorem srt_tail {st : SortSt} (F : Fr h₀ L s.heap m) (N : News h₀ L s.heap (news ++ [(kS, seqObj "list" keys e), (a, seqObj "list" #[] e1)])) (hka : kS ≠ a) (hnk : ∀ p ∈ news, p.1 ≠ kS) (hna : ∀ p ∈ news, p.1 ≠ a)
    (hk : StrsAre keys.toList ss) (hS : StrsAre vs ss) (h64 : vs.length < 64) (hp : (arrOf st).Perm (keys.zip vs.toArray)) (hs : SortedToK strKind (arrOf st) (arrOf st).size) (hfl : failedOf st = none)
    (h : ∀ h' tk out c ss', Fr h₀ L h' m → News h₀ L h' ((a, seqObj "list" out c) :: news) → StrsAre out.toList ss' → ss'.Perm ss → Rising ss' → P (.done (.ret .none)) { s with heap := h', toks := tk }) :
    wpAny (model prog w) A (ksk_tail a false e1 (.ref kS) st) P E s := by
  have nk := N (kS, seqObj "list" keys e) (List.mem_append_right _ (.head _))
  have na := N (a, seqObj "list" #[] e1) (List.mem_append_right _ (.tail _ (.head _)))
  have Nn : News h₀ L s.heap news := fun p hp => N p (List.mem_append_left _ hp)
  have hsz : keys.size = vs.length := by
    have h1 := hk.length
    rw [Array.length_toList] at h1
    rw [h1, hS.length]
  have hsz2 : (arrOf st).size = vs.length := by rw [hp.size_eq, Array.size_zip, hsz, List.size_toArray, Nat.min_self]
  have hout : ((arrOf st).map (·.2)).size = vs.length := by rw [Array.size_map]; exact hsz2
  have s1 := Heap.SameBut.update s.heap kS (Obj.mapSeq fun _ => (#[] : Array Value))
  have na1 : (s.heap.update kS (Obj.mapSeq fun _ => (#[] : Array Value))).get? a = some (seqObj "list" #[] e1) := (s1.2 a hka.symm).trans na.1
  have s2 := Heap.SameBut.update (s.heap.update kS (Obj.mapSeq fun _ => (#[] : Array Value))) a (Obj.mapSeq fun _ => (arrOf st).map (·.2))
  obtain ⟨c2, hc2⟩ : ∃ c2, ((s.heap.update kS (Obj.mapSeq fun _ => (#[] : Array Value))).update a (Obj.mapSeq fun _ => (arrOf st).map (·.2))).get? a = some (seqObj "list" ((arrOf st).map (·.2)) c2) := ⟨_, get?_update_seq na1 fun _ => (arrOf st).map (·.2)⟩
  have N2 := ksk_news (ksk_news Nn s1 hnk) s2 hna
  obtain ⟨ss', q1, q2, q3⟩ := srt_out hk hS hp hs
  unfold ksk_tail
  try dsimp only
  refine wpAny_bind (listUpdate_at nk.1 rfl ?_ (by rw [hsz, sizeLine_eq]; omega) (Nat.zero_le _))
  refine wpAny_bind (wpAny_letGo ?_)
  refine wpAny_bind (seqEpoch_at na1 rfl ?_)
  simp only [Bool.false_eq_true, if_false]
  refine wpAny_bind (listUpdate_at na1 rfl ?_ (Nat.zero_le _) (Nat.le_trans (Nat.le_of_eq hout) (by rw [sizeLine_eq]; omega)))
  rw [hfl]
  simp only [bne_self_eq_false, Bool.false_eq_true, if_false]
  refine wpAny_pure (h _ _ _ c2 ss' (ksk_fr (ksk_fr F s1 nk.2.1 nk.2.2) s2 na.2.1 na.2.2) (fun p hp => ?_) q1 q2 q3)
  rcases List.mem_cons.mp hp with rfl | hp
  · exact ⟨hc2, na.2⟩
  · exact N2 p hp
theorem srt_end (F : Fr h₀ L s.heap m) (N : News h₀ L s.heap (news ++ [(kS, seqObj "list" keys e), (a, seqObj "list" #[] e1)])) (hka : kS ≠ a) (hnk : ∀ p ∈ news, p.1 ≠ kS) (hna : ∀ p ∈ news, p.1 ≠ a)
    (hk : StrsAre keys.toList ss) (hS : StrsAre vs ss) (h64 : vs.length < 64) (h2 : 2 ≤ vs.length)
    (h : ∀ h' tk out c ss', Fr h₀ L h' m → News h₀ L h' ((a, seqObj "list" out c) :: news) → StrsAre out.toList ss' → ss'.Perm ss → Rising ss' → P (.done (.ret .none)) { s with heap := h', toks := tk }) :
    wpAny (model prog w) A (ksk_end a false vs.toArray e1 (.ref kS) keys) P E s := by
  have hsz : keys.size = vs.length := by
    have h1 := hk.length
    rw [Array.length_toList] at h1
    rw [h1, hS.length]
  have hzs : (keys.zip vs.toArray).size = vs.length := by rw [Array.size_zip, hsz, List.size_toArray, Nat.min_self]
  have hkk : keyKind' keys = pure oneType' := by
    obtain ⟨v₁, v₂, rest, e⟩ : ∃ v₁ v₂ rest, keys.toList = v₁ :: v₂ :: rest := by
      have hl : 2 ≤ keys.toList.length := by rw [Array.length_toList, hsz]; exact h2
      cases q : keys.toList with
      | nil => rw [q] at hl; simp at hl
      | cons v₁ r =>
        cases r with
        | nil => rw [q] at hl; simp at hl
        | cons v₂ rest => exact ⟨v₁, v₂, rest, rfl⟩
    have ek : keys = (v₁ :: v₂ :: rest).toArray := by rw [← e, Array.toArray_toList]
    rw [e] at hk
    rw [ek]
    exact keyKind_strs hk
  have hko : KeysOf strKind (keys.zip vs.toArray) := fun p hp => by
    rw [ksk_zip] at hp
    obtain ⟨x, t, u, rfl⟩ := zip_same hk hS p hp
    exact ⟨x.cps.toList, rfl⟩
  unfold ksk_end
  try dsimp only
  simp only [Bool.false_eq_true, if_false]
  rw [if_neg (by rw [List.size_toArray]; omega), if_neg (by rw [List.size_toArray]; omega), hkk]
  refine wpAny_bind (wpAny_pure ?_)
  refine wpAny_bind (wpAny_mono (wpS_sortRunsK (κ := strKind) (a₀ := keys.zip vs.toArray) (st := SortSt.mk' oneType' (keys.zip vs.toArray) #[] 7 none)
    (Q := fun _ st' => (arrOf st').Perm (keys.zip vs.toArray) ∧ failedOf st' = none ∧ SortedToK strKind (arrOf st') (keys.zip vs.toArray).size)
    strKind_oneLt hko ⟨Array.Perm.refl _, rfl, rfl, rfl⟩ (by rw [hzs]; exact h2) (by rw [hzs]; exact h64) fun st' a1 a2 a3 => ⟨a1, a2, a3⟩) ?_ fun _ _ e => e)
  rintro ⟨⟨⟩, st'⟩ s' ⟨rfl, hp, hf, hs⟩
  try dsimp only
  exact srt_tail F N hka hnk hna hk hS h64 hp (by rw [hp.size_eq]; exact hs) hf h
theorem srt_rest {f : Value} (F : Fr h₀ L s.heap m) (N : News h₀ L s.heap (news ++ [(kS, seqObj "list" #[] 0), (a, seqObj "list" #[] e1)])) (hka : kS ≠ a) (hnk : ∀ p ∈ news, p.1 ≠ kS) (hna : ∀ p ∈ news, p.1 ≠ a)
    (hS : StrsAre vs ss) (h64 : vs.length < 64) (h2 : 2 ≤ vs.length)
    (turn : ∀ (k : Str) (t : Tok), ∀ (h : Heap) (tk : Nat) (own : Led), Fr h₀ L h m → News h₀ L h (news ++ own) →
      wpAny (model prog w) A (call f [.str k t]) (KeyEnd h₀ L m (news ++ own) k { s with heap := h, toks := tk }) (fun _ _ => False) { s with heap := h, toks := tk })
    (h : ∀ h' tk out c ss', Fr h₀ L h' m → News h₀ L h' ((a, seqObj "list" out c) :: news) → StrsAre out.toList ss' → ss'.Perm ss → Rising ss' → P (.done (.ret .none)) { s with heap := h', toks := tk }) :
    wpAny (model prog w) A (ksk_rest a f false vs.toArray e1 (.ref kS)) P E s := by
  unfold ksk_rest
  refine wpAny_bind (wpAny_rule ?_)
  first
    | rw [List.forIn_toArray]
    | (rw [← Array.forIn_toList]; simp only [List.toList_toArray])
    | rw [← Array.forIn_toList]
  refine wpAny_bind (ksk_fold (fun i s' => ∃ h' tk kA e, s' = { s with heap := h', toks := tk } ∧ Fr h₀ L h' m ∧ News h₀ L h' (news ++ [(kS, seqObj "list" kA e), (a, seqObj "list" #[] e1)]) ∧ StrsAre kA.toList (ss.take i)) vs 0 s
    ⟨s.heap, s.toks, #[], 0, rfl, F, N, by simpa using StrsAre.nil⟩ ?step ?done)
  case step =>
    rintro j x s' hx ⟨h', tk, kA, e, rfl, F', N', hk⟩
    simp only [Nat.zero_add] at hk ⊢
    obtain ⟨k, t, rfl, hkj⟩ := StrsAre.item hS j x hx
    have hj : j < vs.length := (List.getElem?_eq_some_iff.mp hx).1
    have hz : kA.size ≤ vs.length := by
      have h1 := hk.length
      rw [Array.length_toList, List.length_take] at h1
      omega
    refine wpAny_bind (wpAny_attempt (wpAny_mono (turn k t h' tk _ F' N') (fun v s'' he => ?_) fun _ _ hF => hF.elim))
    obtain ⟨g, tk2, t2, rfl, rfl, F2, N2⟩ := he
    try dsimp only
    have nk := N2 (kS, seqObj "list" kA e) (List.mem_append_right _ (.head _))
    have na := N2 (a, seqObj "list" #[] e1) (List.mem_append_right _ (.tail _ (.head _)))
    have s1 := Heap.SameBut.update g kS (Obj.mapSeq (·.push (.str k t2)))
    obtain ⟨c2, hc2⟩ : ∃ c2, (g.update kS (Obj.mapSeq (·.push (.str k t2)))).get? kS = some (seqObj "list" (kA.push (.str k t2)) c2) := ⟨_, get?_update_seq nk.1 (·.push (.str k t2))⟩
    have ek : ss.take (j + 1) = ss.take j ++ [k] := by rw [List.take_add_one, hkj]; simp
    have ea : (kA.push (Value.str k t2)).toList = kA.toList ++ [Value.str k t2] := by simp
    refine wpAny_bind (listUpdate_at nk.1 rfl ?_ (by rw [sizeLine_eq]; omega) (Nat.le_trans (Nat.le_of_eq (Array.size_push ..)) (by rw [sizeLine_eq]; omega)))
    refine wpAny_pure ⟨rfl, _, _, kA.push (.str k t2), c2, rfl, ksk_fr F2 s1 nk.2.1 nk.2.2, fun p hp => ?_, by rw [ea, ek]; exact hk.append' (.cons _ _ .nil)⟩
    rcases List.mem_append.mp hp with hp | hp
    · exact ksk_news (fun q hq => N2 q (List.mem_append_left _ hq)) s1 hnk p hp
    · rcases List.mem_cons.mp hp with rfl | hp
      · exact ⟨hc2, nk.2⟩
      · rw [List.mem_singleton.mp hp]
        exact ⟨(s1.2 a hka.symm).trans na.1, na.2⟩
  case done =>
    rintro s' ⟨h', tk, kA, e, rfl, F', N', hk⟩
    have hk' : StrsAre kA.toList ss := by
      have e3 : ss.take (0 + vs.length) = ss := List.take_of_length_le (by rw [← hS.length]; omega)
      rw [e3] at hk
      exact hk
    have nk := N' (kS, seqObj "list" kA e) (List.mem_append_right _ (.head _))
    try dsimp only
    refine wpAny_bind (listItems_at nk.1 rfl ?_)
    exact srt_end F' N' hka hnk hna hk' hS h64 h2 fun h3 tk3 out c ss' F3 N3 => h h3 tk3 out c ss' F3 N3
theorem srt_sort {f : Value} {n : Nat} (F : Fr h₀ L s.heap m) (N : News h₀ L s.heap news) (ho : s.heap.get? a = some (seqObj "list" vs.toArray n)) (haL : a ≠ L) (ha0 : h₀.get? a = none) (hna : ∀ p ∈ news, p.1 ≠ a)
    (hS : StrsAre vs ss) (h64 : vs.length < 64) (h2 : 2 ≤ vs.length)
    (turn : ∀ (k : Str) (t : Tok), ∀ (h : Heap) (tk : Nat) (own : Led), Fr h₀ L h m → News h₀ L h (news ++ own) →
      wpAny (model prog w) A (call f [.str k t]) (KeyEnd h₀ L m (news ++ own) k { s with heap := h, toks := tk }) (fun _ _ => False) { s with heap := h, toks := tk })
    (h : ∀ h' tk out c ss', Fr h₀ L h' m → News h₀ L h' ((a, seqObj "list" out c) :: news) → StrsAre out.toList ss' → ss'.Perm ss → Rising ss' → P (.done (.ret .none)) { s with heap := h', toks := tk }) :
    wpAny (model prog w) A (ksk_tree a f false) P E s := by
  have ha : a < s.heap.objs.size := Heap.lt_size ho
  have s1 := Heap.SameBut.update s.heap a (Obj.mapSeq fun _ => (#[] : Array Value))
  obtain ⟨e1, ho1⟩ : ∃ e1, (s.heap.update a (Obj.mapSeq fun _ => (#[] : Array Value))).get? a = some (seqObj "list" #[] e1) := ⟨_, get?_update_seq ho fun _ => #[]⟩
  have F1 := ksk_fr F s1 haL ha0
  have N1 := ksk_news N s1 hna
  have hkS : ((s.heap.update a (Obj.mapSeq fun _ => (#[] : Array Value))).push (seqObj "tuple" vs.toArray 0)).objs.size = s.heap.objs.size + 1 := by rw [size_push', Heap.size_update]
  have hLk : L < ((s.heap.update a (Obj.mapSeq fun _ => (#[] : Array Value))).push (seqObj "tuple" vs.toArray 0)).objs.size := (F1.push _).ns.lt
  unfold ksk_tree
  refine wpAny_bind (listItems_at ho rfl ?_)
  refine wpAny_bind (listUpdate_at ho rfl ?_ (by rw [List.size_toArray, sizeLine_eq]; omega) (Nat.zero_le _))
  refine wpAny_bind (seqEpoch_at ho1 rfl ?_)
  refine wpAny_bind (wpAny_newTuple ?_ (by show vs.length ≤ _; rw [sizeLine_eq]; omega))
  refine wpAny_bind (wpAny_newList ?_ (Nat.zero_le _))
  refine wpAny_holding ?_
  refine srt_rest (s := { s with heap := ((s.heap.update a (Obj.mapSeq fun _ => (#[] : Array Value))).push (seqObj "tuple" vs.toArray 0)).push (seqObj "list" #[] 0) }) (kS := ((s.heap.update a (Obj.mapSeq fun _ => (#[] : Array Value))).push (seqObj "tuple" vs.toArray 0)).objs.size)
    ((F1.push _).push _) (fun p hp => ?_) (by rw [hkS]; exact Nat.ne_of_gt (Nat.lt_succ_of_lt ha)) (fun p hp => by rw [hkS]; exact Nat.ne_of_lt (Nat.lt_succ_of_lt (Heap.lt_size (N p hp).1))) hna hS h64 h2 turn h
  rcases List.mem_append.mp hp with hp | hp
  · exact ⟨Heap.get?_push_of_some _ (Heap.get?_push_of_some _ (N1 p hp).1), (N1 p hp).2⟩
  · rcases List.mem_cons.mp hp with rfl | hp
    · exact ⟨Heap.get?_push_size _ rfl, Nat.ne_of_gt hLk, Heap.get?_none_of_le (Nat.le_trans F.above (Nat.le_of_lt hLk))⟩
    · rw [List.mem_singleton.mp hp]
      exact ⟨Heap.get?_push_of_some _ (Heap.get?_push_of_some _ ho1), haL, ha0⟩
end
section
variable {prog : Program} {w : World} {A : Around} {E : Value → Shared → Prop} {s : Shared} {h₀ : Heap} {L l : Addr} {m : Str → Option Value} {news : Led} {vs : List Value} {ss : List Str} {Q : Value → Shared → Prop}
/-- sorted(texts, key=a def that hands the text back) -/
theorem sorted_key {q : Addr} (F : Fr h₀ L s.heap m) (N : News h₀ L s.heap news) (hl : s.heap.IsList l vs.toArray) (hS : StrsAre vs ss) (h64 : vs.length < 64) (h2 : 2 ≤ vs.length)
    (turn : ∀ (k : Str) (t : Tok), ∀ (h : Heap) (tk : Nat) (own : Led), Fr h₀ L h m → News h₀ L h (news ++ own) →
      wpAny (model prog w) A.in1.in1 (call (.ref q) [.str k t]) (KeyEnd h₀ L m (news ++ own) k { s with heap := h, toks := tk }) (fun _ _ => False) { s with heap := h, toks := tk })
    (h : ∀ D h' tk out c ss', Fr h₀ L h' m → News h₀ L h' ((D, seqObj "list" out c) :: news) → (∀ q ∈ news, q.1 < D) → StrsAre out.toList ss' → ss'.Perm ss → Rising ss' → Q (.ref D) { s with heap := h', toks := tk }) :
    wpAny (model prog w) A (call (.builtin "sorted") [.ref l] [(Str.ofString "key", .ref q)]) Q E s := by
  refine call_function_entry_kw kind_sorted plain_sorted entry_sorted (ksk_s1 _ _) ?_
  unfold Builtin.«sorted»
  refine wpAny_bind (m := checkCount "sorted" 1 1 _) (wpAny_pure ?_)
  refine wpAny_bind (collect_list hl ?_ (by rw [sizeLine_eq]; omega))
  refine wpAny_bind (wpAny_newList ?_ (by rw [sizeLine_eq]; omega))
  have hsz : ((s.heap.push (seqObj "list" #[] 0)).update s.heap.objs.size (Obj.mapSeq (· ++ vs.toArray))).objs.size = s.heap.objs.size + 1 := by
    rw [Heap.size_update, size_push']
  have hoL : (((s.heap.push (seqObj "list" #[] 0)).update s.heap.objs.size (Obj.mapSeq (· ++ vs.toArray))).push (seqObj "list" vs.toArray 0)).get? (s.heap.objs.size + 1) = some (seqObj "list" vs.toArray 0) := by
    rw [← hsz]; exact Heap.get?_push_size _ rfl
  have keep : ∀ b o, s.heap.get? b = some o → (((s.heap.push (seqObj "list" #[] 0)).update s.heap.objs.size (Obj.mapSeq (· ++ vs.toArray))).push (seqObj "list" vs.toArray 0)).get? b = some o := fun b o q => by
    have hlt : b < s.heap.objs.size := Heap.lt_size q
    rw [Heap.get?_push_ne _ _ _ (by rw [hsz]; exact Nat.ne_of_lt (Nat.lt_succ_of_lt hlt)), Heap.get?_update_ne _ _ _ _ (Nat.ne_of_lt hlt), Heap.get?_push_ne _ _ _ (Nat.ne_of_lt hlt)]
    exact q
  have hL : L < s.heap.objs.size := F.ns.lt
  show wpAny _ _ _ _ _ { s with heap := ((s.heap.push (seqObj "list" #[] 0)).update s.heap.objs.size (Obj.mapSeq (· ++ vs.toArray))).push (seqObj "list" vs.toArray 0) }
  rw [hsz]
  refine wpAny_bind (wpAny_holding (wpAny_call_entry_kw slot_list_sort ⟨_, hoL, rfl⟩ entry_list_sort ?body (ksk_l1 _ _)))
  case body =>
    show wpAny (model prog w) A.in1.in1 (Builtin.«list.sort» ⟨[.ref (s.heap.objs.size + 1)], [(Str.ofString "key", .ref q)]⟩) _ _ _
    rw [ksk_t1]
    refine srt_sort (s := { s with heap := ((s.heap.push (seqObj "list" #[] 0)).update s.heap.objs.size (Obj.mapSeq (· ++ vs.toArray))).push (seqObj "list" vs.toArray 0) })
      (F.kept keep) (N.grown keep) hoL (Nat.ne_of_gt (Nat.lt_succ_of_lt hL)) (Heap.get?_none_of_le (Nat.le_trans F.above (Nat.le_succ_of_le (Nat.le_of_lt hL))))
      (fun p hp => Nat.ne_of_lt (Nat.lt_succ_of_lt (Heap.lt_size (N p hp).1))) hS h64 h2 turn fun h' tk out c ss' F' N' q1 q2 q3 => ⟨_, rfl, ?_⟩
    exact wpAny_pure ⟨_, rfl, h _ h' tk out c ss' F' N' (fun q hq => Nat.lt_succ_of_lt (Heap.lt_size (N q hq).1)) q1 q2 q3⟩
end
end Mine
end

section
open PySem PySem.W PyProof.Rows
namespace Mine

set_option maxRecDepth 100000 in
set_option maxHeartbeats 8000000 in
theorem xfrm_spec (w : World) (s₀ : Shared) (mg mb : Str → Option Value) (news : Led) (x : Str) (t : Tok) :
   Cl w s₀ mg mb 1 101 [.str x t] news True (RetS news x) := by
  dsimp only [Cl, RetS]
  k_fill
  w_top off
  intros
  rename_i hret
  refine wpAny_call ?_
  k_dflt cell_enter
  k_with_none
  repeat' ((fail_if_success (with_reducible show KswEnd _ _ _ _ _ _ _ _ _ _ _ _)); (fail_if_success (with_reducible show wpAny _ _ (exec (Stmt.While _ _ _ _) _) _ _ _)); (fail_if_success (with_reducible show wpAny _ _ (pyIter _) _ _ _)); (first | (k_unfold; (try dsimp only)) | walk1 | (dsimp only; walk1) | (leave1; try dsimp only)))
  exact endS hret rfl (by assumption) (by assumption) (by intro p hp; kst_mem)
end Mine
end

section
open PySem PySem.W PyProof.Rows
namespace Mine
/-- a name of the row -/
noncomputable def nameS (x : Int) (i : Nat) : Str := ({ cps := #[(x.fmod 55296).toNat] } : Str) ++ ({ cps := #[97 + i] } : Str)
noncomputable def rowTo (nums : List Int) (i : Nat) : List Str := (List.range i).map fun k => nameS (nums.getD k 0) k
noncomputable def rowF (nums : List Int) : List Str := rowTo nums nums.length
theorem rowTo_succ (nums : List Int) (i : Nat) : rowTo nums (i + 1) = rowTo nums i ++ [nameS (nums.getD i 0) i] := by simp [rowTo, List.range_succ]
theorem rowTo_length (nums : List Int) (i : Nat) : (rowTo nums i).length = i := by simp [rowTo]
theorem rowTo_two (nums : List Int) (i : Nat) : ∀ x ∈ rowTo nums i, x.length = 2 := by
  intro x hx
  obtain ⟨k, _, rfl⟩ := List.mem_map.mp hx
  rfl
theorem rowF_length (nums : List Int) : (rowF nums).length = nums.length := by simp [rowF, rowTo]
theorem sign_is {i c : Nat} (h : (Str.ofString "abcdef").cps[i]? = some c) : c = 97 + i := by
  have hs : (Str.ofString "abcdef").cps = #[97, 98, 99, 100, 101, 102] := by decide +kernel
  rw [hs] at h
  match i, h with
  | 0, h => simpa using h.symm
  | 1, h => simpa using h.symm
  | 2, h => simpa using h.symm
  | 3, h => simpa using h.symm
  | 4, h => simpa using h.symm
  | 5, h => simpa using h.symm
  | i + 6, h => simp at h
/-- the last text of a list -/
theorem last_str {prog : Program} {w : World} {A : Around} {E : Value → Shared → Prop} {s : Shared} {value slice : Expr} {l : Addr} {items : Array Value} {ss : List Str} {u : Tok} {Q : Value → Shared → Prop} (hl : s.heap.IsList l items) (hi : StrsAre items.toList ss) (h0 : 0 < ss.length)
    (h : ∀ t, Q (.str (ss.getD (ss.length - 1) Str.empty) t) s) (hs : subscripted slice false (.ref l) (.int (-1) u) = operate [.ref l, .int (-1) u] (getItem (.ref l) (.int (-1) u))) :
    wpAny (model prog w) A (subscriptTail value slice (.ref l) (.int (-1) u)) Q E s := by
  refine kba_turn (value' := PySem.Expr.Name (PySem.Str.ofString "_") ⟨0, 0, 0, 0⟩) (fun _ => rfl) ?_
  have hlen : items.size = ss.length := by rw [← hi.length]; simp
  obtain ⟨t, ht⟩ := hi.get (ss.length - 1) _ (List.getElem?_eq_getElem (by omega))
  have hg : ss.getD (ss.length - 1) Str.empty = ss[ss.length - 1]'(by omega) := by
    rw [List.getD_eq_getElem?_getD, List.getElem?_eq_getElem (by omega)]; rfl
  have hq := h t
  rw [hg] at hq
  refine subscriptTail_builtin hl.typeIs slot_list_getitem.lookup (wpAny_getItem_list_neg (k := -1) hl (by decide) (by rw [hlen]; omega) (by decide) ?_ hq) hs (fun _ => rfl)
  rw [hlen]
  have e : ((ss.length : Int) + (-1)).toNat = ss.length - 1 := by omega
  have e' : (-1 + (ss.length : Int)).toNat = ss.length - 1 := by omega
  first | rw [e] | rw [e']
  rw [← Array.getElem?_toList]
  exact ht
theorem last_max {ss' row : List Str} (hp : ss'.Perm row) (hr : Rising ss') (h0 : 0 < row.length) : ss'.getD (ss'.length - 1) Str.empty ∈ row ∧ ∀ x ∈ row, ¬ (ss'.getD (ss'.length - 1) Str.empty).cps.toList < x.cps.toList := by
  have hl := hp.length_eq
  have hg : ss'.getD (ss'.length - 1) Str.empty = ss'[ss'.length - 1]'(by omega) := by
    rw [List.getD_eq_getElem?_getD, List.getElem?_eq_getElem (by omega)]; rfl
  rw [hg]
  refine ⟨hp.mem_iff.mp (List.getElem_mem _), fun x hx => ?_⟩
  obtain ⟨i, hi, rfl⟩ := List.mem_iff_getElem.mp (hp.mem_iff.mpr hx)
  by_cases e : i = ss'.length - 1
  · subst e
    exact List.lt_irrefl _
  · exact (List.pairwise_iff_getElem.mp hr) i (ss'.length - 1) hi (by omega) (by omega)
theorem pick_upto (vs : List Value) {k : Int} (h : 0 ≤ k) : slicePick vs.toArray none (some k) none = (vs.take k.toNat).toArray := by
  rw [kms_pick_eq]
  congr 1
  simp only [kms_pick, kms_lo, kms_hi, if_neg (show ¬ k < 0 by omega), List.drop_zero, Nat.sub_zero, List.toList_toArray]
  exact kmk_take_min _ _
theorem pick_from (vs : List Value) {k : Int} (h : 0 ≤ k) : slicePick vs.toArray (some k) none none = (vs.drop k.toNat).toArray := by
  rw [kms_pick_eq]
  congr 1
  simp only [kms_pick, kms_lo, kms_hi, if_neg (show ¬ k < 0 by omega), List.toList_toArray]
  rw [kmk_drop_min]
  exact List.take_of_length_le (by rw [List.length_drop]; omega)
section
variable {prog : Program} {w : World} {A : Around} {E : Value → Shared → Prop} {s : Shared} {h₀ : Heap} {L l b : Addr} {m : Str → Option Value} {news : Led} {value slice : Expr} {vs us : List Value} {c c2 : Nat} {k : Int} {u : Tok} {Q : Value → Shared → Prop}
theorem cut_upto (F : Fr h₀ L s.heap m) (N : News h₀ L s.heap news) (hm : (l, listOf vs.toArray c) ∈ news) (h0 : 0 ≤ k) (hz : vs.length ≤ 100)
    (hs : subscripted slice false (.ref l) (.ref s.heap.objs.size) = operate [.ref s.heap.objs.size, .ref l] (getItem (.ref l) (.ref s.heap.objs.size)))
    (h : ∀ D h', Fr h₀ L h' m → News h₀ L h' ((D, listOf (vs.take k.toNat).toArray 0) :: news) → (∀ p ∈ news, p.1 < D) → Q (.ref D) { s with heap := h' }) :
    wpAny (model prog w) A (subscriptTail value slice (.ref l) (.ref s.heap.objs.size)) Q E { s with heap := s.heap.push { cls := .type "slice", data := .fields #[.none, .int k u, .none] } } := by
  refine kba_turn (value' := PySem.Expr.Name (PySem.Str.ofString "_") ⟨0, 0, 0, 0⟩) (fun _ => rfl) ?_
  refine kmk_slice F N (led_isList N hm) .none (.int _ _) (fun D h' F' N' l1 => h D h' F' ?_ l1) hs (fun _ => rfl) (by rw [List.size_toArray, sizeLine_eq]; omega)
  rw [pick_upto vs h0] at N'
  exact N'
theorem cut_from (F : Fr h₀ L s.heap m) (N : News h₀ L s.heap news) (hm : (l, listOf vs.toArray c) ∈ news) (h0 : 0 ≤ k) (hz : vs.length ≤ 100)
    (hs : subscripted slice false (.ref l) (.ref s.heap.objs.size) = operate [.ref s.heap.objs.size, .ref l] (getItem (.ref l) (.ref s.heap.objs.size)))
    (h : ∀ D h', Fr h₀ L h' m → News h₀ L h' ((D, listOf (vs.drop k.toNat).toArray 0) :: news) → (∀ p ∈ news, p.1 < D) → Q (.ref D) { s with heap := h' }) :
    wpAny (model prog w) A (subscriptTail value slice (.ref l) (.ref s.heap.objs.size)) Q E { s with heap := s.heap.push { cls := .type "slice", data := .fields #[.int k u, .none, .none] } } := by
  refine kba_turn (value' := PySem.Expr.Name (PySem.Str.ofString "_") ⟨0, 0, 0, 0⟩) (fun _ => rfl) ?_
  refine kmk_slice F N (led_isList N hm) (.int _ _) .none (fun D h' F' N' l1 => h D h' F' ?_ l1) hs (fun _ => rfl) (by rw [List.size_toArray, sizeLine_eq]; omega)
  rw [pick_from vs h0] at N'
  exact N'
theorem add_vals (F : Fr h₀ L s.heap m) (N : News h₀ L s.heap news) (ha : (l, listOf vs.toArray c) ∈ news) (hb : (b, listOf us.toArray c2) ∈ news) (hz : vs.length + us.length ≤ 100)
    (h : ∀ D h', Fr h₀ L h' m → News h₀ L h' ((D, listOf (vs ++ us).toArray 0) :: news) → (∀ p ∈ news, p.1 < D) → Q (.ref D) { s with heap := h' }) :
    wpAny (model prog w) A (binaryOp .Add (.ref l) (.ref b)) Q E s :=
  kmk_add_lit F N (led_isList N ha) (led_isList N hb) (by rw [List.toList_toArray, List.toList_toArray]) h (by rw [List.toList_toArray, List.toList_toArray, sizeLine_eq]; omega)
end
/-- a row with a further name put in -/
noncomputable def longer (row : List Str) (g : Str) (k : Nat) : List Str := row.take k ++ [g] ++ row.drop k
noncomputable def leadsTo (row : List Str) (g : Str) (i : Nat) : List Str := (List.range i).map fun k => leadTo (longer row g k) row.length
theorem leadsTo_succ (row : List Str) (g : Str) (i : Nat) : leadsTo row g (i + 1) = leadsTo row g i ++ [leadTo (longer row g i) row.length] := by simp [leadsTo, List.range_succ]
theorem longer_length {row : List Str} {g : Str} {k : Nat} (h : k ≤ row.length) : (longer row g k).length = row.length + 1 := by simp [longer]; omega
theorem longer_mem {row : List Str} {g x : Str} {k : Nat} (h : x ∈ longer row g k) : x ∈ row ∨ x = g := by
  simp only [longer, List.mem_append, List.mem_singleton] at h
  rcases h with (h | h) | h
  · exact .inl (List.mem_of_mem_take h)
  · exact .inr h
  · exact .inl (List.mem_of_mem_drop h)
theorem str_length_append (a b : Str) : (a ++ b).length = a.length + b.length := by
  show (a.cps ++ b.cps).size = _
  rw [Array.size_append]
  rfl
theorem off1_of {D : Addr} : ∀ {l : Led}, (∀ p ∈ l, p.1 ≠ D) → LCg.Off1 D l
  | [], _ => trivial
  | p :: _, h => ⟨h p (.head _), off1_of fun q hq => h q (.tail _ hq)⟩
theorem off1_app {D : Addr} {a b : Led} (h : LCg.Off1 D (a ++ b)) : LCg.Off1 D a ∧ LCg.Off1 D b := by
  induction a with
  | nil => exact ⟨trivial, h⟩
  | cons p r ih => exact ⟨⟨h.1, (ih h.2).1⟩, (ih h.2).2⟩
theorem compEndT {h₀ : Heap} {L : Addr} {m : Str → Option Value} {s₁ : Shared} {own : Led} {C : Addr} {oC : Obj} {D : Addr} {oD : Obj} {J : Value → Led → Prop} {y : Value} {h' : Heap} {tk : Nat} {all : Led} (nw : Led)
    (F : Fr h₀ L h' m) (N : News h₀ L h' all) (sub : ∀ p ∈ (C, oC) :: (D, oD) :: (nw ++ own), p ∈ all) (off : ∀ p ∈ nw, p.1 ≠ C ∧ p.1 ≠ D ∧ ∀ q ∈ own, p.1 ≠ q.1) (hJ : J y nw) : CompEndT h₀ L m s₁ own C oC D oD J y { s₁ with heap := h', toks := tk } :=
  ⟨h', tk, nw, rfl, F, fun p hp => N p (sub p hp), off, hJ⟩
end Mine
end

section
open PySem PySem.W PyProof.Rows
namespace Mine
noncomputable def strP (p : List Nat) : Str := ⟨p.toArray⟩
/-- the longer row's lead, the further name put at place k -/
noncomputable def leadP (p : List Nat) (k : Nat) : List Nat := if k = 0 then 9 :: p else if k = p.length + 1 then p ++ [32] else p.take (k - 1) ++ [32, 9] ++ p.drop k
noncomputable def pats : Nat → List (List Nat)
  | 0 => [[]]
  | n + 1 => (pats n).map (32 :: ·) ++ (pats n).map (9 :: ·)
noncomputable def allPats : List (List Nat) := pats 3 ++ pats 4 ++ pats 5
noncomputable def splitL : List Nat → List Nat → List (List Nat)
  | [], cur => [cur]
  | c :: r, cur => if c = 9 then cur :: splitL r [] else splitL r (cur ++ [c])
noncomputable def sizesP (p : List Nat) : List Int := (splitL p []).map fun q => (q.length : Int) + 1
noncomputable def rulP (p : List Nat) (k : Int) : List Int := rulerF (sizesP p) k
noncomputable def grpP (p : List Nat) : List Int := groupsF (rulP p 2) ((p.length : Int) + 1)
noncomputable def shpP (p : List Nat) (k : Nat) : List Int := shapeF (grpP p) k
noncomputable def stkP (p : List Nat) : List Stk := strokesF (grpP p)
noncomputable def hdP (p : List Nat) (k : Nat) : List Int × Int × Int × Int := wsTo (leadP p k) (leadP p k).length
noncomputable def mxP (p : List Nat) (a b : Nat) : Int := (splitL (leadP p a ++ 9 :: leadP p b) []).foldl (fun m q => max m (q.length : Int)) 0
noncomputable def bnd (xs : List Int) (hi : Int) : Bool := xs.all fun y => decide (0 ≤ y) && decide (y ≤ hi)
noncomputable def chkA (p : List Nat) (k : Int) : Bool := bnd (rulP p k) 127 && decide ((rulP p k).head? ≠ some 0) && decide (groupsF (rulP p k) ((p.length : Int) + 1) = grpP p)
noncomputable def chkG (p : List Nat) : Bool := chkA p 0 && chkA p 1 && chkA p 2 && decide ((grpP p).length ≤ 10) && bnd (grpP p) 10 && (splitL p []).all (fun q => decide (q.length ≤ 20)) && decide (0 < (splitL p []).length) && decide ((splitL p []).length ≤ 20)
noncomputable def dueP (p : List Nat) (i j : Nat) : Int := if (stkP p).any (fun s => decide (s.1 = i) && decide (s.2.1 = j)) then 2 else 4
noncomputable def chkL (p : List Nat) (i j : Nat) : Bool := [3, 4, 5, 6].all fun mx => decide (levF (leadP p i) (leadP p j) mx = dueP p i j)
noncomputable def shEq (a b : List Int) : Bool := (a.take (a.length - 1)).isPerm (b.take (b.length - 1)) && decide (a.drop (a.length - 1) = b.drop (b.length - 1))
noncomputable def chkE (p : List Nat) (i j : Nat) : Bool := eqF (hdP p i) (hdP p j) == shEq (shpP p i) (shpP p j)
noncomputable def chkW (p : List Nat) (s : Stk) : Bool := decide (0 ≤ s.1) && decide (s.1 ≤ (p.length : Int) + 1) && decide (0 ≤ s.2.1) && decide (s.2.1 ≤ (p.length : Int) + 1) && decide (0 ≤ s.2.2.1) && decide (s.2.2.1 ≤ 20) && decide (0 ≤ s.2.2.2.1) && decide (s.2.2.2.1 ≤ 20) &&
  decide (witF (hdP p s.1.toNat) (hdP p s.2.1.toNat) = lwTo s.2.2.1 s.2.2.2.1 s.2.2.2.2 (KStt.codes (strP (leadP p s.2.1.toNat))) (mxP p s.1.toNat s.2.1.toNat + 1).toNat)
noncomputable def pairsAll (n : Nat) (f : Nat → Nat → Bool) : Bool := (List.range (n + 1)).all fun i => (List.range (n + 2)).all fun j => !decide (i < j) || f i j
end Mine
end

section
open PySem PySem.W PyProof.Rows
namespace Mine
theorem mem_pats : ∀ (p : List Nat), (∀ c ∈ p, c = 32 ∨ c = 9) → p ∈ pats p.length
  | [], _ => .head _
  | c :: r, h => by
    have ih := mem_pats r fun x hx => h x (.tail _ hx)
    show c :: r ∈ (pats r.length).map (32 :: ·) ++ (pats r.length).map (9 :: ·)
    rcases h c (.head _) with e | e <;> subst e
    · exact List.mem_append_left _ (List.mem_map.mpr ⟨r, ih, rfl⟩)
    · exact List.mem_append_right _ (List.mem_map.mpr ⟨r, ih, rfl⟩)
theorem mem_all {p : List Nat} (h : ∀ c ∈ p, c = 32 ∨ c = 9) (hl : 3 ≤ p.length ∧ p.length ≤ 5) : p ∈ allPats := by
  have := mem_pats p h
  obtain h3 | h4 | h5 : p.length = 3 ∨ p.length = 4 ∨ p.length = 5 := by omega
  · rw [h3] at this; exact List.mem_append_left _ (List.mem_append_left _ this)
  · rw [h4] at this; exact List.mem_append_left _ (List.mem_append_right _ this)
  · rw [h5] at this; exact List.mem_append_right _ this
/-- the sign between two neighbours -/
noncomputable def sgN (a b : Str) : Nat := if b.cps.toList < a.cps.toList then 9 else 32
noncomputable def patTo (ws : List Str) (n : Nat) : List Nat := (List.range n).map fun k => sgN (ws.getD k Str.empty) (ws.getD (k + 1) Str.empty)
theorem sgN_is (a b : Str) : sgN a b = 32 ∨ sgN a b = 9 := by
  unfold sgN; split
  · exact .inr rfl
  · exact .inl rfl
theorem sgN_coll {a b : Str} (h : b.cps.toList < a.cps.toList ∨ a.cps.toList < b.cps.toList) : signOf (collI a b) = strP [sgN a b] := by
  by_cases h1 : b.cps.toList < a.cps.toList
  · have h2 : ¬ a.cps.toList < b.cps.toList := fun h2 => List.lt_irrefl _ (List.lt_trans h1 h2)
    have hc : collI a b = 1 := by
      unfold collI; rw [decide_eq_true h1, decide_eq_false h2]; decide
    rw [hc, sgN, if_pos h1]
    decide +kernel
  · have h2 : a.cps.toList < b.cps.toList := h.resolve_left h1
    have hc : collI a b = -1 := by
      unfold collI; rw [decide_eq_false h1, decide_eq_true h2]; decide
    rw [hc, sgN, if_neg h1]
    decide +kernel
theorem strP_app (a b : List Nat) : strP (a ++ b) = strP a ++ strP b := by
  show (⟨(a ++ b).toArray⟩ : Str) = ⟨a.toArray ++ b.toArray⟩
  rw [List.append_toArray]
theorem leadTo_pat {ws : List Str} : ∀ {n : Nat}, (∀ k, k < n → (ws.getD (k + 1) Str.empty).cps.toList < (ws.getD k Str.empty).cps.toList ∨ (ws.getD k Str.empty).cps.toList < (ws.getD (k + 1) Str.empty).cps.toList) → leadTo ws n = strP (patTo ws n)
  | 0, _ => by
    show Str.ofString "" = strP []
    decide +kernel
  | n + 1, h => by
    have ih := leadTo_pat (n := n) fun k hk => h k (by omega)
    show leadTo ws n ++ signOf _ = _
    rw [ih, sgN_coll (h n (by omega))]
    rw [show patTo ws (n + 1) = patTo ws n ++ [sgN (ws.getD n Str.empty) (ws.getD (n + 1) Str.empty)] by rw [patTo, List.range_succ, List.map_append]; rfl, strP_app]
theorem two_cmp (a b c d : Nat) (h : b ≠ d) : [a, b] < [c, d] ∨ [c, d] < [a, b] := by
  simp only [List.cons_lt_cons_iff, List.lt_irrefl, and_false, or_false]
  omega
theorem name_cps (x : Int) (i : Nat) : (nameS x i).cps.toList = [(x.fmod 55296).toNat, 97 + i] := rfl
theorem row_at {nums : List Int} {k : Nat} (h : k < nums.length) : (rowTo nums nums.length).getD k Str.empty = nameS (nums.getD k 0) k := by
  rw [List.getD_eq_getElem?_getD, rowTo, List.getElem?_map, List.getElem?_range h]; rfl
theorem x_cps : (Str.ofString "x").cps.toList = [120] := by decide +kernel
theorem great_gt {nums : List Int} {row : List Str} {g0 : Str} (hrow : rowTo nums nums.length = row) (hgm : g0 ∈ row) (hgx : ∀ x ∈ row, ¬ g0.cps.toList < x.cps.toList) :
    ∀ x ∈ row, x.cps.toList < (g0 ++ Str.ofString "x").cps.toList := by
  intro x hx
  have hle := hgx x hx
  rw [← hrow] at hgm hx
  obtain ⟨i, _, rfl⟩ := List.mem_map.mp hgm
  obtain ⟨j, _, rfl⟩ := List.mem_map.mp hx
  have e : (nameS (nums.getD i 0) i ++ Str.ofString "x").cps.toList = [((nums.getD i 0).fmod 55296).toNat, 97 + i, 120] := by
    show ((nameS (nums.getD i 0) i).cps ++ (Str.ofString "x").cps).toList = _
    rw [Array.toList_append, name_cps, x_cps]; rfl
  rw [e, name_cps]
  rw [name_cps, name_cps] at hle
  simp only [List.cons_lt_cons_iff, List.lt_irrefl, and_false, or_false, not_or, not_and, Nat.not_lt] at hle ⊢
  simp only [List.nil_lt_cons, and_true]
  omega
theorem longer_lt {row : List Str} {g : Str} {k i : Nat} (h : i < k) (hk : k ≤ row.length) : (longer row g k).getD i Str.empty = row.getD i Str.empty := by
  rw [List.getD_eq_getElem?_getD, List.getD_eq_getElem?_getD, longer, List.append_assoc, List.getElem?_append_left (by rw [List.length_take]; omega), List.getElem?_take, if_pos h]
theorem longer_eq {row : List Str} {g : Str} {k : Nat} (hk : k ≤ row.length) : (longer row g k).getD k Str.empty = g := by
  rw [List.getD_eq_getElem?_getD, longer, List.append_assoc, List.getElem?_append_right (by rw [List.length_take]; omega), List.length_take, Nat.min_eq_left hk, Nat.sub_self]; rfl
theorem longer_gt {row : List Str} {g : Str} {k i : Nat} (h : k < i) (hk : k ≤ row.length) : (longer row g k).getD i Str.empty = row.getD (i - 1) Str.empty := by
  have e : i - k = (i - k - 1) + 1 := by omega
  rw [List.getD_eq_getElem?_getD, List.getD_eq_getElem?_getD, longer, List.append_assoc, List.getElem?_append_right (by rw [List.length_take]; omega), List.length_take, Nat.min_eq_left hk, e, List.singleton_append, List.getElem?_cons_succ, List.getElem?_drop]
  congr 2
  omega
theorem getD_mem {row : List Str} {i : Nat} (h : i < row.length) : row.getD i Str.empty ∈ row := by
  rw [List.getD_eq_getElem?_getD, List.getElem?_eq_getElem h]
  exact List.getElem_mem _
theorem leadP_at {p : List Nat} {k i : Nat} (hk : k ≤ p.length + 1) (hi : i < p.length + 1) : (leadP p k)[i]? = some (if i + 1 = k then 32 else if i = k then 9 else if i < k then p.getD i 0 else p.getD (i - 1) 0) := by
  unfold leadP
  by_cases h0 : k = 0
  · subst h0
    rw [if_pos rfl]
    cases i with
    | zero => rfl
    | succ i =>
      rw [List.getElem?_cons_succ, if_neg (by omega), if_neg (by omega), if_neg (by omega), Nat.add_sub_cancel, List.getD_eq_getElem?_getD, List.getElem?_eq_getElem (by omega)]; rfl
  · rw [if_neg h0]
    by_cases hn : k = p.length + 1
    · rw [if_pos hn]
      by_cases hi1 : i + 1 = k
      · rw [if_pos hi1, List.getElem?_append_right (by omega), show i - p.length = 0 by omega]; rfl
      · rw [if_neg hi1, if_neg (by omega), if_pos (by omega), List.getElem?_append_left (by omega), List.getD_eq_getElem?_getD, List.getElem?_eq_getElem (by omega)]; rfl
    · rw [if_neg hn]
      by_cases h1 : i + 1 < k
      · rw [if_neg (by omega), if_neg (by omega), if_pos (by omega), List.append_assoc, List.getElem?_append_left (by rw [List.length_take]; omega), List.getElem?_take, if_pos (by omega), List.getD_eq_getElem?_getD, List.getElem?_eq_getElem (by omega)]; rfl
      · rw [List.append_assoc, List.getElem?_append_right (by rw [List.length_take]; omega), List.length_take, Nat.min_eq_left (by omega)]
        by_cases h2 : i + 1 = k
        · rw [if_pos h2, show i - (k - 1) = 0 by omega]; rfl
        · rw [if_neg h2]
          by_cases h3 : i = k
          · rw [if_pos h3, show i - (k - 1) = 1 by omega]; rfl
          · rw [if_neg h3, if_neg (by omega), show i - (k - 1) = (i - 1 - k) + 2 by omega]
            show (p.drop k)[i - 1 - k]? = _
            rw [List.getElem?_drop, show k + (i - 1 - k) = i - 1 by omega, List.getD_eq_getElem?_getD, List.getElem?_eq_getElem (by omega)]; rfl
theorem leadP_len {p : List Nat} {k : Nat} (hk : k ≤ p.length + 1) : (leadP p k).length = p.length + 1 := by
  unfold leadP
  split
  · rfl
  · split
    · simp
    · simp; omega
theorem pat_longer {row : List Str} {g : Str} {k : Nat} (hg : ∀ x ∈ row, x.cps.toList < g.cps.toList) (h1 : 1 ≤ row.length) (hk : k ≤ row.length) : patTo (longer row g k) row.length = leadP (patTo row (row.length - 1)) k := by
  have hpl : (patTo row (row.length - 1)).length = row.length - 1 := by simp [patTo]
  apply List.ext_getElem?
  intro i
  by_cases hi : i < row.length
  · rw [leadP_at (by omega) (by omega), patTo, List.getElem?_map, List.getElem?_range hi]
    show some (sgN _ _) = some _
    congr 1
    by_cases c1 : i + 1 = k
    · rw [if_pos c1, longer_lt (by omega) hk, c1, longer_eq hk, sgN, if_neg]
      exact fun h => List.lt_irrefl _ (List.lt_trans h (hg _ (getD_mem (by omega))))
    · rw [if_neg c1]
      by_cases c2 : i = k
      · rw [if_pos c2, c2, longer_eq hk, longer_gt (by omega) hk, sgN, if_pos]
        exact hg _ (getD_mem (by omega))
      · rw [if_neg c2]
        have hp : ∀ j, j < row.length - 1 → (patTo row (row.length - 1)).getD j 0 = sgN (row.getD j Str.empty) (row.getD (j + 1) Str.empty) := by
          intro j hj
          rw [List.getD_eq_getElem?_getD, patTo, List.getElem?_map, List.getElem?_range hj]; rfl
        by_cases c3 : i < k
        · rw [if_pos c3, longer_lt (by omega) hk, longer_lt (by omega) hk, hp i (by omega)]
        · rw [if_neg c3, longer_gt (by omega) hk, longer_gt (by omega) hk, hp (i - 1) (by omega), Nat.add_sub_cancel, show i - 1 + 1 = i by omega]
  · rw [List.getElem?_eq_none (by simp [patTo]; omega), List.getElem?_eq_none (by rw [leadP_len (by omega)]; omega)]
theorem lead_pat {nums : List Int} {row : List Str} {g0 : Str} (hnl : 4 ≤ nums.length ∧ nums.length ≤ 6) (hrow : rowTo nums nums.length = row) (hgm : g0 ∈ row) (hgx : ∀ x ∈ row, ¬ g0.cps.toList < x.cps.toList) :
    ∃ p, p ∈ allPats ∧ row.length = p.length + 1 ∧ leadTo row (row.length - 1) = strP p ∧ leadsTo row (g0 ++ Str.ofString "x") (row.length + 1) = (List.range (p.length + 2)).map fun k => strP (leadP p k) := by
  have hl : row.length = nums.length := by rw [← hrow, rowTo_length]
  have hg := great_gt hrow hgm hgx
  generalize g0 ++ Str.ofString "x" = g at hg
  have hpl : (patTo row (row.length - 1)).length = row.length - 1 := by simp [patTo]
  have hd : ∀ k, k + 1 < row.length → (row.getD (k + 1) Str.empty).cps.toList < (row.getD k Str.empty).cps.toList ∨ (row.getD k Str.empty).cps.toList < (row.getD (k + 1) Str.empty).cps.toList := by
    intro k hk
    rw [← hrow, row_at (by omega), row_at (by omega), name_cps, name_cps]
    exact two_cmp _ _ _ _ (by omega)
  refine ⟨patTo row (row.length - 1), mem_all ?_ (by omega), by omega, leadTo_pat fun k hk => hd k (by omega), ?_⟩
  · intro c hc
    obtain ⟨k, _, rfl⟩ := List.mem_map.mp hc
    exact sgN_is _ _
  · rw [hpl, show row.length - 1 + 2 = row.length + 1 by omega]
    apply List.map_congr_left
    intro k hk
    have hk := List.mem_range.mp hk
    rw [← pat_longer hg (by omega) (by omega)]
    apply leadTo_pat
    intro i hi
    by_cases c1 : i + 1 = k
    · rw [longer_lt (i := i) (by omega) (by omega), c1, longer_eq (by omega)]
      exact .inr (hg _ (getD_mem (by omega)))
    · by_cases c2 : i = k
      · rw [c2, longer_eq (by omega), longer_gt (by omega) (by omega)]
        exact .inl (hg _ (getD_mem (by omega)))
      · by_cases c3 : i < k
        · rw [longer_lt (by omega) (by omega), longer_lt (by omega) (by omega)]
          exact hd i (by omega)
        · rw [longer_gt (by omega) (by omega), longer_gt (by omega) (by omega), show i + 1 - 1 = i - 1 + 1 by omega]
          exact hd (i - 1) (by omega)
end Mine
end

section
open PySem PySem.W PyProof.Rows
namespace Mine
theorem chkG_all : ∀ p ∈ allPats, chkG p = true := by decide +kernel
theorem split_chk : ∀ p ∈ allPats, Txt.split (strP p) (Str.ofString "\t") = (splitL p []).map strP := by decide +kernel
theorem len_chk : ∀ p ∈ allPats, 3 ≤ p.length ∧ p.length ≤ 5 := by decide +kernel
theorem sizes_is (p : List Nat) : (((splitL p []).map strP).map fun q => (q.length : Int) + 1) = sizesP p := by
  rw [List.map_map]; rfl
theorem bnd_is {xs : List Int} {hi : Int} (h : bnd xs hi = true) : ∀ y ∈ xs, 0 ≤ y ∧ y ≤ hi := by
  intro y hy
  have := List.all_eq_true.mp h y hy
  simpa using this
theorem ruler_pre {p : List Nat} (hp : p ∈ allPats) : (strP p).length ≤ 30 ∧ Txt.split (strP p) (Str.ofString "\t") = (splitL p []).map strP ∧ 0 < ((splitL p []).map strP).length ∧ ((splitL p []).map strP).length ≤ 20 ∧ ∀ q ∈ (splitL p []).map strP, q.length ≤ 20 := by
  have hg := chkG_all p hp
  simp only [chkG, Bool.and_eq_true, decide_eq_true_eq, List.all_eq_true] at hg
  refine ⟨?_, split_chk p hp, by rw [List.length_map]; exact hg.1.2, by rw [List.length_map]; exact hg.2, fun q hq => ?_⟩
  · have := (len_chk p hp).2
    show p.toArray.size ≤ 30
    rw [List.size_toArray]; omega
  · obtain ⟨r, hr, rfl⟩ := List.mem_map.mp hq
    show r.toArray.size ≤ 20
    rw [List.size_toArray]
    exact hg.1.1.2 r hr
theorem rul_ok {p : List Nat} (hp : p ∈ allPats) (k : Int) (hk : k = 0 ∨ k = 1 ∨ k = 2) : (∀ y ∈ rulP p k, 0 ≤ y ∧ y ≤ 127) ∧ (rulP p k).head? ≠ some 0 ∧ groupsF (rulP p k) ((p.length : Int) + 1) = grpP p := by
  have hg := chkG_all p hp
  simp only [chkG, Bool.and_eq_true] at hg
  have hc : chkA p k = true := by
    rcases hk with rfl | rfl | rfl
    · exact hg.1.1.1.1.1.1.1
    · exact hg.1.1.1.1.1.1.2
    · exact hg.1.1.1.1.1.2
  simp only [chkA, Bool.and_eq_true, decide_eq_true_eq] at hc
  exact ⟨bnd_is hc.1.1, hc.1.2, hc.2⟩
theorem grp_ok {p : List Nat} (hp : p ∈ allPats) : (grpP p).length ≤ 10 ∧ ∀ y ∈ grpP p, 0 ≤ y ∧ y ≤ 10 := by
  have hg := chkG_all p hp
  simp only [chkG, Bool.and_eq_true, decide_eq_true_eq] at hg
  exact ⟨hg.1.1.1.1.2, bnd_is hg.1.1.1.2⟩
theorem kind_is (T : Int) : T.fmod 3 = 0 ∨ T.fmod 3 = 1 ∨ T.fmod 3 = 2 := by
  rw [Int.fmod_eq_emod_of_nonneg _ (by decide)]
  omega
end Mine
end

section
open PySem PySem.W PyProof.Rows
namespace Mine
theorem all_pairs {n : Nat} {f : Nat → Nat → Bool} (h : pairsAll n f = true) {i j : Nat} (hi : i ≤ n) (hj : j ≤ n + 1) (hij : i < j) : f i j = true := by
  simp only [pairsAll, List.all_eq_true, List.mem_range, Bool.or_eq_true, Bool.not_eq_true', decide_eq_false_iff_not] at h
  rcases h i (by omega) j (by omega) with q | q
  · exact absurd hij q
  · exact q
theorem pats_two (n : Nat) {p : List Nat} (h : p ∈ pats (n + 1)) : (∃ q ∈ pats n, p = 32 :: q) ∨ ∃ q ∈ pats n, p = 9 :: q := by
  rcases List.mem_append.mp h with h | h
  · obtain ⟨q, hq, rfl⟩ := List.mem_map.mp h
    exact .inl ⟨q, hq, rfl⟩
  · obtain ⟨q, hq, rfl⟩ := List.mem_map.mp h
    exact .inr ⟨q, hq, rfl⟩
noncomputable abbrev Lq (p : List Nat) : Bool := pairsAll p.length (chkL p)
theorem chkL3 : ∀ p ∈ pats 3, Lq p = true := by decide +kernel
theorem chkL4a : ∀ p ∈ pats 3, Lq (32 :: p) = true := by decide +kernel
theorem chkL4b : ∀ p ∈ pats 3, Lq (9 :: p) = true := by decide +kernel
theorem chkL5a : ∀ p ∈ pats 3, Lq (32 :: 32 :: p) = true := by decide +kernel
theorem chkL5b : ∀ p ∈ pats 3, Lq (32 :: 9 :: p) = true := by decide +kernel
theorem chkL5c : ∀ p ∈ pats 3, Lq (9 :: 32 :: p) = true := by decide +kernel
theorem chkL5d : ∀ p ∈ pats 3, Lq (9 :: 9 :: p) = true := by decide +kernel
theorem chkL_all : ∀ p ∈ allPats, pairsAll p.length (chkL p) = true := by
  intro p hp
  rcases List.mem_append.mp hp with hp | hp
  · rcases List.mem_append.mp hp with hp | hp
    · exact chkL3 p hp
    · rcases pats_two 3 hp with ⟨q, hq, rfl⟩ | ⟨q, hq, rfl⟩
      · exact chkL4a q hq
      · exact chkL4b q hq
  · rcases pats_two 4 hp with ⟨q, hq, rfl⟩ | ⟨q, hq, rfl⟩
    · rcases pats_two 3 hq with ⟨q2, hq2, e⟩ | ⟨q2, hq2, e⟩
      · subst e; exact chkL5a q2 hq2
      · subst e; exact chkL5b q2 hq2
    · rcases pats_two 3 hq with ⟨q2, hq2, e⟩ | ⟨q2, hq2, e⟩
      · subst e; exact chkL5c q2 hq2
      · subst e; exact chkL5d q2 hq2
theorem chkE_all : ∀ p ∈ allPats, pairsAll p.length (chkE p) = true := by decide +kernel
noncomputable def chkS (p : List Nat) (s : Stk) : Bool :=
  let qs := splitL (leadP p s.1.toNat ++ 9 :: leadP p s.2.1.toNat) []
  let mx := mxP p s.1.toNat s.2.1.toNat
  decide (Txt.split (strP (leadP p s.1.toNat ++ 9 :: leadP p s.2.1.toNat)) (Str.ofString "\t") = qs.map strP) && decide (0 < qs.length) && decide (qs.length ≤ 20) && qs.all (fun q => decide ((q.length : Int) ≤ mx)) && qs.any (fun q => decide ((q.length : Int) = mx)) && decide (mx ≤ 20)
noncomputable abbrev Sq (p : List Nat) : Bool := (stkP p).all (chkS p)
theorem chkS3 : ∀ p ∈ pats 3, Sq p = true := by decide +kernel
theorem chkS4a : ∀ p ∈ pats 3, Sq (32 :: p) = true := by decide +kernel
theorem chkS4b : ∀ p ∈ pats 3, Sq (9 :: p) = true := by decide +kernel
theorem chkS5a : ∀ p ∈ pats 3, Sq (32 :: 32 :: p) = true := by decide +kernel
theorem chkS5b : ∀ p ∈ pats 3, Sq (32 :: 9 :: p) = true := by decide +kernel
theorem chkS5c : ∀ p ∈ pats 3, Sq (9 :: 32 :: p) = true := by decide +kernel
theorem chkS5d : ∀ p ∈ pats 3, Sq (9 :: 9 :: p) = true := by decide +kernel
theorem chkS_all : ∀ p ∈ allPats, (stkP p).all (chkS p) = true := by
  intro p hp
  rcases List.mem_append.mp hp with hp | hp
  · rcases List.mem_append.mp hp with hp | hp
    · exact chkS3 p hp
    · rcases pats_two 3 hp with ⟨q, hq, rfl⟩ | ⟨q, hq, rfl⟩
      · exact chkS4a q hq
      · exact chkS4b q hq
  · rcases pats_two 4 hp with ⟨q, hq, rfl⟩ | ⟨q, hq, rfl⟩
    · rcases pats_two 3 hq with ⟨q2, hq2, e⟩ | ⟨q2, hq2, e⟩
      · subst e; exact chkS5a q2 hq2
      · subst e; exact chkS5b q2 hq2
    · rcases pats_two 3 hq with ⟨q2, hq2, e⟩ | ⟨q2, hq2, e⟩
      · subst e; exact chkS5c q2 hq2
      · subst e; exact chkS5d q2 hq2
noncomputable abbrev Wq (p : List Nat) : Bool := (stkP p).all (chkW p)
theorem chkW34 : ∀ p ∈ pats 3 ++ pats 4, Wq p = true := by decide +kernel
theorem chkW5a : ∀ p ∈ pats 4, Wq (32 :: p) = true := by decide +kernel
theorem chkW5b : ∀ p ∈ pats 4, Wq (9 :: p) = true := by decide +kernel
theorem chkW_all : ∀ p ∈ allPats, (stkP p).all (chkW p) = true := by
  intro p hp
  rcases List.mem_append.mp hp with hp | hp
  · exact chkW34 p hp
  · rcases pats_two 4 hp with ⟨q, hq, rfl⟩ | ⟨q, hq, rfl⟩
    · exact chkW5a q hq
    · exact chkW5b q hq
theorem stkP_len : ∀ p ∈ allPats, (stkP p).length ≤ 20 := by decide +kernel
theorem lev_ok {p : List Nat} (hp : p ∈ allPats) (T : Int) {i j : Nat} (hij : i < j) (hj : j ≤ p.length + 1) : levF (cs (strP (leadP p i))) (cs (strP (leadP p j))) (3 + (T + i + j).fmod 4) = dueP p i j := by
  have h := all_pairs (chkL_all p hp) (by omega) hj hij
  simp only [chkL, List.all_eq_true, decide_eq_true_eq] at h
  have hm : 3 + (T + i + j).fmod 4 ∈ [(3 : Int), 4, 5, 6] := by
    rw [Int.fmod_eq_emod_of_nonneg _ (by decide)]
    have : (T + i + j) % 4 = 0 ∨ (T + i + j) % 4 = 1 ∨ (T + i + j) % 4 = 2 ∨ (T + i + j) % 4 = 3 := by omega
    rcases this with e | e | e | e <;> rw [e] <;> decide
  exact h _ hm
theorem sorted_perm {a b : List Int} (ha : a.Pairwise (· ≤ ·)) (hb : b.Pairwise (· ≤ ·)) (h : a.Perm b) : a = b :=
  h.eq_of_pairwise (fun x y _ _ h1 h2 => Int.le_antisymm h1 h2) ha hb
/-- two shapes are alike: the sorted heads and the last ones -/
theorem shape_eq {xs ys na nb : List Int} (ha : na.Perm (xs.take (xs.length - 1))) (hb : nb.Perm (ys.take (ys.length - 1))) (sa : na.Pairwise (· ≤ ·)) (sb : nb.Pairwise (· ≤ ·)) :
    (decide (na = nb) && decide (xs.drop (xs.length - 1) = ys.drop (ys.length - 1))) = shEq xs ys := by
  unfold shEq
  congr 1
  rw [Bool.eq_iff_iff, decide_eq_true_eq, List.isPerm_iff]
  constructor
  · rintro rfl
    exact ha.symm.trans hb
  · intro h
    exact sorted_perm sa sb (ha.trans (h.trans hb.symm))
theorem equal_ok {p : List Nat} (hp : p ∈ allPats) {i j : Nat} (hij : i < j) (hj : j ≤ p.length + 1) : eqF (hdP p i) (hdP p j) = shEq (shpP p i) (shpP p j) := by
  have h := all_pairs (chkE_all p hp) (by omega) hj hij
  exact beq_iff_eq.mp h
theorem stk_ok {p : List Nat} (hp : p ∈ allPats) {f l a b : Int} {sh : Bool} (hs : (f, l, a, b, sh) ∈ stkP p) :
    0 ≤ f ∧ f ≤ (p.length : Int) + 1 ∧ 0 ≤ l ∧ l ≤ (p.length : Int) + 1 ∧ 0 ≤ a ∧ a ≤ 20 ∧ 0 ≤ b ∧ b ≤ 20 ∧
    witF (hdP p f.toNat) (hdP p l.toNat) = lwTo a b sh (KStt.codes (strP (leadP p l.toNat))) (mxP p f.toNat l.toNat + 1).toNat := by
  have h := List.all_eq_true.mp (chkW_all p hp) _ hs
  simp only [chkW, Bool.and_eq_true, decide_eq_true_eq] at h
  obtain ⟨⟨⟨⟨⟨⟨⟨⟨h1, h2⟩, h3⟩, h4⟩, h5⟩, h6⟩, h7⟩, h8⟩, h9⟩ := h
  exact ⟨h1, h2, h3, h4, h5, h6, h7, h8, h9⟩
theorem strP_tab (a b : List Nat) : strP a ++ Str.ofString "\t" ++ strP b = strP (a ++ 9 :: b) := by
  rw [show Str.ofString "\t" = strP [9] by decide +kernel, ← strP_app, ← strP_app, List.append_assoc]; rfl
theorem stk_split {p : List Nat} (hp : p ∈ allPats) {f l a b : Int} {sh : Bool} (hs : (f, l, a, b, sh) ∈ stkP p) :
    Txt.split (strP (leadP p f.toNat) ++ Str.ofString "\t" ++ strP (leadP p l.toNat)) (Str.ofString "\t") = (splitL (leadP p f.toNat ++ 9 :: leadP p l.toNat) []).map strP ∧ 0 < ((splitL (leadP p f.toNat ++ 9 :: leadP p l.toNat) []).map strP).length ∧ ((splitL (leadP p f.toNat ++ 9 :: leadP p l.toNat) []).map strP).length ≤ 20 ∧
    (∀ q ∈ (splitL (leadP p f.toNat ++ 9 :: leadP p l.toNat) []).map strP, (q.length : Int) ≤ mxP p f.toNat l.toNat) ∧ (∃ q ∈ (splitL (leadP p f.toNat ++ 9 :: leadP p l.toNat) []).map strP, (q.length : Int) = mxP p f.toNat l.toNat) ∧ mxP p f.toNat l.toNat ≤ 20 := by
  have h := List.all_eq_true.mp (chkS_all p hp) _ hs
  simp only [chkS, Bool.and_eq_true, decide_eq_true_eq, List.all_eq_true, List.any_eq_true] at h
  obtain ⟨⟨⟨⟨⟨h1, h2⟩, h3⟩, h4⟩, h5⟩, h6⟩ := h
  have hl : ∀ q : List Nat, (strP q).length = q.length := fun q => by show q.toArray.size = _; simp
  rw [strP_tab]
  refine ⟨h1, by rw [List.length_map]; exact h2, by rw [List.length_map]; exact h3, ?_, ?_, h6⟩
  · intro q hq
    obtain ⟨r, hr, rfl⟩ := List.mem_map.mp hq
    rw [hl]; exact h4 r hr
  · obtain ⟨r, hr, e⟩ := h5
    exact ⟨strP r, List.mem_map.mpr ⟨r, hr, rfl⟩, by rw [hl]; exact e⟩
theorem strP_length (q : List Nat) : (strP q).length = q.length := by show q.toArray.size = _; simp
theorem cs_strP (q : List Nat) : cs (strP q) = q := rfl
theorem pats_signs : ∀ {n : Nat} {p : List Nat}, p ∈ pats n → ∀ c ∈ p, c = 32 ∨ c = 9
  | 0, p, h, c, hc => by
    rw [List.mem_singleton.mp h] at hc
    cases hc
  | n + 1, p, h, c, hc => by
    rcases pats_two n h with ⟨q, hq, rfl⟩ | ⟨q, hq, rfl⟩
    · rcases List.mem_cons.mp hc with rfl | hc
      · exact .inl rfl
      · exact pats_signs hq c hc
    · rcases List.mem_cons.mp hc with rfl | hc
      · exact .inr rfl
      · exact pats_signs hq c hc
theorem all_signs {p : List Nat} (hp : p ∈ allPats) : ∀ c ∈ p, c = 32 ∨ c = 9 := by
  rcases List.mem_append.mp hp with hp | hp
  · rcases List.mem_append.mp hp with hp | hp
    · exact pats_signs hp
    · exact pats_signs hp
  · exact pats_signs hp
theorem lead_signs {p : List Nat} (hp : p ∈ allPats) (k : Nat) : ∀ c ∈ leadP p k, c = 32 ∨ c = 9 := by
  have h := all_signs hp
  intro c hc
  unfold leadP at hc
  split at hc
  · rcases List.mem_cons.mp hc with rfl | hc
    · exact .inr rfl
    · exact h c hc
  · split at hc
    · rcases List.mem_append.mp hc with hc | hc
      · exact h c hc
      · exact .inl (List.mem_singleton.mp hc)
    · rcases List.mem_append.mp hc with hc | hc
      · rcases List.mem_append.mp hc with hc | hc
        · exact h c (List.mem_of_mem_take hc)
        · simp at hc; exact hc
      · exact h c (List.mem_of_mem_drop hc)
theorem hd_ok {p : List Nat} {k : Nat} (hp : p ∈ allPats) (hk : k ≤ p.length + 1) : StOk (hdP p k) := by
  have h := wsTo_bnd (leadP p k) (leadP p k).length
  have hl := leadP_len hk
  have h5 := (len_chk p hp).2
  refine ⟨?_, fun y hy => ?_, ?_, ?_, ?_, ?_⟩
  · have := h.2.2.1; unfold hdP; omega
  · have := h.2.2.2.2.2 y hy; omega
  · exact h.2.2.2.1
  · have := h.2.2.2.2.1; unfold hdP; omega
  · exact h.1
  · have := h.2.1; unfold hdP; omega
end Mine
end

section
open PySem PySem.W PyProof.Rows PySem.SeqAt
namespace Mine
/-- references to things of a ledger -/
inductive Refs {β : Type} (R : Led → Addr → β → Prop) (l : Led) : List Value → List β → Prop where
  | nil : Refs R l [] []
  | cons {a : Addr} {b : β} {vs : List Value} {bs : List β} : R l a b → Refs R l vs bs → Refs R l (.ref a :: vs) (b :: bs)
section
variable {β : Type} {R : Led → Addr → β → Prop} {l l' : Led} {vs : List Value} {bs : List β}
theorem Refs.mono (h : Refs R l vs bs) (hR : ∀ a b, R l a b → R l' a b) : Refs R l' vs bs := by
  induction h with
  | nil => exact .nil
  | cons h1 _ ih => exact .cons (hR _ _ h1) ih
theorem Refs.snoc {a : Addr} {b : β} (h : Refs R l vs bs) (h1 : R l a b) : Refs R l (vs ++ [.ref a]) (bs ++ [b]) := by
  induction h with
  | nil => exact .cons h1 .nil
  | cons h2 _ ih => exact .cons h2 ih
theorem Refs.length (h : Refs R l vs bs) : vs.length = bs.length := by
  induction h with
  | nil => rfl
  | cons _ _ ih => simp [ih]
theorem Refs.at (h : Refs R l vs bs) : ∀ {i : Nat} {b : β}, bs[i]? = some b → ∃ a, vs[i]? = some (.ref a) ∧ R l a b := by
  induction h with
  | nil => intro i b hb; simp at hb
  | @cons a b vs bs h1 _ ih =>
    intro i c hc
    cases i with
    | zero =>
      have : b = c := by simpa using hc
      subst this
      exact ⟨a, rfl, h1⟩
    | succ i => exact ih (by simpa using hc)
end
/-- a shape: a tuple of two lists -/
noncomputable def ShpAt (l : Led) (D : Addr) (xs : List Int) : Prop := ∃ (D1 D2 : Addr) (va vb : List Value) (na : List Int) (c : Nat), (D, tupOf [.ref D2, .ref D1]) ∈ l ∧ (D1, listOf vb.toArray 0) ∈ l ∧ (D2, listOf va.toArray c) ∈ l ∧
  IntsAre va na ∧ na.Perm (xs.take (xs.length - 1)) ∧ na.Pairwise (· ≤ ·) ∧ IntsAre vb (xs.drop (xs.length - 1))
theorem ShpAt.mono {l l' : Led} (hs : ∀ p ∈ l, p ∈ l') (D : Addr) (xs : List Int) (h : ShpAt l D xs) : ShpAt l' D xs := by
  obtain ⟨D1, D2, va, vb, na, c, h1, h2, h3, r⟩ := h
  exact ⟨D1, D2, va, vb, na, c, hs _ h1, hs _ h2, hs _ h3, r⟩
theorem HeadAt.mono' {w : World} {l l' : Led} (hs : ∀ p ∈ l, p ∈ l') (x : Addr) (st : List Int × Int × Int × Int) (h : HeadAt w l x st) : HeadAt w l' x st := h.mono hs
theorem listOf_inj {vs us : List Value} {n m : Nat} (h : listOf vs.toArray n = listOf us.toArray m) : vs = us := by
  have e2 : vs.toArray = us.toArray := by injection h with _ _ h; injection h
  simpa using e2
theorem tupOf_inj {vs us : List Value} (h : tupOf vs = tupOf us) : vs = us := by
  have e2 : vs.toArray = us.toArray := by injection h with _ _ h; injection h
  simpa using e2
section
variable {A : Around} {s : Shared} {h₀ : Heap} {L : Addr} {news : Led}
theorem news_inj {a : Addr} {o o' : Obj} (N : News h₀ L s.heap news) (h1 : (a, o) ∈ news) (h2 : (a, o') ∈ news) : o = o' := by
  have e1 := (N _ h1).1
  have e2 := (N _ h2).1
  dsimp only at e1 e2
  rw [e1] at e2
  exact Option.some.inj e2
theorem list_ints_at {a b : Addr} {vs us : List Value} {n m : Nat} {xs ys : List Int} (N : News h₀ L s.heap news) (ha : (a, listOf vs.toArray n) ∈ news) (hb : (b, listOf us.toArray m) ∈ news) (hx : IntsAre vs xs) (hy : IntsAre us ys) (hu : A.units < cLine) : EqAt A s (.ref a) (.ref b) (decide (xs = ys)) :=
  eq_ref (rc_list_ints N ha hb hx hy hu) fun e => by
    subst e
    have := listOf_inj (news_inj N ha hb)
    subst this
    exact decide_eq_true (ints_inj hx hy)
/-- two shapes are compared by their data -/
theorem shp_at {a b : Addr} {xs ys : List Int} (N : News h₀ L s.heap news) (ha : ShpAt news a xs) (hb : ShpAt news b ys) (hu : A.units + 20 < cLine) : RcAt A s (.ref a) (.ref b) (shEq xs ys) := by
  obtain ⟨D1, D2, va, vb, na, c, h1, h2, h3, i1, p1, s1, j1⟩ := ha
  obtain ⟨E1, E2, ua, ub, ma, d, g1, g2, g3, i2, p2, s2, j2⟩ := hb
  rw [← shape_eq p1 p2 s1 s2]
  exact rc_pair N h1 g1 (list_ints_at N h3 g3 i1 i2 (by show A.units + 1 < cLine; omega)) (list_ints_at N h2 g2 j1 j2 (by show A.units + 1 < cLine; omega)) (by omega)
theorem trip_inj {l : Led} {vs : List Value} {xs ys : List (Int × Int × Int)} (hx : Trips l vs xs) (hy : Trips l vs ys) (N : News h₀ L s.heap l) : xs = ys := by
  induction hx generalizing ys with
  | nil => cases hy; rfl
  | cons h1 _ ih =>
    cases hy with
    | cons h2 h =>
      have := tupOf_inj (news_inj N h1 h2)
      simp only [List.cons.injEq, Value.int.injEq, and_true] at this
      obtain ⟨⟨rfl, _⟩, ⟨rfl, _⟩, rfl, _⟩ := this
      rw [ih h]
theorem Trips.get {l : Led} {vs : List Value} {ws : List (Int × Int × Int)} (h : Trips l vs ws) : ∀ (i : Nat) (v : Value), vs[i]? = some v → ∃ (a : Addr) (x y z : Int) (t u r : Tok), v = .ref a ∧ ws[i]? = some (x, y, z) ∧ (a, tupOf [.int x t, .int y u, .int z r]) ∈ l := by
  induction h with
  | nil => intro i v hv; simp at hv
  | @cons a x y z t u r _ _ hm _ ih =>
    intro i v hv
    cases i with
    | zero => exact ⟨a, x, y, z, t, u, r, by simpa using hv.symm, rfl, hm⟩
    | succ i => exact ih i v (by simpa using hv)
theorem triple_at {a b : Addr} {x y z x' y' z' : Int} {t u r t' u' r' : Tok} (N : News h₀ L s.heap news) (ha : (a, tupOf [.int x t, .int y u, .int z r]) ∈ news) (hb : (b, tupOf [.int x' t', .int y' u', .int z' r']) ∈ news) (hu : A.units < cLine) :
    EqAt A s (.ref a) (.ref b) (decide ((x, y, z) = (x', y', z'))) := by
  refine eq_ref ?_ fun e => ?_
  · have := rc_tup_ints N ha hb (.cons x t (.cons y u (.cons z r .nil))) (.cons x' t' (.cons y' u' (.cons z' r' .nil))) hu
    have e : decide ([x, y, z] = [x', y', z']) = decide ((x, y, z) = (x', y', z')) := by rw [Bool.eq_iff_iff]; simp
    rwa [e] at this
  · subst e
    have := tupOf_inj (news_inj N ha hb)
    simp only [List.cons.injEq, Value.int.injEq, and_true] at this
    obtain ⟨⟨rfl, _⟩, ⟨rfl, _⟩, rfl, _⟩ := this
    exact decide_eq_true rfl
/-- two lists of triples -/
theorem rc_trips {a b : Addr} {vs us : List Value} {n m : Nat} {xs ys : List (Int × Int × Int)} (N : News h₀ L s.heap news) (ha : (a, listOf vs.toArray n) ∈ news) (hb : (b, listOf us.toArray m) ∈ news) (hx : Trips news vs xs) (hy : Trips news us ys) (hu : A.units + 20 < cLine) : RcAt A s (.ref a) (.ref b) (decide (xs = ys)) := by
  have e1 : vs.toArray.size = xs.length := by simp [hx.length]
  have e2 : us.toArray.size = ys.length := by simp [hy.length]
  by_cases hl : xs.length = ys.length
  · have := RcAt.lists (A := A) (e := fun j => decide (xs.getD j (0, 0, 0) = ys.getD j (0, 0, 0))) (led_isList N ha) (led_isList N hb) (by rw [e1, e2, hl]) (by omega) (fun j q1 q2 => by
      have l1 : j < vs.length := by simpa using q1
      have l2 : j < us.length := by simpa using q2
      refine ex7 (hx.get j vs[j] (List.getElem?_eq_getElem l1)) fun a' x y z t u r hB1 => and3 hB1 fun f1 f2 f3 => ?_
      refine ex7 (hy.get j us[j] (List.getElem?_eq_getElem l2)) fun b' x' y' z' t' u' r' hB2 => and3 hB2 fun k1 k2 k3 => ?_
      have g1 : xs.getD j (0, 0, 0) = (x, y, z) := by rw [List.getD_eq_getElem?_getD, f2]; rfl
      have g2 : ys.getD j (0, 0, 0) = (x', y', z') := by rw [List.getD_eq_getElem?_getD, k2]; rfl
      rw [g1, g2, show vs.toArray[j] = .ref a' from f1, show us.toArray[j] = .ref b' from k1]
      exact triple_at N f3 k3 (by show A.units + 1 < cLine; omega))
    rw [e1, all_eq' _ _ _ hl] at this
    exact this
  · have := RcAt.lists_lengths (A := A) (led_isList N ha) (led_isList N hb) (by rw [e1, e2]; simpa using hl) (by omega)
    have q : decide (xs = ys) = false := decide_eq_false fun e => hl (by rw [e])
    rw [q]; exact this
end
theorem item_val {prog : Program} {w : World} {A : Around} {E : Value → Shared → Prop} {s : Shared} {h₀ : Heap} {L l : Addr} {news : Led} {value slice : Expr} {vs : List Value} {c j : Nat} {k : Int} {u : Tok} {x : Value} {Q : Value → Shared → Prop}
    (N : News h₀ L s.heap news) (hm : (l, listOf vs.toArray c) ∈ news) (hx : vs[j]? = some x) (hk : k = (j : Int)) (hj : j < 1000) (hs : subscripted slice false (.ref l) (.int k u) = operate [.ref l, .int k u] (getItem (.ref l) (.int k u)))
    (h : Q x s) : wpAny (model prog w) A (subscriptTail value slice (.ref l) (.int k u)) Q E s := by
  have hl := led_isList N hm
  refine kba_turn (value' := PySem.Expr.Name (PySem.Str.ofString "_") ⟨0, 0, 0, 0⟩) (fun _ => rfl) ?_
  refine subscriptTail_builtin hl.typeIs slot_list_getitem.lookup (wpAny_getItem_list hl (by omega) (by omega) ?_ h) hs (fun _ => rfl)
  rw [hk, Int.toNat_natCast]
  simpa using hx
theorem cs_app (a b : Str) : cs (a ++ b) = cs a ++ cs b := by
  show (a.cps ++ b.cps).toList = _
  rw [Array.toList_append]
theorem head_text (q : List Nat) (b c : Str) : cs (strP q ++ Str.ofString "x" ++ b ++ c) = q ++ 120 :: (cs b ++ cs c) := by
  rw [cs_app, cs_app, cs_app, show cs (Str.ofString "x") = [120] from x_cps, cs_strP, List.append_assoc, List.append_assoc]; rfl
theorem comp_end_new {h₀ : Heap} {L I C D : Addr} {m : Str → Option Value} {s₁ : Shared} {oI oC oD : Obj} {rest : Value → Led → Prop} {y : Value} {h' : Heap} {tk : Nat} {pre ex new : Led}
    (F : Fr h₀ L h' m) (off : LCg.Off3 I C D (pre ++ ex)) (N : News h₀ L h' (new ++ ((I, oI) :: (C, oC) :: (D, oD) :: (pre ++ ex)))) (hn : ∀ q ∈ new, ∀ p ∈ [(I, oI), (C, oC), (D, oD)], p.1 < q.1) (r : rest y (pre ++ (new ++ ex))) :
    LCg.CompEnd h₀ L m s₁ I oI C oC D oD (fun _ => True) rest y { s₁ with heap := h', toks := tk } := by
  refine LCg.CompEnd.intro F N (pre ++ (new ++ ex)) (fun p hp => ?_) (LCg.Off3.of fun p hp => ?_) trivial r
  · simp only [List.mem_cons, List.mem_append] at hp ⊢
    rcases hp with h | h | h | h | h | h
    · exact .inr (.inl h)
    · exact .inr (.inr (.inl h))
    · exact .inr (.inr (.inr (.inl h)))
    · exact .inr (.inr (.inr (.inr (.inl h))))
    · exact .inl h
    · exact .inr (.inr (.inr (.inr (.inr h))))
  · simp only [List.mem_append] at hp
    rcases hp with h | h | h
    · exact off.mem p (List.mem_append_left _ h)
    · exact ⟨Nat.ne_of_gt (hn p h _ (.head _)), Nat.ne_of_gt (hn p h _ (.tail _ (.head _))), Nat.ne_of_gt (hn p h _ (.tail _ (.tail _ (.head _))))⟩
    · exact off.mem p (List.mem_append_right _ h)
theorem RetP.mem {news : Led} {xs : List Int} {p : Addr × Obj} (h₀ : Heap) (L : Addr) (m : Str → Option Value) (s : Shared) (Q : Value → Shared → Prop) (h : RetP news xs h₀ L m s Q) : RetP (p :: news) xs h₀ L m s Q :=
  fun D D1 D2 va vb na c h' tk' F N h1 h2 h3 h4 h5 => h D D1 D2 va vb na c h' tk' F (fun q hq => N q (by
    simp only [List.mem_cons] at hq ⊢
    rcases hq with h | h | h | h
    · exact .inl h
    · exact .inr (.inl h)
    · exact .inr (.inr (.inl h))
    · exact .inr (.inr (.inr (.inr h))))) h1 h2 h3 h4 fun q hq => h5 q (.tail _ hq)
theorem RetT.mems {news ps : Led} {ws : List (Int × Int × Int)} (h₀ : Heap) (L : Addr) (m : Str → Option Value) (s : Shared) (Q : Value → Shared → Prop) (h : RetT news ws h₀ L m s Q) : RetT (ps ++ news) ws h₀ L m s Q :=
  fun l vs cap ex h' tk' F N ht => h l vs cap ex h' tk' F (fun q hq => N q (by
    simp only [List.mem_cons, List.mem_append] at hq ⊢
    rcases hq with h | h | h
    · exact .inl h
    · exact .inr (.inl h)
    · exact .inr (.inr (.inr h)))) ht
theorem equal_use {w : World} (s₀ : Shared) (mg mb : Str → Option Value) {news : Led} {x x' : Addr} {st st' : List Int × Int × Int × Int} (hx : HeadAt w news x st) (hx' : HeadAt w news x' st') : Cl w s₀ mg mb 2 59 [.ref x, .ref x'] news True (RetB news (eqF st st')) := by
  obtain ⟨dx, tp, tc, vs, T, hm, hi⟩ := hx
  obtain ⟨dx', tp', tc', vs', T', hm', hi'⟩ := hx'
  refine Cl.mems (ps := headLed w x' dx' tp' tc' vs' st' T') (Ret' := RetB (headLed w x' dx' tp' tc' vs' st' T' ++ news) (eqF st st')) ?_ RetB.mems hm'
  refine Cl.mems (ps := headLed w x dx tp tc vs st T) (Ret' := RetB (headLed w x dx tp tc vs st T ++ (headLed w x' dx' tp' tc' vs' st' T' ++ news)) (eqF st st')) (fun dp un gd cn cs a ccd cl outer A₀ base h₀ L m s Q E B F X N T2 hk hp => ?_) RetB.mems fun p hp => List.mem_append_right _ (hm p hp)
  exact equal_spec w s₀ mg mb news x dx tp tc vs st T x' dx' tp' tc' vs' st' T' dp un gd cn cs a ccd cl outer A₀ base h₀ L m s Q E B F X N T2 hk ⟨hi, hi'⟩
theorem witness_use {w : World} (s₀ : Shared) (mg mb : Str → Option Value) {news : Led} {x x' : Addr} {st st' : List Int × Int × Int × Int} (hx : HeadAt w news x st) (hx' : HeadAt w news x' st') : Cl w s₀ mg mb 3 66 [.ref x, .ref x'] news (StOk st ∧ StOk st') (RetT news (witF st st')) := by
  obtain ⟨dx, tp, tc, vs, T, hm, hi⟩ := hx
  obtain ⟨dx', tp', tc', vs', T', hm', hi'⟩ := hx'
  refine Cl.mems (ps := headLed w x' dx' tp' tc' vs' st' T') (Ret' := RetT (headLed w x' dx' tp' tc' vs' st' T' ++ news) (witF st st')) ?_ RetT.mems hm'
  refine Cl.mems (ps := headLed w x dx tp tc vs st T) (Ret' := RetT (headLed w x dx tp tc vs st T ++ (headLed w x' dx' tp' tc' vs' st' T' ++ news)) (witF st st')) (fun dp un gd cn cs a ccd cl outer A₀ base h₀ L m s Q E B F X N T2 hk hp => ?_) RetT.mems fun p hp => List.mem_append_right _ (hm p hp)
  exact witness_spec w s₀ mg mb news x dx tp tc vs st T x' dx' tp' tc' vs' st' T' dp un gd cn cs a ccd cl outer A₀ base h₀ L m s Q E B F X N T2 hk ⟨hi, hi', hp.1, hp.2⟩
end Mine
end

section
open PySem PySem.W PyProof.Rows
namespace Mine
theorem RetQ.mem {news : Led} {ws : List Stk} {p : Addr × Obj} (h₀ : Heap) (L : Addr) (m : Str → Option Value) (s : Shared) (Q : Value → Shared → Prop) (h : RetQ news ws h₀ L m s Q) : RetQ (p :: news) ws h₀ L m s Q :=
  fun l vs cap ex h' tk' F N hq => h l vs cap ex h' tk' F (fun q hq => N q (by
    simp only [List.mem_cons, List.mem_append] at hq ⊢
    rcases hq with h | h | h
    · exact .inl h
    · exact .inr (.inl h)
    · exact .inr (.inr (.inr h)))) hq
/-- a pair of ints -/
noncomputable def PairAt (l : Led) (a : Addr) (xy : Int × Int) : Prop := ∃ t u, (a, tupOf [.int xy.1 t, .int xy.2 u]) ∈ l
theorem PairAt.mono {l l' : Led} (hs : ∀ p ∈ l, p ∈ l') (D : Addr) (xs : Int × Int) (h : PairAt l D xs) : PairAt l' D xs := by
  obtain ⟨t, u, h⟩ := h
  exact ⟨t, u, hs _ h⟩
theorem compT_new {h₀ : Heap} {L C D T : Addr} {m : Str → Option Value} {s₁ : Shared} {oC oD oT : Obj} {own : Led} {rest : Value → Led → Prop} {y : Value} {h' : Heap} {tk : Nat} {pre ex : Led}
    (F : Fr h₀ L h' m) (off : ∀ p ∈ pre ++ ex, p.1 ≠ C ∧ p.1 ≠ D ∧ ∀ q ∈ own, p.1 ≠ q.1) (N : News h₀ L h' ((T, oT) :: (C, oC) :: (D, oD) :: (pre ++ (ex ++ own)))) (h1 : C < T) (h2 : D < T) (h3 : ∀ q ∈ own, q.1 < T) (r : rest y (pre ++ ((T, oT) :: ex))) :
    CompEndT h₀ L m s₁ own C oC D oD rest y { s₁ with heap := h', toks := tk } := by
  refine ⟨h', tk, pre ++ ((T, oT) :: ex), rfl, F, fun p hp => N p ?_, fun p hp => ?_, r⟩
  · simp only [List.mem_cons, List.mem_append] at hp ⊢
    rcases hp with h | h | (h | h | h) | h
    · exact .inr (.inl h)
    · exact .inr (.inr (.inl h))
    · exact .inr (.inr (.inr (.inl h)))
    · exact .inl h
    · exact .inr (.inr (.inr (.inr (.inl h))))
    · exact .inr (.inr (.inr (.inr (.inr h))))
  · simp only [List.mem_append, List.mem_cons] at hp
    rcases hp with h | h | h
    · exact off p (List.mem_append_left _ h)
    · subst h
      exact ⟨Nat.ne_of_gt h1, Nat.ne_of_gt h2, fun q hq => Nat.ne_of_gt (h3 q hq)⟩
    · exact off p (List.mem_append_right _ h)
theorem asg_rrN {prog : Program} {w : World} {A : Around} {E : Value → Shared → Prop} {h₀ : Heap} {L : Addr} {m : Str → Option Value} {env : Env} {y : Str} {py : Pos} {s₂ : Shared} {Q : Shared → Prop} {P : List Value → Led → Prop} (hLe : env.locals = L) (hy : env.kindOf y = some .local) (hp : (env.scope.kind == .class || (env.scope.kind == .module && env.locals != env.globals)) = false)
    (fin : ∀ D h tk ys nw, Fr h₀ L h (fun z => if z = y then some (.ref D) else m z) → News h₀ L h ((D, LCg.lst ys) :: nw) → (∀ p ∈ nw, p.1 ≠ D) → P ys nw → Q { s₂ with heap := h, toks := tk }) :
    ∀ D C h tk m' ys nw, Fr h₀ L h m → News h₀ L h ((D, LCg.lst ys) :: nw) → (∀ p ∈ nw, p.1 ≠ D) → h.Ns C m' → h₀.get? C = none → h₀.get? D = none → C ≠ L → D ≠ L → C ≠ D → (∀ p ∈ nw, p.1 ≠ C) → P ys nw →
      compPost (model prog w) A E (some (assign (.Name y py) env)) (fun _ s' => Q s') (.ref D) C (.ok .next) { s₂ with heap := h, toks := tk } :=
  asg_rr (Q := fun _ s' => Q s') hLe hy hp fin
open Classical in
/-- a tuple of the ledger bears the pair -/
noncomputable def bears (news : Led) (x y : Int) : Value → Bool
  | .ref p => decide (∃ t u, (p, tupOf [.int x t, .int y u]) ∈ news)
  | _ => false
open Classical in
theorem pair_bears {s : Shared} {h₀ : Heap} {L : Addr} {news : Led} {x y : Int} {a : Addr} {xy : Int × Int} (N : News h₀ L s.heap news) (h : PairAt news a xy) : bears news x y (.ref a) = decide (xy = (x, y)) := by
  obtain ⟨t, u, h⟩ := h
  rw [bears, Bool.eq_iff_iff, decide_eq_true_eq, decide_eq_true_eq]
  constructor
  · rintro ⟨t', u', h'⟩
    have := tupOf_inj (news_inj N h h')
    simp only [List.cons.injEq, Value.int.injEq, and_true] at this
    exact Prod.ext this.1.1 this.2.1
  · rintro rfl
    exact ⟨t, u, h⟩
theorem any_bears {s : Shared} {h₀ : Heap} {L : Addr} {news : Led} {x y : Int} (N : News h₀ L s.heap news) {vs : List Value} {ps : List (Int × Int)} (h : Refs PairAt news vs ps) : vs.any (bears news x y) = decide ((x, y) ∈ ps) := by
  induction h with
  | nil => simp
  | @cons a b vs bs h1 _ ih =>
    rw [List.any_cons, ih, pair_bears N h1, Bool.eq_iff_iff]
    simp only [Bool.or_eq_true, decide_eq_true_eq, List.mem_cons]
    exact ⟨fun h => h.elim (fun e => .inl e.symm) .inr, fun h => h.elim (fun e => .inl e.symm) .inr⟩
theorem in_pairs {prog : Program} {w : World} {A : Around} {E : Value → Shared → Prop} {s : Shared} {h₀ : Heap} {L l T : Addr} {news : Led} {vs : List Value} {n : Nat} {ps : List (Int × Int)} {x y : Int} {t u : Tok} {Q : Value → Shared → Prop}
    (N : News h₀ L s.heap news) (hT : (T, tupOf [.int x t, .int y u]) ∈ news) (hm : (l, listOf vs.toArray n) ∈ news) (hp : Refs PairAt news vs ps) (hu : A.units + 10 < cLine) (h : Q (.bool (decide ((x, y) ∈ ps))) s) : wpAny (model prog w) A (compareOp .In (.ref T) (.ref l)) Q E s := by
  refine SeqAt.in_listAt (bears news x y) (led_isList N hm) (fun v hv => ?_) ?_
  · have hv : v ∈ vs := by simpa using hv
    obtain ⟨i, hi⟩ := List.mem_iff_getElem?.mp hv
    have hl : i < ps.length := by rw [← hp.length]; exact (List.getElem?_eq_some_iff.mp hi).1
    obtain ⟨a, ha, hP⟩ := hp.at (List.getElem?_eq_getElem hl)
    rw [hi] at ha
    cases ha
    rw [pair_bears N hP]
    generalize ps[i] = xy at hP
    obtain ⟨t', u', hP⟩ := hP
    refine eq_ref ?_ fun e => ?_
    · have := rc_tup_ints N hP hT (.cons xy.1 t' (.cons xy.2 u' .nil)) (.cons x t (.cons y u .nil)) (A := A.in1) (by show A.units + 1 < cLine; omega)
      have e : decide ([xy.1, xy.2] = [x, y]) = decide (xy = (x, y)) := by rw [Bool.eq_iff_iff]; simp [Prod.ext_iff]
      rwa [e] at this
    · subst e
      have := tupOf_inj (news_inj N hP hT)
      simp only [List.cons.injEq, Value.int.injEq, and_true] at this
      exact decide_eq_true (Prod.ext this.1.1 this.2.1)
  · rw [List.any_toArray, any_bears N hp]; exact h
theorem news_add {h₀ h : Heap} {L : Addr} {news ps : Led} (N : News h₀ L h news) (hm : ∀ p ∈ ps, p ∈ news) : News h₀ L h (ps ++ news) := fun p hp => (List.mem_append.mp hp).elim (fun h => N p (hm p h)) (N p)
theorem due_is {p : List Nat} {i j : Nat} {x y : Int} (hx : x = (i : Int)) (hy : y = (j : Int)) : dueP p i j = if decide ((x, y) ∈ (stkP p).map fun s => (s.1, s.2.1)) = true then 2 else 4 := by
  subst hx hy
  unfold dueP
  congr 1
  rw [decide_eq_true_eq, List.any_eq_true, List.mem_map]
  apply propext
  constructor
  · rintro ⟨s, hs, h⟩
    simp only [Bool.and_eq_true, decide_eq_true_eq] at h
    exact ⟨s, hs, Prod.ext h.1 h.2⟩
  · rintro ⟨s, hs, h⟩
    exact ⟨s, hs, by simp only [Bool.and_eq_true, decide_eq_true_eq]; exact ⟨congrArg Prod.fst h, congrArg Prod.snd h⟩⟩
theorem rcne_trips {A : Around} {s : Shared} {h₀ : Heap} {L a b : Addr} {news : Led} {vs us : List Value} {n m : Nat} {xs ys : List (Int × Int × Int)} (N : News h₀ L s.heap news) (ha : (a, listOf vs.toArray n) ∈ news) (hb : (b, listOf us.toArray m) ∈ news) (hx : Trips news vs xs) (hy : Trips news us ys) (hu : A.units + 20 < cLine) : SeqAt.RcNeAt A s (.ref a) (.ref b) (!decide (xs = ys)) := by
  have e1 : vs.toArray.size = xs.length := by simp [hx.length]
  have e2 : us.toArray.size = ys.length := by simp [hy.length]
  by_cases hl : xs.length = ys.length
  · have := SeqAt.RcNeAt.lists (A := A) (e := fun j => decide (xs.getD j (0, 0, 0) = ys.getD j (0, 0, 0))) (led_isList N ha) (led_isList N hb) (by rw [e1, e2, hl]) (by omega) (fun j q1 q2 => by
      have l1 : j < vs.length := by simpa using q1
      have l2 : j < us.length := by simpa using q2
      refine ex7 (hx.get j vs[j] (List.getElem?_eq_getElem l1)) fun a' x y z t u r hB1 => and3 hB1 fun f1 f2 f3 => ?_
      refine ex7 (hy.get j us[j] (List.getElem?_eq_getElem l2)) fun b' x' y' z' t' u' r' hB2 => and3 hB2 fun k1 k2 k3 => ?_
      have g1 : xs.getD j (0, 0, 0) = (x, y, z) := by rw [List.getD_eq_getElem?_getD, f2]; rfl
      have g2 : ys.getD j (0, 0, 0) = (x', y', z') := by rw [List.getD_eq_getElem?_getD, k2]; rfl
      rw [g1, g2, show vs.toArray[j] = .ref a' from f1, show us.toArray[j] = .ref b' from k1]
      exact triple_at N f3 k3 (by show A.units + 1 < cLine; omega))
    rw [e1, all_eq' _ _ _ hl] at this
    exact this
  · have := SeqAt.RcNeAt.lists_lengths (A := A) (led_isList N ha) (led_isList N hb) (by rw [e1, e2]; simpa using hl) (by omega)
    have q : decide (xs = ys) = false := decide_eq_false fun e => hl (by rw [e])
    rw [q]; exact this
theorem rcne_same {A : Around} {s : Shared} {h₀ : Heap} {L a b : Addr} {news : Led} {vs us : List Value} {n m : Nat} {xs : List (Int × Int × Int)} (N : News h₀ L s.heap news) (ha : (a, listOf vs.toArray n) ∈ news) (hb : (b, listOf us.toArray m) ∈ news) (hx : Trips news vs xs) (hy : Trips news us xs) (hu : A.units + 20 < cLine) : SeqAt.RcNeAt A s (.ref a) (.ref b) false := by
  have := rcne_trips N ha hb hx hy hu
  rwa [decide_eq_true rfl, Bool.not_true] at this
theorem news_rot {h₀ h : Heap} {L : Addr} {a : Addr × Obj} {xq r : Led} (N : News h₀ L h (a :: (xq ++ r))) : News h₀ L h (a :: (r ++ xq)) := fun p hp => N p (by
  simp only [List.mem_cons, List.mem_append] at hp ⊢
  rcases hp with h | h | h <;> simp only [h, true_or, or_true])
theorem rul_len3 : ∀ p ∈ allPats, (rulP p 0).length ≤ 30 ∧ (rulP p 1).length ≤ 30 ∧ (rulP p 2).length ≤ 30 := by decide +kernel
theorem rul_len {p : List Nat} (hp : p ∈ allPats) {k : Int} (hk : k = 0 ∨ k = 1 ∨ k = 2) : (rulP p k).length ≤ 30 := by
  have h := rul_len3 p hp
  rcases hk with rfl | rfl | rfl
  · exact h.1
  · exact h.2.1
  · exact h.2.2
/-- a walk that keeps an eye on further objects -/
theorem turns_with {prog : Program} {w : World} {A : Around} {target : Expr} {I : Addr} {fp wr : List Addr} {n : Nat} {Pv Md : Nat → Value → Heap → Prop} {St : Nat → Heap → Prop} (tl : Led) (W : KTurns prog w A target I fp wr n Pv Md St) (hne : ∀ p ∈ tl, p.1 ∉ wr) :
    KTurns prog w A target I (fp ++ tl.map (·.1)) wr n (fun i v h => Pv i v h ∧ ∀ p ∈ tl, h.get? p.1 = some p.2) (fun i v h => Md i v h ∧ ∀ p ∈ tl, h.get? p.1 = some p.2) (fun i h => St i h ∧ ∀ p ∈ tl, h.get? p.1 = some p.2) where
  sub := fun b hb => List.mem_append_left _ (W.sub b hb)
  frame := fun i h h' st hk => ⟨W.frame i h h' st.1 fun b hb => hk b (List.mem_append_left _ hb), fun p hp => hk _ (List.mem_append_right _ (List.mem_map.mpr ⟨p, hp, rfl⟩)) _ (st.2 p hp)⟩
  item := fun i s Q E hi st hQ => W.item i s Q E hi st.1 fun v h' tk hM hk => hQ v h' tk ⟨hM, fun p hp => hk _ _ (hne p hp) (st.2 p hp)⟩ hk
  go := fun i v s Q E hM hQ => W.go i v s Q E hM.1 fun h' hP hS hk => hQ h' ⟨hP, fun p hp => hk _ _ (hne p hp) (hM.2 p hp)⟩ ⟨hS, fun p hp => hk _ _ (hne p hp) (hM.2 p hp)⟩ hk
  done := fun s Q E st hQ => W.done s Q E st.1 hQ
section
variable {prog : Program} {w : World} {A : Around} {E : Value → Shared → Prop} {s : Shared} {h₀ : Heap} {L : Addr} {m : Str → Option Value} {env : Env} {elt iter : Expr} {scope : Scope} {cl : List (Str × Addr)} {pos : Pos} {news : Led} {RR : Value → Addr → Result → Shared → Prop}
/-- [elt for a, b, c, d, e in list] -/
theorem comp_l5 {a b c d e : Str} {pa pb pc pd pe tp : Pos} {kk : Nat} {l1 : Addr} {vs : List Value} {cap : Nat} {ws : List Stk} {tl : Led} (J : Nat → List Value → Led → Prop)
    (hh : A.handled = none) (F : Fr h₀ L s.heap m) (N : News h₀ L s.heap news) (hm : (l1, listOf vs.toArray cap) ∈ news) (hq : Quints tl vs ws) (htl : ∀ p ∈ tl, p ∈ news) (hsl : vs.length ≤ sizeLine)
    (hcell : ∀ y ∈ scope.names, y.2 ≠ .cell) (hkind : scope.kind = .function) (hxa : scope.names.lookup a = some .local) (hxb : scope.names.lookup b = some .local) (hxc : scope.names.lookup c = some .local) (hxd : scope.names.lookup d = some .local) (hxe : scope.names.lookup e = some .local)
    (hab : a ≠ b ∧ a ≠ c ∧ a ≠ d ∧ a ≠ e ∧ b ≠ c ∧ b ≠ d ∧ b ≠ e)
    (hJ : J 0 [] news) (hJl : ∀ i ys nw, J i ys nw → (l1, listOf vs.toArray cap) ∈ nw ∧ ∀ p ∈ tl, p ∈ nw)
    (turn : ∀ i x y z q sh t u ys nw own C oC D m₂ h tk (s₂ : Shared) (E' : Value → Shared → Prop), ws[i]? = some (x, y, z, q, sh) → m₂ a = some (.int x t) → m₂ b = some (.int y u) → J i ys nw → LCg.NsObj oC m₂ → Fr h₀ L h m → News h₀ L h ((C, oC) :: (D, LCg.lst ys) :: (nw ++ own)) → (∀ p ∈ nw, p.1 ≠ C ∧ p.1 ≠ D ∧ ∀ q ∈ own, p.1 ≠ q.1) → @Ne Nat C D →
      wpAny (model prog w) A (eval elt (compEnvC scope cl C env)) (CompEndT h₀ L m { s₂ with heap := h, toks := tk } own C oC D (LCg.lst ys) (fun y nw' => J (i + 1) (ys ++ [y]) nw')) E' { s₂ with heap := h, toks := tk })
    (hRR : ∀ s₂ : Shared, s₂.gens = s.gens → s₂.drawn = s.drawn → s₂.os = s.os → ∀ D C h tk m' ys nw, Fr h₀ L h m → News h₀ L h ((D, LCg.lst ys) :: nw) → (∀ p ∈ nw, p.1 ≠ D) → h.Ns C m' → h₀.get? C = none → h₀.get? D = none → C ≠ L → D ≠ L → C ≠ D → (∀ p ∈ nw, p.1 ≠ C) → J vs.length ys nw → RR (.ref D) C (.ok .next) { s₂ with heap := h, toks := tk }) :
    wpAny (model prog w) A (pyIter (.ref l1)) (fun it s₂ => wpAny (model prog w) A (newList []) (fun acc s₃ => wpAny (model prog w) A (newFunctionEnv scope env.globals cl [] env.qual none .none (some env)) (fun cenv s₄ =>
      codeAny (model prog w) A (.compStart (.ListComp elt [⟨.Tuple [.Name a pa, .Name b pb, .Name c pc, .Name d pd, .Name e pe] kk tp, iter, [], 0⟩] scope pos) 0 it acc { cenv with scope := relabel scope env }) (RR acc cenv.locals) s₄) E s₃) E s₂) E s := by
  have hl : s.heap.IsList l1 vs.toArray := ⟨_, (N _ hm).1, rfl, cap, rfl⟩
  have hlt : l1 < s.heap.objs.size := Heap.lt_size (N _ hm).1
  have hne : l1 ≠ s.heap.objs.size := Nat.ne_of_lt hlt
  have hLs : L < s.heap.objs.size := F.ns.lt
  refine wpAny_pyIter_list hl ?_
  have W := turns_with (prog := prog) (w := w) (A := A) (target := .Tuple [.Name a pa, .Name b pb, .Name c pc, .Name d pd, .Name e pe] kk tp) tl (KTurns.ofWalks (Walks.list hh s.heap.objs.size l1 hne vs.toArray) fun i v s Q E st q => letGo_listiter st.1 q) (fun p hp => by
    rw [List.mem_singleton]
    exact Nat.ne_of_lt (Heap.lt_size (N p (htl p hp)).1))
  have hsv : vs.toArray.size = vs.length := by simp
  rw [hsv] at W
  have hkk : ∀ b o, s.heap.get? b = some o → (s.heap.push { cls := .type "list_iterator", data := .fields #[.ref l1, .int 0 0] }).get? b = some o := fun b o e => Heap.get?_push_of_some _ e
  refine block_T (ow := [s.heap.objs.size]) (B := fun i m₂ => ∃ x y z q sh t u, ws[i]? = some (x, y, z, q, sh) ∧ m₂ a = some (.int x t) ∧ m₂ b = some (.int y u)) J W
    (fun _ _ _ st hq => wpAny_pyIter_listiter st.1.1 hq) ?hlive hsl ?hasg hcell hkind ⟨⟨⟨_, Heap.get?_push_size _ rfl, rfl, rfl⟩, hl.at fun o e => hkk l1 o e⟩, fun p hp => hkk _ _ (N p (htl p hp)).1⟩ ?hfp (F.push _) (N.grown hkk) ?hLw ?how ?hwo ?hof ?off ?hsrc hJ ?turn (hRR _ rfl rfl rfl)
  case hlive =>
    rintro i h ⟨⟨⟨o, ho, _⟩, _⟩, _⟩ b hb
    rw [List.mem_singleton.mp hb]
    exact ⟨o, ho⟩
  case hasg =>
    rintro i v C s₁ m₁ Q E₁ hi ⟨hv, hT⟩ hn hQ
    have hv' : vs[i]? = some v := by simpa using hv
    refine ex10 (hq.get i v hv') fun T x y z q sh t u e1 r hB => and3 hB fun hE hw hmT => ?_
    clear hB
    subst hE
    have hTu : s₁.heap.IsTuple T #[.int x t, .int y u, .int z e1, .int q r, .bool sh] := ⟨_, hT _ hmT, rfl, _, rfl⟩
    refine asg5 (env := compEnvC scope cl C env) hh hTu (lookup_relabel_local hxa) (lookup_relabel_local hxb) (lookup_relabel_local hxc) (lookup_relabel_local hxd) (lookup_relabel_local hxe) (by simp [compEnvC, relabel, hkind]) hn fun h'' tk hn' hk' => ?_
    refine hQ h'' tk _ ⟨x, y, z, q, sh, t, u, hw, ?_, ?_⟩ hn' hk'
    · simp only [if_neg hab.1, if_neg hab.2.1, if_neg hab.2.2.1, if_neg hab.2.2.2.1, if_true]
    · simp only [if_neg hab.2.2.2.2.1, if_neg hab.2.2.2.2.2.1, if_neg hab.2.2.2.2.2.2, if_true]
  case hfp =>
    intro b hb
    show @LT.lt Nat _ b (s.heap.push _).objs.size
    rw [Heap.size_push]
    rcases List.mem_append.mp hb with hb | hb
    · have hb' : b = s.heap.objs.size ∨ b = l1 := by simpa using hb
      rcases hb' with rfl | rfl
      · exact Nat.lt_succ_self _
      · exact Nat.lt_succ_of_lt hlt
    · obtain ⟨p, hp, rfl⟩ := List.mem_map.mp hb
      exact Nat.lt_succ_of_lt (Heap.lt_size (N p (htl p hp)).1)
  case hLw =>
    intro hb
    rcases List.mem_append.mp hb with hb | hb
    · have hb' : L = s.heap.objs.size ∨ L = l1 := by simpa using hb
      rcases hb' with e | e
      · exact Nat.ne_of_lt hLs e
      · exact (N _ hm).2.1 e.symm
    · obtain ⟨p, hp, e⟩ := List.mem_map.mp hb
      exact (N p (htl p hp)).2.1 e
  case how =>
    intro b hb
    rw [List.mem_singleton.mp hb]
    exact ktu_new F (Nat.le_refl _)
  case hwo => exact fun b hb => hb
  case hof =>
    intro b hb
    rw [List.mem_singleton.mp hb]
    exact List.mem_append_left _ (by simp)
  case off =>
    intro p hp hI
    exact Nat.ne_of_lt (Heap.lt_size (N p hp).1) (List.mem_singleton.mp hI)
  case hsrc =>
    intro b hb
    rcases List.mem_append.mp hb with hb | hb
    · have hb' : b = s.heap.objs.size ∨ b = l1 := by simpa using hb
      rcases hb' with rfl | rfl
      · exact .inl (by simp)
      · exact .inr (.inr ⟨_, fun i ys nw hj => (hJl i ys nw hj).1⟩)
    · obtain ⟨p, hp, rfl⟩ := List.mem_map.mp hb
      exact .inr (.inr ⟨p.2, fun i ys nw hj => (hJl i ys nw hj).2 p hp⟩)
  case turn =>
    intro i ys nw own C oC D m₂ h tk E' hi hA
    refine ex7 hA fun x y z q sh t u hB => and3 hB fun h1 h2 h3 => ?_
    clear hA hB
    intro hJ' hC F' N' off' ne
    exact turn i x y z q sh t u ys nw own C oC D m₂ h tk _ E' h1 h2 h3 hJ' hC F' N' off' ne
end
section
variable {prog : Program} {w : World} {A : Around} {E : Value → Shared → Prop} {Q : Flow → Shared → Prop} {s : Shared} {env : Env} {h₀ : Heap} {body : List Stmt}
/-- for a, b, c, d, e in list -/
theorem for_l5 {σ : Type} {n1 n2 n3 n4 n5 : Str} {p1 p2 p3 p4 p5 tp : Pos} {kk : Nat} {l1 : Addr} {vs : List Value} {cap : Nat} {ws : List Stk} {tl : Led} {m₀ : Str → Option Value} (Led : σ → List (Addr × Obj)) (ps : σ → List (Str × Value)) (Facts : σ → Prop) (stored : List Str) (P D : Nat → σ → Prop) (c₀ : σ)
    (hh : A.handled = none) (hx : stored.contains n1 = true) (F : Fr h₀ env.locals s.heap m₀) (N : News h₀ env.locals s.heap (Led c₀)) (hm : ∀ c, (l1, listOf vs.toArray cap) ∈ Led c) (hq : Quints tl vs ws) (htl : ∀ c, ∀ p ∈ tl, p ∈ Led c) (hf : Facts c₀) (hk : ∀ p ∈ ps c₀, m₀ p.1 = some p.2) (hp : P 0 c₀)
    (k1 : env.kindOf n1 = some .local) (k2 : env.kindOf n2 = some .local) (k3 : env.kindOf n3 = some .local) (k4 : env.kindOf n4 = some .local) (k5 : env.kindOf n5 = some .local) (hpk : (env.scope.kind == .class || (env.scope.kind == .module && env.locals != env.globals)) = false)
    (turn : ∀ i x y z q sh t u e r (c : σ) (m' : Str → Option Value) h tk own, ws[i]? = some (x, y, z, q, sh) → OwnOff own ((Led c).map (·.1)) → Facts c → P i c →
      Fr h₀ env.locals h (fun y' => if y' = n5 then some (.bool sh) else if y' = n4 then some (.int q r) else if y' = n3 then some (.int z e) else if y' = n2 then some (.int y u) else if y' = n1 then some (.int x t) else kstB (fun z' => if stored.contains z' then m' z' else m₀ z') (ps c) y') → News h₀ env.locals h (Led c ++ own) →
      wpAny (model prog w) A (execs body env) (ForPost h₀ env.locals Led ps Facts n1 stored m₀ (P (i + 1)) (D i) own { s with heap := h, toks := tk } Q) E { s with heap := h, toks := tk })
    (done : ∀ (c : σ) (u : Str → Option Value) h tk, Facts c → (P vs.length c ∨ ∃ i, i < vs.length ∧ D i c) → Fr h₀ env.locals h (kstB (fun z => if stored.contains z then u z else m₀ z) (ps c)) → News h₀ env.locals h (Led c) → Q .next { s with heap := h, toks := tk }) :
    wpAny (model prog w) A (pyIter (.ref l1)) (fun it s₂ => TurnsAt prog w A h₀ env (.Tuple [.Name n1 p1, .Name n2 p2, .Name n3 p3, .Name n4 p4, .Name n5 p5] kk tp) body Q E it s₂) E s := by
  have hax := N _ (hm c₀)
  have hl : s.heap.IsList l1 vs.toArray := ⟨_, hax.1, rfl, cap, rfl⟩
  have hlt : l1 < s.heap.objs.size := Heap.lt_size hax.1
  have hne : l1 ≠ s.heap.objs.size := Nat.ne_of_lt hlt
  have hLs : env.locals < s.heap.objs.size := F.ns.lt
  refine wpAny_pyIter_list hl ?_
  have W := KTurns.ofWalks (target := .Tuple [.Name n1 p1, .Name n2 p2, .Name n3 p3, .Name n4 p4, .Name n5 p5] kk tp) (Walks.list (prog := prog) (w := w) hh s.heap.objs.size l1 hne vs.toArray) fun i v s Q E st q => letGo_listiter st.1 q
  have hsv : vs.toArray.size = vs.length := by simp
  rw [hsv] at W
  have hkk : ∀ b o, s.heap.get? b = some o → (s.heap.push { cls := .type "list_iterator", data := .fields #[.ref l1, .int 0 0] }).get? b = some o := fun b o e => Heap.get?_push_of_some _ e
  refine my_turns (ow := [s.heap.objs.size]) Led ps Facts stored P D c₀ W ?hlive hx ?hLf ?how ?hwo ?hof ?hsrc
    ⟨⟨_, Heap.get?_push_size _ rfl, rfl, rfl⟩, hl.at fun o e => hkk l1 o e⟩ (F.push _) (N.grown hkk) ?off hf hk hp ?turn done
  case hlive =>
    rintro i h ⟨⟨o, ho, _⟩, _⟩ b hb
    rw [List.mem_singleton.mp hb]
    exact ⟨o, ho⟩
  case hLf =>
    intro hb
    have hb' : env.locals = s.heap.objs.size ∨ env.locals = l1 := by simpa using hb
    rcases hb' with e | e
    · exact Nat.ne_of_lt hLs e
    · exact hax.2.1 e.symm
  case how =>
    intro b hb
    rw [List.mem_singleton.mp hb]
    exact ktu_new F (Nat.le_refl _)
  case hwo => exact fun b hb => hb
  case hof =>
    intro b hb
    rw [List.mem_singleton.mp hb]
    simp
  case hsrc =>
    intro b hb
    have hb' : b = s.heap.objs.size ∨ b = l1 := by simpa using hb
    rcases hb' with rfl | rfl
    · exact .inl (by simp)
    · exact .inr (.inr ⟨_, hm⟩)
  case off =>
    intro p hp hI
    exact Nat.ne_of_lt (Heap.lt_size (N p hp).1) (List.mem_singleton.mp hI)
  case turn =>
    rintro i v c m' h tk own hin hv hoff hf' hp' F' N'
    have hv' : vs[i]? = some v := by simpa using hv
    refine ex10 (hq.get i v hv') fun T x y z q sh t u e r hB => and3 hB fun hE hw hmT => ?_
    clear hB
    subst hE
    have hTu : h.IsTuple T #[.int x t, .int y u, .int z e, .int q r, .bool sh] := ⟨_, (N' _ (List.mem_append_left _ (htl c _ hmT))).1, rfl, _, rfl⟩
    refine asg5 hh hTu k1 k2 k3 k4 k5 hpk F'.ns fun h'' tk'' hn' hk' => ?_
    have hL₀ : h₀.get? env.locals = none := Heap.get?_none_of_le F'.above
    exact turn i x y z q sh t u e r c m' h'' tk'' own hw hoff hf' hp' ⟨hn', fun b o e => hk' b o (fun q => by rw [q, hL₀] at e; cases e) (F'.keep b o e), F'.above⟩ fun p hp => ⟨hk' _ _ (N' p hp).2.1 (N' p hp).1, (N' p hp).2⟩
end
end Mine
end

section
open PySem PySem.W PyProof.Rows
namespace Mine

theorem funFrames_here {h h' bs : Heap} : ∀ {l : List Env}, h.FunFrames bs l → (∀ b ∈ l.filterMap (·.frame), ∀ o, h.get? b = some o → h'.get? b = some o) → h'.FunFrames bs l
  | [], _, _ => trivial
  | env :: r, ⟨hk, ⟨L, o, hf, hn, ho, hd⟩, hr⟩, k => ⟨hk, ⟨L, o, hf, hn, k L (by rw [List.filterMap_cons, hf]; exact .head _) o ho, hd⟩, funFrames_here hr fun b hb => k b (by rw [List.filterMap_cons, hf]; exact .tail _ hb)⟩
section
variable {M : Model} {A : Around} {E : Value → Shared → Prop} {s : Shared}
/-- a new exception is noted at its frame -/
theorem note_made {bs h : Heap} {env : Env} {l : List Env} {L e : Addr} {cls : Value} {args : List Value} {Q : Unit → Shared → Prop} (hfr : A.frames = some (env :: l)) (hf : env.frame = some L) (hkb : bs.StaysIn h) (hl : h.FunFrames bs (env :: l)) (hx : Heap.MadeExcOf h s.heap e cls args)
    (hQ : ∀ h' t, Heap.HeldW bs (env :: l) e cls (.ref t) L h' → h'.TupAt t args → bs.get? t = none → s.heap.UpToSlots h' → Q () { s with heap := h' }) : wpAny M A (noteFrame (.ref e) env) Q E s := by
  obtain ⟨t, he, htn, ht⟩ := hx.there
  have hn : ∀ b, h.get? b = none → bs.get? b = none := fun b hb => by
    cases q : bs.get? b with
    | none => rfl
    | some o => have := hkb b o q; rw [hb] at this; cases this
  unfold noteFrame
  simp only [hf]
  refine wpAny_bind (wpAny_field he rfl (x := .none) rfl ?_)
  rw [if_neg (by decide)]
  refine wpAny_entryW (base := bs) (a0 := .ref t) hfr (hl.of_keeps fun b o hb _ => ⟨o, hx.keeps b o hb, rfl⟩) hf he (fun b o hb => hx.keeps b o (hkb b o hb)) (hn e hx.new) rfl (by simp) rfl fun h' hN => ?_
  obtain ⟨k1, k2, k3, k4⟩ := hN
  exact hQ h' t ⟨k1, hn e hx.new, k2, k3⟩ (Heap.TupAt.of_slots ⟨_, _, ht, rfl, rfl⟩ k4) (hn t htn) k4
/-- the exception stays at its frame -/
theorem held_again {bs : Heap} {l : List Env} {L e : Addr} {cls a0 : Value} {Q : Unit → Shared → Prop} (hh : Heap.HeldW bs l e cls a0 L s.heap)
    (hQ : ∀ h', Heap.HeldW bs l e cls a0 L h' → s.heap.UpToSlots h' → Q () { s with heap := h' }) : wpAny M A (setFlight (.ref e) (some L)) Q E s := by
  obtain ⟨k1, k2, k3, oe, vs, T, oT, ts, he, hcls, hd, h1, hnT, hTe, hT, hdT, h3⟩ := hh
  have hsz : 3 < ts.size := (Array.getElem?_eq_some_iff.mp h3).1
  have ho : ∀ b, b ≠ T → (s.heap.update T (Obj.mapFields (·.setIfInBounds 3 ((some L).elim Value.none fun f => rawInt f)))).get? b = s.heap.get? b := fun b hb => Heap.get?_update_other _ _ (Ne.symm hb)
  have hnr : ∀ b o, s.heap.get? b = some o → (∀ vs, o.data ≠ .fields vs) → b ≠ T := fun b o hb hnf q => by
    rw [q, hT] at hb; cases hb; exact hnf ts hdT
  unfold setFlight
  refine wpAny_bind (wpAny_field he hd h1 ?_)
  rw [if_pos (show (Value.ref T != Value.none) = true from by simp)]
  refine wpAny_setField hT hdT hsz (hQ _ ⟨fun b o hbo => (ho b fun q => by rw [q, hnT] at hbo; cases hbo).trans (k1 b o hbo), k2, k3.of_keeps fun b o hb hnf => ⟨o, (ho b (hnr b o hb hnf)).trans hb, rfl⟩, ?_⟩ fun b o hb hnf => ⟨o.slots, (ho b (hnr b o hb hnf)).trans hb⟩)
  exact ⟨oe, vs, T, _, _, (ho e (Ne.symm hTe)).trans he, hcls, hd, h1, hnT, hTe, Heap.get?_update_self _ hT (Obj.isFreed_of_fields (Obj.data_mapFields hdT _)), Obj.data_mapFields hdT _, by simp [hsz, rawInt]⟩
/-- the head of its traceback is there -/
theorem held_field {bs : Heap} {l : List Env} {L e : Addr} {cls a0 : Value} {Q : Value → Shared → Prop} (hh : Heap.HeldW bs l e cls a0 L s.heap) (hQ : ∀ T : Addr, Q (.ref T) s) : wpAny M A (field (.ref e) 1) Q E s := by
  obtain ⟨_, _, _, oe, vs, T, _, _, he, _, hd, h1, _⟩ := hh
  exact wpAny_field he hd h1 (hQ T)
end
/-- what has come of it -/
noncomputable def GenXP (bs : Heap) (l : List Env) (Lg : Addr) (s₀ s₁ : Shared) (e : Addr) : Prop := ∃ (t : Addr) (h₁ : Heap) (tk : Nat) (u : Tok), s₁ = { s₀ with heap := h₁, toks := tk } ∧ Heap.FlyingW bs l e (.type "ValueError") (.ref t) h₁ ∧ h₁.TupAt t [.str (Str.ofString "invalid grouping") u] ∧ bs.get? t = none ∧
  ∀ b o, b ≠ Lg → s₀.heap.get? b = some o → (∀ vs, o.data ≠ .fields vs) → ∃ sl, h₁.get? b = some { o with slots := sl }
/-- the generator stands ready to raise -/
noncomputable def GenX (prog : Program) (w : World) (A : Around) (h₀ : Heap) (Lg lr : Addr) (vs : List Value) (cap gi : Nat) (oLg : Obj) (gs : GenState) : Prop :=
  gs.bare = true ∧ ∀ (s'' : Shared) (l : List Env) (bs : Heap) (Y : Protocol), s''.heap.get? Lg = some oLg → s''.heap.get? lr = some (listOf vs.toArray cap) → (∀ b o, h₀.get? b = some o → s''.heap.get? b = some o) →
    A.frames = some l → s''.heap.FunFrames bs l → bs.StaysIn s''.heap → bs.get? Lg = none → Lg ∉ l.filterMap (·.frame) →
    gs.Goes (model prog w) A.in1 (fun _ s₀ r s₁ => ∃ e, r = .error (.ref e) ∧ GenXP bs l Lg s₀ s₁ e) Y 0 (.send .none) (s''.setGen gi .running)
set_option maxRecDepth 100000 in
set_option maxHeartbeats 8000000 in
theorem gen_call0 (w : World) (s₀ : Shared) (mg mb : Str → Option Value) (dp un : Nat) (gd : Option (List Code)) (cn : Str) (cs : Scope) (La a : Addr) (ccd : Value) (cl : List (Str × Addr)) (outer : List Env) (env : Env)
    (h₀ : Heap) (L : Addr) (s : Shared) (m : Str → Option Value) (news : Led) (lr : Addr) (vs : List Value) (cap : Nat) (rs : List Int) (Q E : Value → Shared → Prop)
    (F : Fr h₀ L s.heap m) (X : (hd.heap_1 w.params).In h₀) (N : News h₀ L s.heap news) (T : Top hdview (looseW hdview [Str.ofString "Whitespace"]) (ExcName.means s₀.heap) mg mb h₀)
    (hlr : (lr, listOf vs.toArray cap) ∈ news) (hi : IntsAre vs (0 :: rs)) (hroom : dp + 4 < recursionLimit)
    (hret : ∀ (Lg G : Addr) (oLg : Obj) (h₁ : Heap) (nm qn : Str) (t1 t2 : Tok) (tk : Nat) (gs : GenState), h₀.objs.size ≤ Lg → h₀.get? Lg = none → Fr h₀ L h₁ m → News h₀ L h₁ ((G, genObj s.gens.size nm qn t1 t2) :: (Lg, oLg) :: news) → (∀ q ∈ news, q.1 < Lg) → L < Lg → Lg < G →
      GenX Challenge.rw_sh0037_01.row.prog w ((ktrTop dp un gd cn cs La a ccd cl outer).deeper env) h₀ Lg lr vs cap s.gens.size oLg gs →
      Q (.ref G) { s with gens := s.gens.push gs, toks := tk, heap := h₁ }) :
    wpAny (model Challenge.rw_sh0037_01.row.prog w) ((ktrTop dp un gd cn cs La a ccd cl outer).deeper env) (call (.ref 108) [.ref lr]) Q E s := by
  revert X; k_fill; intro X; w_top off
  k_dflt (refine' call_gen (args := ⟨[.ref lr], []⟩) F X N T ?ho ?hcd ?hroom ?hbind ?hloc ?hco ?hgen ?hk ?hcell ?_)
  case ho => exact rfl
  case hcd => exact rfl
  case hroom => ktr_room
  case hbind => exact BindsTo.of_eq rfl
  case hloc => exact locs rfl
  case hco => exact rfl
  case hgen => exact rfl
  case hk => exact rfl
  case hcell => decide
  intro Lg G oLg h₁ t1 t2 tk hLg hLg0 F1 N1 hnl hLL hLG hns
  refine hret Lg G oLg h₁ _ _ t1 t2 tk _ hLg hLg0 F1 N1 hnl hLL hLG ⟨rfl, fun s'' l bs Y e1 e3 e4 hfr hff hbs hbL hLl => ⟨rfl, ?_⟩⟩
  have hlr1 := (N1 _ (.tail _ (.tail _ hlr))).1
  have hlr0 := (N1 _ (.tail _ (.tail _ hlr))).2.2
  have hne : lr ≠ Lg := Nat.ne_of_lt (hnl _ hlr)
  have hg0 := (N1 _ (.tail _ (.head _))).1
  have f1 : (s''.setGen s.gens.size .running).heap.get? Lg = some oLg := e1
  have f3 : (s''.setGen s.gens.size .running).heap.get? lr = some (listOf vs.toArray cap) := e3
  have f4 : ∀ b o, h₀.get? b = some o → (s''.setGen s.gens.size .running).heap.get? b = some o := e4
  have hff : (s''.setGen s.gens.size .running).heap.FunFrames bs l := hff
  have hbs : bs.StaysIn (s''.setGen s.gens.size .running).heap := hbs
  generalize s''.setGen s.gens.size .running = sg at f1 f3 f4 hff hbs ⊢
  clear e1 e3 e4 hret F1 N1 N F
  have FG := Fr.mk (ns_move hns hg0 f1) f4 hLg
  obtain ⟨rest, hr1, hr2⟩ := all_news h₀ sg.heap Lg [lr]
  have NG : News h₀ Lg sg.heap ((lr, listOf vs.toArray cap) :: rest) := fun q hq => by
    rcases List.mem_cons.mp hq with rfl | hq
    · exact ⟨f3, hne, hlr0⟩
    · exact hr1 q hq
  refine seg_func ?_
  refine seg_execs ?_
  repeat' ((fail_if_success (with_reducible show KswEnd _ _ _ _ _ _ _ _ _ _ _ _)); (fail_if_success (with_reducible show wpAny _ _ (exec (Stmt.While _ _ _ _) _) _ _ _)); (fail_if_success (with_reducible show wpAny _ _ (pyIter _) _ _ _)); (first | (k_unfold; (try dsimp only)) | walk1 | (dsimp only; walk1) | (leave1; try dsimp only)))
  (rename Fr _ _ _ _ => F2); (rename News _ _ _ _ => N2)
  dsimp only
  refine seg_execs_cons (seg_For ?_)
  repeat' ((fail_if_success (with_reducible show KswEnd _ _ _ _ _ _ _ _ _ _ _ _)); (fail_if_success (with_reducible show wpAny _ _ (exec (Stmt.While _ _ _ _) _) _ _ _)); (fail_if_success (with_reducible show wpAny _ _ (pyIter _) _ _ _)); (first | (k_unfold; (try dsimp only)) | walk1 | (dsimp only; walk1) | (leave1; try dsimp only)))
  rename_i h2
  have hls : h2.IsList lr vs.toArray := ⟨_, (N2 _ (.head _)).1, rfl, cap, rfl⟩
  refine wpAny_pyIter_list hls ?_
  intro p
  dsimp only
  have hILg : Lg < h2.objs.size := F2.ns.lt
  have hILn : h2.get? h2.objs.size = none := by
    cases e : h2.get? h2.objs.size with
    | none => rfl
    | some o => exact absurd (Heap.lt_size e) (Nat.lt_irrefl _)
  have hIL0 : h₀.get? h2.objs.size = none := by
    cases e : h₀.get? h2.objs.size with
    | none => rfl
    | some o => rw [F2.keep _ _ e] at hILn; cases hILn
  have hILr : lr ≠ h2.objs.size := Nat.ne_of_lt (Heap.lt_size (N2 _ (.head _)).1)
  have hsgk : ∀ b o, b ≠ Lg → sg.heap.get? b = some o → h2.get? b = some o := fun b o hbL hb => by
    rcases Decidable.em (b ∈ [lr]) with hl | hl
    · rw [List.mem_singleton.mp hl] at hb ⊢
      rw [f3] at hb
      cases hb
      exact (N2 _ (.head _)).1
    · cases e : h₀.get? b with
      | none => exact (N2 _ (.tail _ (hr2 b o hb hbL e hl))).1
      | some o' =>
        have := f4 _ _ e
        rw [hb] at this
        cases this
        exact F2.keep _ _ e
  have hsgn : sg.heap.get? h2.objs.size = none := by
    cases e : sg.heap.get? h2.objs.size with
    | none => rfl
    | some o => rw [hsgk _ _ (Nat.ne_of_gt hILg) e] at hILn; cases hILn
  refine seg_forLoop ?_
  obtain ⟨t0, hvt⟩ := hi.get 0 0 rfl
  refine wpAny_pyNext_list_item (i := 0) ⟨_, Heap.get?_push_size _ rfl, rfl, rfl⟩ (hls.at fun o e => Heap.get?_push_of_some _ e) (by simpa using hvt) fun h' hit' hs' => ?_
  dsimp only
  refine wpAny_pure ?_
  obtain ⟨oIL, hoI, hoc0, hod⟩ := id hit'
  obtain ⟨rest', hr1', hr2'⟩ := all_news h₀ h' Lg [h2.objs.size, lr]
  have F3 : Fr h₀ Lg h' _ := ⟨(F2.push _).ns.sameBut hs' (Nat.ne_of_lt hILg), fun b o e => hs'.extBut b o (fun q => by rw [q, hIL0] at e; cases e) ((F2.push _).keep b o e), F2.above⟩
  have hl3 := hs'.extBut _ _ hILr (Heap.get?_push_of_some _ (N2 _ (.head _)).1)
  have N3 : News h₀ Lg h' ((h2.objs.size, oIL) :: (lr, listOf vs.toArray cap) :: rest') := fun q hq => by
    rcases List.mem_cons.mp hq with rfl | hq
    · exact ⟨hoI, Nat.ne_of_gt hILg, hIL0⟩
    rcases List.mem_cons.mp hq with rfl | hq
    · exact ⟨hl3, hne, hlr0⟩
    · exact hr1' q hq
  have hk3 := F3.keep
  have hkA : ∀ b o, b ≠ Lg → sg.heap.get? b = some o → h'.get? b = some o := fun b o hbL hb => hs'.extBut b o (fun q => by rw [q, hsgn] at hb; cases hb) (Heap.get?_push_of_some _ (hsgk b o hbL hb))
  clear F2 N2 hls
  repeat' ((fail_if_success (with_reducible show KswEnd _ _ _ _ _ _ _ _ _ _ _ _)); (fail_if_success (with_reducible show wpAny _ _ (exec (Stmt.While _ _ _ _) _) _ _ _)); (fail_if_success (with_reducible show wpAny _ _ (pyIter _) _ _ _)); (first | (k_unfold; (try dsimp only)) | walk1 | (dsimp only; walk1) | (leave1; try dsimp only)))
  dsimp only
  refine seg_If ?_
  repeat' ((fail_if_success (with_reducible show KswEnd _ _ _ _ _ _ _ _ _ _ _ _)); (fail_if_success (with_reducible show wpAny _ _ (exec (Stmt.While _ _ _ _) _) _ _ _)); (fail_if_success (with_reducible show wpAny _ _ (pyIter _) _ _ _)); (first | (k_unfold; (try dsimp only)) | walk1 | (dsimp only; walk1) | (leave1; try dsimp only)))
  rw [if_neg (by decide)]
  refine seg_execs_nil ?_
  dsimp only
  refine seg_If ?_
  repeat' ((fail_if_success (with_reducible show KswEnd _ _ _ _ _ _ _ _ _ _ _ _)); (fail_if_success (with_reducible show wpAny _ _ (exec (Stmt.While _ _ _ _) _) _ _ _)); (fail_if_success (with_reducible show wpAny _ _ (pyIter _) _ _ _)); (first | (k_unfold; (try dsimp only)) | walk1 | (dsimp only; walk1) | (leave1; try dsimp only)))
  rw [if_pos (by simp)]
  refine seg_If ?_
  repeat' ((fail_if_success (with_reducible show KswEnd _ _ _ _ _ _ _ _ _ _ _ _)); (fail_if_success (with_reducible show wpAny _ _ (exec (Stmt.While _ _ _ _) _) _ _ _)); (fail_if_success (with_reducible show wpAny _ _ (pyIter _) _ _ _)); (first | (k_unfold; (try dsimp only)) | walk1 | (dsimp only; walk1) | (leave1; try dsimp only)))
  refine seg_execs ?_
  (rename Fr _ _ _ _ => F4); (rename News _ _ _ _ => N4)
  with_unfolding_all refine Raise_madeB PySem.F.excCall_ValueError PySem.F.excRaise_ValueError rfl ?_
  repeat' ((fail_if_success (with_reducible show KswEnd _ _ _ _ _ _ _ _ _ _ _ _)); (fail_if_success (with_reducible show wpAny _ _ (exec (Stmt.While _ _ _ _) _) _ _ _)); (fail_if_success (with_reducible show wpAny _ _ (pyIter _) _ _ _)); (first | (k_unfold; (try dsimp only)) | walk1 | (dsimp only; walk1) | (leave1; try dsimp only)))
  rename_i hR hE e hme
  (rename Fr _ _ _ _ => F5); (rename News _ _ _ _ => N5)
  have hkR : GenKeeps Lg h2.objs.size sg.heap hR := fun b o hbL hbI hb => keeps_of hr2' hk3 hl3 F5 N5 b o hbL hbI (hkA b o hbL hb)
  have hIs : ∀ b o, sg.heap.get? b = some o → b ≠ h2.objs.size := fun b o hb q => by rw [q, hsgn] at hb; cases hb
  have hbR : bs.StaysIn hR := fun b o hb => hkR b o (fun q => by rw [q, hbL] at hb; cases hb) (hIs b o (hbs b o hb)) (hbs b o hb)
  have hfl : hR.FunFrames bs l := funFrames_here hff fun b hb o ho => hkR b o (fun q => hLl (q ▸ hb)) (hIs b o ho) ho
  obtain ⟨oF, es, ep, hoF, hdF, _⟩ := id F5.ns
  refine seg_wrap ?_
  refine wpAny_bind (note_made (bs := bs) (l := l) ?hfr rfl hbR ⟨?hkind, ⟨Lg, oF, rfl, hbL, hoF, fun vs q => ?hnf⟩, hfl⟩ hme.of ?_)
  case hfr =>
    have hfr1 : ((ktrTop dp un gd cn cs La a ccd cl outer).deeper env).in1.frames = some l := hfr
    unfold Around.over
    dsimp only
    rw [hfr1]
    rfl
  case hkind => intro q; cases q
  case hnf => rw [hdF] at q; cases q
  intro h6 t hh6 ht6 hbt hu6
  refine wpAny_theTreesLotGoes ?_
  refine seg_leaf (.error (.ref e)) ?_
  refine seg_bindw ?_
  refine wpAny_bind (held_field hh6 fun T => ?_)
  rw [if_neg (show ¬ ((Value.ref T == Value.none) = true) from by simp)]
  refine held_again hh6 fun h7 hh7 hu7 => ?_
  refine seg_wrap (m := leaving _ (.ref e)) ?_
  unfold leaving
  refine wpAny_bind ?_
  refine wpAny_noteFrame_againW (base := bs) (cls := .type "ValueError") (a0 := .ref t) rfl ?hta ?_
  case hta => exact hh7.2.2.2
  refine wpAny_landsW hh7 fun h8 hfl8 hu8 => ?_
  obtain ⟨k1, k2, ⟨_, _, k3⟩, k4⟩ := hfl8
  refine seg_end (.error (.ref e)) ⟨e, rfl, t, h8, _, _, rfl, ⟨k1, k2, k3, k4⟩, (ht6.of_slots hu7).of_slots hu8, hbt, fun b o hb ho hnf => ?_⟩
  have hoR := hme.keeps b o (hkR b o hb (hIs b o ho) ho)
  exact ((hu6.trans hu7).trans hu8) b o hoR hnf
end Mine
end

section
open PySem PySem.W PyProof.Rows
namespace Mine

section
variable {prog : Program} {w : World} {A : Around} {E : Value → Shared → Prop} {s : Shared}
theorem stop_not : isSubtype (.type "ValueError") (.type "StopIteration") = pure false := by rw [isSubtype_type]; kernel_rfl
/-- the generator raises -/
theorem next_genX {a : Addr} {g : Nat} {gs : GenState} {P : Shared → Shared → Addr → Prop} {Q : Option Value → Shared → Prop} {nm qn : Str} {t1 t2 : Tok}
    (hl : s.heap.NoLimit) (hroom : A.depth < recursionLimit) (hg : s.heap.get? a = some (genObj g nm qn t1 t2)) (hgs : s.gens[g]? = some gs)
    (hgo : gs.Goes (model prog w) A.in1 (fun _ s₀ r s₁ => ∃ e, r = .error (.ref e) ∧ P s₀ s₁ e) (fun _ _ _ _ _ => False) 0 (.send .none) (s.setGen g .running))
    (hP : ∀ s₁ e, P (s.setGen g .running) s₁ e → (∃ oe, s₁.heap.get? e = some oe ∧ oe.cls = .type "ValueError") ∧ s₁.heap.get? a = some (genObj g nm qn t1 t2) ∧ E (.ref e) (s₁.setGen g .finished)) :
    wpAny (model prog w) A (pyNext (.ref a)) Q E s := by
  have hg' : s.heap.IsGen a g := ⟨_, _, _, hg, rfl, rfl, rfl⟩
  unfold pyNext
  refine wpAny_bind (wpAny_attempt (wpAny_callSpecial?_slot (name := Str.ofString "__next__") hg'.typeIs slot_gen_next
    (wpAny_call_entry slot_gen_next hg'.typeIs entry_gen_next ?_ (args_gen_next _))))
  show wpAny _ A.in1 (Builtin.Generator.genWake (.ref a) (.send .none)) _ _ s
  unfold Builtin.Generator.genWake
  refine wpAny_bind (wpAny_holding (wpAny_genNumber hg' (wpAny_bind (wpAny_genState hgs ?_))))
  cases gs with
  | running => exact hgo.elim
  | finished => exact hgo.elim
  | _ =>
    refine wpAny_bind (wpAny_roomToWake hl hroom ?_)
    show wpAny _ A.in1 (.resume g (.send .none) [] _) _ _ s
    refine wpAny_resume hgs hgo (fun x s₁ hx => ?_) (fun v s₁ gs' hv => hv.elim)
    obtain ⟨e, rfl, hp⟩ := hx
    obtain ⟨⟨oe, he, hcls⟩, hga, hE⟩ := hP s₁ e hp
    show wpAny _ A.in1 (Builtin.Generator.genLeft (.ref a) (.ref e)) _ _ _
    unfold Builtin.Generator.genLeft Builtin.Generator.madeByALambda
    refine wpAny_bind (wpAny_bind (wpAny_load hga (wpAny_pure ?_)))
    refine wpAny_bind (wpAny_isInstance (T := "ValueError") (b := false) ⟨oe, he, hcls⟩ stop_not ?_)
    rw [if_neg (by simp)]
    unfold Builtin.Generator.genEscaped
    refine wpAny_bind (wpAny_isInstance (T := "ValueError") (b := false) ⟨oe, he, hcls⟩ stop_not ?_)
    rw [if_pos (by simp)]
    refine wpAny_bind (wpAny_throw ?_)
    refine wpAny_bind (wpAny_isInstance (T := "ValueError") (b := false) ⟨oe, he, hcls⟩ stop_not ?_)
    rw [if_neg (by simp)]
    exact wpAny_throw hE
end
end Mine
end

section
open PySem PySem.W PyProof.Rows
namespace Mine

theorem call_open {prog : Program} {w : World} {A A₀ : Around} {s : Shared} {base h₀ : Heap} {L : Addr} {m : Str → Option Value} {news : Led} {K : Frag} {p : Program} {loose : List Str} {mean : ExcName → Option Value} {mg mb : Str → Option Value}
    {env : Env} {outer : List Env} {R : Result → Shared → Prop} {name qual : Str} {params : Arguments} {body : List Stmt} {scope : Scope} {dV kV doc pm cdv ct oc : Value} {an od : Option Addr} {osl : Array (Option Value)} {f : Addr} {args : Args} {binds : List (Str × Value)}
    (B : Below A₀ base outer h₀) (F : Fr h₀ L s.heap m) (X₀ : K.In h₀) (N : News h₀ L s.heap news) (T : Top p loose mean mg mb h₀) (hA : A.frames = some (env :: outer)) (hf : env.frame = some L) (hke : env.scope.kind = .function)
    (ho : K.lookup f = some ⟨oc, od, .func (fnOf name qual params body scope dV kV doc pm an cdv ct), osl⟩) (hcd : codeIn K cdv qual = true) (hroom : A.depth < recursionLimit)
    (hbind : BindsTo s (fnOf name qual params body scope dV kV doc pm an cdv ct) args binds) (hloc : ∀ y ∈ binds, scope.names.lookup y.1 = some .local)
    (h : ∀ g L' h₁, Fr h₀ L g m → Fr g L' h₁ (fun y => binds.reverse.lookup y) → News g L' h₁ news → Below A base (env :: outer) g → K.In g → Top p loose mean mg mb g →
      wpAny (model prog w) (A.deeper (envOf qual scope L' f cdv)) (execs body (envOf qual scope L' f cdv))
        (fun fl s' => R (.ok (.ret (match fl with | .ret v => v | _ => .none))) s')
        (fun e s' => wpAny (model prog w) (A.deeper (envOf qual scope L' f cdv)) (leaving (envOf qual scope L' f cdv) e) (fun _ s'' => R (.error e) s'') (fun e' s'' => R (.error e') s'') s')
        { s with heap := h₁, toks := s.toks + binds.length })
    (hco : scope.isCoroutine = false) (hgen : scope.isGenerator = false) (hk : scope.kind = .function) (hcell : ∀ x ∈ scope.names, x.2 ≠ .cell) : codeAny (model prog w) A (.call (.ref f) args) R s := by
  have X := X₀.keeps F.keep
  obtain ⟨FG, BG, st, _⟩ := groundX (R := R) B F N hA hf hke
  refine codeAny_call_def (fd := fnOf name qual params body scope dV kV doc pm an cdv ct) (body := body) (binds := binds) hroom (X _ _ ho) rfl (T.nolimit.keeps F.keep) (codeRec_of X hcd) rfl hbind hcell hloc (fun h₁ hns hk₁ => ?_) hco hgen hk
  exact h _ s.heap.objs.size h₁ FG ⟨hns, fun b o e => hk₁ b o (of_hideAll _ e), Nat.le_of_eq (hideAll_size _ _)⟩
    (fun q hq => ⟨hk₁ _ _ (N q hq).1, Nat.ne_of_lt (Heap.lt_size (N q hq).1), hideAll_none _ (List.mem_map_of_mem hq)⟩) BG (X₀.keeps st) (T.keeps st)
/-- what is known of an exception that a generator has thrown into a loop -/
structure Thrown (bs h h' : Heap) (l : List Env) (Lg L e t : Addr) (u : Tok) : Prop where
  held : Heap.HeldW bs l e (.type "ValueError") (.ref t) L h'
  tup : h'.TupAt t [.str (Str.ofString "invalid grouping") u]
  new : bs.get? t = none
  up : ∀ b o, b ≠ Lg → h.get? b = some o → (∀ vs, o.data ≠ .fields vs) → ∃ sl, h'.get? b = some { o with slots := sl }
  old : ∀ b o, b ≠ Lg → h.get? b = some o → b ∉ l.filterMap (·.frame) → bs.get? b = some o
section
variable {prog : Program} {w : World} {A₁ : Around} {E : Value → Shared → Prop} {s : Shared} {base g : Heap} {outer : List Env} {L a Lg G lr e t : Addr} {m : Str → Option Value} {name : Str} {scope : Scope} {cd : Value} {news : Led}
theorem pull_raises {vs : List Value} {cap gi : Nat} {oLg : Obj} {gst : GenState} {nm qn : Str} {t1 t2 : Tok} {Qn : Option Value → Shared → Prop} (B : Below A₁ base outer g) (F : Fr g L s.heap m) (N : News g L s.heap ((G, genObj gi nm qn t1 t2) :: (Lg, oLg) :: news)) (hlr : (lr, listOf vs.toArray cap) ∈ news)
    (hk : scope.kind = .function) (hl : g.NoLimit) (hroom : (A₁.deeper (envOf name scope L a cd)).depth < recursionLimit) (hLg : g.objs.size ≤ Lg) (hLL : L < Lg) (hLG : Lg < G) (hgs : s.gens[gi]? = some gst) (hbare : AllBare s.gens)
    (R : GenX prog w (A₁.deeper (envOf name scope L a cd)) g Lg lr vs cap gi oLg gst)
    (hE : ∀ (bs : Heap) (e t : Addr) (u : Tok) (g' : Array GenState) (h' : Heap) (tk : Nat), Thrown bs s.heap h' (envOf name scope L a cd :: outer) Lg L e t u → AllBare g' → E (.ref e) { s with gens := g', heap := h', toks := tk }) :
    wpAny (model prog w) (A₁.deeper (envOf name scope L a cd)) (pyNext (.ref G)) Qn (notedBy (model prog w) (A₁.deeper (envOf name scope L a cd)) (envOf name scope L a cd) fun x s' => cameBackBy (model prog w) (A₁.deeper (envOf name scope L a cd)) (envOf name scope L a cd) E x s') s := by
  have K3 := B.push (name := name) (scope := scope) (a := a) (cd := cd) F hk
  have hG := N _ (.head _)
  have hLgo := N _ (.tail _ (.head _))
  have hout : ∀ b ∈ outer.filterMap (·.frame), ∃ o, g.get? b = some o := fun b hb => by
    obtain ⟨_, o, ho, _⟩ := B.frames.mem hb
    exact ⟨o, ho⟩
  have hLl : Lg ∉ (envOf name scope L a cd :: outer).filterMap (·.frame) := fun hb => by
    rcases kts_mem hb with q | q
    · exact absurd q (Nat.ne_of_gt hLL)
    · obtain ⟨o, ho⟩ := hout _ q
      exact absurd (Heap.lt_size ho) (Nat.not_lt.mpr hLg)
  have hGl : G ∉ Lg :: (envOf name scope L a cd :: outer).filterMap (·.frame) := fun hb => by
    rcases List.mem_cons.mp hb with q | hb
    · exact absurd q (Nat.ne_of_gt hLG)
    rcases kts_mem hb with q | q
    · exact hG.2.1 q
    · obtain ⟨o, ho⟩ := hout _ q
      have := hG.2.2
      rw [ho] at this
      cases this
  have hfr := funFrames_hide (as := Lg :: (envOf name scope L a cd :: outer).filterMap (·.frame)) K3.frames (fun env he b hf => .tail _ (List.mem_filterMap.mpr ⟨env, he, hf⟩))
  have hgo := R.2 s _ (hideAll s.heap (Lg :: (envOf name scope L a cd :: outer).filterMap (·.frame))) (fun _ _ _ _ _ => False) hLgo.1 (N _ (.tail _ (.tail _ hlr))).1 F.keep K3.stack hfr (fun b o q => of_hideAll _ q) (hideAll_none _ (.head _)) hLl
  refine next_genX (hl.keeps F.keep) hroom hG.1 hgs hgo ?_
  rintro s₁ e ⟨t, h₁, tk, u, rfl, hfl, htup, hbt, hup⟩
  refine ⟨hfl.there, hfl.1 _ _ (hideAll_get _ hG.1 hGl), ?_⟩
  refine wpAny_looks_onW K3.stack rfl hfl fun h₂ hh₂ hu₂ => ?_
  refine wpAny_bind (held_field hh₂ fun T => ?_)
  rw [if_neg (show ¬ ((Value.ref T == Value.none) = true) from by simp)]
  refine held_again hh₂ fun h₃ hh₃ hu₃ => ?_
  refine hE _ e t u _ h₃ tk ⟨hh₃, (htup.of_slots hu₂).of_slots hu₃, hbt, fun b o hb ho hnf => ?_, fun b o hb ho hnl => hideAll_get _ ho fun q => ?_⟩ (bare_set (bare_set hbare rfl) rfl)
  · obtain ⟨sl, h1⟩ := hup b o hb ho hnf
    obtain ⟨sl2, h2⟩ := hu₂ b _ h1 hnf
    obtain ⟨sl3, h3⟩ := hu₃ b _ h2 hnf
    exact ⟨sl3, h3⟩
  · rcases List.mem_cons.mp q with q | q
    · exact hb q
    · exact hnl q
theorem caught_thrown {bs h : Heap} {u : Tok} {K : Frag} {p : Program} {loose : List Str} {mean : ExcName → Option Value} {mg mb : Str → Option Value} {x n : Str} {np pos : Pos} {b₀ : Stmt} {suite : List Stmt} {rest : List ExceptHandler} {Q : Flow → Shared → Prop}
    (B : Below A₁ base outer g) (F : Fr g L h m) (X : K.In base) (T : Top p loose mean mg mb base) (D : KtsDicts (outer.filterMap (·.frame)) g) (hLg : g.get? Lg = none) (hLL : L ≠ Lg) (H : Thrown bs h s.heap (envOf name scope L a cd :: outer) Lg L e t u)
    (hx : x = Str.ofString "ValueError")
    (t1 : x ∉ startupNames) (t2 : x ∉ loose) (t3 : x ∉ (recsOf p).map (·.name)) (t4 : x ∉ (litsOf p).map (·.1)) (t5 : x ∉ (clssOf p loose).map (·.name)) (hk : scope.kind = .function) (hxk : (envOf name scope L a cd).kindOf x = some .globalImplicit) (hl : (envOf name scope L a cd).kindOf n = some .local)
    (hpass : PassesOwnAt (model prog w) ((A₁.deeper (envOf name scope L a cd)).mark (some (.ref e))) (A₁.deeper (envOf name scope L a cd)) (envOf name scope L a cd) E)
    (k : ∀ g' h' tk news', Fr g' L h' (fun y => if y = n then some (.ref e) else m y) → News g' L h' news' → Got news' e t (.type "ValueError") [.str (Str.ofString "invalid grouping") u] → Below A₁ base outer g' → K.In g' → Top p loose mean mg mb g' →
      wpAny (model prog w) ((A₁.deeper (envOf name scope L a cd)).mark (some (.ref e))) (execs (b₀ :: suite) (envOf name scope L a cd))
        (fun f s₄ => wpAny (model prog w) (A₁.deeper (envOf name scope L a cd)) (do bindName (envOf name scope L a cd) n .none; unbindBehindTheSuite (envOf name scope L a cd) n pos) (fun _ s₅ => Q f s₅) E s₄)
        (AsSuiteRaised (model prog w) ((A₁.deeper (envOf name scope L a cd)).mark (some (.ref e))) (envOf name scope L a cd) n pos (notedBy (model prog w) ((A₁.deeper (envOf name scope L a cd)).mark (some (.ref e))) (envOf name scope L a cd) (cameBackBy (model prog w) (A₁.deeper (envOf name scope L a cd)) (envOf name scope L a cd) E)))
        { s with heap := h', toks := tk }) :
    wpAny (model prog w) (A₁.deeper (envOf name scope L a cd)) (noteFrame (.ref e) (envOf name scope L a cd))
      (fun _ s₂ => wpAny (model prog w) (A₁.deeper (envOf name scope L a cd)) (setFlight (.ref e) none) (fun _ s₃ =>
        wpAny (model prog w) (A₁.deeper (envOf name scope L a cd)) (handleBy (.ref e) (envOf name scope L a cd) (.ExceptHandler (some (.Name x np)) (some n) (b₀ :: suite) pos :: rest)) Q E s₃) E s₂) E s := by
  obtain ⟨hh, htup, hbt, hup, hold⟩ := H
  refine wpAny_noteFrame_againW rfl hh.2.2.2 ?_
  refine wpAny_landsW hh fun h₅ hfl hu => ?_
  have hGl : ∀ b o, (hideAll h [Lg]).get? b = some o → b ≠ Lg ∧ h.get? b = some o := fun b o q => ⟨fun e' => (by rw [e', hideAll_none _ (.head _)] at q; cases q), of_hideAll _ q⟩
  have FG : Fr g L (hideAll h [Lg]) m := by
    obtain ⟨oL, es, ep, hoL, hd, r⟩ := F.ns
    refine ⟨⟨oL, es, ep, hideAll_get _ hoL (fun q => hLL (List.mem_singleton.mp q)), hd, r⟩, fun b o q => hideAll_get _ (F.keep b o q) fun q' => ?_, F.above⟩
    rw [List.mem_singleton.mp q', hLg] at q
    cases q
  have hBG : ∀ b o, (hideAll h [Lg]).get? b = some o → b ∉ (envOf name scope L a cd :: outer).filterMap (·.frame) → bs.get? b = some o := fun b o q nm => hold b o (hGl b o q).1 (hGl b o q).2 nm
  have hsm : (hideAll h [Lg]).UpToSlots h₅ := fun b o q hnf => by
    obtain ⟨sl, h1⟩ := hup b o (hGl b o q).1 (hGl b o q).2 hnf
    obtain ⟨sl2, h2⟩ := hu b _ h1 hnf
    exact ⟨sl2, h2⟩
  obtain ⟨g₅, T₅, F₅, K₅⟩ := kts_ground B FG hBG hfl.1 hsm
  obtain ⟨f1, f2, f3, oe, vs, tb, ot, ts, he, ⟨hcls, h0⟩, hd, h1, hnT, hTe, hT, hdT, h3⟩ := id hfl
  obtain ⟨otu, ntu, hot, hotc, hotd⟩ := htup.of_slots hu
  -- what is not in bs and no frame is not in g
  have hfresh : ∀ b o, bs.get? b = none → h₅.get? b = some o → (∀ es n, o.data ≠ .dict es n) → g.get? b = none := fun b o hb ho hnd => by
    cases q : g.get? b with
    | none => rfl
    | some o' =>
      have hG5 := FG.keep b o' q
      by_cases hm : b ∈ (envOf name scope L a cd :: outer).filterMap (·.frame)
      · rcases kts_mem hm with e | e
        · rw [e, kts_self F] at q
          cases q
        · obtain ⟨o2, es, n', ho2, hd2⟩ := D b e
          rw [q] at ho2
          cases ho2
          obtain ⟨sl, hs⟩ := hsm b o' hG5 (fun vs q => by rw [hd2] at q; cases q)
          rw [ho] at hs
          cases hs
          exact absurd hd2 (hnd _ _)
      · have := hBG b o' hG5 hm
        rw [hb] at this
        cases this
  have ne5 : g₅.get? e = none := T₅.none_ _ (hfresh e oe f2 he fun es n q => by rw [hd] at q; cases q)
  have nt5 : g₅.get? t = none := T₅.none_ _ (hfresh t otu hbt hot fun es n q => by rw [hotd] at q; cases q)
  have nT5 : g₅.get? tb = none := T₅.none_ _ (hfresh tb ot hnT hT fun es n q => by rw [hdT] at q; cases q)
  obtain ⟨oL5, es5, ep5, hoL5, hdL5, _⟩ := id F₅.ns
  have hTL : tb ≠ L := fun q => by rw [q, hoL5] at hT; cases hT; rw [hdL5] at hdT; cases hdT
  have hTt : t ≠ tb := fun q => by rw [q, hT] at hot; cases hot; rw [hdT] at hotd; cases hotd
  have N₅ : News g₅ L h₅ [(e, oe), (t, otu)] := News.more F₅ (News.more F₅ News.nil hot (fun es n q => by rw [hotd] at q; cases q) nt5) he (fun es n q => by rw [hd] at q; cases q) ne5
  have HN : TT.HeldNA g₅ L h₅ m e "ValueError" [(e, oe), (t, otu)] .none := ⟨⟨F₅, ⟨oe, vs, tb, ot, ts, he, hcls, hd, h1, hT, hdT, h3, hTL, hTe, nT5⟩, ne5⟩, N₅, fun ob vs' tb' e1 e2 e3 q hq => by
    rw [he] at e1
    cases e1
    rw [hd] at e2
    cases e2
    rw [h1] at e3
    cases e3
    rcases List.mem_cons.mp hq with rfl | hq
    · exact hTe.symm
    · rw [List.mem_singleton.mp hq]
      exact hTt⟩
  subst hx
  exact TT.clause_hit_asTN (s' := { s with heap := h₅ }) HN (T.keeps K₅.stays) t1 t2 t3 t4 t5 (fun h' tk F' N' => k g₅ h' tk _ F' N' ⟨oe, otu, vs, ntu, .head _, .tail _ (.head _), hcls, hd, h0, hotc, hotd⟩ K₅ (X.keeps K₅.stays) (T.keeps K₅.stays)) (by decide +kernel) (by decide +kernel) (by decide +kernel) (by decide +kernel) (by decide) hk hxk (by decide) hl hpass
end
set_option maxRecDepth 100000 in
set_option maxHeartbeats 8000000 in
theorem refused_spec (w : World) (s₀ : Shared) (mg mb : Str → Option Value) (news : Led) (lr : Addr) (rv : List Value) (rc : Nat) (rs : List Int) :
   ∀ (dp un : Nat) (gd : Option (List Code)) (cn : Str) (cs : Scope) (a : Addr) (ccd : Value) (cl : List (Str × Addr)) (A₀ : Around) (base h₀ : Heap) (L : Addr) (m : Str → Option Value) (s : Shared) (Q E : Value → Shared → Prop),
    (hd.heap_1 w.params).In base → Top hdview (looseW hdview [Str.ofString "Whitespace"]) (ExcName.means s₀.heap) mg mb base → Below A₀ base [] h₀ → Fr h₀ L s.heap m → (hd.heap_1 w.params).In h₀ → News h₀ L s.heap ((lr, listOf rv.toArray rc) :: news) →
    Top hdview (looseW hdview [Str.ofString "Whitespace"]) (ExcName.means s₀.heap) mg mb h₀ → cs.kind = .function →
    (IntsAre rv rs ∧ rs.length ≤ 30) → AllBare s.gens → dp + 12 < recursionLimit → un + 60 < cLine →
    (∀ (g' : Array GenState) (h' : Heap) (tk' : Nat), base.StaysIn h' → AllBare g' → Q (.bool true) { s with gens := g', heap := h', toks := tk' }) →
    wpAny (model Challenge.rw_sh0037_01.row.prog w) (ktrTop dp un gd cn cs L a ccd cl []) (call (.ref 148) [.ref lr]) Q E s := by
  k_fill
  w_top off
  intros
  rename_i s0 Q0 E0 hXb hTb hA hB hC hN hT hcs hpre hbare hdp hun hret
  obtain ⟨hi, hl30⟩ := hpre
  have hlen := hi.length
  refine wpAny_call ?_
  k_dflt (refine' call_open ?k1 ?k2 ?k3 ?k4 ?k5 ?kA ?kF ?kK ?k6 ?k7 ?k8 ?k9 ?kB ?_ ?c2 ?c3 ?c4 ?c5; (case kA => exact rfl); (case kF => exact rfl); (case kK => assumption); (case k1 => k_asm); (case k2 => k_asm); (case k3 => k_asm); (case k4 => k_asm); (case k5 => k_asm); (case k6 => k_is); (case k7 => k_is); (case k8 => ktr_room); (case k9 => exact BindsTo.of_eq rfl); (case kB => exact locs rfl); (case c2 => exact rfl); (case c3 => exact rfl); (case c4 => exact rfl); (case c5 => decide))
  k_whole
  intro g L' h₁ FG F1 N1 B1 X1 T1
  (try dsimp only)
  (try k_lift B1)
  (try k_fold)
  k_with_none
  repeat' ((fail_if_success (with_reducible show KswEnd _ _ _ _ _ _ _ _ _ _ _ _)); (fail_if_success (with_reducible show wpAny _ _ (exec (Stmt.While _ _ _ _) _) _ _ _)); (fail_if_success (with_reducible show wpAny _ _ (pyIter _) _ _ _)); (fail_if_success (with_reducible show wpAny _ _ (exec (Stmt.For _ _ _ _ _) _) _ _ _)); (fail_if_success (with_reducible show wpAny _ _ (call (Value.ref _) _) _ _ _)); (first | (k_unfold; (try dsimp only)) | walk1 | (dsimp only; walk1) | (leave1; try dsimp only)))
  refine wpAny_For ?_
  repeat' ((fail_if_success (with_reducible show KswEnd _ _ _ _ _ _ _ _ _ _ _ _)); (fail_if_success (with_reducible show wpAny _ _ (exec (Stmt.While _ _ _ _) _) _ _ _)); (fail_if_success (with_reducible show wpAny _ _ (pyIter _) _ _ _)); (fail_if_success (with_reducible show wpAny _ _ (call (Value.ref _) _) _ _ _)); (first | (k_unfold; (try dsimp only)) | walk1 | (dsimp only; walk1) | (leave1; try dsimp only)))
  (rename Fr _ _ _ _ => F2); (rename News _ _ _ _ => N2); (rename IntsAre _ ([0] ++ rs) => hIg)
  k_dflt (refine' gen_call0 w s₀ mg mb _ _ _ _ _ _ _ _ _ _ _ g L' _ _ _ _ _ 0 rs _ _ F2 X1 N2 T1 (.head _) hIg (by ktr_room) ?_)
  intro Lg G oLg h3 nm qn t1 t2 tk3 gst hLg hLg0 F3 N3 hnl hLL hLG R
  refine wpAny_pyIter_gen ⟨_, _, _, (N3 _ (.head _)).1, rfl, rfl, rfl⟩ ?_
  refine codeAny_forLoop (fun _ s' => s' = _) ?turn 0 rfl
  case turn =>
    rintro _ _ rfl
    refine pull_raises B1 F3 N3 (.head _) rfl T1.nolimit (by ktr_room) hLg hLL hLG Array.getElem?_push_size (bare_push hbare R.1) R ?_
    intro bs e t u g' h' tk H hb'
    dsimp only
    refine caught_thrown B1 F3 hXb hTb ?hD hLg0 (Nat.ne_of_lt hLL) H rfl ?q1 ?q2 ?q3 ?q4 ?q5 ?q6 ?q7 ?q8 ?q9 ?kk
    case hD =>
      intro b hb
      obtain ⟨oL, es, ep, hoL, hdL, _⟩ := FG.ns
      have hb' : b = _ := List.mem_singleton.mp hb
      rw [hb']
      exact ⟨oL, es, ep, hoL, hdL⟩
    case q1 => decide +kernel
    case q2 => decide +kernel
    case q3 => decide +kernel
    case q4 => decide +kernel
    case q5 => decide +kernel
    case q6 => rfl
    case q7 => rfl
    case q8 => rfl
    case q9 => passes_own
    case kk =>
      (try clear R); (try clear H); (try clear F3 N3); (try clear F2 N2); (try clear F1 N1); (try clear FG); (try clear B1 X1 T1); (try clear hXb hTb)
      intro g5 h5 tk5 n5 F5 N5 G5 B5 X5 T5
      repeat' ((fail_if_success (with_reducible show KswEnd _ _ _ _ _ _ _ _ _ _ _ _)); (fail_if_success (with_reducible show wpAny _ _ (exec (Stmt.While _ _ _ _) _) _ _ _)); (fail_if_success (with_reducible show wpAny _ _ (pyIter _) _ _ _)); (first | (k_unfold; (try dsimp only)) | walk1 | (dsimp only; walk1) | (leave1; try dsimp only)))
      (rename Fr _ _ _ _ => F9)
      rw [show (Str.ofString "invalid grouping" == Str.ofString "invalid grouping") = true from beq_self_eq_true _]
      exact hret g' _ _ (fun b o q => F9.keep b o (B5.stays b o q)) hb'
end Mine
end

section
open PySem PySem.W PyProof.Rows
namespace Mine
theorem news_pickA {h₀ h : Heap} {L : Addr} {a b c d e f g k i : Addr × Obj} (N : News h₀ L h [a, b, c, d, e, f, g, k, i]) : News h₀ L h [a, b, f, g, k, i] := fun p hp => N p (by
  simp only [List.mem_cons, List.not_mem_nil, or_false] at hp ⊢
  rcases hp with h | h | h | h | h | h <;> simp only [h, true_or, or_true])
theorem news_pickB {h₀ h : Heap} {L : Addr} {a b c d e f g k i j : Addr × Obj} {xq xh : Led} (N : News h₀ L h (a :: (xq ++ (b :: c :: d :: e :: f :: g :: k :: i :: j :: xh)))) : News h₀ L h (a :: b :: c :: e :: f :: k :: (xh ++ xq)) := fun p hp => N p (by
  simp only [List.mem_cons, List.mem_append] at hp ⊢
  rcases hp with h | h | h | h | h | h | h | h <;> simp only [h, true_or, or_true])

theorem law_holds.tw357486453476387696 : True := trivial
theorem law_holds.tw1742763772341283339 : True := trivial
theorem law_holds.tw13536078969547264968 : True := trivial
theorem law_holds.tw11276897505470798713 : True := trivial
theorem law_holds.tw13158765158626397541 : True := trivial
theorem law_holds.tw12404642324936598177 : True := trivial
theorem law_holds.tw5108549723967310274 : True := trivial
theorem law_holds.tw2209844140923178617 : True := trivial
theorem law_holds.tw10024239376800412576 : True := trivial
theorem law_holds.tw11633083819707477107 : True := trivial
theorem law_holds.tw4946720094412051239 : True := trivial
theorem law_holds.tw9664006263252764366 : True := trivial
theorem law_holds.tw14497384708736915567 : True := trivial
theorem law_holds.tw3158129796062787159 : True := trivial
theorem law_holds.tw16805829885119392726 : True := trivial
theorem law_holds.tw2075624079617657780 : True := trivial
theorem law_holds.tw9849722394096787677 : True := trivial
theorem law_holds.tw1385162719727133579 : True := trivial
theorem law_holds.tw3776956092104397036 : True := trivial
theorem law_holds.tw3956099054510807996 : True := trivial
theorem law_holds.tw13431030151845061361 : True := trivial
theorem law_holds.tw13392613628428298086 : True := trivial
theorem law_holds.tw18326849912455186884 : True := trivial
theorem law_holds.tw10028117763298573888 : True := trivial
theorem law_holds.tw1414043511812021011 : True := trivial
theorem law_holds.tw12831907817818079685 : True := trivial
theorem law_holds.tw10007947361888340627 : True := trivial
theorem law_holds.tw447027507633508388 : True := trivial
theorem law_holds.tw179590077315354965 : True := trivial
theorem law_holds.tw14498155544194170393 : True := trivial
theorem law_holds.tw6499956759230125245 : True := trivial
theorem law_holds.tw17713402740875732926 : True := trivial
theorem law_holds.tw123295346585929383 : True := trivial
theorem law_holds.tw18269650602155537469 : True := trivial
theorem law_holds.tw11846676642670509255 : True := trivial
theorem law_holds.tw13182730311906835528 : True := trivial
theorem law_holds.tw11484002064277903863 : True := trivial
theorem law_holds.tw4818577856007422655 : True := trivial
theorem law_holds.tw14390095281932903014 : True := trivial
theorem law_holds.tw14983226153234331074 : True := trivial
theorem law_holds.tw16883458599210261866 : True := trivial
theorem law_holds.tw13956741780833797525 : True := trivial
theorem law_holds.tw7304591109411159013 : True := trivial
theorem law_holds.tw11609493526922420660 : True := trivial
theorem law_holds.tw14828999820898988419 : True := trivial
theorem law_holds.tw4273555757443719353 : True := trivial
theorem law_holds.tw8441880690091102137 : True := trivial
theorem law_holds.tw16098122237329998606 : True := trivial
theorem law_holds.tw3910120701321347557 : True := trivial
theorem law_holds.tw4116831888350618822 : True := trivial
theorem law_holds.tw8285764192309689115 : True := trivial
theorem law_holds.tw12780804625047726367 : True := trivial
theorem law_holds.tw545109181885906688 : True := trivial
theorem law_holds.tw3426384778480675251 : True := trivial
theorem law_holds.tw8957123355933967898 : True := trivial
theorem law_holds.tw12116493165278983582 : True := trivial
theorem law_holds.tw5506821171919863439 : True := trivial
theorem law_holds.tw3253568177066640346 : True := trivial
theorem law_holds.tw3438298445031660282 : True := trivial
theorem law_holds.tw14997073306097389879 : True := trivial
theorem law_holds.tw6860709855171689206 : True := trivial
theorem law_holds.tw5112083995522966620 : True := trivial
theorem law_holds.tw2643271747718453845 : True := trivial
theorem law_holds.tw13709617746848070560 : True := trivial
theorem law_holds.tw12115171985352901274 : True := trivial
theorem law_holds.tw14774650325386425613 : True := trivial
theorem law_holds.tw7820799176418779761 : True := trivial
theorem law_holds.tw16720094985154256693 : True := trivial
theorem law_holds.tw10242277825702978295 : True := trivial
theorem law_holds.tw9013377322688217293 : True := trivial
theorem law_holds.tw724200737284857819 : True := trivial
theorem law_holds.tw2503670479209048990 : True := trivial
theorem law_holds.tw1587729487598984830 : True := trivial
theorem law_holds.tw4037582482628031876 : True := trivial
theorem law_holds.tw13280740594461564331 : True := trivial
theorem law_holds.tw15607887362523206001 : True := trivial
theorem law_holds.tw12303009252429188658 : True := trivial
theorem law_holds.tw10188763426450519768 : True := trivial
theorem law_holds.tw14571795756577361901 : True := trivial
theorem law_holds.tw2644310842459337959 : True := trivial
theorem law_holds.tw7221428835167493151 : True := trivial
theorem law_holds.tw15452448965706171373 : True := trivial
theorem law_holds.tw9423440377400516374 : True := trivial
theorem law_holds.tw10666784280354678857 : True := trivial
theorem law_holds.tw2136269947727277649 : True := trivial
theorem law_holds.tw15802469936163623734 : True := trivial
theorem law_holds.tw12134408205421670959 : True := trivial
theorem law_holds.tw18090433342136740992 : True := trivial
theorem law_holds.tw1905533677188600702 : True := trivial
theorem law_holds.tw4889031023730116350 : True := trivial
theorem law_holds.tw6159533029260741167 : True := trivial
theorem law_holds.tw10371022188087798493 : True := trivial
theorem law_holds.tw10958410103948607464 : True := trivial
theorem law_holds.tw3366817510852727610 : True := trivial
theorem law_holds.tw17255088995462705879 : True := trivial
theorem law_holds.tw519298541982818421 : True := trivial
theorem law_holds.tw14289194402921355359 : True := trivial
theorem law_holds.tw18254337876149969668 : True := trivial
theorem law_holds.tw8634839017697508684 : True := trivial
theorem law_holds.tw5212653520564569363 : True := trivial
theorem law_holds.tw9255152265573255198 : True := trivial
theorem law_holds.tw4916342969005030805 : True := trivial
theorem law_holds.tw926570990666696690 : True := trivial
theorem law_holds.tw1724926542741425601 : True := trivial
theorem law_holds.tw12459966957829302596 : True := trivial
theorem law_holds.tw10566571302883470556 : True := trivial
theorem law_holds.tw1377309892636839040 : True := trivial
theorem law_holds.tw4441770287765753910 : True := trivial
theorem law_holds.tw498061464947678834 : True := trivial
theorem law_holds.tw16836969012518115619 : True := trivial
theorem law_holds.tw16099233806120587224 : True := trivial
theorem law_holds.tw7408322871517469003 : True := trivial
theorem law_holds.tw6507877686720480950 : True := trivial
theorem law_holds.tw9992725586745946429 : True := trivial
theorem law_holds.tw4464252984393422682 : True := trivial
theorem law_holds.tw12732824653754844360 : True := trivial
theorem law_holds.tw4581845663705801772 : True := trivial
theorem law_holds.tw11404014056486942332 : True := trivial
theorem law_holds.tw16893121556090616931 : True := trivial
theorem law_holds.tw9529696498207198238 : True := trivial
theorem law_holds.tw6896717019858035522 : True := trivial
theorem law_holds.tw8266603773606604290 : True := trivial
theorem law_holds.tw16470317323979864763 : True := trivial
theorem law_holds.tw9779807473162285230 : True := trivial
theorem law_holds.tw784011647948385275 : True := trivial
theorem law_holds.tw11625900857008200698 : True := trivial
theorem law_holds.tw15274831704391544125 : True := trivial
theorem law_holds.tw15661869461025623997 : True := trivial
theorem law_holds.tw13766487248619392586 : True := trivial
theorem law_holds.tw602461330855297101 : True := trivial
theorem law_holds.tw7120836010843673076 : True := trivial
theorem law_holds.tw575232530192455986 : True := trivial
theorem law_holds.tw7910590604623066228 : True := trivial
theorem law_holds.tw10817052189556005596 : True := trivial
theorem law_holds.tw17180001009569633970 : True := trivial
theorem law_holds.tw8970147916757833333 : True := trivial
theorem law_holds.tw16273140198857503625 : True := trivial
theorem law_holds.tw653560878884961445 : True := trivial
theorem law_holds.tw14988988175077273356 : True := trivial
theorem law_holds.tw718173064312146323 : True := trivial
theorem law_holds.tw10486713781251687710 : True := trivial
theorem law_holds.tw17911580528928914924 : True := trivial
theorem law_holds.tw8835965917227929528 : True := trivial
theorem law_holds.tw14385925486924208373 : True := trivial
theorem law_holds.tw17499823404086765753 : True := trivial
theorem law_holds.tw18234560199702728603 : True := trivial
theorem law_holds.tw8652346329174877282 : True := trivial
theorem law_holds.tw2446358144275080391 : True := trivial
theorem law_holds.tw6776455111828631412 : True := trivial
theorem law_holds.tw9682718004065560343 : True := trivial
theorem law_holds.tw11098625913536864229 : True := trivial
theorem law_holds.tw9552830710289189752 : True := trivial
theorem law_holds.tw9184033795430018204 : True := trivial
theorem law_holds.tw6934448944433832347 : True := trivial
theorem law_holds.tw1285599515219305098 : True := trivial
theorem law_holds.tw17027635718292003107 : True := trivial
theorem law_holds.tw13780023080261437657 : True := trivial
theorem law_holds.tw13301187468288870568 : True := trivial
theorem law_holds.tw12223724995276690173 : True := trivial
theorem law_holds.tw7497986649931050792 : True := trivial
theorem law_holds.tw18203989763732354715 : True := trivial
theorem law_holds.tw7019463264422422977 : True := trivial
theorem law_holds.tw2387193687640843687 : True := trivial
set_option maxRecDepth 100000 in
set_option maxHeartbeats 8000000 in
set_option Elab.async true in
theorem law_holds : PySem.Challenge.rw_sh0037_01.Holds := by
  w_on
  o_law
  o_head (kHook hd.heap_1 addrs (fun _ => by kernel_rfl))
  case hw => w_witness2
  show WalkO hdview [PySem.Str.ofString "Whitespace"] (XL hdview []) _ _ _ _ _
  k_fill
  intro w s₀ s₁ mg mb G Y fa o pm cd doc dV kV ho hd hcd hD hmg hg args vals as hpre hlay hrd hwl hlo
  have KX := kIn_of Y
  have X := (Ground.X G).1
  have V := (Ground.X G).2
  try w_nolog (first | (have GL := glob_more (Ground.glob G (by first | k_qdec | decide +kernel) (by first | k_qdec | decide +kernel)) V) | (have GL := glob_more (Ground.glob G (by decide +kernel)) V))
  refine Ground.open G ?_
  intro T B D TE TW
  try (refine guard_noD D (by decide +kernel) ?_; clear D)
  obtain ⟨_, _, M⟩ := bmod_of_top T
  have TA := at_of_top T
  try (obtain ⟨_, _, he, B0⟩ := based_of_top T rfl hmg ho hd; have he' : cd = _ := he; subst he'; clear he)
  clear hmg
  wrow_args hpre hlay hrd hwl hlo
  first | refine callC_kw (enter_call ?_) | refine enter_call ?_ | refine callC_kw (enter_callW ?_) | refine enter_callW ?_ | w_how
  w_top on
  have K0 := below_caller (Top.heap T)
  w_call any ho hd hcd hD T F
  clear hd TA
  k_drop
  k_with_none
  k_with "ForPost" => (dsimp only [ForPost])
  k_with "subscriptTail List Slice ref ref" => (k_here; k_dflt (refine kba_turn (value' := PySem.Expr.Name (PySem.Str.ofString "_") ⟨0, 0, 0, 0⟩) (fun _ => rfl) ?_))
  k_with "subscriptTail BinOp Slice ref ref" => (k_here; k_dflt (refine kba_turn (value' := PySem.Expr.Name (PySem.Str.ofString "_") ⟨0, 0, 0, 0⟩) (fun _ => rfl) ?_))
  k_with "pyIter ref" => fail
  k_with "CompSrc" => fail
  (try k_fold)
  rename_i ns _ _ _ _ _ _ _ la vs _ hL _ _ _ hIs _ hc63 _ h1 tk1 o1 o2 o3 o4 d1 d2 d3 d4 N0 X0
  repeat' ((fail_if_success (with_reducible show KswEnd _ _ _ _ _ _ _ _ _ _ _ _)); (fail_if_success (with_reducible show wpAny _ _ (exec (Stmt.While _ _ _ _) _) _ _ _)); (fail_if_success (with_reducible show wpAny _ _ (pyIter _) _ _ _)); (fail_if_success (with_reducible show wpAny _ _ (exec (Stmt.Assign _ (Expr.ListComp _ _ _ _) _) _) _ _ _)); (fail_if_success (with_reducible show wpAny _ _ (exec (Stmt.For _ _ _ _ _) _) _ _ _)); (first | (k_unfold; (try dsimp only)) | walk1 | (dsimp only; walk1) | (leave1; try dsimp only)))
  (k_dflt (refine LCg.Assign_ListComp_U (F₀ := by k_asm) (by rfl) (by with_unfolding_all rfl) (by with_unfolding_all rfl) (by decide) (by rfl) (by decide) (by rfl) (by rfl) (by rfl) ?_))
  repeat' ((fail_if_success (with_reducible show wpAny _ _ (subscriptTail _ _ _ _) _ _ _)); (first | (k_unfold; (try dsimp only)) | walk1 | (dsimp only; walk1) | (leave1; try dsimp only)))
  k_dflt (refine kba_turn (value' := PySem.Expr.Name (PySem.Str.ofString "_") ⟨0, 0, 0, 0⟩) (fun _ => rfl) ?_)
  (rename Fr _ _ _ _ => F1); (rename News _ _ _ _ => N1)
  have hlit : ∀ t1 t2 t3 t4, IntsAre [.int 50 t1, .int 52 t2, .int 49 t3, .int 53 t4] [50, 52, 49, 53] := fun _ _ _ _ => .cons _ _ (.cons _ _ (.cons _ _ (.cons _ _ .nil)))
  k_dflt (refine' kmk_slice_ints (vs := [.int 50 _, .int 52 _, .int 49 _, .int 53 _]) (lo := some (ns.length : Int)) (hi := none) F1 N1 ?l (.int _ _) .none (hlit _ _ _ _) (kmk_from (hlit _ _ _ _) (Int.natCast_nonneg _)) rfl ?main ?s ?t ?z)
  case l => exact led_isList N1 (by k_mem)
  case s => with_unfolding_all rfl
  case t => exact fun _ => rfl
  case z => simp [PySem.sizeLine_eq]
  intro D' ws' h' F' N' l1 hI' hC' hL'
  (try k_lt l1)
  clear hlit
  repeat' ((fail_if_success (with_reducible show wpAny _ _ (subscriptTail _ _ _ _) _ _ _)); (first | (k_unfold; (try dsimp only)) | walk1 | (dsimp only; walk1) | (leave1; try dsimp only)))
  k_dflt (refine kba_turn (value' := PySem.Expr.Name (PySem.Str.ofString "_") ⟨0, 0, 0, 0⟩) (fun _ => rfl) ?_)
  (rename Fr _ _ _ _ => F1); (rename News _ _ _ _ => N1); (rename IntsAre _ (ns ++ _) => hI2)
  k_dflt (refine' kmk_slice_ints (lo := none) (hi := some 6) F1 N1 ?lb .none (.int _ _) hI2 (kmk_upto hI2 (by decide)) rfl ?main2 ?s2 ?t2 ?z2)
  case lb => exact led_isList N1 (by k_mem)
  case s2 => with_unfolding_all rfl
  case t2 => exact fun _ => rfl
  case z2 => (rw [PySem.sizeLine_eq, List.size_toArray, hI2.length, List.length_append, List.length_drop]; simp; omega)
  intro D2 ws2 h2 F2 N2 l2 hI2' hC2 hL2
  (try k_lt l2)
  repeat' ((fail_if_success (with_reducible show KswEnd _ _ _ _ _ _ _ _ _ _ _ _)); (fail_if_success (with_reducible show wpAny _ _ (exec (Stmt.While _ _ _ _) _) _ _ _)); (fail_if_success (with_reducible show wpAny _ _ (pyIter _) _ _ _)); (fail_if_success (with_reducible show wpAny _ _ (exec (Stmt.Assign _ (Expr.ListComp _ _ _ _) _) _) _ _ _)); (fail_if_success (with_reducible show wpAny _ _ (exec (Stmt.For _ _ _ _ _) _) _ _ _)); (first | (k_unfold; (try dsimp only)) | walk1 | (dsimp only; walk1) | (leave1; try dsimp only)))
  rename_i hkl _ hI8 hL8 D1 _ _ o1' _ _ _ hb F3 N3
  clear hkl hL8
  generalize hn : (List.map (fun k' : Int => k'.fmod (10 ^ Int.toNat 9)) (List.take (Int.toNat 6) (ns ++ List.drop (Int.toNat (ns.length : Int)) [50, 52, 49, 53]))) = nums at hI8 F3
  have hnl : 4 ≤ nums.length ∧ nums.length ≤ 6 := by
    rw [← hn, List.length_map, List.length_take, List.length_append, List.length_drop]
    simp
    omega
  have hnb : ∀ y ∈ nums, 0 ≤ y ∧ y < 10 ^ 9 := by
    rw [← hn]
    intro y hy
    obtain ⟨k, _, rfl⟩ := List.mem_map.mp hy
    exact fmod_bnd k (10 ^ 9) (by decide)
  have N4 : News s₁.heap s₁.heap.objs.size _ [(D1, LCg.lst ys), (s₁.heap.objs.size + 1 + 1 + 1 + 1, o1), (s₁.heap.objs.size + 1 + 1 + 1, o2), (s₁.heap.objs.size + 1 + 1, o3), (s₁.heap.objs.size + 1, o4)] := fun p hp => N3 p (by
    simp only [List.mem_cons, List.not_mem_nil, or_false] at hp ⊢
    rcases hp with h | h | h | h | h <;> simp only [h, true_or, or_true])
  clear N3 hI' hI2
  refine wpAny_Assign_Name ?_ (by with_unfolding_all rfl)
  refine Eval_compT (by with_unfolding_all rfl) (by rfl) (by decide) ?_
  repeat' ((fail_if_success (with_reducible show KswEnd _ _ _ _ _ _ _ _ _ _ _ _)); (fail_if_success (with_reducible show wpAny _ _ (exec (Stmt.While _ _ _ _) _) _ _ _)); (fail_if_success (with_reducible show wpAny _ _ (pyIter _) _ _ _)); (fail_if_success (with_reducible show wpAny _ _ (call (Value.type "zip") _) _ _ _)); (first | (k_unfold; (try dsimp only)) | walk1 | (dsimp only; walk1) | (leave1; try dsimp only)))
  have hyl : ys.length = nums.length := hI8.length
  refine comp_zs (vs := ys) (cap := ys.length) (fun i rs nw => nw = _ ∧ StrsAre rs (rowTo nums i)) rfl F3 N4 (by decide +kernel) (.head _) (by rw [hyl]; exact hnl.2) (by rw [PySem.sizeLine_eq]; omega) (by decide) (by rfl) (by rfl) (by rfl) (by decide +kernel) ⟨rfl, .nil⟩ ?hJl ?turn ?hRR
  case hJl => rintro i rs _ ⟨rfl, _⟩; exact .head _
  case turn =>
    rintro i y c u rs _ own C oC D m₂ h tk s₂ E' hy hc ha hb ⟨rfl, hJ⟩ hC F5 N5 off5 ne
    obtain ⟨x, hx⟩ : ∃ x, nums[i]? = some x := ⟨_, List.getElem?_eq_getElem (by rw [← hyl]; exact (List.getElem?_eq_some_iff.mp hy).1)⟩
    obtain ⟨tx, hx2⟩ := hI8.get i x hx
    rw [hy] at hx2
    cases hx2
    have hxb := hnb x (List.mem_of_getElem? hx)
    have hxg : nums.getD i 0 = x := by rw [List.getD_eq_getElem?_getD, hx]; rfl
    cases sign_is hc
    simp only [List.cons_append, List.nil_append] at N5
    have mk := kstMark
    repeat' ((fail_if_success (with_reducible show KswEnd _ _ _ _ _ _ _ _ _ _ _ _)); (fail_if_success (with_reducible show wpAny _ _ (exec (Stmt.While _ _ _ _) _) _ _ _)); (fail_if_success (with_reducible show wpAny _ _ (pyIter _) _ _ _)); (first | (k_unfold; (try dsimp only)) | walk1 | (dsimp only; walk1) | (leave1; try dsimp only)))
    (rename Fr _ _ _ _ => F6); (rename News _ _ _ _ => N6)
    refine compEndT _ F6 N6 (fun p hp => by simpa only [List.cons_append, List.nil_append] using hp) off5 ⟨rfl, ?_⟩
    rw [rowTo_succ, hxg]
    exact hJ.append' (.cons _ _ .nil)
  case hRR =>
    rintro ⟨hp, g, d, tk0, os⟩ g1 g2 g3
    dsimp only at g1 g2 g3
    subst g1 g2 g3
    refine eval_rr fun D h tk rs nw F6 N6 hD hJ => ?_
    obtain ⟨rfl, hJ⟩ := hJ
    rw [hyl] at hJ
    have o6 := off1_of hD
    dsimp only [LCg.Off1] at o6
    clear hD F3 N4
    have hrl := rowTo_length nums nums.length
    have hr2 := rowTo_two nums nums.length
    generalize hrow : rowTo nums nums.length = row at hJ hrl hr2
    have mk := kstMark
    repeat' ((fail_if_success (with_reducible show KswEnd _ _ _ _ _ _ _ _ _ _ _ _)); (fail_if_success (with_reducible show wpAny _ _ (exec (Stmt.While _ _ _ _) _) _ _ _)); (fail_if_success (with_reducible show wpAny _ _ (pyIter _) _ _ _)); (fail_if_success (with_reducible show wpAny _ _ (exec (Stmt.Assign _ (Expr.ListComp _ _ _ _) _) _) _ _ _)); (first | (k_unfold; (try dsimp only)) | walk1 | (dsimp only; walk1) | (leave1; try dsimp only)))
    (rename Fr _ _ _ _ => F7); (rename News _ _ _ _ => N7)
    refine sorted_key F7 N7 (led_isList N7 (by k_mem)) hJ (by rw [hJ.length, hrl]; omega) (by rw [hJ.length, hrl]; omega) ?turnS ?doneS
    case turnS =>
      intro k t h tk own F8 N8
      clear F7 N7
      k_dflt (refine' xfrm_spec _ _ _ _ _ _ _ _ _ _ _ _ _ _ _ _ _ _ _ _ _ _ _ _ ?k1 F8 ?k3 N8 ?k5 ?kK trivial ?kd ?ku ?_)
      case k1 => k_asm
      case k3 => k_asm
      case k5 => k_asm
      case kK => exact rfl
      case kd => ktr_room
      case ku => ktr_units
      intro t9 h9 tk9 F9 N9
      exact ⟨h9, tk9, t9, rfl, rfl, F9, N9⟩
    case doneS =>
      intro D2 h9 tk9 out c ss' F9 N9 l9 hS9 hp9 hri
      (try k_lt l9)
      clear F7 N7
      have mk := kstMark
      repeat' ((fail_if_success (with_reducible show wpAny _ _ (subscriptTail _ _ _ _) _ _ _)); (first | (k_unfold; (try dsimp only)) | walk1 | (dsimp only; walk1) | (leave1; try dsimp only)))
      refine last_str ⟨_, (N9 _ (.head _)).1, rfl, c, rfl⟩ hS9 (by rw [hp9.length_eq]; omega) ?_ (by with_unfolding_all rfl)
      intro tg
      obtain ⟨hgm, hgx⟩ := last_max hp9 hri (by omega)
      generalize ss'.getD (ss'.length - 1) Str.empty = g0 at hgm hgx
      have hg2 := hr2 g0 hgm
      clear hp9 hri hS9
      repeat' ((fail_if_success (with_reducible show KswEnd _ _ _ _ _ _ _ _ _ _ _ _)); (fail_if_success (with_reducible show wpAny _ _ (exec (Stmt.While _ _ _ _) _) _ _ _)); (fail_if_success (with_reducible show wpAny _ _ (pyIter _) _ _ _)); (fail_if_success (with_reducible show wpAny _ _ (eval (Expr.ListComp _ _ _ _) _) _ _ _)); (first | (k_unfold; (try dsimp only)) | walk1 | (dsimp only; walk1) | (leave1; try dsimp only)))
      k_dflt (refine LCg.ListComp_U (F₀ := by k_asm) (by with_unfolding_all rfl) (by decide) (by rfl) (by decide) (by rfl) ?_)
      repeat' ((fail_if_success (with_reducible show KswEnd _ _ _ _ _ _ _ _ _ _ _ _)); (fail_if_success (with_reducible show wpAny _ _ (exec (Stmt.While _ _ _ _) _) _ _ _)); (fail_if_success (with_reducible show wpAny _ _ (pyIter _) _ _ _)); (fail_if_success (with_reducible show wpAny _ _ (eval (Expr.ListComp _ _ _ _) _) _ _ _)); (fail_if_success (with_reducible show PyProof.Rows.LCg.CompSrc _ _ _ _ _ _ _ _ _ _ _ _ _ _)); (first | (k_unfold; (try dsimp only)) | walk1 | (dsimp only; walk1) | (leave1; try dsimp only)))
      rename_i R FR NR KR
      refine LCg.CompSrc.range (n := row.length + 1) (by rfl) FR NR R (small_one (by omega) (by omega) (by omega) (by omega)) (by rw [rangeSize_one]; omega) (by rw [PySem.sizeLine_eq]; omega) ?_
      intro g'
      refine my_comp0 _ (fun i ls nw => nw = _ ∧ StrsAre ls (leadsTo row (g0 ++ Str.ofString "x") i)) ⟨rfl, .nil⟩ ?turnL ?finL
      case turnL =>
        rintro i v ls _ I oI C oC D3 m₂ h tk E' hlt hP ⟨rfl, hJl⟩ hC hx F2 N2 off ne
        obtain ⟨ti, rfl⟩ := hP
        simp only [LCg.Off3, and_true] at off
        have mk := kstMark
        have hrsl : rs.length = row.length := hJ.length
        clear R FR NR KR
        repeat' ((fail_if_success (with_reducible show KswEnd _ _ _ _ _ _ _ _ _ _ _ _)); (fail_if_success (with_reducible show wpAny _ _ (exec (Stmt.While _ _ _ _) _) _ _ _)); (fail_if_success (with_reducible show wpAny _ _ (pyIter _) _ _ _)); (fail_if_success (with_reducible show wpAny _ _ (subscriptTail _ _ _ _) _ _ _)); (fail_if_success (with_reducible show wpAny _ _ (binaryOp _ (Value.ref _) (Value.ref _)) _ _ _)); (fail_if_success (with_reducible show wpAny _ _ (call (Value.ref _) _) _ _ _)); (first | (k_unfold; (try dsimp only)) | walk1 | (dsimp only; walk1) | (leave1; try dsimp only)))
        (rename Fr _ _ _ _ => F3); (rename News _ _ _ _ => N3)
        refine cut_upto F3 N3 (by k_mem) (by omega) (by omega) (by with_unfolding_all rfl) fun D4 h4 F4 N4 l4 => ?_
        (try k_lt l4)
        repeat' ((fail_if_success (with_reducible show KswEnd _ _ _ _ _ _ _ _ _ _ _ _)); (fail_if_success (with_reducible show wpAny _ _ (exec (Stmt.While _ _ _ _) _) _ _ _)); (fail_if_success (with_reducible show wpAny _ _ (pyIter _) _ _ _)); (fail_if_success (with_reducible show wpAny _ _ (subscriptTail _ _ _ _) _ _ _)); (fail_if_success (with_reducible show wpAny _ _ (binaryOp _ (Value.ref _) (Value.ref _)) _ _ _)); (fail_if_success (with_reducible show wpAny _ _ (call (Value.ref _) _) _ _ _)); (first | (k_unfold; (try dsimp only)) | walk1 | (dsimp only; walk1) | (leave1; try dsimp only)))
        (rename Fr _ _ _ _ => F5); (rename News _ _ _ _ => N5)
        refine add_vals F5 N5 (by k_mem) (by k_mem) (by rw [List.length_take]; simp; omega) fun D5 h5 F6 N6 l6 => ?_
        (try k_lt l6)
        (try clear F3)
        (try clear N3)
        (try clear F4)
        (try clear N4)
        (try clear F5)
        (try clear N5)
        repeat' ((fail_if_success (with_reducible show KswEnd _ _ _ _ _ _ _ _ _ _ _ _)); (fail_if_success (with_reducible show wpAny _ _ (exec (Stmt.While _ _ _ _) _) _ _ _)); (fail_if_success (with_reducible show wpAny _ _ (pyIter _) _ _ _)); (fail_if_success (with_reducible show wpAny _ _ (subscriptTail _ _ _ _) _ _ _)); (fail_if_success (with_reducible show wpAny _ _ (binaryOp _ (Value.ref _) (Value.ref _)) _ _ _)); (fail_if_success (with_reducible show wpAny _ _ (call (Value.ref _) _) _ _ _)); (first | (k_unfold; (try dsimp only)) | walk1 | (dsimp only; walk1) | (leave1; try dsimp only)))
        (rename Fr _ _ _ _ => F7); (rename News _ _ _ _ => N7)
        refine cut_from F7 N7 (by k_mem) (by omega) (by omega) (by with_unfolding_all rfl) fun D6 h6 F8 N8 l8 => ?_
        (try k_lt l8)
        (try clear F6)
        (try clear N6)
        (try clear F7)
        (try clear N7)
        repeat' ((fail_if_success (with_reducible show KswEnd _ _ _ _ _ _ _ _ _ _ _ _)); (fail_if_success (with_reducible show wpAny _ _ (exec (Stmt.While _ _ _ _) _) _ _ _)); (fail_if_success (with_reducible show wpAny _ _ (pyIter _) _ _ _)); (fail_if_success (with_reducible show wpAny _ _ (subscriptTail _ _ _ _) _ _ _)); (fail_if_success (with_reducible show wpAny _ _ (binaryOp _ (Value.ref _) (Value.ref _)) _ _ _)); (fail_if_success (with_reducible show wpAny _ _ (call (Value.ref _) _) _ _ _)); (first | (k_unfold; (try dsimp only)) | walk1 | (dsimp only; walk1) | (leave1; try dsimp only)))
        (rename Fr _ _ _ _ => F9); (rename News _ _ _ _ => N9)
        refine add_vals F9 N9 (by k_mem) (by k_mem) (by rw [List.length_append, List.length_take, List.length_drop]; simp; omega) fun D7 h7 Fa Na la9 => ?_
        (try k_lt la9)
        (try clear F8)
        (try clear N8)
        (try clear F9)
        (try clear N9)
        repeat' ((fail_if_success (with_reducible show KswEnd _ _ _ _ _ _ _ _ _ _ _ _)); (fail_if_success (with_reducible show wpAny _ _ (exec (Stmt.While _ _ _ _) _) _ _ _)); (fail_if_success (with_reducible show wpAny _ _ (pyIter _) _ _ _)); (fail_if_success (with_reducible show wpAny _ _ (subscriptTail _ _ _ _) _ _ _)); (fail_if_success (with_reducible show wpAny _ _ (binaryOp _ (Value.ref _) (Value.ref _)) _ _ _)); (fail_if_success (with_reducible show wpAny _ _ (call (Value.ref _) _) _ _ _)); (first | (k_unfold; (try dsimp only)) | walk1 | (dsimp only; walk1) | (leave1; try dsimp only)))
        have hws : ∀ t, StrsAre (rs.take (0 + (i : Int)).toNat ++ [Value.str (g0 ++ Str.ofString "x") t] ++ rs.drop (0 + (i : Int)).toNat) (longer row (g0 ++ Str.ofString "x") i) := fun t => by
          rw [show (0 + (i : Int)).toNat = i by omega]
          exact ((hJ.take' i).append' (.cons _ _ .nil)).append' (hJ.drop' i)
        have hwl := longer_length (row := row) (g := g0 ++ Str.ofString "x") (k := i) (by omega)
        have hgl : (g0 ++ Str.ofString "x").length ≤ 3 := by rw [str_length_append, hg2]; decide +kernel
        have hpre : 1 ≤ (longer row (g0 ++ Str.ofString "x") i).length ∧ (longer row (g0 ++ Str.ofString "x") i).length ≤ 7 ∧ ∀ x ∈ longer row (g0 ++ Str.ofString "x") i, x.length ≤ 8 := by
          refine ⟨by omega, by omega, fun x hx => ?_⟩
          rcases longer_mem hx with q | q
          · rw [hr2 x q]; omega
          · rw [q]; omega
        (rename Fr _ _ _ _ => Fb); (rename News _ _ _ _ => Nb)
        k_dflt (refine' lead_spec _ _ _ _ _ _ _ _ (longer row (g0 ++ Str.ofString "x") i) _ _ _ _ _ _ _ _ _ _ _ _ _ _ _ _ _ ?sa1 Fb ?sb1 Nb ?sc1 ?sd1 ⟨hws _, hpre⟩ ?se1 ?sf1 ?_)
        case sa1 => k_asm
        case sb1 => k_asm
        case sc1 => k_asm
        case sd1 => exact rfl
        case se1 => ktr_room
        case sf1 => ktr_units
        intro tL hL9 tkL FL NL
        (try dsimp only)
        refine LCg.CompEnd.intro (by assumption) (by assumption) _ (by kcf_all) (by first | assumption | (simp only [LCg.Off3, and_true]; done) | (simp only [LCg.Off3, and_true]; assumption)) (by first | lcg_src | assumption) ⟨rfl, ?_⟩
        rw [leadsTo_succ, show row.length = (longer row (g0 ++ Str.ofString "x") i).length - 1 by omega]
        exact hJl.append' (.cons _ _ .nil)
      case finL =>
        rintro ls _ ⟨rfl, hJl⟩
        have mk := kstMark
        w_top off
        repeat' ((fail_if_success (with_reducible show KswEnd _ _ _ _ _ _ _ _ _ _ _ _)); (fail_if_success (with_reducible show wpAny _ _ (exec (Stmt.While _ _ _ _) _) _ _ _)); (fail_if_success (with_reducible show wpAny _ _ (pyIter _) _ _ _)); (fail_if_success (with_reducible show wpAny _ _ (exec (Stmt.Assign _ (Expr.ListComp _ _ _ _) _) _) _ _ _)); (fail_if_success (with_reducible show wpAny _ _ (eval (Expr.ListComp _ _ _ _) _) _ _ _)); (fail_if_success (with_reducible show PyProof.Rows.LCg.CompSrc _ _ _ _ _ _ _ _ _ _ _ _ _ _)); (fail_if_success (with_reducible show wpAny _ _ (call (Value.ref _) _) _ _ _)); (first | (k_unfold; (try dsimp only)) | walk1 | (dsimp only; walk1) | (leave1; try dsimp only)))
        (rename Fr _ _ _ _ => F3); (rename News _ _ _ _ => N3)
        k_dflt (refine' Cl.mem (lead_spec w s₀ mg mb _ D rs rs.length row) RetS.mem (by k_mem) _ _ _ _ _ _ _ _ _ _ _ _ _ _ _ _ _ ?sa1 F3 ?sb1 N3 ?sc1 ?sd1 ⟨hJ, by omega, by omega, fun x hx => by rw [hr2 x hx]; omega⟩ ?se1 ?sf1 ?_)
        case sa1 => k_asm
        case sb1 => k_asm
        case sc1 => k_asm
        case sd1 => exact rfl
        case se1 => ktr_room
        case sf1 => ktr_units
        intro tL hL9 tkL FL NL
        (try dsimp only)
        repeat' ((fail_if_success (with_reducible show KswEnd _ _ _ _ _ _ _ _ _ _ _ _)); (fail_if_success (with_reducible show wpAny _ _ (exec (Stmt.While _ _ _ _) _) _ _ _)); (fail_if_success (with_reducible show wpAny _ _ (pyIter _) _ _ _)); (fail_if_success (with_reducible show wpAny _ _ (exec (Stmt.Assign _ (Expr.ListComp _ _ _ _) _) _) _ _ _)); (fail_if_success (with_reducible show wpAny _ _ (eval (Expr.ListComp _ _ _ _) _) _ _ _)); (fail_if_success (with_reducible show PyProof.Rows.LCg.CompSrc _ _ _ _ _ _ _ _ _ _ _ _ _ _)); (fail_if_success (with_reducible show wpAny _ _ (call (Value.ref _) _) _ _ _)); (first | (k_unfold; (try dsimp only)) | walk1 | (dsimp only; walk1) | (leave1; try dsimp only)))
        obtain ⟨p, hpp, hpl, hpe, hps⟩ := lead_pat hnl hrow hgm hgx
        rw [hpe]
        rw [hps] at hJl
        have hpl5 := len_chk p hpp
        have hkind := kind_is nums.sum
        k_dflt (refine' ruler_spec w s₀ mg mb _ (strP p) (nums.sum.fmod 3) _ _ _ _ _ _ _ _ _ _ _ _ _ _ _ _ _ _ _ _ ?sa2 FL ?sb2 NL ?sc2 ?sd2 (ruler_pre hpp) ?se2 ?sf2 ?_)
        case sa2 => k_asm
        case sb2 => k_asm
        case sc2 => k_asm
        case sd2 => exact rfl
        case se2 => ktr_room
        case sf2 => ktr_units
        intro lu uv uc hR tkR FR NR lR hIR
        (try dsimp only)
        rw [sizes_is, show rulerF (sizesP p) (nums.sum.fmod 3) = rulP p (nums.sum.fmod 3) from rfl] at hIR
        (try k_lt lR)
        (try clear F3)
        (try clear N3)
        (try clear FL)
        (try clear NL)
        have mk := kstMark
        repeat' ((fail_if_success (with_reducible show KswEnd _ _ _ _ _ _ _ _ _ _ _ _)); (fail_if_success (with_reducible show wpAny _ _ (exec (Stmt.While _ _ _ _) _) _ _ _)); (fail_if_success (with_reducible show wpAny _ _ (pyIter _) _ _ _)); (fail_if_success (with_reducible show wpAny _ _ (exec (Stmt.Assign _ (Expr.ListComp _ _ _ _) _) _) _ _ _)); (fail_if_success (with_reducible show wpAny _ _ (eval (Expr.ListComp _ _ _ _) _) _ _ _)); (fail_if_success (with_reducible show PyProof.Rows.LCg.CompSrc _ _ _ _ _ _ _ _ _ _ _ _ _ _)); (fail_if_success (with_reducible show wpAny _ _ (call (Value.ref _) _) _ _ _)); (first | (k_unfold; (try dsimp only)) | walk1 | (dsimp only; walk1) | (leave1; try dsimp only)))
        (rename Fr _ _ _ _ => F4); (rename News _ _ _ _ => N4)
        have N5 := news_pickA N4
        clear N4
        obtain ⟨r1, r2, r3⟩ := rul_ok hpp _ hkind
        k_dflt (refine' groups_spec w s₀ mg mb _ lu uv uc (rulP p (nums.sum.fmod 3)) row.length _ _ _ _ _ _ _ _ _ _ _ _ _ _ _ _ _ _ ?sa3 F4 ?sb3 N5 ?sc3 ?sd3 ⟨hIR, r1, r2, by omega, by omega, (by intro p hp; simp only [List.mem_cons, List.not_mem_nil, or_false] at hp; (rcases hp with rfl | rfl | rfl | rfl | rfl) <;> first | (intro e; apply e.2; assumption) | (intro e; have e1 := e.1; simp at e1))⟩ (by rw [hg]; intro y hy; simp at hy) ?se3 ?sf3 ?_)
        case sa3 => k_asm
        case sb3 => k_asm
        case sc3 => k_asm
        case sd3 => exact rfl
        case se3 => ktr_room
        case sf3 => ktr_units
        intro lg gv gc gg hG tkG FG NG lG hIG hbG
        (try dsimp only)
        rw [show (row.length : Int) = (p.length : Int) + 1 by omega, r3] at hIG
        (try k_lt lG)
        (try clear F4)
        (try clear N5)
        (try clear FL)
        (try clear NL)
        (try clear FR)
        (try clear NR)
        (try clear hI8 hnb)
        have mk := kstMark
        repeat' ((fail_if_success (with_reducible show KswEnd _ _ _ _ _ _ _ _ _ _ _ _)); (fail_if_success (with_reducible show wpAny _ _ (exec (Stmt.While _ _ _ _) _) _ _ _)); (fail_if_success (with_reducible show wpAny _ _ (pyIter _) _ _ _)); (fail_if_success (with_reducible show wpAny _ _ (exec (Stmt.Assign _ (Expr.ListComp _ _ _ _) _) _) _ _ _)); (fail_if_success (with_reducible show wpAny _ _ (eval (Expr.ListComp _ _ _ _) _) _ _ _)); (fail_if_success (with_reducible show PyProof.Rows.LCg.CompSrc _ _ _ _ _ _ _ _ _ _ _ _ _ _)); (fail_if_success (with_reducible show wpAny _ _ (call (Value.ref _) _) _ _ _)); (first | (k_unfold; (try dsimp only)) | walk1 | (dsimp only; walk1) | (leave1; try dsimp only)))
        w_top off
        (k_dflt (refine LCg.Assign_ListComp_U (F₀ := by k_asm) (by rfl) (by with_unfolding_all rfl) (by with_unfolding_all rfl) (by decide) (by rfl) (by decide) (by rfl) (by rfl) (by rfl) ?_))
        repeat' ((fail_if_success (with_reducible show KswEnd _ _ _ _ _ _ _ _ _ _ _ _)); (fail_if_success (with_reducible show wpAny _ _ (exec (Stmt.While _ _ _ _) _) _ _ _)); (fail_if_success (with_reducible show wpAny _ _ (pyIter _) _ _ _)); (fail_if_success (with_reducible show PyProof.Rows.LCg.CompSrc _ _ _ _ _ _ _ _ _ _ _ _ _ _)); (first | (k_unfold; (try dsimp only)) | walk1 | (dsimp only; walk1) | (leave1; try dsimp only)))
        rename_i R FR NR KR
        obtain ⟨g1, g2⟩ := grp_ok hpp
        refine LCg.CompSrc.range (n := row.length + 1) (by rfl) FR NR R (small_one (by omega) (by omega) (by omega) (by omega)) (by rw [rangeSize_one]; omega) (by rw [PySem.sizeLine_eq]; omega) ?_
        intro g'
        refine my_comp0 _ (fun i ys nw => ∃ ex, nw = _ :: _ :: _ :: _ :: _ :: _ :: _ :: ex ∧ Refs ShpAt ex ys ((List.range i).map fun k => shpP p k)) ⟨[], rfl, .nil⟩ ?turnS ?finS
        case turnS =>
          rintro i v ys _ I oI C oC D3 m₂ h tk E' hlt hP ⟨ex, rfl, hJs⟩ hC hx F2 N2 off ne
          obtain ⟨ti, rfl⟩ := hP
          have mk := kstMark
          clear R FR NR KR
          repeat' ((fail_if_success (with_reducible show KswEnd _ _ _ _ _ _ _ _ _ _ _ _)); (fail_if_success (with_reducible show wpAny _ _ (exec (Stmt.While _ _ _ _) _) _ _ _)); (fail_if_success (with_reducible show wpAny _ _ (pyIter _) _ _ _)); (fail_if_success (with_reducible show wpAny _ _ (subscriptTail _ _ _ _) _ _ _)); (fail_if_success (with_reducible show wpAny _ _ (binaryOp _ (Value.ref _) (Value.ref _)) _ _ _)); (fail_if_success (with_reducible show wpAny _ _ (call (Value.ref _) _) _ _ _)); (first | (k_unfold; (try dsimp only)) | walk1 | (dsimp only; walk1) | (leave1; try dsimp only)))
          (rename Fr _ _ _ _ => F3); (rename News _ _ _ _ => N3)
          k_dflt (refine' Cl.mem (shape_spec w s₀ mg mb _ lg gv gc (grpP p) (0 + (i : Int)) _) RetP.mem (by k_mem) _ _ _ _ _ _ _ _ _ _ _ _ _ _ _ _ _ ?sa1 F3 ?sb1 N3 ?sc1 ?sd1 ⟨hIG, g1, g2, by omega, by omega⟩ ?se1 ?sf1 ?_)
          case sa1 => k_asm
          case sb1 => k_asm
          case sc1 => k_asm
          case sd1 => exact rfl
          case se1 => ktr_room
          case sf1 => ktr_units
          intro D D1 D2 va vb na c hS tkS FS NS hA hPm hO hB hlt3
          (try dsimp only)
          refine comp_end_new (pre := [_, _, _, _, _, _, _]) (new := [_, _, _]) FS off NS ?_ ⟨_, rfl, ?_⟩
          · intro q hq p hp
            have := hlt3 p (by
              simp only [List.mem_cons, List.not_mem_nil, or_false] at hp ⊢
              rcases hp with h | h | h <;> simp only [h, true_or, or_true])
            simp only [List.mem_cons, List.not_mem_nil, or_false] at hq
            rcases hq with rfl | rfl | rfl
            · exact this.1
            · exact this.2.1
            · exact this.2.2
          · rw [List.range_succ, List.map_append]
            refine (hJs.mono fun a b h => h.mono (fun p hp => List.mem_append_right _ hp) a b).snoc ⟨D1, D2, va, vb, na, c, .head _, .tail _ (.head _), .tail _ (.tail _ (.head _)), hA, ?_, hO, ?_⟩
            · rw [Int.zero_add] at hPm; exact hPm
            · rw [Int.zero_add] at hB; exact hB
        case finS =>
          rintro ysS _ ⟨exS, rfl, hJS⟩
          have mk := kstMark
          clear R FR NR KR
          repeat' ((fail_if_success (with_reducible show KswEnd _ _ _ _ _ _ _ _ _ _ _ _)); (fail_if_success (with_reducible show wpAny _ _ (exec (Stmt.While _ _ _ _) _) _ _ _)); (fail_if_success (with_reducible show wpAny _ _ (pyIter _) _ _ _)); (fail_if_success (with_reducible show wpAny _ _ (exec (Stmt.Assign _ (Expr.ListComp _ _ _ _) _) _) _ _ _)); (fail_if_success (with_reducible show wpAny _ _ (eval (Expr.ListComp _ _ _ _) _) _ _ _)); (fail_if_success (with_reducible show PyProof.Rows.LCg.CompSrc _ _ _ _ _ _ _ _ _ _ _ _ _ _)); (fail_if_success (with_reducible show wpAny _ _ (call (Value.ref _) _) _ _ _)); (first | (k_unfold; (try dsimp only)) | walk1 | (dsimp only; walk1) | (leave1; try dsimp only)))
          (try clear g1 g2 g')
          w_top off
          (k_dflt (refine LCg.Assign_ListComp_U (F₀ := by k_asm) (by rfl) (by with_unfolding_all rfl) (by with_unfolding_all rfl) (by decide) (by rfl) (by decide) (by rfl) (by rfl) (by rfl) ?_))
          repeat' ((fail_if_success (with_reducible show KswEnd _ _ _ _ _ _ _ _ _ _ _ _)); (fail_if_success (with_reducible show wpAny _ _ (exec (Stmt.While _ _ _ _) _) _ _ _)); (fail_if_success (with_reducible show wpAny _ _ (pyIter _) _ _ _)); (fail_if_success (with_reducible show PyProof.Rows.LCg.CompSrc _ _ _ _ _ _ _ _ _ _ _ _ _ _)); (first | (k_unfold; (try dsimp only)) | walk1 | (dsimp only; walk1) | (leave1; try dsimp only)))
          rename_i R FR NR KR
          refine LCg.CompSrc.range (n := row.length + 1) (by rfl) FR NR R (small_one (by omega) (by omega) (by omega) (by omega)) (by rw [rangeSize_one]; omega) (by rw [PySem.sizeLine_eq]; omega) ?_
          intro g'
          refine my_comp0 _ (fun i ys nw => ∃ ex, nw = _ :: _ :: _ :: _ :: _ :: _ :: _ :: _ :: ex ∧ (∀ p ∈ exS, p ∈ ex) ∧ Refs (HeadAt w) ex ys ((List.range i).map fun k => hdP p k)) ⟨exS, rfl, fun p hp => hp, .nil⟩ ?turnS ?finS
          case turnS =>
            rintro i v ys _ I oI C oC D3 m₂ h tk E' hlt hP ⟨ex, rfl, hsx, hJs⟩ hC hx F2 N2 off ne
            obtain ⟨ti, rfl⟩ := hP
            have mk := kstMark
            clear R FR NR KR
            repeat' ((fail_if_success (with_reducible show KswEnd _ _ _ _ _ _ _ _ _ _ _ _)); (fail_if_success (with_reducible show wpAny _ _ (exec (Stmt.While _ _ _ _) _) _ _ _)); (fail_if_success (with_reducible show wpAny _ _ (pyIter _) _ _ _)); (fail_if_success (with_reducible show wpAny _ _ (subscriptTail _ _ _ _) _ _ _)); (fail_if_success (with_reducible show wpAny _ _ (binaryOp _ (Value.ref _) (Value.ref _)) _ _ _)); (fail_if_success (with_reducible show wpAny _ _ (call (Value.ref _) _) _ _ _)); (first | (k_unfold; (try dsimp only)) | walk1 | (dsimp only; walk1) | (leave1; try dsimp only)))
            obtain ⟨tl, htl⟩ := hJl.get i (strP (leadP p i)) (by rw [List.getElem?_map, List.getElem?_range (by omega)]; rfl)
            (rename Fr _ _ _ _ => F3); (rename News _ _ _ _ => N3)
            refine item_val (j := i) N3 (by k_mem) htl (by omega) (by omega) (by with_unfolding_all rfl) ?_
            have hll := leadP_len (p := p) (k := i) (by omega)
            have hls := strP_length (leadP p i)
            repeat' ((fail_if_success (with_reducible show KswEnd _ _ _ _ _ _ _ _ _ _ _ _)); (fail_if_success (with_reducible show wpAny _ _ (exec (Stmt.While _ _ _ _) _) _ _ _)); (fail_if_success (with_reducible show wpAny _ _ (pyIter _) _ _ _)); (fail_if_success (with_reducible show wpAny _ _ (subscriptTail _ _ _ _) _ _ _)); (fail_if_success (with_reducible show wpAny _ _ (call (Value.ref _) _) _ _ _)); (first | (k_unfold; (try dsimp only)) | walk1 | (dsimp only; walk1) | (leave1; try dsimp only)))
            have hsl := cs_len (strP (leadP p i) ++ Str.ofString "x" ++ Txt.mul (Str.ofString " ") (0 + (i : Int)) ++ Str.ofString "\t")
            have hml : ((Txt.mul (Str.ofString " ") (0 + (i : Int))).length : Int) = 1 * (0 + (i : Int)) := by
              (have kz := (by assumption : 0 ≤ 0 + (i : Int) → _)); exact kz (by omega)
            rw [head_text, List.length_append, List.length_cons, List.length_append, cs_len, cs_len, len_t] at hsl
            (rename Fr _ _ _ _ => F4); (rename News _ _ _ _ => N4)
            k_dflt (refine' head_spec w s₀ mg mb _ _ _ (leadP p i) _ _ _ _ _ _ _ _ _ _ _ _ _ _ _ _ _ _ ?sa1 F4 ?sb1 N4 ?sc1 ?sd1 ⟨head_text _ _ _, lead_signs hpp i, by omega, by omega⟩ ?se1 ?sf1 ?_)
            case sa1 => k_asm
            case sb1 => k_asm
            case sc1 => k_asm
            case sd1 => exact rfl
            case se1 => ktr_room
            case sf1 => ktr_units
            intro x dx tp tc hv T hH tkH FH NH hiH hltH
            (try dsimp only)
            refine comp_end_new (pre := [_, _, _, _, _, _, _, _]) (new := headLed w x dx tp tc hv (hdP p i) T) FH off NH ?_ ⟨headLed w x dx tp tc hv (hdP p i) T ++ ex, rfl, fun q hq => List.mem_append_right (headLed w x dx tp tc hv (hdP p i) T) (hsx q hq), ?_⟩
            · intro q hq p hp
              have := hltH p (by
                simp only [List.mem_cons, List.not_mem_nil, or_false] at hp ⊢
                rcases hp with h | h | h <;> simp only [h, true_or, or_true])
              simp only [List.mem_cons, List.not_mem_nil, or_false] at hq
              rcases hq with rfl | rfl | rfl | rfl
              · exact this.2.2.1
              · exact this.2.2.2
              · exact this.1
              · exact this.2.1
            · rw [List.range_succ, List.map_append]
              exact (hJs.mono fun a b h => h.mono fun p hp => List.mem_append_right _ hp).snoc ⟨dx, tp, tc, hv, T, fun p hp => List.mem_append_left _ hp, hiH⟩
          case finS =>
            rintro ysH _ ⟨exH, rfl, hsx, hJH⟩
            replace hJS := hJS.mono fun a b h => h.mono hsx a b
            have mk := kstMark
            clear R FR NR KR
            (try clear g' hsx)
            repeat' ((fail_if_success (with_reducible show KswEnd _ _ _ _ _ _ _ _ _ _ _ _)); (fail_if_success (with_reducible show wpAny _ _ (exec (Stmt.While _ _ _ _) _) _ _ _)); (fail_if_success (with_reducible show wpAny _ _ (pyIter _) _ _ _)); (fail_if_success (with_reducible show wpAny _ _ (exec (Stmt.Assign _ (Expr.ListComp _ _ _ _) _) _) _ _ _)); (fail_if_success (with_reducible show wpAny _ _ (eval (Expr.ListComp _ _ _ _) _) _ _ _)); (fail_if_success (with_reducible show PyProof.Rows.LCg.CompSrc _ _ _ _ _ _ _ _ _ _ _ _ _ _)); (fail_if_success (with_reducible show wpAny _ _ (call (Value.ref _) _) _ _ _)); (first | (k_unfold; (try dsimp only)) | walk1 | (dsimp only; walk1) | (leave1; try dsimp only)))
            w_top off
            obtain ⟨g1, g2⟩ := grp_ok hpp
            (rename Fr _ _ _ _ => F3); (rename News _ _ _ _ => N3)
            k_dflt (refine' Cl.mem (strokes_spec w s₀ mg mb _ lg gv gc (grpP p)) RetQ.mem (by k_mem) _ _ _ _ _ _ _ _ _ _ _ _ _ _ _ _ _ ?sa1 F3 ?sb1 N3 ?sc1 ?sd1 ⟨hIG, g1, g2⟩ ?se1 ?sf1 ?_)
            case sa1 => k_asm
            case sb1 => k_asm
            case sc1 => k_asm
            case sd1 => exact rfl
            case se1 => ktr_room
            case sf1 => ktr_units
            intro lq qv qc exQ hQ9 tkQ FQ NQ hQ
            (try dsimp only)
            replace NQ := news_pickB NQ
            rw [show strokesF (grpP p) = stkP p from rfl] at hQ
            replace hQ := hQ.mono (l' := exH ++ exQ) fun p hp => List.mem_append_right _ hp
            replace hJH := hJH.mono (l' := exH ++ exQ) fun a b h => h.mono fun p hp => List.mem_append_left _ hp
            replace hJS := hJS.mono (l' := exH ++ exQ) fun a b h => h.mono (fun p hp => List.mem_append_left _ hp) a b
            generalize exH ++ exQ = X at NQ hQ hJH hJS
            clear F3 N3
            have hq20 := stkP_len p hpp
            have hql := hQ.length
            have mk := kstMark
            repeat' ((fail_if_success (with_reducible show KswEnd _ _ _ _ _ _ _ _ _ _ _ _)); (fail_if_success (with_reducible show wpAny _ _ (exec (Stmt.While _ _ _ _) _) _ _ _)); (fail_if_success (with_reducible show wpAny _ _ (pyIter _) _ _ _)); (fail_if_success (with_reducible show wpAny _ _ (exec (Stmt.Assign _ (Expr.ListComp _ _ _ _) _) _) _ _ _)); (first | (k_unfold; (try dsimp only)) | walk1 | (dsimp only; walk1) | (leave1; try dsimp only)))
            refine Assign_compT (by with_unfolding_all rfl) (by with_unfolding_all rfl) (by rfl) (by decide) ?_
            repeat' ((fail_if_success (with_reducible show KswEnd _ _ _ _ _ _ _ _ _ _ _ _)); (fail_if_success (with_reducible show wpAny _ _ (exec (Stmt.While _ _ _ _) _) _ _ _)); (fail_if_success (with_reducible show wpAny _ _ (pyIter _) _ _ _)); (first | (k_unfold; (try dsimp only)) | walk1 | (dsimp only; walk1) | (leave1; try dsimp only)))
            (rename Fr _ _ _ _ => F4); (rename News _ _ _ _ => N4)
            refine comp_l5 (tl := X) (vs := qv) (cap := qc) (ws := stkP p) (fun i ys nw => ∃ ex, nw = _ :: _ :: _ :: _ :: _ :: _ :: ex ∧ (∀ p ∈ X, p ∈ ex) ∧ Refs PairAt ex ys (((stkP p).take i).map fun s => (s.1, s.2.1))) rfl F4 N4 (.head _) hQ ?htl (by rw [sizeLine_eq]; omega) (by decide) (by rfl) (by rfl) (by rfl) (by rfl) (by rfl) (by rfl) (by decide +kernel) ⟨X, rfl, fun p hp => hp, .nil⟩ ?hJl ?turnP ?hRR
            case htl =>
              intro p hp
              simp only [List.mem_cons]
              exact .inr (.inr (.inr (.inr (.inr (.inr hp)))))
            case hJl =>
              rintro i ys nw ⟨ex, rfl, hX, _⟩
              refine ⟨.head _, fun p hp => ?_⟩
              simp only [List.mem_cons]
              exact .inr (.inr (.inr (.inr (.inr (.inr (hX p hp))))))
            case turnP =>
              rintro i x y z q sh t u ys _ own C oC D m₂ h tk s₂ E' hw hxt hyu ⟨ex, rfl, hX, hJp⟩ hC F5 N5 off5 ne
              simp only [List.cons_append, List.nil_append] at N5
              have mk := kstMark
              clear F4 N4
              repeat' ((fail_if_success (with_reducible show KswEnd _ _ _ _ _ _ _ _ _ _ _ _)); (fail_if_success (with_reducible show wpAny _ _ (exec (Stmt.While _ _ _ _) _) _ _ _)); (fail_if_success (with_reducible show wpAny _ _ (pyIter _) _ _ _)); (first | (k_unfold; (try dsimp only)) | walk1 | (dsimp only; walk1) | (leave1; try dsimp only)))
              (rename Fr _ _ _ _ => F6); (rename News _ _ _ _ => N6)
              rename_i lT
              refine compT_new (pre := [_, _, _, _, _, _]) F6 off5 N6 lT.1 lT.2.1 (allLt_mem (allLt_app lT.2.2.2.2.2.2.2.2).2) ⟨_, rfl, fun p hp => .tail _ (hX p hp), ?_⟩
              rw [List.take_add_one, hw, List.map_append]
              exact (hJp.mono fun a b h => h.mono (fun p hp => .tail _ hp) a b).snoc ⟨_, _, .head _⟩
            case hRR =>
              rintro ⟨hp, g, d, tk0, os⟩ e1 e2 e3
              dsimp only at e1 e2 e3
              subst e1 e2 e3
              refine asg_rrN ?e1 ?e2 ?e3 fun D h tk ysP nw F6 N6 hD hJ => ?_
              case e1 => exact rfl
              case e2 => rfl
              case e3 => rfl
              obtain ⟨ex, rfl, hX, hJP⟩ := hJ
              rw [hql, List.take_length] at hJP
              replace hQ := hQ.mono hX
              replace hJH := hJH.mono (fun a b h => h.mono hX)
              replace hJS := hJS.mono (fun a b h => h.mono hX a b)
              clear hX F4 N4 hD
              have mk := kstMark
              repeat' ((fail_if_success (with_reducible show KswEnd _ _ _ _ _ _ _ _ _ _ _ _)); (fail_if_success (with_reducible show wpAny _ _ (exec (Stmt.While _ _ _ _) _) _ _ _)); (fail_if_success (with_reducible show wpAny _ _ (pyIter _) _ _ _)); (fail_if_success (with_reducible show wpAny _ _ (exec (Stmt.Assign _ (Expr.ListComp _ _ _ _) _) _) _ _ _)); (fail_if_success (with_reducible show wpAny _ _ (eval (Expr.ListComp _ _ _ _) _) _ _ _)); (fail_if_success (with_reducible show PyProof.Rows.LCg.CompSrc _ _ _ _ _ _ _ _ _ _ _ _ _ _)); (fail_if_success (with_reducible show wpAny _ _ (call (Value.ref _) _) _ _ _)); (fail_if_success (with_reducible show wpAny _ _ (exec (Stmt.For _ _ _ _ _) _) _ _ _)); (first | (k_unfold; (try dsimp only)) | walk1 | (dsimp only; walk1) | (leave1; try dsimp only)))
              (rename Fr _ _ _ _ => F7); (rename News _ _ _ _ => N7)
              (try clear F6 N6)
              w_top off
              obtain ⟨Z, hZ, N8⟩ : ∃ l : Led, l = _ ∧ News _ _ _ l := ⟨_, rfl, N7⟩
              repeat' ((fail_if_success (with_reducible show KswEnd _ _ _ _ _ _ _ _ _ _ _ _)); (fail_if_success (with_reducible show wpAny _ _ (exec (Stmt.While _ _ _ _) _) _ _ _)); (fail_if_success (with_reducible show wpAny _ _ (pyIter _) _ _ _)); (first | (k_unfold; (try dsimp only)) | walk1 | (dsimp only; walk1) | (leave1; try dsimp only)))
              rename_i R FR NR KR
              with_unfolding_all
                refine' my_for_range (σ := Unit) (n := row.length) (fun _ => Z) (fun _ => []) (fun _ => True) [Str.ofString "j", Str.ofString "due"] (fun _ _ => True) (fun _ _ => False) () rfl R ?hs ?hn FR ?kn ?kf ?kk ?kp ?turn ?done
              case hs => exact small_one (by omega) (by omega) (by omega) (by omega)
              case hn => rw [rangeSize_one]; omega
              case kn => exact NR
              case kf => trivial
              case kk => kst_all
              case kp => trivial
              case turn =>
                clear R FR NR KR; (try clear N7); (try clear N8); (try clear F7)
                rintro i ti _ u h tk I o hin off _ _ F4 N4
                dsimp only [kstB] at F4
                dsimp only at *
                (try k_fold)
                rw [hZ] at N4
                simp only [List.cons_append, List.nil_append] at N4
                have mk := kstMark
                obtain ⟨Z2, hZ2, N9⟩ : ∃ l : Led, l = _ ∧ News _ _ _ l := ⟨_, rfl, N4⟩
                repeat' ((fail_if_success (with_reducible show KswEnd _ _ _ _ _ _ _ _ _ _ _ _)); (fail_if_success (with_reducible show wpAny _ _ (exec (Stmt.While _ _ _ _) _) _ _ _)); (fail_if_success (with_reducible show wpAny _ _ (pyIter _) _ _ _)); (first | (k_unfold; (try dsimp only)) | walk1 | (dsimp only; walk1) | (leave1; try dsimp only)))
                rename_i R FR NR KR
                with_unfolding_all
                  refine' my_for_range (σ := Unit) (n := row.length - i) (fun _ => Z2) (fun _ => []) (fun _ => True) [Str.ofString "due"] (fun _ _ => True) (fun _ _ => False) () rfl R ?hs2 ?hn2 FR ?kn2 ?kf2 ?kk2 ?kp2 ?turn2 ?done2
                case hs2 => exact small_one (by omega) (by omega) (by omega) (by omega)
                case hn2 => rw [rangeSize_one]; omega
                case kn2 => exact NR
                case kf2 => trivial
                case kk2 => kst_all
                case kp2 => trivial
                case turn2 =>
                  clear R FR NR KR
                  (try clear N4); (try clear N9); (try clear F4)
                  rintro j tj _ u2 h2 tk2 I2 o2 hjn off2 _ _ F4 N4
                  dsimp only [kstB] at F4
                  dsimp only at *
                  (try k_fold)
                  rw [hZ2] at N4
                  simp only [List.cons_append, List.nil_append, List.append_assoc] at N4
                  have mk := kstMark
                  repeat' ((fail_if_success (with_reducible show KswEnd _ _ _ _ _ _ _ _ _ _ _ _)); (fail_if_success (with_reducible show wpAny _ _ (exec (Stmt.While _ _ _ _) _) _ _ _)); (fail_if_success (with_reducible show wpAny _ _ (pyIter _) _ _ _)); (fail_if_success (with_reducible show wpAny _ _ (compareOp _ (Value.ref _) (Value.ref _)) _ _ _)); (fail_if_success (with_reducible show wpAny _ _ (subscriptTail _ _ _ _) _ _ _)); (fail_if_success (with_reducible show wpAny _ _ (call (Value.ref _) _) _ _ _)); (first | (k_unfold; (try dsimp only)) | walk1 | (dsimp only; walk1) | (leave1; try dsimp only)))
                  w_top off
                  (rename Fr _ _ _ _ => F5); (rename News _ _ _ _ => N5)
                  refine in_pairs N5 (.head _) (.tail _ (.head _)) (hJP.mono fun a b h => h.mono (fun q hq => by simp only [List.mem_cons, List.mem_append]; simp only [hq, true_or, or_true]) a b) (by ktr_units) ?_
                  have hjj : i + 1 + j < p.length + 2 := by omega
                  have hii : i < p.length + 2 := by omega
                  have hdue := due_is (p := p) (i := i) (j := i + 1 + j) (x := 0 + (i : Int)) (y := 0 + (i : Int) + 1 + (j : Int)) (by omega) (by omega)
                  obtain ⟨tl1, htl1⟩ := hJl.get i (strP (leadP p i)) (by rw [List.getElem?_map, List.getElem?_range hii]; rfl)
                  obtain ⟨tl2, htl2⟩ := hJl.get (i + 1 + j) (strP (leadP p (i + 1 + j))) (by rw [List.getElem?_map, List.getElem?_range hjj]; rfl)
                  have hrl2 : row.length + 1 = p.length + 2 := by omega
                  obtain ⟨x1, hx1, H1⟩ := hJH.at (i := i) (b := hdP p i) (by rw [List.getElem?_map, List.getElem?_range (by omega)]; rfl)
                  obtain ⟨x2, hx2, H2⟩ := hJH.at (i := i + 1 + j) (b := hdP p (i + 1 + j)) (by rw [List.getElem?_map, List.getElem?_range (by omega)]; rfl)
                  obtain ⟨y1, hy1, Y1⟩ := hJS.at (i := i) (b := shpP p i) (by rw [List.getElem?_map, List.getElem?_range (by omega)]; rfl)
                  obtain ⟨y2, hy2, Y2⟩ := hJS.at (i := i + 1 + j) (b := shpP p (i + 1 + j)) (by rw [List.getElem?_map, List.getElem?_range (by omega)]; rfl)
                  have hlev := lev_ok hpp nums.sum (i := i) (j := i + 1 + j) (by omega) (by omega)
                  have heq := equal_ok hpp (i := i) (j := i + 1 + j) (by omega) (by omega)
                  have hl1 := leadP_len (p := p) (k := i) (by omega)
                  have hl2 := leadP_len (p := p) (k := i + 1 + j) (by omega)
                  generalize hk : decide ((0 + (i : Int), 0 + (i : Int) + 1 + (j : Int)) ∈ (stkP p).map fun s => (s.1, s.2.1)) = k at hdue ⊢
                  have mk := kstMark

                  repeat' ((fail_if_success (with_reducible show KswEnd _ _ _ _ _ _ _ _ _ _ _ _)); (fail_if_success (with_reducible show wpAny _ _ (exec (Stmt.While _ _ _ _) _) _ _ _)); (fail_if_success (with_reducible show wpAny _ _ (pyIter _) _ _ _)); (fail_if_success (with_reducible show wpAny _ _ (compareOp _ (Value.ref _) (Value.ref _)) _ _ _)); (fail_if_success (with_reducible show wpAny _ _ (subscriptTail _ _ _ _) _ _ _)); (fail_if_success (with_reducible show wpAny _ _ (call (Value.ref _) _) _ _ _)); (first | (k_unfold; (try dsimp only)) | walk1 | (dsimp only; walk1) | (leave1; try dsimp only)))
                  all_goals
                    (rename k = _ => hkv)
                    rw [hkv] at hdue
                    (rename Fr _ _ _ _ => F6); (rename News _ _ _ _ => N6)
                    refine item_val (j := i) N6 (by k_mem) htl1 (by omega) (by omega) (by with_unfolding_all rfl) ?_
                    repeat' ((fail_if_success (with_reducible show KswEnd _ _ _ _ _ _ _ _ _ _ _ _)); (fail_if_success (with_reducible show wpAny _ _ (exec (Stmt.While _ _ _ _) _) _ _ _)); (fail_if_success (with_reducible show wpAny _ _ (pyIter _) _ _ _)); (fail_if_success (with_reducible show wpAny _ _ (compareOp _ (Value.ref _) (Value.ref _)) _ _ _)); (fail_if_success (with_reducible show wpAny _ _ (subscriptTail _ _ _ _) _ _ _)); (fail_if_success (with_reducible show wpAny _ _ (call (Value.ref _) _) _ _ _)); (first | (k_unfold; (try dsimp only)) | walk1 | (dsimp only; walk1) | (leave1; try dsimp only)))
                    (rename Fr _ _ _ _ => F7); (rename News _ _ _ _ => N7)
                    refine item_val (j := i + 1 + j) N7 (by k_mem) htl2 (by omega) (by omega) (by with_unfolding_all rfl) ?_
                    repeat' ((fail_if_success (with_reducible show KswEnd _ _ _ _ _ _ _ _ _ _ _ _)); (fail_if_success (with_reducible show wpAny _ _ (exec (Stmt.While _ _ _ _) _) _ _ _)); (fail_if_success (with_reducible show wpAny _ _ (pyIter _) _ _ _)); (fail_if_success (with_reducible show wpAny _ _ (compareOp _ (Value.ref _) (Value.ref _)) _ _ _)); (fail_if_success (with_reducible show wpAny _ _ (subscriptTail _ _ _ _) _ _ _)); (fail_if_success (with_reducible show wpAny _ _ (call (Value.ref _) _) _ _ _)); (first | (k_unfold; (try dsimp only)) | walk1 | (dsimp only; walk1) | (leave1; try dsimp only)))
                    (rename Fr _ _ _ _ => F8); (rename News _ _ _ _ => N8)
                    k_dflt (refine' lev_spec w s₀ mg mb _ (strP (leadP p i)) (strP (leadP p (i + 1 + j))) _ _ _ _ _ _ _ _ _ _ _ _ _ _ _ _ _ _ _ _ _ ?sa1 F8 ?sb1 N8 ?sc1 ?sd1 ⟨by rw [strP_length]; omega, by rw [strP_length]; omega, fun c hc => lead_signs hpp i c hc, fun c hc => lead_signs hpp (i + 1 + j) c hc⟩ ?se1 ?sf1 ?_)
                    case sa1 => k_asm
                    case sb1 => k_asm
                    case sc1 => k_asm
                    case sd1 => exact rfl
                    case se1 => ktr_room
                    case sf1 => ktr_units
                    intro tLv hLv tkLv FL NL
                    (try dsimp only)
                    rw [show nums.sum + (0 + (i : Int)) + (0 + (i : Int) + 1 + (j : Int)) = nums.sum + (i : Int) + ((i + 1 + j : Nat) : Int) by omega, hlev, hdue]
                    simp only [if_true, if_false, Bool.false_eq_true, Bool.true_eq_false, reduceIte]
                    (try clear F8)
                    (try clear N8)
                    repeat' ((fail_if_success (with_reducible show KswEnd _ _ _ _ _ _ _ _ _ _ _ _)); (fail_if_success (with_reducible show wpAny _ _ (exec (Stmt.While _ _ _ _) _) _ _ _)); (fail_if_success (with_reducible show wpAny _ _ (pyIter _) _ _ _)); (fail_if_success (with_reducible show wpAny _ _ (compareOp _ (Value.ref _) (Value.ref _)) _ _ _)); (fail_if_success (with_reducible show wpAny _ _ (subscriptTail _ _ _ _) _ _ _)); (fail_if_success (with_reducible show wpAny _ _ (call (Value.ref _) _) _ _ _)); (first | (k_unfold; (try dsimp only)) | walk1 | (dsimp only; walk1) | (leave1; try dsimp only)))
                    (rename Fr _ _ _ _ => F9); (rename News _ _ _ _ => N9)
                    refine item_val (j := i) N9 (by k_mem) hx1 (by omega) (by omega) (by with_unfolding_all rfl) ?_
                    obtain ⟨dx1, tp1, tc1, v1, T1, hm1, hi1⟩ := id H1
                    obtain ⟨dx2, tp2, tc2, v2, T2, hm2, hi2⟩ := id H2
                    have Na := news_add N9 (ps := headLed w x1 dx1 tp1 tc1 v1 (hdP p i) T1 ++ headLed w x2 dx2 tp2 tc2 v2 (hdP p (i + 1 + j)) T2) (fun q hq => by
                      have hq' : q ∈ ex := (List.mem_append.mp hq).elim (hm1 q) (hm2 q)
                      simp only [List.mem_cons, List.mem_append]; simp only [hq', true_or, or_true])
                    clear N9
                    simp only [headLed, List.cons_append, List.nil_append] at Na
                    repeat' ((fail_if_success (with_reducible show KswEnd _ _ _ _ _ _ _ _ _ _ _ _)); (fail_if_success (with_reducible show wpAny _ _ (exec (Stmt.While _ _ _ _) _) _ _ _)); (fail_if_success (with_reducible show wpAny _ _ (pyIter _) _ _ _)); (fail_if_success (with_reducible show wpAny _ _ (compareOp _ (Value.ref _) (Value.ref _)) _ _ _)); (fail_if_success (with_reducible show wpAny _ _ (subscriptTail _ _ _ _) _ _ _)); (fail_if_success (with_reducible show wpAny _ _ (call (Value.ref _) _) _ _ _)); (first | (k_unfold; (try dsimp only)) | walk1 | (dsimp only; walk1) | (leave1; try dsimp only)))
                    (rename Fr _ _ _ _ => Fb); (rename News _ _ _ _ => Nb)
                    refine item_val (j := i + 1 + j) Nb (by k_mem) hx2 (by omega) (by omega) (by with_unfolding_all rfl) ?_
                    repeat' ((fail_if_success (with_reducible show KswEnd _ _ _ _ _ _ _ _ _ _ _ _)); (fail_if_success (with_reducible show wpAny _ _ (exec (Stmt.While _ _ _ _) _) _ _ _)); (fail_if_success (with_reducible show wpAny _ _ (pyIter _) _ _ _)); (fail_if_success (with_reducible show wpAny _ _ (compareOp _ (Value.ref _) (Value.ref _)) _ _ _)); (fail_if_success (with_reducible show wpAny _ _ (subscriptTail _ _ _ _) _ _ _)); (fail_if_success (with_reducible show wpAny _ _ (call (Value.ref _) _) _ _ _)); (first | (k_unfold; (try dsimp only)) | walk1 | (dsimp only; walk1) | (leave1; try dsimp only)))
                    (rename Fr _ _ _ _ => Fc); (rename News _ _ _ _ => Nc)
                    k_dflt (refine' equal_use s₀ mg mb (H1.mono (fun q hq => by simp only [List.mem_cons, List.mem_append]; simp only [hq, true_or, or_true])) (H2.mono (fun q hq => by simp only [List.mem_cons, List.mem_append]; simp only [hq, true_or, or_true])) _ _ _ _ _ _ _ _ _ _ _ _ _ _ _ _ _ ?sa2 Fc ?sb2 Nc ?sc2 ?sd2 trivial ?se2 ?sf2 ?_)
                    case sa2 => k_asm
                    case sb2 => k_asm
                    case sc2 => k_asm
                    case sd2 => exact rfl
                    case se2 => ktr_room
                    case sf2 => ktr_units
                    intro hB9 tkB9 FB NB
                    (try dsimp only)
                    rw [heq]
                    generalize hE : shEq (shpP p i) (shpP p (i + 1 + j)) = eb
                    (try clear Fc)
                    (try clear Nc)
                    repeat' ((fail_if_success (with_reducible show KswEnd _ _ _ _ _ _ _ _ _ _ _ _)); (fail_if_success (with_reducible show wpAny _ _ (exec (Stmt.While _ _ _ _) _) _ _ _)); (fail_if_success (with_reducible show wpAny _ _ (pyIter _) _ _ _)); (fail_if_success (with_reducible show wpAny _ _ (compareOp _ (Value.ref _) (Value.ref _)) _ _ _)); (fail_if_success (with_reducible show wpAny _ _ (subscriptTail _ _ _ _) _ _ _)); (fail_if_success (with_reducible show wpAny _ _ (call (Value.ref _) _) _ _ _)); (first | (k_unfold; (try dsimp only)) | walk1 | (dsimp only; walk1) | (leave1; try dsimp only)))
                    (rename Fr _ _ _ _ => Fd); (rename News _ _ _ _ => Nd)
                    refine item_val (j := i) Nd (by k_mem) hy1 (by omega) (by omega) (by with_unfolding_all rfl) ?_
                    repeat' ((fail_if_success (with_reducible show KswEnd _ _ _ _ _ _ _ _ _ _ _ _)); (fail_if_success (with_reducible show wpAny _ _ (exec (Stmt.While _ _ _ _) _) _ _ _)); (fail_if_success (with_reducible show wpAny _ _ (pyIter _) _ _ _)); (fail_if_success (with_reducible show wpAny _ _ (compareOp _ (Value.ref _) (Value.ref _)) _ _ _)); (fail_if_success (with_reducible show wpAny _ _ (subscriptTail _ _ _ _) _ _ _)); (fail_if_success (with_reducible show wpAny _ _ (call (Value.ref _) _) _ _ _)); (first | (k_unfold; (try dsimp only)) | walk1 | (dsimp only; walk1) | (leave1; try dsimp only)))
                    (rename Fr _ _ _ _ => Fe); (rename News _ _ _ _ => Ne)
                    refine item_val (j := i + 1 + j) Ne (by k_mem) hy2 (by omega) (by omega) (by with_unfolding_all rfl) ?_
                    repeat' ((fail_if_success (with_reducible show KswEnd _ _ _ _ _ _ _ _ _ _ _ _)); (fail_if_success (with_reducible show wpAny _ _ (exec (Stmt.While _ _ _ _) _) _ _ _)); (fail_if_success (with_reducible show wpAny _ _ (pyIter _) _ _ _)); (fail_if_success (with_reducible show wpAny _ _ (compareOp _ (Value.ref _) (Value.ref _)) _ _ _)); (fail_if_success (with_reducible show wpAny _ _ (subscriptTail _ _ _ _) _ _ _)); (fail_if_success (with_reducible show wpAny _ _ (call (Value.ref _) _) _ _ _)); (first | (k_unfold; (try dsimp only)) | walk1 | (dsimp only; walk1) | (leave1; try dsimp only)))
                    refine cmp_ofEq ?_
                    (rename Fr _ _ _ _ => Ff); (rename News _ _ _ _ => Nf)
                    refine shp_at Nf (Y1.mono (fun q hq => by simp only [List.mem_cons, List.mem_append]; simp only [hq, true_or, or_true]) _ _) (Y2.mono (fun q hq => by simp only [List.mem_cons, List.mem_append]; simp only [hq, true_or, or_true]) _ _) ?hu _ _ _ _ ?_
                    case hu => ktr_units
                    rw [hE]
                    repeat' ((fail_if_success (with_reducible show KswEnd _ _ _ _ _ _ _ _ _ _ _ _)); (fail_if_success (with_reducible show wpAny _ _ (exec (Stmt.While _ _ _ _) _) _ _ _)); (fail_if_success (with_reducible show wpAny _ _ (pyIter _) _ _ _)); (fail_if_success (with_reducible show wpAny _ _ (compareOp _ (Value.ref _) (Value.ref _)) _ _ _)); (fail_if_success (with_reducible show wpAny _ _ (subscriptTail _ _ _ _) _ _ _)); (fail_if_success (with_reducible show wpAny _ _ (call (Value.ref _) _) _ _ _)); (first | (k_unfold; (try dsimp only)) | walk1 | (dsimp only; walk1) | (leave1; try dsimp only)))
                    (try (focus (exfalso; (rename (eb != eb) = true => hne); (simp at hne; done))))
                    · (rename Fr _ _ _ _ => Fg); (rename News _ _ _ _ => Ng)
                      refine for_end () Fg Ng ?hn3 ?ho3 off2 trivial (by intro p hp; exact nomatch hp) (by kst_same) trivial
                      case hn3 =>
                        intro p hp
                        rw [hZ2] at hp
                        simp only [List.mem_cons, List.mem_append, List.not_mem_nil, or_false] at hp ⊢
                        rcases hp with h | h | h | h | h | h | h | h | h <;> simp only [h, true_or, or_true]
                      case ho3 =>
                        intro p hp
                        simp only [List.mem_cons, List.mem_append, List.not_mem_nil, or_false] at hp ⊢
                        simp only [hp, true_or, or_true]
                case done2 =>
                  clear R FR NR KR
                  (try clear N4); (try clear N9); (try clear F4)
                  rintro _ u2 h2 tk2 _ _ F4 N4
                  dsimp only [kstB] at F4
                  dsimp only at *
                  (try k_fold)
                  rw [hZ2] at N4
                  have mk := kstMark
                  repeat' ((fail_if_success (with_reducible show KswEnd _ _ _ _ _ _ _ _ _ _ _ _)); (fail_if_success (with_reducible show wpAny _ _ (exec (Stmt.While _ _ _ _) _) _ _ _)); (fail_if_success (with_reducible show wpAny _ _ (pyIter _) _ _ _)); (first | (k_unfold; (try dsimp only)) | walk1 | (dsimp only; walk1) | (leave1; try dsimp only)))
                  (rename Fr _ _ _ _ => F5); (rename News _ _ _ _ => N5)
                  refine for_end () F5 N5 ?hn3 ?ho3 off trivial (by intro p hp; exact nomatch hp) (by kst_same) trivial
                  case hn3 =>
                    intro p hp
                    rw [hZ] at hp
                    simp only [List.mem_cons, List.mem_append] at hp ⊢
                    rcases hp with h | h | h | h | h | h | h | h <;> simp only [h, true_or, or_true]
                  case ho3 =>
                    intro p hp
                    simp only [List.mem_cons, List.mem_append] at hp ⊢
                    simp only [hp, true_or, or_true]
              case done =>
                clear R FR NR KR; (try clear N7); (try clear N8); (try clear F7)
                rintro _ u h tk _ _ F4 N4
                dsimp only [kstB] at F4
                dsimp only at *
                (try k_fold)
                rw [hZ] at N4
                have mk := kstMark
                repeat' ((fail_if_success (with_reducible show KswEnd _ _ _ _ _ _ _ _ _ _ _ _)); (fail_if_success (with_reducible show wpAny _ _ (exec (Stmt.While _ _ _ _) _) _ _ _)); (fail_if_success (with_reducible show wpAny _ _ (pyIter _) _ _ _)); (fail_if_success (with_reducible show wpAny _ _ (exec (Stmt.For _ _ _ _ _) _) _ _ _)); (first | (k_unfold; (try dsimp only)) | walk1 | (dsimp only; walk1) | (leave1; try dsimp only)))
                (rename Fr _ _ _ _ => F5); (rename News _ _ _ _ => N5)
                w_top off
                refine For_turns F5 ?_
                obtain ⟨Z3, hZ3, N9⟩ : ∃ l : Led, l = _ ∧ News _ _ _ l := ⟨_, rfl, N5⟩
                repeat' ((fail_if_success (with_reducible show KswEnd _ _ _ _ _ _ _ _ _ _ _ _)); (fail_if_success (with_reducible show wpAny _ _ (exec (Stmt.While _ _ _ _) _) _ _ _)); (fail_if_success (with_reducible show wpAny _ _ (exec (Stmt.For _ _ _ _ _) _) _ _ _)); (fail_if_success (with_reducible show wpAny _ _ (pyIter _) _ _ _)); (first | (k_unfold; (try dsimp only)) | walk1 | (dsimp only; walk1) | (leave1; try dsimp only)))
                (rename Fr _ _ _ _ => F6); (rename News _ _ _ _ => N6)
                with_unfolding_all
                  refine' for_l5 (σ := Unit) (vs := qv) (cap := qc) (ws := stkP p) (tl := ex) (fun _ => Z3) (fun _ => []) (fun _ => True) [Str.ofString "first", Str.ofString "last", Str.ofString "ahead", Str.ofString "behind", Str.ofString "shut", Str.ofString "witness"] (fun _ _ => True) (fun _ _ => False) () rfl rfl F6 ?kn ?km hQ ?ktl trivial ?kk trivial ?k1 ?k2 ?k3 ?k4 ?k5 ?k6 ?turn ?done
                case kn => exact N6
                case km => intro _; rw [hZ3]; exact .tail _ (.head _)
                case ktl =>
                  intro _ q hq
                  rw [hZ3]
                  simp only [List.mem_cons, List.mem_append]; simp only [hq, true_or, or_true]
                case kk => intro q hq; exact nomatch hq
                case k1 => rfl
                case k2 => rfl
                case k3 => rfl
                case k4 => rfl
                case k5 => rfl
                case k6 => rfl
                case turn =>
                  (try clear F6); (try clear N6); (try clear F5); (try clear N5); (try clear N9)
                  rintro i x y z q sh t u e r _ m' h tk own hw off _ _ F4 N4
                  dsimp only [kstB] at F4
                  dsimp only at *
                  (try k_fold)
                  rw [hZ3] at N4
                  simp only [List.cons_append, List.nil_append] at N4
                  have mk := kstMark
                  repeat' ((fail_if_success (with_reducible show KswEnd _ _ _ _ _ _ _ _ _ _ _ _)); (fail_if_success (with_reducible show wpAny _ _ (exec (Stmt.While _ _ _ _) _) _ _ _)); (fail_if_success (with_reducible show wpAny _ _ (pyIter _) _ _ _)); (fail_if_success (with_reducible show wpAny _ _ (compareOp _ (Value.ref _) (Value.ref _)) _ _ _)); (fail_if_success (with_reducible show wpAny _ _ (subscriptTail _ _ _ _) _ _ _)); (fail_if_success (with_reducible show wpAny _ _ (call (Value.ref _) _) _ _ _)); (first | (k_unfold; (try dsimp only)) | walk1 | (dsimp only; walk1) | (leave1; try dsimp only)))
                  have hws := List.mem_of_getElem? hw
                  obtain ⟨a1, a2, a3, a4, a5, a6, a7, a8, hwit⟩ := stk_ok hpp hws
                  obtain ⟨b1, b2, b3, b4, b5, b6⟩ := stk_split hpp hws
                  have hrl2 : row.length + 1 = p.length + 2 := by omega
                  have hxn : x.toNat < p.length + 2 := by omega
                  have hyn : y.toNat < p.length + 2 := by omega
                  obtain ⟨tl1, htl1⟩ := hJl.get x.toNat (strP (leadP p x.toNat)) (by rw [List.getElem?_map, List.getElem?_range hxn]; rfl)
                  obtain ⟨tl2, htl2⟩ := hJl.get y.toNat (strP (leadP p y.toNat)) (by rw [List.getElem?_map, List.getElem?_range hyn]; rfl)
                  obtain ⟨x1, hx1, H1⟩ := hJH.at (i := x.toNat) (b := hdP p x.toNat) (by rw [List.getElem?_map, List.getElem?_range (by omega)]; rfl)
                  obtain ⟨x2, hx2, H2⟩ := hJH.at (i := y.toNat) (b := hdP p y.toNat) (by rw [List.getElem?_map, List.getElem?_range (by omega)]; rfl)
                  have hl1 := leadP_len (p := p) (k := x.toNat) (by omega)
                  have hl2 := leadP_len (p := p) (k := y.toNat) (by omega)
                  (rename Fr _ _ _ _ => F7); (rename News _ _ _ _ => N7)
                  refine item_val (j := x.toNat) N7 (by k_mem) htl1 (by omega) (by omega) (by with_unfolding_all rfl) ?_
                  repeat' ((fail_if_success (with_reducible show KswEnd _ _ _ _ _ _ _ _ _ _ _ _)); (fail_if_success (with_reducible show wpAny _ _ (exec (Stmt.While _ _ _ _) _) _ _ _)); (fail_if_success (with_reducible show wpAny _ _ (pyIter _) _ _ _)); (fail_if_success (with_reducible show wpAny _ _ (compareOp _ (Value.ref _) (Value.ref _)) _ _ _)); (fail_if_success (with_reducible show wpAny _ _ (subscriptTail _ _ _ _) _ _ _)); (fail_if_success (with_reducible show wpAny _ _ (call (Value.ref _) _) _ _ _)); (first | (k_unfold; (try dsimp only)) | walk1 | (dsimp only; walk1) | (leave1; try dsimp only)))
                  (rename Fr _ _ _ _ => F8); (rename News _ _ _ _ => N8)
                  refine item_val (j := y.toNat) N8 (by k_mem) htl2 (by omega) (by omega) (by with_unfolding_all rfl) ?_
                  repeat' ((fail_if_success (with_reducible show KswEnd _ _ _ _ _ _ _ _ _ _ _ _)); (fail_if_success (with_reducible show wpAny _ _ (exec (Stmt.While _ _ _ _) _) _ _ _)); (fail_if_success (with_reducible show wpAny _ _ (pyIter _) _ _ _)); (fail_if_success (with_reducible show wpAny _ _ (compareOp _ (Value.ref _) (Value.ref _)) _ _ _)); (fail_if_success (with_reducible show wpAny _ _ (subscriptTail _ _ _ _) _ _ _)); (fail_if_success (with_reducible show wpAny _ _ (call (Value.ref _) _) _ _ _)); (first | (k_unfold; (try dsimp only)) | walk1 | (dsimp only; walk1) | (leave1; try dsimp only)))
                  (rename Fr _ _ _ _ => F9); (rename News _ _ _ _ => N9)
                  k_dflt (refine' lwit_spec w s₀ mg mb _ (strP (leadP p x.toNat)) (strP (leadP p y.toNat)) z q _ _ _ _ sh _ (mxP p x.toNat y.toNat) _ _ _ _ _ _ _ _ _ _ _ _ _ _ _ _ _ ?sa1 F9 ?sb1 N9 ?sc1 ?sd1 ⟨by rw [strP_length]; omega, by rw [strP_length]; omega, a5, a7, a6, a8, b1, b2, b3, b4, b5, b6⟩ ?se1 ?sf1 ?_)
                  case sa1 => k_asm
                  case sb1 => k_asm
                  case sc1 => k_asm
                  case sd1 => exact rfl
                  case se1 => ktr_room
                  case sf1 => ktr_units
                  intro lw wv wc exW hW9 tkW FW NW hTW
                  (try dsimp only)
                  replace NW := news_rot NW
                  simp only [List.cons_append, List.append_assoc] at NW
                  (try clear F9)
                  (try clear N9)
                  repeat' ((fail_if_success (with_reducible show KswEnd _ _ _ _ _ _ _ _ _ _ _ _)); (fail_if_success (with_reducible show wpAny _ _ (exec (Stmt.While _ _ _ _) _) _ _ _)); (fail_if_success (with_reducible show wpAny _ _ (pyIter _) _ _ _)); (fail_if_success (with_reducible show wpAny _ _ (compareOp _ (Value.ref _) (Value.ref _)) _ _ _)); (fail_if_success (with_reducible show wpAny _ _ (subscriptTail _ _ _ _) _ _ _)); (fail_if_success (with_reducible show wpAny _ _ (call (Value.ref _) _) _ _ _)); (first | (k_unfold; (try dsimp only)) | walk1 | (dsimp only; walk1) | (leave1; try dsimp only)))
                  (rename Fr _ _ _ _ => Fa); (rename News _ _ _ _ => Na)
                  refine item_val (j := x.toNat) Na (by k_mem) hx1 (by omega) (by omega) (by with_unfolding_all rfl) ?_
                  obtain ⟨dx1, tp1, tc1, v1, T1, hm1, hi1⟩ := id H1
                  obtain ⟨dx2, tp2, tc2, v2, T2, hm2, hi2⟩ := id H2
                  have Nb := news_add Na (ps := headLed w x1 dx1 tp1 tc1 v1 (hdP p x.toNat) T1 ++ headLed w x2 dx2 tp2 tc2 v2 (hdP p y.toNat) T2) (fun q hq => by
                    have hq' : q ∈ ex := (List.mem_append.mp hq).elim (hm1 q) (hm2 q)
                    simp only [List.mem_cons, List.mem_append]; simp only [hq', true_or, or_true])
                  clear Na
                  simp only [headLed, List.cons_append, List.nil_append] at Nb
                  repeat' ((fail_if_success (with_reducible show KswEnd _ _ _ _ _ _ _ _ _ _ _ _)); (fail_if_success (with_reducible show wpAny _ _ (exec (Stmt.While _ _ _ _) _) _ _ _)); (fail_if_success (with_reducible show wpAny _ _ (pyIter _) _ _ _)); (fail_if_success (with_reducible show wpAny _ _ (compareOp _ (Value.ref _) (Value.ref _)) _ _ _)); (fail_if_success (with_reducible show wpAny _ _ (subscriptTail _ _ _ _) _ _ _)); (fail_if_success (with_reducible show wpAny _ _ (call (Value.ref _) _) _ _ _)); (first | (k_unfold; (try dsimp only)) | walk1 | (dsimp only; walk1) | (leave1; try dsimp only)))
                  (rename Fr _ _ _ _ => Fc); (rename News _ _ _ _ => Nc)
                  refine item_val (j := y.toNat) Nc (by k_mem) hx2 (by omega) (by omega) (by with_unfolding_all rfl) ?_
                  repeat' ((fail_if_success (with_reducible show KswEnd _ _ _ _ _ _ _ _ _ _ _ _)); (fail_if_success (with_reducible show wpAny _ _ (exec (Stmt.While _ _ _ _) _) _ _ _)); (fail_if_success (with_reducible show wpAny _ _ (pyIter _) _ _ _)); (fail_if_success (with_reducible show wpAny _ _ (compareOp _ (Value.ref _) (Value.ref _)) _ _ _)); (fail_if_success (with_reducible show wpAny _ _ (subscriptTail _ _ _ _) _ _ _)); (fail_if_success (with_reducible show wpAny _ _ (call (Value.ref _) _) _ _ _)); (first | (k_unfold; (try dsimp only)) | walk1 | (dsimp only; walk1) | (leave1; try dsimp only)))
                  (rename Fr _ _ _ _ => Fd); (rename News _ _ _ _ => Nd)
                  k_dflt (refine' witness_use s₀ mg mb (H1.mono (fun q hq => by simp only [List.mem_cons, List.mem_append]; simp only [hq, true_or, or_true])) (H2.mono (fun q hq => by simp only [List.mem_cons, List.mem_append]; simp only [hq, true_or, or_true])) _ _ _ _ _ _ _ _ _ _ _ _ _ _ _ _ _ ?sa2 Fd ?sb2 Nd ?sc2 ?sd2 ⟨hd_ok hpp (by omega), hd_ok hpp (by omega)⟩ ?se2 ?sf2 ?_)
                  case sa2 => k_asm
                  case sb2 => k_asm
                  case sc2 => k_asm
                  case sd2 => exact rfl
                  case se2 => ktr_room
                  case sf2 => ktr_units
                  intro lv vv vc exV hV9 tkV FV NV hTV
                  (try dsimp only)
                  replace NV := news_rot NV
                  simp only [List.cons_append, List.append_assoc] at NV
                  rw [hwit] at hTV
                  (try clear Fd)
                  (try clear Nd)
                  repeat' ((fail_if_success (with_reducible show KswEnd _ _ _ _ _ _ _ _ _ _ _ _)); (fail_if_success (with_reducible show wpAny _ _ (exec (Stmt.While _ _ _ _) _) _ _ _)); (fail_if_success (with_reducible show wpAny _ _ (pyIter _) _ _ _)); (fail_if_success (with_reducible show wpAny _ _ (compareOp _ (Value.ref _) (Value.ref _)) _ _ _)); (fail_if_success (with_reducible show wpAny _ _ (subscriptTail _ _ _ _) _ _ _)); (fail_if_success (with_reducible show wpAny _ _ (call (Value.ref _) _) _ _ _)); (first | (k_unfold; (try dsimp only)) | walk1 | (dsimp only; walk1) | (leave1; try dsimp only)))
                  refine cmp_ofNotEq ?_
                  (rename Fr _ _ _ _ => Fe); (rename News _ _ _ _ => Ne)
                  refine rcne_same Ne (.head _) (by k_mem) (hTV.mono (fun q hq => by simp only [List.mem_cons, List.mem_append]; simp only [hq, true_or, or_true])) (hTW.mono (fun q hq => by simp only [List.mem_cons, List.mem_append]; simp only [hq, true_or, or_true])) ?hu _ _ _ _ ?_
                  case hu => ktr_units
                  repeat' ((fail_if_success (with_reducible show KswEnd _ _ _ _ _ _ _ _ _ _ _ _)); (fail_if_success (with_reducible show wpAny _ _ (exec (Stmt.While _ _ _ _) _) _ _ _)); (fail_if_success (with_reducible show wpAny _ _ (pyIter _) _ _ _)); (fail_if_success (with_reducible show wpAny _ _ (compareOp _ (Value.ref _) (Value.ref _)) _ _ _)); (fail_if_success (with_reducible show wpAny _ _ (subscriptTail _ _ _ _) _ _ _)); (fail_if_success (with_reducible show wpAny _ _ (call (Value.ref _) _) _ _ _)); (first | (k_unfold; (try dsimp only)) | walk1 | (dsimp only; walk1) | (leave1; try dsimp only)))
                  (rename Fr _ _ _ _ => Fg); (rename News _ _ _ _ => Ng)
                  refine for_end () Fg Ng ?hn3 ?ho3 off trivial (by intro p hp; exact nomatch hp) (by kst_same) trivial
                  case hn3 =>
                    intro p hp
                    rw [hZ3] at hp
                    simp only [List.mem_cons, List.mem_append, List.not_mem_nil, or_false] at hp ⊢
                    rcases hp with h | h | h | h | h | h | h | h <;> simp only [h, true_or, or_true]
                  case ho3 =>
                    intro p hp
                    simp only [List.mem_cons, List.mem_append, List.not_mem_nil, or_false] at hp ⊢
                    simp only [hp, true_or, or_true]
                case done =>
                  (try clear F6); (try clear N6); (try clear F5); (try clear N5); (try clear N9)
                  rintro _ u h tk _ _ F4 N4
                  dsimp only [kstB] at F4
                  dsimp only at *
                  (try k_fold)
                  rw [hZ3] at N4
                  have mk := kstMark
                  repeat' ((fail_if_success (with_reducible show KswEnd _ _ _ _ _ _ _ _ _ _ _ _)); (fail_if_success (with_reducible show wpAny _ _ (exec (Stmt.While _ _ _ _) _) _ _ _)); (fail_if_success (with_reducible show wpAny _ _ (pyIter _) _ _ _)); (fail_if_success (with_reducible show wpAny _ _ (exec (Stmt.For _ _ _ _ _) _) _ _ _)); (fail_if_success (with_reducible show wpAny _ _ (call (Value.ref _) _) _ _ _)); (first | (k_unfold; (try dsimp only)) | walk1 | (dsimp only; walk1) | (leave1; try dsimp only)))
                  (rename Fr _ _ _ _ => F5); (rename News _ _ _ _ => N5)
                  w_top off
                  have hrl3 := rul_len hpp hkind
                  (rename Fr _ _ _ _ => F8); (rename News _ _ _ _ => N8)
                  have N9 := news_add N8 (ps := [(lu, listOf uv.toArray uc)]) (fun q hq => by rw [List.mem_singleton.mp hq]; simp)
                  simp only [List.cons_append, List.nil_append] at N9
                  k_dflt (refine' refused_spec w s₀ mg mb _ lu uv uc (rulP p (nums.sum.fmod 3)) _ _ _ _ _ _ _ _ _ _ _ _ _ _ _ _ ?a1 ?a2 ?a3 F8 ?a4 N9 ?a5 ?a6 ⟨hIR, hrl3⟩ hbG ?a7 ?a8 ?_)
                  case a1 => exact KX
                  case a2 => exact T
                  case a3 => k_asm
                  case a4 => k_asm
                  case a5 => k_asm
                  case a6 => exact rfl
                  case a7 => ktr_room
                  case a8 => ktr_units
                  intro g8 h8 tk8 hst hb8
                  (try dsimp only)
                  clear F8 N8 N9 hIR
                  repeat' ((fail_if_success (with_reducible show KswEnd _ _ _ _ _ _ _ _ _ _ _ _)); (fail_if_success (with_reducible show wpAny _ _ (exec (Stmt.While _ _ _ _) _) _ _ _)); (fail_if_success (with_reducible show wpAny _ _ (pyIter _) _ _ _)); (first | (k_unfold; (try dsimp only)) | walk1 | (dsimp only; walk1) | (leave1; try dsimp only)))
                  refine ⟨.inl ⟨.bool true, .bool true, [], rfl, ?hn, .bool true, ?hp, ?hu⟩, .of_keep hst, rfl, hb8⟩
                  case hn => intro _; rfl
                  case hp => wrow_post
                  case hu => intro _; exact ⟨List.nodup_nil, fun a ha => nomatch ha⟩
end Mine
end
theorem PySem.Challenge.cw_sh0037_01_holds : PySem.Challenge.rw_sh0037_01.Holds :=
  Mine.law_holds
