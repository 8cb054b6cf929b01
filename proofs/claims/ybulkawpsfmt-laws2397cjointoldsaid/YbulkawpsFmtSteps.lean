import Derived.Test.YbulkawpsFmtState
import Derived.Deep.LoopGhost
import Derived.Deep.DeepCutAuto
/- The law C-Script: what it is handed, what holds at its loop's head. -/
namespace Go.Proofs.YbulkawpsFmt
open Go.RowKit
set_option linter.unusedVariables false
set_option maxRecDepth 100000
/-- one step of a script, as the law is handed it -/
structure St where
  sh : Nat
  su : Nat
  th : Nat
  op : Nat
def StepsArg (w : World) (a : Option Addr) (S : List St) : Prop := ∀ (i : Nat) (d : St), S[i]? = some d → ∃ b o, a = some (⟨b, o, none⟩ : Addr) ∧ w.cell? ⟨b, o + i * 4, none⟩ = some (.int .u8 d.sh) ∧ w.cell? ⟨b, o + i * 4 + 1, none⟩ = some (.int .u8 d.su) ∧
  w.cell? ⟨b, o + i * 4 + 2, none⟩ = some (.int .u8 d.th) ∧ w.cell? ⟨b, o + i * 4 + 3, none⟩ = some (.int .u8 d.op) ∧ d.sh < 256 ∧ d.su < 256 ∧ d.th < 256 ∧ d.op < 256
theorem th_arr {a : Nat} {t : ByteArray} (h : thS[a]? = some t) : (#[.string ⟨#[49]⟩, .string ⟨#[50]⟩, .string ⟨#[51]⟩] : Array Value)[a]? = some (.string t) := by
  rcases th_cases h with ⟨rfl, rfl⟩ | ⟨rfl, rfl⟩ | ⟨rfl, rfl⟩ <;> rfl
theorem va_arr {a : Nat} {t : ByteArray} (h : vaS[a]? = some t) : (#[.string ⟨#[120]⟩, .string ⟨#[121]⟩, .string ⟨#[122]⟩] : Array Value)[a]? = some (.string t) := by
  rcases va_cases h with ⟨rfl, rfl⟩ | ⟨rfl, rfl⟩ | ⟨rfl, rfl⟩ <;> rfl
/-- what holds at the loop's head -/
def Inv (w0 wr : World) (base r ms mw mj ma a3 a4 a7 a8 i : Nat) (wv : Value) : Prop := ∃ ns nw tv qv L Ds Dw WM SM, J w0 wr base r ms mw mj ma a3 a4 a7 a8 ns nw tv qv wv L L Ds Dw WM SM ∧ Tab vaS Dw WM ∧ Tab thS Ds SM ∧ L.length ≤ 2 * i ∧ ns ≤ i ∧ nw ≤ i
/-- a round begins -/
structure Hd (w wr : World) (base r ms mw mj ma a4 a7 a8 n i b o sh su th op ti xi ns nw : Nat) (tv qv c6 : Value) (L : List It) (Ds Dw : DataW Unit) (WM SM : Nat → Bool) : Prop where
  j : J w wr base r ms mw mj ma base a4 a7 a8 ns nw tv qv c6 L L Ds Dw WM SM
  tw : Tab vaS Dw WM
  ts : Tab thS Ds SM
  ll : L.length ≤ 2 * i
  hns : ns ≤ i
  hnw : nw ≤ i
  nu : Nums base r ms mw mj ma a7 a8
  y0 : wr.cell? ⟨b, o + i * 4, none⟩ = some (.int .u8 sh)
  y1 : wr.cell? ⟨b, o + i * 4 + 1, none⟩ = some (.int .u8 su)
  y2 : wr.cell? ⟨b, o + i * 4 + 2, none⟩ = some (.int .u8 th)
  y3 : wr.cell? ⟨b, o + i * 4 + 3, none⟩ = some (.int .u8 op)
  q0 : sh < 256
  q1 : su < 256
  q2 : th < 256
  q3 : op < 256
  eti : th % 3 = ti
  exi : op % 3 = xi
  hti3 : ti < 3
  hxi3 : xi < 3
  hlt : i < n
  hn' : n ≤ 1024
/-- the body of a function's first loop -/
def firstLoop : Code → Option Code
  | .loop c => some c
  | .seq a b => match firstLoop a with
    | some c => some c
    | none => firstLoop b
  | .block _ c => firstLoop c
  | .scope c => firstLoop c
  | .cond _ a b => match firstLoop a with
    | some c => some c
    | none => firstLoop b
  | _ => none
end Go.Proofs.YbulkawpsFmt
