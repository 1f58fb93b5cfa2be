import PyProof.Rows.All
import PyProof.MinMaxWalk
import PyProof.DictCompW
import PyProof.EnumFor
import PyProof.ListStr
import PyProof.WalkInts
import PyProof.MaxThree
import PyProof.Rows.StrInSeq3
import ObjForm.Fk.ObjNew
import ObjForm.Fk.InstLoad
import OpenK.KDescr
import KE.KItem
import KE.KDictIter
import Wide.FinOn
import OpenK.AllK
import Wide.All
import Lean
import PySem.Challenge.RW_st0028_01
set_option linter.all false
set_option genSizeOf false
set_option genInjectivity false
set_option compiler.extract_closed false
set_option bootstrap.genMatcherCode false
set_option genSizeOf false
set_option genInjectivity false
open PySem PySem.W PySem.Calls PyProof.Rows
set_option Elab.async false
set_option maxRecDepth 100000
set_option maxHeartbeats 4000000
namespace Mine
theorem e0a2 {A1 A2 : Prop} {G : Prop} (h : A1 ∧ A2) (f : A1 → A2 → G) : G := f h.1 h.2
theorem e0a3 {A1 A2 A3 : Prop} {G : Prop} (h : A1 ∧ A2 ∧ A3) (f : A1 → A2 → A3 → G) : G := f h.1 h.2.1 h.2.2
theorem e0a4 {A1 A2 A3 A4 : Prop} {G : Prop} (h : A1 ∧ A2 ∧ A3 ∧ A4) (f : A1 → A2 → A3 → A4 → G) : G := f h.1 h.2.1 h.2.2.1 h.2.2.2
theorem e0a5 {A1 A2 A3 A4 A5 : Prop} {G : Prop} (h : A1 ∧ A2 ∧ A3 ∧ A4 ∧ A5) (f : A1 → A2 → A3 → A4 → A5 → G) : G := f h.1 h.2.1 h.2.2.1 h.2.2.2.1 h.2.2.2.2
theorem e0a6 {A1 A2 A3 A4 A5 A6 : Prop} {G : Prop} (h : A1 ∧ A2 ∧ A3 ∧ A4 ∧ A5 ∧ A6) (f : A1 → A2 → A3 → A4 → A5 → A6 → G) : G := f h.1 h.2.1 h.2.2.1 h.2.2.2.1 h.2.2.2.2.1 h.2.2.2.2.2
theorem e0a7 {A1 A2 A3 A4 A5 A6 A7 : Prop} {G : Prop} (h : A1 ∧ A2 ∧ A3 ∧ A4 ∧ A5 ∧ A6 ∧ A7) (f : A1 → A2 → A3 → A4 → A5 → A6 → A7 → G) : G := f h.1 h.2.1 h.2.2.1 h.2.2.2.1 h.2.2.2.2.1 h.2.2.2.2.2.1 h.2.2.2.2.2.2
theorem e0a8 {A1 A2 A3 A4 A5 A6 A7 A8 : Prop} {G : Prop} (h : A1 ∧ A2 ∧ A3 ∧ A4 ∧ A5 ∧ A6 ∧ A7 ∧ A8) (f : A1 → A2 → A3 → A4 → A5 → A6 → A7 → A8 → G) : G := f h.1 h.2.1 h.2.2.1 h.2.2.2.1 h.2.2.2.2.1 h.2.2.2.2.2.1 h.2.2.2.2.2.2.1 h.2.2.2.2.2.2.2
theorem e0a9 {A1 A2 A3 A4 A5 A6 A7 A8 A9 : Prop} {G : Prop} (h : A1 ∧ A2 ∧ A3 ∧ A4 ∧ A5 ∧ A6 ∧ A7 ∧ A8 ∧ A9) (f : A1 → A2 → A3 → A4 → A5 → A6 → A7 → A8 → A9 → G) : G := f h.1 h.2.1 h.2.2.1 h.2.2.2.1 h.2.2.2.2.1 h.2.2.2.2.2.1 h.2.2.2.2.2.2.1 h.2.2.2.2.2.2.2.1 h.2.2.2.2.2.2.2.2
theorem e1a1 {α1 : Type} {A1 : α1 → Prop} {G : Prop} (h : ∃ x1, A1 x1) (f : ∀ x1, A1 x1 → G) : G := match h with | ⟨x1, h⟩ => f x1 h
theorem e1a2 {α1 : Type} {A1 A2 : α1 → Prop} {G : Prop} (h : ∃ x1, A1 x1 ∧ A2 x1) (f : ∀ x1, A1 x1 → A2 x1 → G) : G := e1a1 h fun x1 h => f x1 h.1 h.2
theorem e1a3 {α1 : Type} {A1 A2 A3 : α1 → Prop} {G : Prop} (h : ∃ x1, A1 x1 ∧ A2 x1 ∧ A3 x1) (f : ∀ x1, A1 x1 → A2 x1 → A3 x1 → G) : G := e1a1 h fun x1 h => f x1 h.1 h.2.1 h.2.2
theorem e1a4 {α1 : Type} {A1 A2 A3 A4 : α1 → Prop} {G : Prop} (h : ∃ x1, A1 x1 ∧ A2 x1 ∧ A3 x1 ∧ A4 x1) (f : ∀ x1, A1 x1 → A2 x1 → A3 x1 → A4 x1 → G) : G := e1a1 h fun x1 h => f x1 h.1 h.2.1 h.2.2.1 h.2.2.2
theorem e1a5 {α1 : Type} {A1 A2 A3 A4 A5 : α1 → Prop} {G : Prop} (h : ∃ x1, A1 x1 ∧ A2 x1 ∧ A3 x1 ∧ A4 x1 ∧ A5 x1) (f : ∀ x1, A1 x1 → A2 x1 → A3 x1 → A4 x1 → A5 x1 → G) : G := e1a1 h fun x1 h => f x1 h.1 h.2.1 h.2.2.1 h.2.2.2.1 h.2.2.2.2
theorem e2a1 {α1 α2 : Type} {A1 : α1 → α2 → Prop} {G : Prop} (h : ∃ x1 x2, A1 x1 x2) (f : ∀ x1 x2, A1 x1 x2 → G) : G := match h with | ⟨x1, x2, h⟩ => f x1 x2 h
theorem e2a2 {α1 α2 : Type} {A1 A2 : α1 → α2 → Prop} {G : Prop} (h : ∃ x1 x2, A1 x1 x2 ∧ A2 x1 x2) (f : ∀ x1 x2, A1 x1 x2 → A2 x1 x2 → G) : G := e2a1 h fun x1 x2 h => f x1 x2 h.1 h.2
theorem e2a3 {α1 α2 : Type} {A1 A2 A3 : α1 → α2 → Prop} {G : Prop} (h : ∃ x1 x2, A1 x1 x2 ∧ A2 x1 x2 ∧ A3 x1 x2) (f : ∀ x1 x2, A1 x1 x2 → A2 x1 x2 → A3 x1 x2 → G) : G := e2a1 h fun x1 x2 h => f x1 x2 h.1 h.2.1 h.2.2
theorem e2a4 {α1 α2 : Type} {A1 A2 A3 A4 : α1 → α2 → Prop} {G : Prop} (h : ∃ x1 x2, A1 x1 x2 ∧ A2 x1 x2 ∧ A3 x1 x2 ∧ A4 x1 x2) (f : ∀ x1 x2, A1 x1 x2 → A2 x1 x2 → A3 x1 x2 → A4 x1 x2 → G) : G := e2a1 h fun x1 x2 h => f x1 x2 h.1 h.2.1 h.2.2.1 h.2.2.2
theorem e2a5 {α1 α2 : Type} {A1 A2 A3 A4 A5 : α1 → α2 → Prop} {G : Prop} (h : ∃ x1 x2, A1 x1 x2 ∧ A2 x1 x2 ∧ A3 x1 x2 ∧ A4 x1 x2 ∧ A5 x1 x2) (f : ∀ x1 x2, A1 x1 x2 → A2 x1 x2 → A3 x1 x2 → A4 x1 x2 → A5 x1 x2 → G) : G := e2a1 h fun x1 x2 h => f x1 x2 h.1 h.2.1 h.2.2.1 h.2.2.2.1 h.2.2.2.2
theorem e2a6 {α1 α2 : Type} {A1 A2 A3 A4 A5 A6 : α1 → α2 → Prop} {G : Prop} (h : ∃ x1 x2, A1 x1 x2 ∧ A2 x1 x2 ∧ A3 x1 x2 ∧ A4 x1 x2 ∧ A5 x1 x2 ∧ A6 x1 x2) (f : ∀ x1 x2, A1 x1 x2 → A2 x1 x2 → A3 x1 x2 → A4 x1 x2 → A5 x1 x2 → A6 x1 x2 → G) : G := e2a1 h fun x1 x2 h => f x1 x2 h.1 h.2.1 h.2.2.1 h.2.2.2.1 h.2.2.2.2.1 h.2.2.2.2.2
theorem e3a1 {α1 α2 α3 : Type} {A1 : α1 → α2 → α3 → Prop} {G : Prop} (h : ∃ x1 x2 x3, A1 x1 x2 x3) (f : ∀ x1 x2 x3, A1 x1 x2 x3 → G) : G := match h with | ⟨x1, x2, x3, h⟩ => f x1 x2 x3 h
theorem e3a2 {α1 α2 α3 : Type} {A1 A2 : α1 → α2 → α3 → Prop} {G : Prop} (h : ∃ x1 x2 x3, A1 x1 x2 x3 ∧ A2 x1 x2 x3) (f : ∀ x1 x2 x3, A1 x1 x2 x3 → A2 x1 x2 x3 → G) : G := e3a1 h fun x1 x2 x3 h => f x1 x2 x3 h.1 h.2
theorem e3a3 {α1 α2 α3 : Type} {A1 A2 A3 : α1 → α2 → α3 → Prop} {G : Prop} (h : ∃ x1 x2 x3, A1 x1 x2 x3 ∧ A2 x1 x2 x3 ∧ A3 x1 x2 x3) (f : ∀ x1 x2 x3, A1 x1 x2 x3 → A2 x1 x2 x3 → A3 x1 x2 x3 → G) : G := e3a1 h fun x1 x2 x3 h => f x1 x2 x3 h.1 h.2.1 h.2.2
theorem e3a4 {α1 α2 α3 : Type} {A1 A2 A3 A4 : α1 → α2 → α3 → Prop} {G : Prop} (h : ∃ x1 x2 x3, A1 x1 x2 x3 ∧ A2 x1 x2 x3 ∧ A3 x1 x2 x3 ∧ A4 x1 x2 x3) (f : ∀ x1 x2 x3, A1 x1 x2 x3 → A2 x1 x2 x3 → A3 x1 x2 x3 → A4 x1 x2 x3 → G) : G := e3a1 h fun x1 x2 x3 h => f x1 x2 x3 h.1 h.2.1 h.2.2.1 h.2.2.2
theorem e3a5 {α1 α2 α3 : Type} {A1 A2 A3 A4 A5 : α1 → α2 → α3 → Prop} {G : Prop} (h : ∃ x1 x2 x3, A1 x1 x2 x3 ∧ A2 x1 x2 x3 ∧ A3 x1 x2 x3 ∧ A4 x1 x2 x3 ∧ A5 x1 x2 x3) (f : ∀ x1 x2 x3, A1 x1 x2 x3 → A2 x1 x2 x3 → A3 x1 x2 x3 → A4 x1 x2 x3 → A5 x1 x2 x3 → G) : G := e3a1 h fun x1 x2 x3 h => f x1 x2 x3 h.1 h.2.1 h.2.2.1 h.2.2.2.1 h.2.2.2.2
theorem e3a6 {α1 α2 α3 : Type} {A1 A2 A3 A4 A5 A6 : α1 → α2 → α3 → Prop} {G : Prop} (h : ∃ x1 x2 x3, A1 x1 x2 x3 ∧ A2 x1 x2 x3 ∧ A3 x1 x2 x3 ∧ A4 x1 x2 x3 ∧ A5 x1 x2 x3 ∧ A6 x1 x2 x3) (f : ∀ x1 x2 x3, A1 x1 x2 x3 → A2 x1 x2 x3 → A3 x1 x2 x3 → A4 x1 x2 x3 → A5 x1 x2 x3 → A6 x1 x2 x3 → G) : G := e3a1 h fun x1 x2 x3 h => f x1 x2 x3 h.1 h.2.1 h.2.2.1 h.2.2.2.1 h.2.2.2.2.1 h.2.2.2.2.2
theorem e4a1 {α1 α2 α3 α4 : Type} {A1 : α1 → α2 → α3 → α4 → Prop} {G : Prop} (h : ∃ x1 x2 x3 x4, A1 x1 x2 x3 x4) (f : ∀ x1 x2 x3 x4, A1 x1 x2 x3 x4 → G) : G := match h with | ⟨x1, x2, x3, x4, h⟩ => f x1 x2 x3 x4 h
theorem e4a3 {α1 α2 α3 α4 : Type} {A1 A2 A3 : α1 → α2 → α3 → α4 → Prop} {G : Prop} (h : ∃ x1 x2 x3 x4, A1 x1 x2 x3 x4 ∧ A2 x1 x2 x3 x4 ∧ A3 x1 x2 x3 x4) (f : ∀ x1 x2 x3 x4, A1 x1 x2 x3 x4 → A2 x1 x2 x3 x4 → A3 x1 x2 x3 x4 → G) : G := e4a1 h fun x1 x2 x3 x4 h => f x1 x2 x3 x4 h.1 h.2.1 h.2.2
theorem e4a4 {α1 α2 α3 α4 : Type} {A1 A2 A3 A4 : α1 → α2 → α3 → α4 → Prop} {G : Prop} (h : ∃ x1 x2 x3 x4, A1 x1 x2 x3 x4 ∧ A2 x1 x2 x3 x4 ∧ A3 x1 x2 x3 x4 ∧ A4 x1 x2 x3 x4) (f : ∀ x1 x2 x3 x4, A1 x1 x2 x3 x4 → A2 x1 x2 x3 x4 → A3 x1 x2 x3 x4 → A4 x1 x2 x3 x4 → G) : G := e4a1 h fun x1 x2 x3 x4 h => f x1 x2 x3 x4 h.1 h.2.1 h.2.2.1 h.2.2.2
theorem e4a5 {α1 α2 α3 α4 : Type} {A1 A2 A3 A4 A5 : α1 → α2 → α3 → α4 → Prop} {G : Prop} (h : ∃ x1 x2 x3 x4, A1 x1 x2 x3 x4 ∧ A2 x1 x2 x3 x4 ∧ A3 x1 x2 x3 x4 ∧ A4 x1 x2 x3 x4 ∧ A5 x1 x2 x3 x4) (f : ∀ x1 x2 x3 x4, A1 x1 x2 x3 x4 → A2 x1 x2 x3 x4 → A3 x1 x2 x3 x4 → A4 x1 x2 x3 x4 → A5 x1 x2 x3 x4 → G) : G := e4a1 h fun x1 x2 x3 x4 h => f x1 x2 x3 x4 h.1 h.2.1 h.2.2.1 h.2.2.2.1 h.2.2.2.2
theorem e5a1 {α1 α2 α3 α4 α5 : Type} {A1 : α1 → α2 → α3 → α4 → α5 → Prop} {G : Prop} (h : ∃ x1 x2 x3 x4 x5, A1 x1 x2 x3 x4 x5) (f : ∀ x1 x2 x3 x4 x5, A1 x1 x2 x3 x4 x5 → G) : G := match h with | ⟨x1, x2, x3, x4, x5, h⟩ => f x1 x2 x3 x4 x5 h
theorem e5a2 {α1 α2 α3 α4 α5 : Type} {A1 A2 : α1 → α2 → α3 → α4 → α5 → Prop} {G : Prop} (h : ∃ x1 x2 x3 x4 x5, A1 x1 x2 x3 x4 x5 ∧ A2 x1 x2 x3 x4 x5) (f : ∀ x1 x2 x3 x4 x5, A1 x1 x2 x3 x4 x5 → A2 x1 x2 x3 x4 x5 → G) : G := e5a1 h fun x1 x2 x3 x4 x5 h => f x1 x2 x3 x4 x5 h.1 h.2
theorem e6a1 {α1 α2 α3 α4 α5 α6 : Type} {A1 : α1 → α2 → α3 → α4 → α5 → α6 → Prop} {G : Prop} (h : ∃ x1 x2 x3 x4 x5 x6, A1 x1 x2 x3 x4 x5 x6) (f : ∀ x1 x2 x3 x4 x5 x6, A1 x1 x2 x3 x4 x5 x6 → G) : G := match h with | ⟨x1, x2, x3, x4, x5, x6, h⟩ => f x1 x2 x3 x4 x5 x6 h
theorem e6a2 {α1 α2 α3 α4 α5 α6 : Type} {A1 A2 : α1 → α2 → α3 → α4 → α5 → α6 → Prop} {G : Prop} (h : ∃ x1 x2 x3 x4 x5 x6, A1 x1 x2 x3 x4 x5 x6 ∧ A2 x1 x2 x3 x4 x5 x6) (f : ∀ x1 x2 x3 x4 x5 x6, A1 x1 x2 x3 x4 x5 x6 → A2 x1 x2 x3 x4 x5 x6 → G) : G := e6a1 h fun x1 x2 x3 x4 x5 x6 h => f x1 x2 x3 x4 x5 x6 h.1 h.2
theorem e6a3 {α1 α2 α3 α4 α5 α6 : Type} {A1 A2 A3 : α1 → α2 → α3 → α4 → α5 → α6 → Prop} {G : Prop} (h : ∃ x1 x2 x3 x4 x5 x6, A1 x1 x2 x3 x4 x5 x6 ∧ A2 x1 x2 x3 x4 x5 x6 ∧ A3 x1 x2 x3 x4 x5 x6) (f : ∀ x1 x2 x3 x4 x5 x6, A1 x1 x2 x3 x4 x5 x6 → A2 x1 x2 x3 x4 x5 x6 → A3 x1 x2 x3 x4 x5 x6 → G) : G := e6a1 h fun x1 x2 x3 x4 x5 x6 h => f x1 x2 x3 x4 x5 x6 h.1 h.2.1 h.2.2
theorem e7a1 {α1 α2 α3 α4 α5 α6 α7 : Type} {A1 : α1 → α2 → α3 → α4 → α5 → α6 → α7 → Prop} {G : Prop} (h : ∃ x1 x2 x3 x4 x5 x6 x7, A1 x1 x2 x3 x4 x5 x6 x7) (f : ∀ x1 x2 x3 x4 x5 x6 x7, A1 x1 x2 x3 x4 x5 x6 x7 → G) : G := match h with | ⟨x1, x2, x3, x4, x5, x6, x7, h⟩ => f x1 x2 x3 x4 x5 x6 x7 h
theorem e7a2 {α1 α2 α3 α4 α5 α6 α7 : Type} {A1 A2 : α1 → α2 → α3 → α4 → α5 → α6 → α7 → Prop} {G : Prop} (h : ∃ x1 x2 x3 x4 x5 x6 x7, A1 x1 x2 x3 x4 x5 x6 x7 ∧ A2 x1 x2 x3 x4 x5 x6 x7) (f : ∀ x1 x2 x3 x4 x5 x6 x7, A1 x1 x2 x3 x4 x5 x6 x7 → A2 x1 x2 x3 x4 x5 x6 x7 → G) : G := e7a1 h fun x1 x2 x3 x4 x5 x6 x7 h => f x1 x2 x3 x4 x5 x6 x7 h.1 h.2
theorem e8a1 {α1 α2 α3 α4 α5 α6 α7 α8 : Type} {A1 : α1 → α2 → α3 → α4 → α5 → α6 → α7 → α8 → Prop} {G : Prop} (h : ∃ x1 x2 x3 x4 x5 x6 x7 x8, A1 x1 x2 x3 x4 x5 x6 x7 x8) (f : ∀ x1 x2 x3 x4 x5 x6 x7 x8, A1 x1 x2 x3 x4 x5 x6 x7 x8 → G) : G := match h with | ⟨x1, x2, x3, x4, x5, x6, x7, x8, h⟩ => f x1 x2 x3 x4 x5 x6 x7 x8 h
local macro_rules | `(tactic| tm_at "tk") => `(tactic| first | exact Nat.le_refl _ | exact Nat.le_succ _ | omega | (dsimp only; omega))
local macro_rules | `(tactic| obtain ⟨$ps,*⟩ := $e:term) => do
  let el := ps.getElems
  let n := el.size
  if n < 2 then Lean.Macro.throwUnsupported
  let zs := el.mapIdx fun j p =>
    let o := p.raw[0][0]
    if o.getNumArgs == 1 && o[0].isOfKind ``Lean.Parser.Tactic.rcasesPat.one && o[0][0].getId != `rfl then ⟨o[0][0]⟩ else Lean.mkIdent (.mkSimple s!"z_{j}")
  let mut arms := #[]
  for i in [:81] do
    let b := 9 - i / 9
    let m := i % 9 + 1
    if b ≤ n && 2 ≤ b && m ≤ b then
      let nm := Lean.mkIdent (.mkSimple s!"e{b - m}a{m}")
      let hs := zs.extract 0 (b - 1)
      let r := if b == n then zs[n - 1]! else Lean.mkIdent `z_r
      let t ← if b == n then `(tactic| obtain ⟨$el,*⟩ := $[$zs],*) else
        let ls := el.extract 0 (b - 1)
        let rs := el.extract (b - 1) n
        `(tactic| ((obtain ⟨$[$ls],*, _⟩ := $[$hs],*, $r) <;> obtain ⟨$rs,*⟩ := $r))
      arms := arms.push (← `(Lean.Parser.Tactic.tacticSeq| (refine $nm $e ?_; (try clear $e); intro $[$hs]* $r; $t)))
  `(tactic| first $[| $arms:tacticSeq]*)
noncomputable abbrev pr := PySem.Challenge.pw_st0028_01
noncomputable def stAt (p : Program) (i : Nat) : Stmt := (p.main.body[i]?).getD (.Pass ⟨0, 0, 0, 0⟩)
noncomputable def fName : Stmt → Str
  | .FunctionDef n .. => n
  | _ => Str.empty
noncomputable def fArgs : Stmt → Arguments
  | .FunctionDef _ a .. => a
  | _ => ⟨[], [], none, [], [], none, []⟩
noncomputable def fBody : Stmt → List Stmt
  | .FunctionDef _ _ b .. => b
  | _ => []
noncomputable def fScope : Stmt → Scope
  | .FunctionDef _ _ _ _ _ _ s .. => s
  | _ => default
noncomputable def clsBody : Stmt → List Stmt
  | .ClassDef _ _ _ b .. => b
  | _ => []
noncomputable def bCls : Stmt := stAt pr 1
noncomputable def bMeth (i : Nat) : Stmt := ((clsBody bCls)[i]?).getD (.Pass ⟨0, 0, 0, 0⟩)
noncomputable def bInit : Stmt := bMeth 0
noncomputable def bRead : Stmt := bMeth 1
noncomputable def bGet : Stmt := bMeth 2
noncomputable def bPush : Stmt := bMeth 3
noncomputable abbrev IESC : Nat := 59
noncomputable def bEsc0 : Stmt := stAt pr (IESC + 0)
noncomputable def bEsc1 : Stmt := stAt pr (IESC + 1)
noncomputable def bEsc2 : Stmt := stAt pr (IESC + 2)
noncomputable def bEsc3 : Stmt := stAt pr (IESC + 3)
noncomputable def bEsc4 : Stmt := stAt pr (IESC + 4)
noncomputable def bWritten : Stmt := stAt pr 66
noncomputable def bOps : Stmt := stAt pr 67
noncomputable def bSpl : Stmt := stAt pr 68
noncomputable def bTxt : Stmt := stAt pr 69
noncomputable def bWrd : Stmt := stAt pr 70
noncomputable def bDue : Stmt := stAt pr 71
noncomputable def bRow : Stmt := stAt pr 72
noncomputable def bBak : Stmt := stAt pr 73
noncomputable def tokTab : List (Str × Int) := [((Str.ofString "!"), 54), ((Str.ofString "!="), 28), ((Str.ofString "%"), 24), ((Str.ofString "%="), 40), ((Str.ofString "&"), 19), ((Str.ofString "&="), 41), ((Str.ofString "("), 7), ((Str.ofString ")"), 8), ((Str.ofString "*"), 16), ((Str.ofString "**"), 35), ((Str.ofString "**="), 46), ((Str.ofString "*="), 38), ((Str.ofString "+"), 14), ((Str.ofString "+="), 36), ((Str.ofString ","), 12), ((Str.ofString "-"), 15), ((Str.ofString "-="), 37), ((Str.ofString "->"), 51), ((Str.ofString "."), 23), ((Str.ofString "..."), 52), ((Str.ofString "/"), 17), ((Str.ofString "//"), 47), ((Str.ofString "//="), 48), ((Str.ofString "/="), 39), ((Str.ofString ":"), 11), ((Str.ofString ":="), 53), ((Str.ofString ";"), 13), ((Str.ofString "<"), 20), ((Str.ofString "<<"), 33), ((Str.ofString "<<="), 44), ((Str.ofString "<="), 29), ((Str.ofString "="), 22), ((Str.ofString "=="), 27), ((Str.ofString ">"), 21), ((Str.ofString ">="), 30), ((Str.ofString ">>"), 34), ((Str.ofString ">>="), 45), ((Str.ofString "@"), 49), ((Str.ofString "@="), 50), ((Str.ofString "["), 9), ((Str.ofString "]"), 10), ((Str.ofString "^"), 32), ((Str.ofString "^="), 43), ((Str.ofString "{"), 25), ((Str.ofString "|"), 18), ((Str.ofString "|="), 42), ((Str.ofString "}"), 26), ((Str.ofString "~"), 31)]
noncomputable def bLx : Stmt := stAt pr 65
noncomputable def bTer : Stmt := stAt pr 54
noncomputable def bNon : Stmt := stAt pr 55
noncomputable def bEof : Stmt := stAt pr 56
noncomputable def bLaw : Stmt := stAt pr 74
section
open PySem.W.X
theorem saidL : PySem.Challenge.rw_st0028_01.wellSaid = true := by
  delta OpenLaw.wellSaid OpenRow.wellSaid OpenRow.partSaid looksOpen
  with_reducible repeat' refine look_both ?_ ?_
  all_goals decide +kernel
noncomputable def qv : Program := { pr with main := { pr.main with body := pr.main.body.drop 74 } }
noncomputable abbrev looseN : List Str := pr.boundNames
noncomputable abbrev FnV := Value × Str × Str × Arguments × FuncBody × Scope × Addr × List (Str × Addr) × Value × Value × Option Addr × Value × Addr
noncomputable def seeF (h : Heap) (f : Addr) : Option FnV := match h.get? f with
  | some ⟨oc, _, .func fd, _⟩ => some (oc, fd.name, fd.qualname, fd.params, fd.body, fd.scope, fd.globals, fd.closure, fd.defaults, fd.kwdefaults, fd.annotations, fd.code, fd.builtins)
  | _ => none
noncomputable def fnV (st : Stmt) (qual : Str) (c : Addr) : FnV := (.type "function", fName st, qual, fArgs st, .stmts (fBody st), fScope st, mainGlobals, [], .none, .none, none, .ref c, builtinsNs)
noncomputable def fnList : List (Addr × Str × Stmt) := [(66, "ISTERMINAL", bTer), (73, "ISNONTERMINAL", bNon), (80, "ISEOF", bEof), (28, "_netrclex.__init__", bInit), (35, "_netrclex._read_char", bRead), (42, "_netrclex.get_token", bGet), (49, "_netrclex.push_token", bPush), (94, "_escape_cdata", bEsc0), (101, "_escape_attrib", bEsc1), (108, "_escape_attrib_html", bEsc2), (115, "_escape_cdata_c14n", bEsc3), (122, "_escape_attrib_c14n", bEsc4), (129, "_law_lexer", bLx), (136, "_law_written", bWritten), (143, "_law_operators", bOps), (150, "_law_spelled", bSpl), (157, "_law_texts", bTxt), (164, "_law_words", bWrd), (169, "_law_due", bDue), (174, "_law_row", bRow), (179, "_law_back", bBak), (184, "law", bLaw)]
noncomputable def gNames : List (Str × Option Value) := [("_netrclex", some (.ref 52)), ("ISTERMINAL", some (.ref 66)), ("ISNONTERMINAL", some (.ref 73)), ("ISEOF", some (.ref 80)), ("_escape_cdata", some (.ref 94)), ("_escape_attrib", some (.ref 101)), ("_escape_attrib_html", some (.ref 108)), ("_escape_cdata_c14n", some (.ref 115)), ("_escape_attrib_c14n", some (.ref 122)), ("_law_lexer", some (.ref 129)), ("_law_written", some (.ref 136)), ("_law_operators", some (.ref 143)), ("_law_spelled", some (.ref 150)), ("_law_texts", some (.ref 157)), ("_law_words", some (.ref 164)), ("_law_due", some (.ref 169)), ("_law_row", some (.ref 174)), ("_law_back", some (.ref 179)), ("law", some (.ref 184)), ("EXACT_TOKEN_TYPES", some (.ref 57)), ("__builtins__", some (.ref 4)), ("iter", none), ("len", none), ("list", none), ("range", none), ("enumerate", none), ("min", none), ("chr", none), ("ord", none)]
noncomputable def bNames : List (Str × Option Value) := [("iter", some (.builtin "iter")), ("len", some (.builtin "len")), ("list", some (.type "list")), ("range", some (.type "range")), ("enumerate", some (.type "enumerate")), ("min", some (.builtin "min")), ("chr", some (.builtin "chr")), ("ord", some (.builtin "ord"))]
noncomputable def cNames : List (Str × Option Value) := [("__init__", some (.ref 28)), ("_read_char", some (.ref 35)), ("get_token", some (.ref 42)), ("push_token", some (.ref 49)), ("__getattribute__", none), ("__getattr__", none), ("__setattr__", none), ("lineno", none), ("instream", none), ("whitespace", none), ("pushback", none), ("read", none)]
noncomputable def asInt : Option Value → Option Int
  | some (.int i _) => some i
  | _ => none
noncomputable def seeTab (h : Heap) (a : Addr) : Option (Value × Option Addr × Nat × List (Str × Int × Int)) := match h.get? a with
  | some ⟨oc, od, .dict es n, sl⟩ => if sl.size = 0 then (es.toList.mapM fun (e : DictEntry) => match e.key, e.val with | .str k _, .int i _ => some (k, i, e.hash) | _, _ => none).map fun l => (oc, od, n, l) else none
  | _ => none
noncomputable def isI : Value → Bool
  | .int _ _ => true
  | _ => false
noncomputable def isB : Value → Bool
  | .bool _ => true
  | _ => false
noncomputable def isS : Value → Bool
  | .str _ _ => true
  | _ => false
noncomputable def seeCd (h : Heap) (c : Addr) : Option (Value × Option Value × Value × Bool) := match h.get? c with
  | some ⟨oc, _, .fields vs, _⟩ => some (oc, vs[11]?, vs.getD 11 .none, isI (vs.getD 7 .none) && isB (vs.getD 9 .none) && isI (vs.getD 10 .none) && isS (vs.getD 18 .none))
  | _ => none
noncomputable def seeC (h : Heap) (c : Addr) : Option (Value × List Value × Addr × Bool × Bool × Bool × Nat × Option (Option Value)) := match h.get? c with
  | some ⟨oc, _, .cls cd, sl⟩ => some (oc, cd.mro, cd.ns, cd.hasDict, cd.abstract, cd.hasDel, sl.size, sl[4]?)
  | _ => none
noncomputable def plainAt0 (h : Heap) (a : Addr) : Option (Value × Option Addr) := match h.get? a with
  | some ⟨oc, od, .plain, _⟩ => some (oc, od)
  | _ => none
noncomputable def tab0 (h : Heap) (a : Addr) : Option (Value × Option Addr × List Value × Nat) := match h.get? a with
  | some ⟨oc, od, .fields vs, sl⟩ => some (oc, od, vs.toList, sl.size)
  | _ => none
noncomputable abbrev ObsT := Nat × Nat × List (Option Value) × List (Option Value) × List (Option Value) × List (Option Int) × List Bool × Option Value × List (Option FnV) × List Bool × Option (Value × List Value × Addr × Bool × Bool × Bool × Nat × Option (Option Value)) × Option (Value × Option Value × Value × Bool) × Option (Value × Option Addr) × Option (Value × Option Addr × List Value × Nat) × Option (Value × Option Addr × Nat × List (Str × Int × Int))
noncomputable def obsL (s : Shared) : ObsT :=
  (s.heap.objs.size, s.toks, gNames.map (fun p => s.heap.nsMap mainGlobals p.1), bNames.map (fun p => s.heap.nsMap builtinsNs p.1), cNames.map (fun p => s.heap.nsMap 51 p.1), [asInt (s.heap.nsMap mainGlobals "NT_OFFSET"), asInt (s.heap.nsMap mainGlobals "ENDMARKER")],
   [s.heap.isNs mainGlobals, s.heap.isNs builtinsNs, s.heap.isNs 51, s.heap.isNs cStatics], s.heap.nsMap cStatics "sys.recursionlimit", fnList.map (fun p => seeF s.heap p.1), fnList.map (fun p => s.heap.codeRecOk (.ref (p.1 - 1)) p.2.1), seeC s.heap 52, seeCd s.heap 128, plainAt0 s.heap 4, tab0 s.heap 124, seeTab s.heap 57)
noncomputable def valL (w : World) : ObsT :=
  (185, 598, gNames.map (·.2), bNames.map (·.2), cNames.map (·.2), [some 256, some 0], [true, true, true, true], none, fnList.map (fun p => some (fnV p.2.2 p.2.1 (p.1 - 1))), fnList.map (fun _ => true), some (.type "type", [.ref 52, .type "object"], 51, true, false, false, 6, some (some (.builtin "object.__new__"))),
   some (.type "code", some (.ref 124), .ref 124, true), some (.type "module", some builtinsNs), some (.none, none, [], 0), some (.type "dict", none, 48, tokTab.map fun e => (e.1, e.2, hashStr w e.1)))
noncomputable abbrev XtL (s : Shared) : Bool := xlAt qv [] s && recOk [] s
noncomputable abbrev LeftP (w : World) : Prop := (openEnds treeTable pr w 4816).map (fun s => (openSeen qv looseN (importedModules pr.main.body) XtL true s, obsL s)) = some (openGood qv looseN, valL w)
theorem leftF (w : World) : LeftP (w.withFollow "special-get-raises" false) := by
  unfold LeftP openEnds fencedOpening topFrom
  rw [PySem.W.Fast.te10274390034422433532, PySem.W.Fast.te14082659384304107361, PySem.W.Fast.te14364793385576792824, PySem.W.Fast.te14289696077712309145, PySem.W.Fast.te4187177175401517315]
  kernel_rfl
theorem leftT (w : World) : LeftP (w.withFollow "special-get-raises" true) := by
  unfold LeftP openEnds fencedOpening topFrom
  rw [PySem.W.Fast.te10274390034422433532, PySem.W.Fast.te14082659384304107361, PySem.W.Fast.te14364793385576792824, PySem.W.Fast.te14289696077712309145, PySem.W.Fast.te4187177175401517315]
  kernel_rfl
theorem leftL : LeftO pr qv looseN XtL obsL valL 4816 := fun w => byRow2 "special-get-raises" (P := LeftP) leftF leftT w
end
theorem len1 {α : Type} : ∀ {l : List α}, l.length = 1 → ∃ a, l = [a] := fun {l} h => by
  cases l with
  | nil => cases h
  | cons a l => exact ⟨a, congrArg (a :: ·) (List.length_eq_zero_iff.mp (Nat.succ.inj h))⟩
theorem len2 {α : Type} {l : List α} (h : l.length = 2) : ∃ a b, l = [a, b] := by
  cases l with
  | nil => cases h
  | cons a l => obtain ⟨b, rfl⟩ := len1 (Nat.succ.inj h); exact ⟨a, b, rfl⟩
theorem len3 {α : Type} {l : List α} (h : l.length = 3) : ∃ a b c, l = [a, b, c] := by
  cases l with
  | nil => cases h
  | cons a l => obtain ⟨b, c, rfl⟩ := len2 (Nat.succ.inj h); exact ⟨a, b, c, rfl⟩
theorem five_case {p : Nat → Prop} (a : p 0) (b : p 1) (c : p 2) (d : p 3) (e : p 4) {h : Nat} (hh : h < 5) : p h :=
  (Nat.lt_succ_iff_lt_or_eq.mp hh).elim (fun hh => (Nat.lt_succ_iff_lt_or_eq.mp hh).elim (fun hh => (Nat.lt_succ_iff_lt_or_eq.mp hh).elim (fun hh => (Nat.lt_succ_iff_lt_or_eq.mp hh).elim (fun hh => (Nat.lt_one_iff.mp hh) ▸ a) (fun e => e ▸ b)) (fun e => e ▸ c)) (fun e => e ▸ d)) (fun q => q ▸ e)
theorem three {k : Nat} (h : 1 ≤ k) (e : k ≤ 3) : k = 1 ∨ k = 2 ∨ k = 3 :=
  (Nat.le_iff_lt_or_eq.mp e).elim (fun e => (Nat.lt_succ_iff_lt_or_eq.mp e).elim (fun e => .inl (Nat.le_antisymm (Nat.le_of_lt_succ e) h)) fun e => .inr (.inl e)) fun e => .inr (.inr e)
theorem take1 {α : Type} {l : List α} {a : α} (h : l[0]? = some a) : l = a :: l.drop 1 := by
  cases l with
  | nil => cases h
  | cons b l => exact congrArg (· :: l) (Option.some.inj h)
theorem take7 {α : Type} {l : List α} {a b c d e f g : α} (h0 : l[0]? = some a) (h1 : l[1]? = some b) (h2 : l[2]? = some c) (h3 : l[3]? = some d) (h4 : l[4]? = some e) (h5 : l[5]? = some f) (h6 : l[6]? = some g) : ∃ r, l = a :: b :: c :: d :: e :: f :: g :: r := by
  have k : ∀ {i : Nat} {x : α}, l[i]? = some x → l.drop i = x :: l.drop (i + 1) := fun {i x} h => by
    have := take1 (l := l.drop i) (a := x) (by rw [List.getElem?_drop]; exact h)
    rwa [List.drop_drop] at this
  have : l.drop 0 = l := rfl
  refine ⟨l.drop 7, this.symm.trans ?_⟩
  rw [k h0, k h1, k h2, k h3, k h4, k h5, k h6]
inductive Li | v (i : Nat) | k (n : Nat) | a (x y : Li) | m (n : Nat) (x : Li) | r (x : Li) (n : Nat)
inductive Lc | e | c (n : Nat) (l r : Li) (t : Lc)
noncomputable def Li.ev (c : List Nat) : Li → Nat
  | .v i => c.getD i 0
  | .k n => n
  | .a x y => x.ev c + y.ev c
  | .m n x => n * x.ev c
  | .r x n => x.ev c * n
noncomputable def Li.co (i : Nat) : Li → Nat
  | .v j => if j = i then 1 else 0
  | .k _ => 0
  | .a x y => x.co i + y.co i
  | .m n x => n * x.co i
  | .r x n => n * x.co i
noncomputable def Li.nu : Li → Nat
  | .v _ => 0
  | .k n => n
  | .a x y => x.nu + y.nu
  | .m n x => n * x.nu
  | .r x n => n * x.nu
noncomputable def Lc.L : Lc → Li
  | .e => .k 0
  | .c n l _ t => .a (.m n l) t.L
noncomputable def Lc.R : Lc → Li
  | .e => .k 0
  | .c n _ r t => .a (.m n r) t.R
noncomputable def Lc.den (c : List Nat) : Lc → Prop
  | .e => False
  | .c _ l r t => l.ev c ≤ r.ev c → t.den c
noncomputable def dot : List Nat → (Nat → Nat) → Nat
  | [], _ => 0
  | x :: c, f => f 0 * x + dot c fun i => f (i + 1)
noncomputable def Lc.ok (s : Lc) : Nat → Bool
  | 0 => Nat.ble (s.R.nu + 1) s.L.nu
  | i + 1 => Nat.ble (s.R.co i) (s.L.co i) && s.ok i
theorem dot_add (c : List Nat) : ∀ f g : Nat → Nat, (dot c fun i => f i + g i) = dot c f + dot c g := by
  induction c with
  | nil => intro _ _; rfl
  | cons x c ih =>
    intro f g
    show (f 0 + g 0) * x + (dot c fun i => f (i + 1) + g (i + 1)) = f 0 * x + (dot c fun i => f (i + 1)) + (g 0 * x + dot c fun i => g (i + 1))
    rw [ih (fun i => f (i + 1)) fun i => g (i + 1), Nat.add_mul, Nat.add_add_add_comm]
theorem dot_mul (n : Nat) (c : List Nat) : ∀ f : Nat → Nat, (dot c fun i => n * f i) = n * dot c f := by
  induction c with
  | nil => intro _; rfl
  | cons x c ih =>
    intro f
    show n * f 0 * x + (dot c fun i => n * f (i + 1)) = n * (f 0 * x + dot c fun i => f (i + 1))
    rw [ih fun i => f (i + 1), Nat.mul_add, Nat.mul_assoc]
theorem dot_nil (c : List Nat) : (dot c fun _ => 0) = 0 := by
  induction c with
  | nil => rfl
  | cons x c ih =>
    show 0 * x + (dot c fun _ => 0) = 0
    rw [ih, Nat.zero_mul]
theorem dot_one (c : List Nat) : ∀ j, (dot c fun i => if j = i then 1 else 0) = c.getD j 0 := by
  induction c with
  | nil => intro _; rfl
  | cons x c ih =>
    intro j
    cases j with
    | zero => exact (congrArg (1 * x + ·) (dot_nil c)).trans (Nat.one_mul x)
    | succ j =>
      refine Eq.trans ?_ (ih j)
      show 0 * x + (dot c fun i => if j + 1 = i + 1 then 1 else 0) = dot c fun i => if j = i then 1 else 0
      rw [Nat.zero_mul, Nat.zero_add]
      simp only [Nat.add_right_cancel_iff]
theorem dot_le (c : List Nat) : ∀ {f g : Nat → Nat}, (∀ i, i < c.length → f i ≤ g i) → dot c f ≤ dot c g := by
  induction c with
  | nil => intro _ _ _; exact Nat.le_refl _
  | cons x c ih => intro f g h; exact Nat.add_le_add (Nat.mul_le_mul_right x (h 0 (Nat.zero_lt_succ _))) (ih fun i hi => h (i + 1) (Nat.succ_lt_succ hi))
theorem Li.ev_eq (c : List Nat) (x : Li) : x.ev c = dot c (x.co ·) + x.nu := by
  induction x with
  | v i => exact (dot_one c i).symm
  | k n => exact (Nat.zero_add n).symm.trans (congrArg (· + n) (dot_nil c).symm)
  | a x y hx hy =>
    show x.ev c + y.ev c = (dot c fun i => x.co i + y.co i) + (x.nu + y.nu)
    rw [hx, hy, dot_add, Nat.add_add_add_comm]
  | m n x hx =>
    show n * x.ev c = (dot c fun i => n * x.co i) + n * x.nu
    rw [hx, dot_mul, Nat.mul_add]
  | r x n hx =>
    show x.ev c * n = (dot c fun i => n * x.co i) + n * x.nu
    rw [hx, dot_mul, Nat.mul_comm, Nat.mul_add]
theorem Lc.ok_of {s : Lc} : ∀ {n : Nat}, s.ok n = true → (∀ i, i < n → s.R.co i ≤ s.L.co i) ∧ s.R.nu < s.L.nu := fun {n} => by
  induction n with
  | zero => exact fun h => ⟨fun i hi => absurd hi (Nat.not_lt_zero i), Nat.le_of_ble_eq_true h⟩
  | succ n ih =>
    intro h
    obtain ⟨h1, h2⟩ := (Bool.and_eq_true _ _).mp h
    exact ⟨fun i hi => (Nat.lt_succ_iff_lt_or_eq.mp hi).elim ((ih h2).1 i) fun e => e ▸ Nat.le_of_ble_eq_true h1, (ih h2).2⟩
theorem Lc.run {c : List Nat} (s : Lc) : ∀ {P Q : Nat}, P ≤ Q → Q + s.R.ev c < P + s.L.ev c → s.den c := by
  induction s with
  | e => exact fun h h' => absurd h' (Nat.not_lt.mpr h)
  | c n l r t ih =>
    intro P Q h h' hl
    refine ih (P := P + n * l.ev c) (Q := Q + n * r.ev c) (Nat.add_le_add h (Nat.mul_le_mul_left n hl)) ?_
    rw [Nat.add_assoc, Nat.add_assoc]; exact h'
theorem lin (c : List Nat) (s : Lc) (h : s.ok c.length = true) : s.den c := by
  obtain ⟨h1, h2⟩ := Lc.ok_of h
  refine s.run (Nat.le_refl 0) ?_
  rw [Nat.zero_add, Nat.zero_add, Li.ev_eq, Li.ev_eq]
  exact Nat.add_lt_add_of_le_of_lt (dot_le c h1) h2
theorem sub_ge (a b : Nat) : a ≤ a - b + b := Nat.le_add_of_sub_le (Nat.le_refl _)
set_option genSizeOf false
set_option genInjectivity false
inductive Zi | v (i : Nat) | k (n : Int) | a (x y : Zi) | s (x y : Zi) | g (x : Zi) | m (n : Int) (x : Zi) | r (x : Zi) (n : Int)
inductive Zc | e | c (n : Nat) (l r : Zi) (t : Zc)
noncomputable def Zi.ev (c : List Int) : Zi → Int
  | .v i => c.getD i 0
  | .k z => z
  | .a x y => x.ev c + y.ev c
  | .s x y => x.ev c - y.ev c
  | .g x => -x.ev c
  | .m z x => z * x.ev c
  | .r x z => x.ev c * z
noncomputable def Zi.co (i : Nat) : Zi → Int
  | .v j => if j = i then 1 else 0
  | .k _ => 0
  | .a x y => x.co i + y.co i
  | .s x y => x.co i - y.co i
  | .g x => -x.co i
  | .m z x => z * x.co i
  | .r x z => z * x.co i
noncomputable def Zi.nu : Zi → Int
  | .v _ => 0
  | .k z => z
  | .a x y => x.nu + y.nu
  | .s x y => x.nu - y.nu
  | .g x => -x.nu
  | .m z x => z * x.nu
  | .r x z => z * x.nu
noncomputable def Zc.D : Zc → Zi
  | .e => .k 0
  | .c n l r t => .a (.m n (.s l r)) t.D
noncomputable def Zc.den (c : List Int) : Zc → Prop
  | .e => False
  | .c _ l r t => l.ev c ≤ r.ev c → t.den c
noncomputable def zdot : List Int → (Nat → Int) → Int
  | [], _ => 0
  | x :: c, f => f 0 * x + zdot c fun i => f (i + 1)
noncomputable def Zc.ok (s : Zc) : Nat → Bool
  | 0 => decide (0 < s.D.nu)
  | i + 1 => decide (s.D.co i = 0) && s.ok i
theorem az (a b c d : Int) : a + b + (c + d) = a + c + (b + d) := by rw [Int.add_assoc, Int.add_assoc, Int.add_left_comm b]
theorem zdot_add (c : List Int) : ∀ f g : Nat → Int, (zdot c fun i => f i + g i) = zdot c f + zdot c g := by
  induction c with
  | nil => intro _ _; rfl
  | cons x c ih =>
    intro f g
    show (f 0 + g 0) * x + (zdot c fun i => f (i + 1) + g (i + 1)) = f 0 * x + (zdot c fun i => f (i + 1)) + (g 0 * x + zdot c fun i => g (i + 1))
    rw [ih (fun i => f (i + 1)) fun i => g (i + 1), Int.add_mul, az]
theorem zdot_mul (n : Int) (c : List Int) : ∀ f : Nat → Int, (zdot c fun i => n * f i) = n * zdot c f := by
  induction c with
  | nil => intro _; exact (Int.mul_zero n).symm
  | cons x c ih =>
    intro f
    show n * f 0 * x + (zdot c fun i => n * f (i + 1)) = n * (f 0 * x + zdot c fun i => f (i + 1))
    rw [ih fun i => f (i + 1), Int.mul_add, Int.mul_assoc]
theorem zdot_z (c : List Int) : ∀ {f : Nat → Int}, (∀ i, i < c.length → f i = 0) → zdot c f = 0 := by
  induction c with
  | nil => intro _ _; rfl
  | cons x c ih =>
    intro f h
    show f 0 * x + (zdot c fun i => f (i + 1)) = 0
    rw [h 0 (Nat.zero_lt_succ _), ih fun i hi => h (i + 1) (Nat.succ_lt_succ hi), Int.zero_mul]; rfl
theorem zdot_one (c : List Int) : ∀ j, (zdot c fun i => if j = i then 1 else 0) = c.getD j 0 := by
  induction c with
  | nil => intro _; rfl
  | cons x c ih =>
    intro j
    cases j with
    | zero => exact (congrArg (1 * x + ·) (zdot_z c fun _ _ => rfl)).trans ((Int.add_zero _).trans (Int.one_mul x))
    | succ j =>
      refine Eq.trans ?_ (ih j)
      show 0 * x + (zdot c fun i => if j + 1 = i + 1 then 1 else 0) = zdot c fun i => if j = i then 1 else 0
      rw [Int.zero_mul, Int.zero_add]
      simp only [Nat.add_right_cancel_iff]
theorem Zi.ev_eq (c : List Int) (x : Zi) : x.ev c = zdot c (x.co ·) + x.nu := by
  have ng : ∀ f : Nat → Int, (zdot c fun i => -f i) = -zdot c f := fun f => by
    have := zdot_mul (-1) c f
    simp only [Int.neg_mul, Int.one_mul] at this; exact this
  induction x with
  | v i => exact ((zdot_one c i).symm.trans (Int.add_zero _).symm)
  | k n => exact (Int.zero_add n).symm.trans (congrArg (· + n) (zdot_z c fun _ _ => rfl).symm)
  | a x y hx hy =>
    show x.ev c + y.ev c = (zdot c fun i => x.co i + y.co i) + (x.nu + y.nu)
    rw [hx, hy, zdot_add, az]
  | s x y hx hy =>
    show x.ev c + -y.ev c = (zdot c fun i => x.co i + -y.co i) + (x.nu + -y.nu)
    rw [hx, hy, zdot_add c _ fun i => -y.co i, ng, Int.neg_add, az]
  | g x hx =>
    show -x.ev c = (zdot c fun i => -x.co i) + -x.nu
    rw [hx, ng, Int.neg_add]
  | m n x hx =>
    show n * x.ev c = (zdot c fun i => n * x.co i) + n * x.nu
    rw [hx, zdot_mul, Int.mul_add]
  | r x n hx =>
    show x.ev c * n = (zdot c fun i => n * x.co i) + n * x.nu
    rw [hx, zdot_mul, Int.mul_comm, Int.mul_add]
theorem Zc.ok_of {s : Zc} : ∀ {n : Nat}, s.ok n = true → (∀ i, i < n → s.D.co i = 0) ∧ 0 < s.D.nu := fun {n} => by
  induction n with
  | zero => exact fun h => ⟨fun i hi => absurd hi (Nat.not_lt_zero i), of_decide_eq_true h⟩
  | succ n ih =>
    intro h
    obtain ⟨h1, h2⟩ := (Bool.and_eq_true _ _).mp h
    exact ⟨fun i hi => (Nat.lt_succ_iff_lt_or_eq.mp hi).elim ((ih h2).1 i) fun e => e ▸ of_decide_eq_true h1, (ih h2).2⟩
theorem Zc.run {c : List Int} (s : Zc) : ∀ {p : Int}, p ≤ 0 → 0 < p + s.D.ev c → s.den c := by
  induction s with
  | e => exact fun h h' => by have : (Zc.e.D.ev c) = 0 := rfl; rw [this] at h'; exact absurd h (by omega)
  | c n l r t ih =>
    intro p h h' hl
    have h1 : (n : Int) * (l.ev c - r.ev c) ≤ 0 := Int.mul_nonpos_of_nonneg_of_nonpos (Int.natCast_nonneg n) (by omega)
    refine ih (p := p + n * (l.ev c - r.ev c)) (by omega) ?_
    rw [Int.add_assoc]; exact h'
theorem zlin (c : List Int) (s : Zc) (h : s.ok c.length = true) : s.den c := by
  obtain ⟨h1, h2⟩ := Zc.ok_of h
  refine s.run (Int.le_refl 0) ?_
  rw [Int.zero_add, Zi.ev_eq, zdot_z c h1, Int.zero_add]; exact h2
theorem n1 {a b : Nat} (h : ¬a < b) : b ≤ a := Nat.le_of_not_lt h
theorem n2 {a b : Nat} (h : ¬a ≤ b) : b < a := Nat.lt_of_not_le h
theorem n3 {a b : Nat} (h : a ≤ b) (g : b ≤ a) : a = b := Nat.le_antisymm h g
theorem n4 {a b : Nat} (h : a = b) : a ≤ b := Nat.le_of_eq h
theorem n5 {a b : Nat} (h : ¬a < b) : a - b + b ≤ a := Nat.le_of_eq (Nat.sub_add_cancel (Nat.le_of_not_lt h))
theorem i1 {a b : Int} (h : ¬a < b) : b ≤ a := Int.not_lt.mp h
theorem i2 {a b : Int} (h : ¬a ≤ b) : b < a := Int.not_le.mp h
theorem i3 {a b : Int} (h : a ≤ b) (g : b ≤ a) : a = b := Int.le_antisymm h g
theorem i4 {a b : Int} (h : a = b) : a ≤ b := Int.le_of_eq h
theorem i5 {a : Int} (h : ¬a < 0) : (a.toNat : Int) ≤ a := Int.le_of_eq (Int.toNat_of_nonneg (Int.not_lt.mp h))
theorem c0 {a : Nat} : 0 ≤ (a : Int) := Int.natCast_nonneg a
theorem c1 {a b : Nat} (h : a ≤ b) : (a : Int) ≤ b := Int.ofNat_le.mpr h
theorem c2 {a b : Nat} (h : a < b) : (a : Int) < b := Int.ofNat_lt.mpr h
theorem o0 {a b : Int} (h0 : a ≤ b) : a - b ≤ 0 := i1 fun g => zlin [a,b] (.c 1 (.v 0) (.v 1) (.c 1 (.a (.k 0) (.k 1)) (.s (.v 0) (.v 1)) .e)) rfl h0 g
theorem o1 {a c e : Int} {b : Nat} (h0 : a ≤ 0) (h1 : (((b : Nat) : Int)) * (c - e) ≤ 0) : a + ((((b : Nat) : Int)) * (c - e)) ≤ 0 := i1 fun g => zlin [a,(((b : Nat) : Int)) * (c - e)] (.c 1 (.v 0) (.k 0) (.c 1 (.v 1) (.k 0) (.c 1 (.a (.k 0) (.k 1)) (.a (.v 0) (.v 1)) .e))) rfl h0 h1 g
theorem o2 {a b c : Nat} (h0 : a + (c + 1) < b) : a < b := n2 fun h => lin [a,c,b] (.c 1 (.a (.a (.v 0) (.a (.v 1) (.k 1))) (.k 1)) (.v 2) (.c 1 (.v 2) (.v 0) .e)) rfl h0 h
theorem o3 {a b c : Nat} (h0 : a + (b + 1) < c) : (a + 1) + b < c := n2 fun h => lin [a,b,c] (.c 1 (.a (.a (.v 0) (.a (.v 1) (.k 1))) (.k 1)) (.v 2) (.c 1 (.v 2) (.a (.a (.v 0) (.k 1)) (.v 1)) .e)) rfl h0 h
theorem o4 {a b c : Nat} (h0 : a + (20 * (b + 1)) < c) : (a + 3) + (20 * b) < c := n2 fun h => lin [a,b,c] (.c 1 (.a (.a (.v 0) (.m 20 (.a (.v 1) (.k 1)))) (.k 1)) (.v 2) (.c 1 (.v 2) (.a (.a (.v 0) (.k 3)) (.m 20 (.v 1))) .e)) rfl h0 h
theorem o5 {a b c : Nat} (h0 : a + (c + 1) < b) : a + 1 < b := n2 fun h => lin [a,c,b] (.c 1 (.a (.a (.v 0) (.a (.v 1) (.k 1))) (.k 1)) (.v 2) (.c 1 (.v 2) (.a (.v 0) (.k 1)) .e)) rfl h0 h
theorem o6 {a b c : Nat} (h0 : a + (20 * (c + 1)) < b) : (a + 3) + 10 < b := n2 fun h => lin [a,c,b] (.c 1 (.a (.a (.v 0) (.m 20 (.a (.v 1) (.k 1)))) (.k 1)) (.v 2) (.c 1 (.v 2) (.a (.a (.v 0) (.k 3)) (.k 10)) .e)) rfl h0 h
theorem o7 {a b : Nat} (h0 : b + a = b) : a = 0 := n3 (n1 fun h => lin [b,a] (.c 1 (.a (.v 0) (.v 1)) (.v 0) (.c 1 (.a (.k 0) (.k 1)) (.v 1) .e)) rfl (n4 h0) h) (n1 fun h => lin [a] (.c 1 (.a (.v 0) (.k 1)) (.k 0) .e) rfl h)
theorem o8 {a b c e : Nat} (h0 : c ≤ b) (h1 : e < c) (h2 : a ≤ e) : a ≤ b := n1 fun h => lin [c,b,e,a] (.c 1 (.v 0) (.v 1) (.c 1 (.a (.v 2) (.k 1)) (.v 0) (.c 1 (.v 3) (.v 2) (.c 1 (.a (.v 1) (.k 1)) (.v 3) .e)))) rfl h0 h1 h2 h
theorem o9 {a b : Nat} (h0 : a = b) (h1 : b = a + 1) : False := lin [a,b] (.c 1 (.v 1) (.v 0) (.c 1 (.a (.v 0) (.k 1)) (.v 1) .e)) rfl (n4 h0.symm) (n4 h1.symm)
theorem o10 {a b c : Nat} (h0 : a = b) (h1 : c = a + 1) (h2 : b = c + 1) : False := lin [a,b,c] (.c 1 (.v 1) (.v 0) (.c 1 (.a (.v 0) (.k 1)) (.v 2) (.c 1 (.a (.v 2) (.k 1)) (.v 1) .e))) rfl (n4 h0.symm) (n4 h1.symm) (n4 h2.symm)
theorem o11 {a : Int} {b : Nat} (h0 : 0 ≤ a) (h1 : (a).toNat < b) : (0 ≤ a) ∧ (a < ((b : Nat) : Int)) := ⟨h0,(i2 fun g => zlin [a,(((a).toNat : Nat) : Int),((b : Nat) : Int)] (.c 1 (.v 0) (.v 1) (.c 1 (.a (.v 1) (.k 1)) (.v 2) (.c 1 (.v 2) (.v 0) .e))) rfl (Int.self_le_toNat _) (c2 h1) g)⟩
theorem o12 {a : Int} (h0 : a < 0) (h1 : 0 ≤ a) : False := zlin [a] (.c 1 (.a (.v 0) (.k 1)) (.k 0) (.c 1 (.k 0) (.v 0) .e)) rfl h0 h1
theorem o13 {a b c e : Nat} (h0 : b ≤ 10) (h1 : a + 10 < e) : a + (min b c) < e := n2 fun h => lin [b,a,e,min b c] (.c 1 (.v 0) (.k 10) (.c 1 (.a (.a (.v 1) (.k 10)) (.k 1)) (.v 2) (.c 1 (.v 3) (.v 0) (.c 1 (.v 2) (.a (.v 1) (.v 3)) .e)))) rfl h0 h1 (Nat.min_le_left _ _) h
theorem o14 {a b c e : Nat} (h0 : b ≤ e) (h1 : a + e < c) : a + b < c := n2 fun h => lin [b,e,a,c] (.c 1 (.v 0) (.v 1) (.c 1 (.a (.a (.v 2) (.v 1)) (.k 1)) (.v 3) (.c 1 (.v 3) (.a (.v 2) (.v 0)) .e))) rfl h0 h1 h
theorem o15 {a b c e : Nat} (h0 : b ≤ e) (h1 : a + (20 * e) < c) : a + (20 * b) < c := n2 fun h => lin [b,e,a,c] (.c 20 (.v 0) (.v 1) (.c 1 (.a (.a (.v 2) (.m 20 (.v 1))) (.k 1)) (.v 3) (.c 1 (.v 3) (.a (.v 2) (.m 20 (.v 0))) .e))) rfl h0 h1 h
theorem o16 {a b : Nat} (h0 : 16777216 < a + b) (h1 : a + b ≤ 16777216) : False := lin [a,b] (.c 1 (.a (.k 16777216) (.k 1)) (.a (.v 0) (.v 1)) (.c 1 (.a (.v 0) (.v 1)) (.k 16777216) .e)) rfl h0 h1
theorem o17 {a b : Nat} (h0 : a + b ≤ 16777216) : a ≤ 16777216 := n1 fun h => lin [b,a] (.c 1 (.a (.v 1) (.v 0)) (.k 16777216) (.c 1 (.a (.k 16777216) (.k 1)) (.v 1) .e)) rfl h0 h
theorem o18 {a b : Nat} (h0 : a + b ≤ 16777216) : a + b ≤ 16777216 + 1 := n1 fun h => lin [b,a] (.c 1 (.a (.v 1) (.v 0)) (.k 16777216) (.c 1 (.a (.a (.k 16777216) (.k 1)) (.k 1)) (.a (.v 1) (.v 0)) .e)) rfl h0 h
theorem o19 {a b c : Nat} (h0 : c ≤ b + 1) (h1 : a < c) : a ≤ b := n1 fun h => lin [c,b,a] (.c 1 (.v 0) (.a (.v 1) (.k 1)) (.c 1 (.a (.v 2) (.k 1)) (.v 0) (.c 1 (.a (.v 1) (.k 1)) (.v 2) .e))) rfl h0 h1 h
theorem o20 {a b : Nat} (h0 : (a + 1) + 1 ≤ b) : a ≤ b := n1 fun h => lin [a,b] (.c 1 (.a (.a (.v 0) (.k 1)) (.k 1)) (.v 1) (.c 1 (.a (.v 1) (.k 1)) (.v 0) .e)) rfl h0 h
theorem o21 {a b c : Nat} (h0 : a + b = c + 1) (h1 : b < c) : a - 1 < a := n2 fun h => lin [a,a - 1] (.c 1 (.v 0) (.v 1) (.c 1 (.a (.v 1) (.k 1)) (.v 0) .e)) rfl h ((n5 (fun q => lin [a,b,c] (.c 1 (.a (.v 2) (.k 1)) (.a (.v 0) (.v 1)) (.c 1 (.a (.v 1) (.k 1)) (.v 2) (.c 1 (.a (.v 0) (.k 1)) (.k 1) .e))) rfl (n4 h0.symm) h1 q)))
theorem o22 {a b c : Nat} (h0 : a + b = c + 1) (h1 : b < c) : (a - 1) + (b + 1) = c + 1 := n3 (n1 fun h => lin [a,b,c,a - 1] (.c 1 (.a (.v 0) (.v 1)) (.a (.v 2) (.k 1)) (.c 1 (.a (.a (.v 2) (.k 1)) (.k 1)) (.a (.v 3) (.a (.v 1) (.k 1))) (.c 1 (.a (.v 3) (.k 1)) (.v 0) .e))) rfl (n4 h0) h ((n5 (fun q => lin [a,b,c] (.c 1 (.a (.v 2) (.k 1)) (.a (.v 0) (.v 1)) (.c 1 (.a (.v 1) (.k 1)) (.v 2) (.c 1 (.a (.v 0) (.k 1)) (.k 1) .e))) rfl (n4 h0.symm) h1 q)))) (n1 fun h => lin [a,b,c,a - 1] (.c 1 (.a (.v 2) (.k 1)) (.a (.v 0) (.v 1)) (.c 1 (.v 0) (.a (.v 3) (.k 1)) (.c 1 (.a (.a (.v 3) (.a (.v 1) (.k 1))) (.k 1)) (.a (.v 2) (.k 1)) .e))) rfl (n4 h0.symm) (sub_ge _ _) h)
theorem o23 {a b c : Nat} (h0 : c = b) (h1 : a = c) : a = b := n3 (n1 fun h => lin [c,b,a] (.c 1 (.v 0) (.v 1) (.c 1 (.v 2) (.v 0) (.c 1 (.a (.v 1) (.k 1)) (.v 2) .e))) rfl (n4 h0) (n4 h1) h) (n1 fun h => lin [c,b,a] (.c 1 (.v 1) (.v 0) (.c 1 (.v 0) (.v 2) (.c 1 (.a (.v 2) (.k 1)) (.v 1) .e))) rfl (n4 h0.symm) (n4 h1.symm) h)
theorem o24 {a b : Nat} (h0 : a ≤ b) (h1 : ¬(a < b)) : a = b := n3 (n1 fun h => lin [a,b] (.c 1 (.v 0) (.v 1) (.c 1 (.a (.v 1) (.k 1)) (.v 0) .e)) rfl h0 h) (n1 fun h => lin [a,b] (.c 1 (.v 1) (.v 0) (.c 1 (.a (.v 0) (.k 1)) (.v 1) .e)) rfl (n1 h1) h)
theorem o25 {a : Int} (h0 : 0 ≤ a) (h1 : a ≤ 1114111) : (0 ≤ a) ∧ (a ≤ 1114111) := ⟨h0,h1⟩
theorem o26 {a : Int} {b : Nat} (h0 : b ≤ 1000) (h1 : (a).toNat < b) : a < 9223372036854775808 := i2 fun g => zlin [((b : Nat) : Int),(((a).toNat : Nat) : Int),a] (.c 1 (.v 0) (.k 1000) (.c 1 (.v 2) (.v 1) (.c 1 (.a (.v 1) (.k 1)) (.v 0) (.c 1 (.k 9223372036854775808) (.v 2) .e)))) rfl (c1 h0) (Int.self_le_toNat _) (c2 h1) g
theorem o27 {a : Int} {b : Nat} (h0 : (a).toNat < b) : a < ((b : Nat) : Int) := i2 fun g => zlin [((b : Nat) : Int),a,(((a).toNat : Nat) : Int)] (.c 1 (.v 1) (.v 2) (.c 1 (.a (.v 2) (.k 1)) (.v 0) (.c 1 (.v 0) (.v 1) .e))) rfl (Int.self_le_toNat _) (c2 h0) g
theorem o28 {a b c e f : Nat} (h0 : c ≤ b) (h1 : e < c) (h2 : f ≤ e) (h3 : a = f) : a ≤ b := n1 fun h => lin [c,b,e,f,a] (.c 1 (.v 0) (.v 1) (.c 1 (.a (.v 2) (.k 1)) (.v 0) (.c 1 (.v 3) (.v 2) (.c 1 (.v 4) (.v 3) (.c 1 (.a (.v 1) (.k 1)) (.v 4) .e))))) rfl h0 h1 h2 (n4 h3) h
theorem o29 {a b c : Nat} (h0 : a + b ≤ c) : a + b ≤ c := n1 fun h => lin [a,b,c] (.c 1 (.a (.v 0) (.v 1)) (.v 2) (.c 1 (.a (.v 2) (.k 1)) (.a (.v 0) (.v 1)) .e)) rfl h0 h
theorem o30 {a b : Nat} (h0 : a < b) : a < b := n2 fun h => lin [b,a] (.c 1 (.a (.v 1) (.k 1)) (.v 0) (.c 1 (.v 0) (.v 1) .e)) rfl h0 h
theorem o31 {a b : Nat} (h0 : a = b) : a ≤ b := n1 fun h => lin [b,a] (.c 1 (.v 1) (.v 0) (.c 1 (.a (.v 0) (.k 1)) (.v 1) .e)) rfl (n4 h0) h
theorem o32 {a : Nat}  : 0 ≤ ((a : Nat) : Int) := i1 fun g => zlin [((a : Nat) : Int)] (.c 1 (.k 0) (.v 0) (.c 1 (.a (.v 0) (.k 1)) (.k 0) .e)) rfl c0 g
theorem o33 {a : Nat} (h0 : a < 5) : ((a : Nat) : Int) < 9223372036854775808 := i2 fun g => zlin [((a : Nat) : Int)] (.c 1 (.a (.v 0) (.k 1)) (.k 5) (.c 1 (.k 9223372036854775808) (.v 0) .e)) rfl (c2 h0) g
theorem o34 {a : Nat} (h0 : a ≤ 1) : max 0 a ≤ 1 := Nat.max_le.mpr ⟨(n1 fun h => lin [] (.c 1 (.a (.k 1) (.k 1)) (.k 0) .e) rfl h),(n1 fun h => lin [a] (.c 1 (.v 0) (.k 1) (.c 1 (.a (.k 1) (.k 1)) (.v 0) .e)) rfl h0 h)⟩
theorem o35 {a b c e : Nat} (h0 : a + 10 < e) (h1 : b ≤ 1) : a + (min (b + 1) (c + 1)) < e := n2 fun h => lin [a,e,b,min (b + 1) (c + 1)] (.c 1 (.a (.a (.v 0) (.k 10)) (.k 1)) (.v 1) (.c 1 (.v 2) (.k 1) (.c 1 (.v 3) (.a (.v 2) (.k 1)) (.c 1 (.v 1) (.a (.v 0) (.v 3)) .e)))) rfl h0 h1 (Nat.min_le_left _ _) h
theorem o36 {a b : Nat} (h0 : a = b) (h1 : b ≤ 16777215) : a ≤ 16777215 := n1 fun h => lin [a,b] (.c 1 (.v 0) (.v 1) (.c 1 (.v 1) (.k 16777215) (.c 1 (.a (.k 16777215) (.k 1)) (.v 0) .e))) rfl (n4 h0) h1 h
theorem o37 {a b : Nat} (h0 : a = b) (h1 : b ≤ 999) : a ≤ 16777215 := n1 fun h => lin [a,b] (.c 1 (.v 0) (.v 1) (.c 1 (.v 1) (.k 999) (.c 1 (.a (.k 16777215) (.k 1)) (.v 0) .e))) rfl (n4 h0) h1 h
theorem o38 {a : Nat} (h0 : a ≤ 1000) : a ≤ 16777216 := n1 fun h => lin [a] (.c 1 (.v 0) (.k 1000) (.c 1 (.a (.k 16777216) (.k 1)) (.v 0) .e)) rfl h0 h
theorem o39 {a b : Nat} (h0 : a + 20 < b) : (a + 3) + 10 < b := n2 fun h => lin [a,b] (.c 1 (.a (.a (.v 0) (.k 20)) (.k 1)) (.v 1) (.c 1 (.v 1) (.a (.a (.v 0) (.k 3)) (.k 10)) .e)) rfl h0 h
theorem o40 {a b : Nat} (h0 : a + 1 ≤ b) : a + 1 ≤ b := n1 fun h => lin [a,b] (.c 1 (.a (.v 0) (.k 1)) (.v 1) (.c 1 (.a (.v 1) (.k 1)) (.a (.v 0) (.k 1)) .e)) rfl h0 h
theorem o41 {a b : Nat} (h0 : ((a + 1) + 1) + 1 ≤ b) : a ≤ b := n1 fun h => lin [a,b] (.c 1 (.a (.a (.a (.v 0) (.k 1)) (.k 1)) (.k 1)) (.v 1) (.c 1 (.a (.v 1) (.k 1)) (.v 0) .e)) rfl h0 h
theorem o42 {a b : Nat} (h0 : a + (20 * 2) < b) : a + 20 < b := n2 fun h => lin [a,b] (.c 1 (.a (.a (.v 0) (.m 20 (.k 2))) (.k 1)) (.v 1) (.c 1 (.v 1) (.a (.v 0) (.k 20)) .e)) rfl h0 h
theorem o43 {a b c : Nat} (h0 : 4 ≤ c) (h1 : a + c < b) : a + 3 < b := n2 fun h => lin [c,a,b] (.c 1 (.k 4) (.v 0) (.c 1 (.a (.a (.v 1) (.v 0)) (.k 1)) (.v 2) (.c 1 (.v 2) (.a (.v 1) (.k 3)) .e))) rfl h0 h1 h
theorem o44 {a b c : Nat} (h0 : 4 ≤ c) (h1 : a + (20 * c) < b) : (a + 1) + (20 * 3) < b := n2 fun h => lin [c,a,b] (.c 20 (.k 4) (.v 0) (.c 1 (.a (.a (.v 1) (.m 20 (.v 0))) (.k 1)) (.v 2) (.c 1 (.v 2) (.a (.a (.v 1) (.k 1)) (.m 20 (.k 3))) .e))) rfl h0 h1 h
theorem o45 {a b : Nat} (h0 : b + a ≤ 100000) : a ≤ 100000 := n1 fun h => lin [b,a] (.c 1 (.a (.v 0) (.v 1)) (.k 100000) (.c 1 (.a (.k 100000) (.k 1)) (.v 1) .e)) rfl h0 h
theorem o46 {a b : Nat} (h0 : b + (a + 1) ≤ 100000) : a ≤ 100000 := n1 fun h => lin [b,a] (.c 1 (.a (.v 0) (.a (.v 1) (.k 1))) (.k 100000) (.c 1 (.a (.k 100000) (.k 1)) (.v 1) .e)) rfl h0 h
theorem o47 {a b c : Nat} {e : Prop} (h0 : a + (c + 1) ≤ 100000) (h1 : (b ≤ 1) ∧ e) : a + b ≤ 16777216 := n1 fun h => lin [a,c,b] (.c 1 (.a (.v 0) (.a (.v 1) (.k 1))) (.k 100000) (.c 1 (.v 2) (.k 1) (.c 1 (.a (.k 16777216) (.k 1)) (.a (.v 0) (.v 2)) .e))) rfl h0 h1.1 h
theorem o48 {a : Nat}  : a - 1 ≤ a := n1 fun h => lin [a,a - 1] (.c 1 (.v 1) (.v 0) (.c 1 (.a (.v 0) (.k 1)) (.v 1) .e)) rfl (Nat.sub_le _ _) h
theorem o49 {a b c : Nat} (h0 : c + 1 < b + 1) (h1 : a ≤ c) : a < b := n2 fun h => lin [c,b,a] (.c 1 (.a (.a (.v 0) (.k 1)) (.k 1)) (.a (.v 1) (.k 1)) (.c 1 (.v 2) (.v 0) (.c 1 (.v 1) (.v 2) .e))) rfl h0 h1 h
theorem o50 {a b c : Nat} (h0 : a + (c + 1) ≤ 100000) (h1 : b = 0) : a + b ≤ 100000 := n1 fun h => lin [a,c,b] (.c 1 (.a (.v 0) (.a (.v 1) (.k 1))) (.k 100000) (.c 1 (.v 2) (.k 0) (.c 1 (.a (.k 100000) (.k 1)) (.a (.v 0) (.v 2)) .e))) rfl h0 (n4 h1) h
theorem o51 {a b c : Nat} {e : Prop} (h0 : a + ((c + 1) + 1) ≤ 100000) (h1 : (b ≤ 1) ∧ e) : (a + b) + c ≤ 100000 := n1 fun h => lin [a,c,b] (.c 1 (.a (.v 0) (.a (.a (.v 1) (.k 1)) (.k 1))) (.k 100000) (.c 1 (.v 2) (.k 1) (.c 1 (.a (.k 100000) (.k 1)) (.a (.a (.v 0) (.v 2)) (.v 1)) .e))) rfl h0 h1.1 h
theorem o52 {a b : Nat} (h0 : a + (b + 1) ≤ 100000) : a + 1 ≤ 16777216 := n1 fun h => lin [a,b] (.c 1 (.a (.v 0) (.a (.v 1) (.k 1))) (.k 100000) (.c 1 (.a (.k 16777216) (.k 1)) (.a (.v 0) (.k 1)) .e)) rfl h0 h
theorem o53 {a b : Nat} (h0 : a + 1 < b + 1) : a < b := n2 fun h => lin [a,b] (.c 1 (.a (.a (.v 0) (.k 1)) (.k 1)) (.a (.v 1) (.k 1)) (.c 1 (.v 1) (.v 0) .e)) rfl h0 h
theorem o54 {a b : Nat} (h0 : a + (b + 1) ≤ 100000) : (a + 1) + b ≤ 100000 := n1 fun h => lin [a,b] (.c 1 (.a (.v 0) (.a (.v 1) (.k 1))) (.k 100000) (.c 1 (.a (.k 100000) (.k 1)) (.a (.a (.v 0) (.k 1)) (.v 1)) .e)) rfl h0 h
theorem o55 {a : Nat} (h0 : a ≤ 90000) : a ≤ 100000 := n1 fun h => lin [a] (.c 1 (.v 0) (.k 90000) (.c 1 (.a (.k 100000) (.k 1)) (.v 0) .e)) rfl h0 h
theorem o56 {a : Nat} (h0 : a + 1 ≤ 90000) : a ≤ 90000 := n1 fun h => lin [a] (.c 1 (.a (.v 0) (.k 1)) (.k 90000) (.c 1 (.a (.k 90000) (.k 1)) (.v 0) .e)) rfl h0 h
theorem o57 {a : Nat} (h0 : a + 1 ≤ 90000) : 0 + a ≤ 100000 := n1 fun h => lin [a] (.c 1 (.a (.v 0) (.k 1)) (.k 90000) (.c 1 (.a (.k 100000) (.k 1)) (.a (.k 0) (.v 0)) .e)) rfl h0 h
theorem o58 {a : Nat} (h0 : a + 1 ≤ 90000) : a ≤ 100000 := n1 fun h => lin [a] (.c 1 (.a (.v 0) (.k 1)) (.k 90000) (.c 1 (.a (.k 100000) (.k 1)) (.v 0) .e)) rfl h0 h
theorem o59 {a : Nat} {b : Prop} (h0 : (a ≤ 1) ∧ b) : 0 + a ≤ 16777216 := n1 fun h => lin [a] (.c 1 (.v 0) (.k 1) (.c 1 (.a (.k 16777216) (.k 1)) (.a (.k 0) (.v 0)) .e)) rfl h0.1 h
theorem o60 {a b c : Nat} {e : Prop} (h0 : c + 1 ≤ 90000) (h1 : (a ≤ 1) ∧ e) (h2 : b ≤ c) : (0 + a) + b ≤ 100000 := n1 fun h => lin [c,a,b] (.c 1 (.a (.v 0) (.k 1)) (.k 90000) (.c 1 (.v 1) (.k 1) (.c 1 (.v 2) (.v 0) (.c 1 (.a (.k 100000) (.k 1)) (.a (.a (.k 0) (.v 1)) (.v 2)) .e)))) rfl h0 h1.1 h2 h
theorem o61   : 0 + 1 ≤ 16777216 := n1 fun h => lin [] (.c 1 (.a (.k 16777216) (.k 1)) (.a (.k 0) (.k 1)) .e) rfl h
theorem o62 {a : Nat} (h0 : a + 1 ≤ 90000) : (0 + 1) + a ≤ 100000 := n1 fun h => lin [a] (.c 1 (.a (.v 0) (.k 1)) (.k 90000) (.c 1 (.a (.k 100000) (.k 1)) (.a (.a (.k 0) (.k 1)) (.v 0)) .e)) rfl h0 h
theorem o63 {a b c : Nat} (h0 : 3 ≤ c) (h1 : a + c < b) : (a + 1) + 1 < b := n2 fun h => lin [c,a,b] (.c 1 (.k 3) (.v 0) (.c 1 (.a (.a (.v 1) (.v 0)) (.k 1)) (.v 2) (.c 1 (.v 2) (.a (.a (.v 1) (.k 1)) (.k 1)) .e))) rfl h0 h1 h
theorem o64 {a b c : Nat} (h0 : 3 ≤ c) (h1 : a + (20 * c) < b) : (a + 1) + 20 < b := n2 fun h => lin [c,a,b] (.c 20 (.k 3) (.v 0) (.c 1 (.a (.a (.v 1) (.m 20 (.v 0))) (.k 1)) (.v 2) (.c 1 (.v 2) (.a (.a (.v 1) (.k 1)) (.k 20)) .e))) rfl h0 h1 h
theorem o65 {a : Nat} (h0 : 0 = a + 1) : False := lin [a] (.c 1 (.a (.v 0) (.k 1)) (.k 0) .e) rfl (n4 h0.symm)
theorem o66 {a b c e f : Nat}  : a + (b + (c + (e + f))) = f + (c + (b + (a + e))) := n3 (n1 fun h => lin [f,c,b,a,e] (.c 1 (.a (.a (.v 0) (.a (.v 1) (.a (.v 2) (.a (.v 3) (.v 4))))) (.k 1)) (.a (.v 3) (.a (.v 2) (.a (.v 1) (.a (.v 4) (.v 0))))) .e) rfl h) (n1 fun h => lin [a,b,c,e,f] (.c 1 (.a (.a (.v 0) (.a (.v 1) (.a (.v 2) (.a (.v 3) (.v 4))))) (.k 1)) (.a (.v 4) (.a (.v 2) (.a (.v 1) (.a (.v 0) (.v 3))))) .e) rfl h)
theorem o67 {a b c : Nat} (h0 : 5 ≤ c) (h1 : a + c < b) : a + 4 < b := n2 fun h => lin [c,a,b] (.c 1 (.k 5) (.v 0) (.c 1 (.a (.a (.v 1) (.v 0)) (.k 1)) (.v 2) (.c 1 (.v 2) (.a (.v 1) (.k 4)) .e))) rfl h0 h1 h
theorem o68 {a b c : Nat} (h0 : 5 ≤ c) (h1 : a + (20 * c) < b) : a + 80 < b := n2 fun h => lin [c,a,b] (.c 20 (.k 5) (.v 0) (.c 1 (.a (.a (.v 1) (.m 20 (.v 0))) (.k 1)) (.v 2) (.c 1 (.v 2) (.a (.v 1) (.k 80)) .e))) rfl h0 h1 h
theorem o69 {a : Nat}  : 4 * a ≤ 4 * (a + 1) := n1 fun h => lin [a] (.c 1 (.a (.m 4 (.a (.v 0) (.k 1))) (.k 1)) (.m 4 (.v 0)) .e) rfl h
theorem o70 {a b c : Nat} (h0 : a ≤ 4 * c) (h1 : b ≤ 4) : a + b ≤ 4 * (c + 1) := n1 fun h => lin [a,c,b] (.c 1 (.v 0) (.m 4 (.v 1)) (.c 1 (.v 2) (.k 4) (.c 1 (.a (.m 4 (.a (.v 1) (.k 1))) (.k 1)) (.a (.v 0) (.v 2)) .e))) rfl h0 h1 h
theorem o71   : 0 < 2 := n2 fun h => lin [] (.c 1 (.k 2) (.k 0) .e) rfl h
theorem o72   : 1 < 2 := n2 fun h => lin [] (.c 1 (.k 2) (.k 1) .e) rfl h
theorem o73 {a b c e : Nat} (h0 : (a ≤ 4 * c) ∧ (e ≤ 4 * c)) (h1 : b ≤ 4) (h2 : c + 1 < 6) : a + b ≤ 16777216 := n1 fun h => lin [c,a,b] (.c 1 (.v 1) (.m 4 (.v 0)) (.c 1 (.v 2) (.k 4) (.c 4 (.a (.a (.v 0) (.k 1)) (.k 1)) (.k 6) (.c 1 (.a (.k 16777216) (.k 1)) (.a (.v 1) (.v 2)) .e)))) rfl h0.1 h1 h2 h
theorem o74 {a b c e : Nat} (h0 : c < 10) (h1 : (e ≤ 4 * c) ∧ (a ≤ 4 * c)) (h2 : b ≤ 4) : a + b ≤ 16777216 := n1 fun h => lin [c,a,b] (.c 4 (.a (.v 0) (.k 1)) (.k 10) (.c 1 (.v 1) (.m 4 (.v 0)) (.c 1 (.v 2) (.k 4) (.c 1 (.a (.k 16777216) (.k 1)) (.a (.v 1) (.v 2)) .e)))) rfl h0 h1.2 h2 h
theorem o75 {a : Nat}  : (1 + (((a : Nat) : Int))).toNat = a + 1 := n3 (n1 fun g => zlin [((a : Nat) : Int),(((1 + (((a : Nat) : Int))).toNat : Nat) : Int)] (.c 1 (.a (.a (.v 0) (.k 1)) (.k 1)) (.v 1) (.c 1 (.v 1) (.a (.k 1) (.v 0)) .e)) rfl (c2 g) ((i5 (fun q => zlin [((a : Nat) : Int)] (.c 1 (.k 0) (.v 0) (.c 1 (.a (.a (.k 1) (.v 0)) (.k 1)) (.k 0) .e)) rfl c0 q)))) (n1 fun g => zlin [((a : Nat) : Int),(((1 + (((a : Nat) : Int))).toNat : Nat) : Int)] (.c 1 (.a (.k 1) (.v 0)) (.v 1) (.c 1 (.a (.v 1) (.k 1)) (.a (.v 0) (.k 1)) .e)) rfl (Int.self_le_toNat _) (c2 g))
theorem o76 {a b : Nat} (h0 : b = 11) (h1 : a < 10) : a + 1 < b := n2 fun h => lin [b,a] (.c 1 (.k 11) (.v 0) (.c 1 (.a (.v 1) (.k 1)) (.k 10) (.c 1 (.v 0) (.a (.v 1) (.k 1)) .e))) rfl (n4 h0.symm) h1 h
theorem o77 {a : Nat}  : 0 ≤ 1 + (((a : Nat) : Int)) := i1 fun g => zlin [((a : Nat) : Int)] (.c 1 (.k 0) (.v 0) (.c 1 (.a (.a (.k 1) (.v 0)) (.k 1)) (.k 0) .e)) rfl c0 g
theorem o78 {a : Nat} (h0 : a < 10) : 1 + (((a : Nat) : Int)) < 9223372036854775808 := i2 fun g => zlin [((a : Nat) : Int)] (.c 1 (.a (.v 0) (.k 1)) (.k 10) (.c 1 (.k 9223372036854775808) (.a (.k 1) (.v 0)) .e)) rfl (c2 h0) g
theorem o79 {a : Int} (h0 : 0 ≤ a) : 0 ≤ 9 + a := i1 fun g => zlin [a] (.c 1 (.k 0) (.v 0) (.c 1 (.a (.a (.k 9) (.v 0)) (.k 1)) (.k 0) .e)) rfl h0 g
theorem o80 {a : Int} (h0 : a < 55287) : 9 + a ≤ 1114111 := i1 fun g => zlin [a] (.c 1 (.a (.v 0) (.k 1)) (.k 55287) (.c 1 (.a (.k 1114111) (.k 1)) (.a (.k 9) (.v 0)) .e)) rfl h0 g
theorem o81 {a : Int} (h0 : a < 48) : a < 9223372036854775808 := i2 fun g => zlin [a] (.c 1 (.a (.v 0) (.k 1)) (.k 48) (.c 1 (.k 9223372036854775808) (.v 0) .e)) rfl h0 g
theorem o82 {a : Int} (h0 : 0 ≤ a) (h1 : a < 48) : (a).toNat < 48 := n2 fun g => zlin [a,(((a).toNat : Nat) : Int)] (.c 1 (.a (.v 0) (.k 1)) (.k 48) (.c 1 (.k 48) (.v 1) (.c 1 (.v 1) (.v 0) .e))) rfl h1 (c1 g) ((i5 (fun q => zlin [a] (.c 1 (.k 0) (.v 0) (.c 1 (.a (.v 0) (.k 1)) (.k 0) .e)) rfl h0 q)))
theorem o83 {a : Int} (h0 : a < 24) : a < 9223372036854775808 := i2 fun g => zlin [a] (.c 1 (.a (.v 0) (.k 1)) (.k 24) (.c 1 (.k 9223372036854775808) (.v 0) .e)) rfl h0 g
theorem o84 {a : Int} (h0 : 0 ≤ a) (h1 : a < 24) (h2 : ¬(a = 22)) (h3 : ¬(a = 23)) : (a).toNat < 22 := n2 fun g => ((Int.lt_or_gt_of_ne h2).elim (fun d0 => zlin [a,(((a).toNat : Nat) : Int)] (.c 1 (.k 22) (.v 1) (.c 1 (.a (.v 0) (.k 1)) (.k 22) (.c 1 (.v 1) (.v 0) .e))) rfl (c1 g) d0 ((i5 (fun q => zlin [a] (.c 1 (.k 0) (.v 0) (.c 1 (.a (.v 0) (.k 1)) (.k 0) .e)) rfl h0 q)))) (fun d0 => ((Int.lt_or_gt_of_ne h3).elim (fun d1 => zlin [a] (.c 1 (.a (.k 22) (.k 1)) (.v 0) (.c 1 (.a (.v 0) (.k 1)) (.k 23) .e)) rfl d0 d1) (fun d1 => zlin [a] (.c 1 (.a (.v 0) (.k 1)) (.k 24) (.c 1 (.a (.k 23) (.k 1)) (.v 0) .e)) rfl h1 d1))))
theorem o85 {a : Nat} (h0 : a < 10) (h1 : 0 = 10 - a) : False := lin [a,10 - a] (.c 1 (.a (.v 0) (.k 1)) (.k 10) (.c 1 (.k 10) (.a (.v 1) (.v 0)) (.c 1 (.v 1) (.k 0) .e))) rfl h0 (sub_ge _ _) (n4 h1.symm)
theorem o86 {a : Nat} (h0 : a ≤ 10) (h1 : 10 ≤ a) : a = 10 := n3 (n1 fun h => lin [a] (.c 1 (.v 0) (.k 10) (.c 1 (.a (.k 10) (.k 1)) (.v 0) .e)) rfl h0 h) (n1 fun h => lin [a] (.c 1 (.k 10) (.v 0) (.c 1 (.a (.v 0) (.k 1)) (.k 10) .e)) rfl h1 h)
theorem o87 {a b : Nat} (h0 : a ≤ b) : ((a : Nat) : Int) ≤ ((b : Nat) : Int) := i1 fun g => zlin [((a : Nat) : Int),((b : Nat) : Int)] (.c 1 (.v 0) (.v 1) (.c 1 (.a (.v 1) (.k 1)) (.v 0) .e)) rfl (c1 h0) g
theorem o88 {a b : Nat} (h0 : b ≤ a) : ((((a : Nat) : Int)) - (((b : Nat) : Int))).toNat = a - b := n3 (n1 fun g => zlin [((b : Nat) : Int),((a : Nat) : Int),((a - b : Nat) : Int),((((((a : Nat) : Int)) - (((b : Nat) : Int))).toNat : Nat) : Int)] (.c 1 (.v 1) (.a (.v 2) (.v 0)) (.c 1 (.a (.v 2) (.k 1)) (.v 3) (.c 1 (.v 3) (.s (.v 1) (.v 0)) .e))) rfl (c1 (sub_ge _ _)) (c2 g) ((i5 (fun q => zlin [((b : Nat) : Int),((a : Nat) : Int)] (.c 1 (.v 0) (.v 1) (.c 1 (.a (.s (.v 1) (.v 0)) (.k 1)) (.k 0) .e)) rfl (c1 h0) q)))) (n1 fun g => zlin [((b : Nat) : Int),((a : Nat) : Int),((((((a : Nat) : Int)) - (((b : Nat) : Int))).toNat : Nat) : Int),((a - b : Nat) : Int)] (.c 1 (.s (.v 1) (.v 0)) (.v 2) (.c 1 (.a (.v 2) (.k 1)) (.v 3) (.c 1 (.a (.v 3) (.v 0)) (.v 1) .e))) rfl (Int.self_le_toNat _) (c2 g) (c1 ((n5 (fun q => zlin [((b : Nat) : Int),((a : Nat) : Int)] (.c 1 (.v 0) (.v 1) (.c 1 (.a (.v 1) (.k 1)) (.v 0) .e)) rfl (c1 h0) (c2 q))))))
theorem o89 {a : Nat} (h0 : ((a : Nat) : Int) < 0) : False := zlin [((a : Nat) : Int)] (.c 1 (.k 0) (.v 0) (.c 1 (.a (.v 0) (.k 1)) (.k 0) .e)) rfl c0 h0
theorem o90 {a b c : Nat} (h0 : ¬(b ≤ a)) : a ≤ (b - c) + c := n1 fun h => lin [c,b,a,b - c] (.c 1 (.a (.v 2) (.k 1)) (.v 1) (.c 1 (.v 1) (.a (.v 3) (.v 0)) (.c 1 (.a (.a (.v 3) (.v 0)) (.k 1)) (.v 2) .e))) rfl (n2 h0) (sub_ge _ _) h
theorem o91 {a : Nat}  : ((((((a : Nat) : Int)) - 1) - (-1)) - 1) + 1 = ((a : Nat) : Int) := i3 (i1 fun g => zlin [((a : Nat) : Int)] (.c 1 (.a (.v 0) (.k 1)) (.a (.s (.s (.s (.v 0) (.k 1)) (.g (.k 1))) (.k 1)) (.k 1)) .e) rfl g) (i1 fun g => zlin [((a : Nat) : Int)] (.c 1 (.a (.a (.s (.s (.s (.v 0) (.k 1)) (.g (.k 1))) (.k 1)) (.k 1)) (.k 1)) (.v 0) .e) rfl g)
theorem o92 {a : Nat} (h0 : ¬(-1 < (((a : Nat) : Int)) - 1)) : 0 = ((a : Nat) : Int) := i3 (i1 fun g => zlin [((a : Nat) : Int)] (.c 1 (.k 0) (.v 0) (.c 1 (.a (.v 0) (.k 1)) (.k 0) .e)) rfl c0 g) (i1 fun g => zlin [((a : Nat) : Int)] (.c 1 (.s (.v 0) (.k 1)) (.g (.k 1)) (.c 1 (.a (.k 0) (.k 1)) (.v 0) .e)) rfl (i1 h0) g)
theorem o93 {a b : Nat} (h0 : b < a) : ((((a : Nat) : Int)) - 1) + ((((b : Nat) : Int)) * (-1)) = (((a - 1) - b : Nat) : Int) := i3 (i1 fun g => zlin [((b : Nat) : Int),((a : Nat) : Int),(((a - 1) - b : Nat) : Int),((a - 1 : Nat) : Int)] (.c 1 (.v 1) (.a (.v 3) (.k 1)) (.c 1 (.v 3) (.a (.v 2) (.v 0)) (.c 1 (.a (.v 2) (.k 1)) (.a (.s (.v 1) (.k 1)) (.r (.v 0) (-1))) .e))) rfl (c1 (sub_ge _ _)) (c1 (sub_ge _ _)) g) (i1 fun g => zlin [((b : Nat) : Int),((a : Nat) : Int),(((a - 1) - b : Nat) : Int),((a - 1 : Nat) : Int)] (.c 1 (.a (.a (.s (.v 1) (.k 1)) (.r (.v 0) (-1))) (.k 1)) (.v 2) (.c 1 (.a (.v 2) (.v 0)) (.v 3) (.c 1 (.a (.v 3) (.k 1)) (.v 1) .e))) rfl g (c1 ((n5 (fun q => zlin [((b : Nat) : Int),((a : Nat) : Int),((a - 1 : Nat) : Int)] (.c 1 (.a (.v 0) (.k 1)) (.v 1) (.c 1 (.v 1) (.a (.v 2) (.k 1)) (.c 1 (.a (.v 2) (.k 1)) (.v 0) .e))) rfl (c2 h0) (c1 (sub_ge _ _)) (c2 q))))) (c1 ((n5 (fun q => zlin [((b : Nat) : Int),((a : Nat) : Int)] (.c 1 (.k 0) (.v 0) (.c 1 (.a (.v 0) (.k 1)) (.v 1) (.c 1 (.a (.v 1) (.k 1)) (.k 1) .e))) rfl c0 (c2 h0) (c2 q))))))
theorem o94 {a b : Nat} (h0 : b < a) : a - b = ((a - 1) - b) + 1 := n3 (n1 fun h => lin [b,a,(a - 1) - b,a - 1,a - b] (.c 1 (.v 1) (.a (.v 3) (.k 1)) (.c 1 (.v 3) (.a (.v 2) (.v 0)) (.c 1 (.a (.a (.v 2) (.k 1)) (.k 1)) (.v 4) (.c 1 (.a (.v 4) (.v 0)) (.v 1) .e)))) rfl (sub_ge _ _) (sub_ge _ _) h ((n5 (fun q => lin [b,a] (.c 1 (.a (.v 0) (.k 1)) (.v 1) (.c 1 (.a (.v 1) (.k 1)) (.v 0) .e)) rfl h0 q)))) (n1 fun h => lin [b,a,a - b,(a - 1) - b,a - 1] (.c 1 (.v 1) (.a (.v 2) (.v 0)) (.c 1 (.a (.v 2) (.k 1)) (.a (.v 3) (.k 1)) (.c 1 (.a (.v 3) (.v 0)) (.v 4) (.c 1 (.a (.v 4) (.k 1)) (.v 1) .e)))) rfl (sub_ge _ _) h ((n5 (fun q => lin [b,a,a - 1] (.c 1 (.a (.v 0) (.k 1)) (.v 1) (.c 1 (.v 1) (.a (.v 2) (.k 1)) (.c 1 (.a (.v 2) (.k 1)) (.v 0) .e))) rfl h0 (sub_ge _ _) q))) ((n5 (fun q => lin [b,a] (.c 1 (.a (.v 0) (.k 1)) (.v 1) (.c 1 (.a (.v 1) (.k 1)) (.k 1) .e)) rfl h0 q))))
theorem o95 {a b : Nat} (h0 : b < a) : (a - 1) - b < a := n2 fun h => lin [a,(a - 1) - b,a - 1] (.c 1 (.v 1) (.v 2) (.c 1 (.v 0) (.v 1) (.c 1 (.a (.v 2) (.k 1)) (.v 0) .e))) rfl (Nat.sub_le _ _) h ((n5 (fun q => lin [b,a] (.c 1 (.a (.v 0) (.k 1)) (.v 1) (.c 1 (.a (.v 1) (.k 1)) (.k 1) .e)) rfl h0 q)))
theorem o96 {a b : Nat} (h0 : b < a) : a - (b + 1) = (a - 1) - b := n3 (n1 fun h => lin [b,a,(a - 1) - b,a - 1,a - (b + 1)] (.c 1 (.v 1) (.a (.v 3) (.k 1)) (.c 1 (.v 3) (.a (.v 2) (.v 0)) (.c 1 (.a (.v 2) (.k 1)) (.v 4) (.c 1 (.a (.v 4) (.a (.v 0) (.k 1))) (.v 1) .e)))) rfl (sub_ge _ _) (sub_ge _ _) h ((n5 (fun q => lin [b,a] (.c 1 (.a (.v 0) (.k 1)) (.v 1) (.c 1 (.a (.v 1) (.k 1)) (.a (.v 0) (.k 1)) .e)) rfl h0 q)))) (n1 fun h => lin [b,a,a - (b + 1),(a - 1) - b,a - 1] (.c 1 (.v 1) (.a (.v 2) (.a (.v 0) (.k 1))) (.c 1 (.a (.v 2) (.k 1)) (.v 3) (.c 1 (.a (.v 3) (.v 0)) (.v 4) (.c 1 (.a (.v 4) (.k 1)) (.v 1) .e)))) rfl (sub_ge _ _) h ((n5 (fun q => lin [b,a,a - 1] (.c 1 (.a (.v 0) (.k 1)) (.v 1) (.c 1 (.v 1) (.a (.v 2) (.k 1)) (.c 1 (.a (.v 2) (.k 1)) (.v 0) .e))) rfl h0 (sub_ge _ _) q))) ((n5 (fun q => lin [b,a] (.c 1 (.a (.v 0) (.k 1)) (.v 1) (.c 1 (.a (.v 1) (.k 1)) (.k 1) .e)) rfl h0 q))))
theorem o97 {a b : Nat} (h0 : 0 = a - b) : a - b = 0 := n3 (n1 fun h => lin [a - b] (.c 1 (.v 0) (.k 0) (.c 1 (.a (.k 0) (.k 1)) (.v 0) .e)) rfl (n4 h0.symm) h) (n1 fun h => lin [a - b] (.c 1 (.a (.v 0) (.k 1)) (.k 0) .e) rfl h)
theorem o98 {a b c : Nat} (h0 : c ≤ b) (h1 : a ≤ c + 1) : a ≤ b + 1 := n1 fun h => lin [c,b,a] (.c 1 (.v 0) (.v 1) (.c 1 (.v 2) (.a (.v 0) (.k 1)) (.c 1 (.a (.a (.v 1) (.k 1)) (.k 1)) (.v 2) .e))) rfl h0 h1 h
theorem o99 {a b : Nat} (h0 : a ≤ b) : a ≤ b + 1 := n1 fun h => lin [a,b] (.c 1 (.v 0) (.v 1) (.c 1 (.a (.a (.v 1) (.k 1)) (.k 1)) (.v 0) .e)) rfl h0 h
theorem o100 {a b c : Nat} (h0 : a ≤ 1) (h1 : b ≤ c) : a + b ≤ c + 1 := n1 fun h => lin [a,b,c] (.c 1 (.v 0) (.k 1) (.c 1 (.v 1) (.v 2) (.c 1 (.a (.a (.v 2) (.k 1)) (.k 1)) (.a (.v 0) (.v 1)) .e))) rfl h0 h1 h
theorem o101 {a b : Nat} (h0 : a ≤ b + 1) : a ≤ b + 1 := n1 fun h => lin [a,b] (.c 1 (.v 0) (.a (.v 1) (.k 1)) (.c 1 (.a (.a (.v 1) (.k 1)) (.k 1)) (.v 0) .e)) rfl h0 h
theorem o102 {a b : Nat} (h0 : a ≤ b + 1) : a ≤ (b + 1) + 1 := n1 fun h => lin [a,b] (.c 1 (.v 0) (.a (.v 1) (.k 1)) (.c 1 (.a (.a (.a (.v 1) (.k 1)) (.k 1)) (.k 1)) (.v 0) .e)) rfl h0 h
theorem o103 {a : Nat}  : ((-1) + ((((a : Nat) : Int)) + 1)).toNat = a := n3 (n1 fun g => zlin [((a : Nat) : Int),((((-1) + ((((a : Nat) : Int)) + 1)).toNat : Nat) : Int)] (.c 1 (.a (.v 0) (.k 1)) (.v 1) (.c 1 (.v 1) (.a (.g (.k 1)) (.a (.v 0) (.k 1))) .e)) rfl (c2 g) ((i5 (fun q => zlin [((a : Nat) : Int),((((-1) + ((((a : Nat) : Int)) + 1)).toNat : Nat) : Int)] (.c 1 (.a (.v 0) (.k 1)) (.v 1) (.c 1 (.v 1) (.a (.g (.k 1)) (.a (.v 0) (.k 1))) .e)) rfl (c2 g) ((i5 (fun q => zlin [((a : Nat) : Int)] (.c 1 (.k 0) (.v 0) (.c 1 (.a (.a (.g (.k 1)) (.a (.v 0) (.k 1))) (.k 1)) (.k 0) .e)) rfl c0 q))))))) (n1 fun g => zlin [((((-1) + ((((a : Nat) : Int)) + 1)).toNat : Nat) : Int),((a : Nat) : Int)] (.c 1 (.a (.g (.k 1)) (.a (.v 1) (.k 1))) (.v 0) (.c 1 (.a (.v 0) (.k 1)) (.v 1) .e)) rfl (Int.self_le_toNat _) (c2 g))
theorem o104 {a : Nat}  : ((-2) + ((((a : Nat) : Int)) + 2)).toNat = a := n3 (n1 fun g => zlin [((a : Nat) : Int),((((-2) + ((((a : Nat) : Int)) + 2)).toNat : Nat) : Int)] (.c 1 (.a (.v 0) (.k 1)) (.v 1) (.c 1 (.v 1) (.a (.g (.k 2)) (.a (.v 0) (.k 2))) .e)) rfl (c2 g) ((i5 (fun q => zlin [((a : Nat) : Int),((((-2) + ((((a : Nat) : Int)) + 2)).toNat : Nat) : Int)] (.c 1 (.a (.v 0) (.k 1)) (.v 1) (.c 1 (.v 1) (.a (.g (.k 2)) (.a (.v 0) (.k 2))) .e)) rfl (c2 g) ((i5 (fun q => zlin [((a : Nat) : Int)] (.c 1 (.k 0) (.v 0) (.c 1 (.a (.a (.g (.k 2)) (.a (.v 0) (.k 2))) (.k 1)) (.k 0) .e)) rfl c0 q))))))) (n1 fun g => zlin [((((-2) + ((((a : Nat) : Int)) + 2)).toNat : Nat) : Int),((a : Nat) : Int)] (.c 1 (.a (.g (.k 2)) (.a (.v 1) (.k 2))) (.v 0) (.c 1 (.a (.v 0) (.k 1)) (.v 1) .e)) rfl (Int.self_le_toNat _) (c2 g))
theorem o105 {a b : Nat} (h0 : a ≤ 1) (h1 : b ≤ 1000) : a + b ≤ 16777216 := n1 fun h => lin [a,b] (.c 1 (.v 0) (.k 1) (.c 1 (.v 1) (.k 1000) (.c 1 (.a (.k 16777216) (.k 1)) (.a (.v 0) (.v 1)) .e))) rfl h0 h1 h
theorem o106 {a : Nat} (h0 : a ≤ 1000 + 1) : a ≤ 16777216 := n1 fun h => lin [a] (.c 1 (.v 0) (.a (.k 1000) (.k 1)) (.c 1 (.a (.k 16777216) (.k 1)) (.v 0) .e)) rfl h0 h
theorem o107 {a : Nat} (h0 : a ≤ 1000 + 1) : 1 + (a - 1) ≤ 16777216 := n1 fun h => lin [a,a - 1] (.c 1 (.v 0) (.a (.k 1000) (.k 1)) (.c 1 (.v 1) (.v 0) (.c 1 (.a (.k 16777216) (.k 1)) (.a (.k 1) (.v 1)) .e))) rfl h0 (Nat.sub_le _ _) h
theorem o108 {a : Nat} (h0 : a ≤ 1000 + 1) : 1 + a ≤ 16777216 := n1 fun h => lin [a] (.c 1 (.v 0) (.a (.k 1000) (.k 1)) (.c 1 (.a (.k 16777216) (.k 1)) (.a (.k 1) (.v 0)) .e)) rfl h0 h
theorem o109 {a : Nat} (h0 : a ≤ 1000) : a ≤ 1000000 := n1 fun h => lin [a] (.c 1 (.v 0) (.k 1000) (.c 1 (.a (.k 1000000) (.k 1)) (.v 0) .e)) rfl h0 h
theorem o110 {a b : Nat} (h0 : a ≤ 1000) (h1 : b < a) : a - (b + 1) ≤ 1000 := n1 fun h => lin [a,b,a - (b + 1)] (.c 1 (.v 0) (.k 1000) (.c 1 (.a (.k 1000) (.k 1)) (.v 2) (.c 1 (.a (.v 2) (.a (.v 1) (.k 1))) (.v 0) .e))) rfl h0 h ((n5 (fun q => lin [a,b] (.c 1 (.a (.v 1) (.k 1)) (.v 0) (.c 1 (.a (.v 0) (.k 1)) (.a (.v 1) (.k 1)) .e)) rfl h1 q)))
theorem o111 {a : Nat}  : a + 1 ≤ a + 2 := n1 fun h => lin [a] (.c 1 (.a (.a (.v 0) (.k 2)) (.k 1)) (.a (.v 0) (.k 1)) .e) rfl h
theorem o112 {a b : Nat} (h0 : a < b) : a + 1 ≤ b := n1 fun h => lin [a,b] (.c 1 (.a (.v 0) (.k 1)) (.v 1) (.c 1 (.a (.v 1) (.k 1)) (.a (.v 0) (.k 1)) .e)) rfl h0 h
theorem o113 {a : Nat}  : (a + 2) - (a + 1) = 1 := n3 (n1 fun h => lin [(a + 2) - (a + 1),a] (.c 1 (.a (.k 1) (.k 1)) (.v 0) (.c 1 (.a (.v 0) (.a (.v 1) (.k 1))) (.a (.v 1) (.k 2)) .e)) rfl h ((n5 (fun q => lin [a] (.c 1 (.a (.a (.v 0) (.k 2)) (.k 1)) (.a (.v 0) (.k 1)) .e) rfl q)))) (n1 fun h => lin [(a + 2) - (a + 1),a] (.c 1 (.a (.v 1) (.k 2)) (.a (.v 0) (.a (.v 1) (.k 1))) (.c 1 (.a (.v 0) (.k 1)) (.k 1) .e)) rfl (sub_ge _ _) h)
theorem o114 {a b : Nat} (h0 : a ≤ 1000) : a ≤ 1999 + (b + 1) := n1 fun h => lin [a,b] (.c 1 (.v 0) (.k 1000) (.c 1 (.a (.a (.k 1999) (.a (.v 1) (.k 1))) (.k 1)) (.v 0) .e)) rfl h0 h
theorem o115 {a : Nat} (h0 : 1 ≤ a) : -(((a : Nat) : Int)) ≤ -1 := i1 fun g => zlin [((a : Nat) : Int)] (.c 1 (.k 1) (.v 0) (.c 1 (.a (.g (.k 1)) (.k 1)) (.g (.v 0)) .e)) rfl (c1 h0) g
theorem o116 {a b : Nat} (h0 : b ≤ 1000) (h1 : a < b) : ((a : Nat) : Int) < 9223372036854775808 := i2 fun g => zlin [((b : Nat) : Int),((a : Nat) : Int)] (.c 1 (.v 0) (.k 1000) (.c 1 (.a (.v 1) (.k 1)) (.v 0) (.c 1 (.k 9223372036854775808) (.v 1) .e))) rfl (c1 h0) (c2 h1) g
theorem o117 {a : Nat} (h0 : 2 ≤ a) : -(((a : Nat) : Int)) ≤ -2 := i1 fun g => zlin [((a : Nat) : Int)] (.c 1 (.k 2) (.v 0) (.c 1 (.a (.g (.k 2)) (.k 1)) (.g (.v 0)) .e)) rfl (c1 h0) g
theorem o118 {a b c : Nat} (h0 : 1 ≤ a) (h1 : a ≤ c + 1) (h2 : b = c + 1) : ((-(((a : Nat) : Int))) + (((b : Nat) : Int))).toNat = (b - 1) - (a - 1) := n3 (n1 fun g => zlin [((a : Nat) : Int),((b : Nat) : Int),(((b - 1) - (a - 1) : Nat) : Int),((b - 1 : Nat) : Int),((a - 1 : Nat) : Int),((((-(((a : Nat) : Int))) + (((b : Nat) : Int))).toNat : Nat) : Int)] (.c 1 (.v 1) (.a (.v 3) (.k 1)) (.c 1 (.v 3) (.a (.v 2) (.v 4)) (.c 1 (.a (.v 2) (.k 1)) (.v 5) (.c 1 (.a (.v 4) (.k 1)) (.v 0) (.c 1 (.v 5) (.a (.g (.v 0)) (.v 1)) .e))))) rfl (c1 (sub_ge _ _)) (c1 (sub_ge _ _)) (c2 g) (c1 ((n5 (fun q => zlin [((a : Nat) : Int)] (.c 1 (.k 1) (.v 0) (.c 1 (.a (.v 0) (.k 1)) (.k 1) .e)) rfl (c1 h0) (c2 q))))) ((i5 (fun q => zlin [((a : Nat) : Int),((c : Nat) : Int),((b : Nat) : Int)] (.c 1 (.v 0) (.a (.v 1) (.k 1)) (.c 1 (.a (.v 1) (.k 1)) (.v 2) (.c 1 (.a (.a (.g (.v 0)) (.v 2)) (.k 1)) (.k 0) .e))) rfl (c1 h1) (c1 (n4 h2.symm)) q)))) (n1 fun g => zlin [((a : Nat) : Int),((b : Nat) : Int),((((-(((a : Nat) : Int))) + (((b : Nat) : Int))).toNat : Nat) : Int),(((b - 1) - (a - 1) : Nat) : Int),((b - 1 : Nat) : Int),((a - 1 : Nat) : Int)] (.c 1 (.a (.g (.v 0)) (.v 1)) (.v 2) (.c 1 (.v 0) (.a (.v 5) (.k 1)) (.c 1 (.a (.v 2) (.k 1)) (.v 3) (.c 1 (.a (.v 3) (.v 5)) (.v 4) (.c 1 (.a (.v 4) (.k 1)) (.v 1) .e))))) rfl (Int.self_le_toNat _) (c1 (sub_ge _ _)) (c2 g) (c1 ((n5 (fun q => zlin [((a : Nat) : Int),((c : Nat) : Int),((b : Nat) : Int),((b - 1 : Nat) : Int),((a - 1 : Nat) : Int)] (.c 1 (.v 0) (.a (.v 1) (.k 1)) (.c 1 (.a (.v 1) (.k 1)) (.v 2) (.c 1 (.v 2) (.a (.v 3) (.k 1)) (.c 1 (.a (.v 3) (.k 1)) (.v 4) (.c 1 (.a (.v 4) (.k 1)) (.v 0) .e))))) rfl (c1 h1) (c1 (n4 h2.symm)) (c1 (sub_ge _ _)) (c2 q) (c1 ((n5 (fun q => zlin [((a : Nat) : Int)] (.c 1 (.k 1) (.v 0) (.c 1 (.a (.v 0) (.k 1)) (.k 1) .e)) rfl (c1 h0) (c2 q))))))))) (c1 ((n5 (fun q => zlin [((c : Nat) : Int),((b : Nat) : Int)] (.c 1 (.k 0) (.v 0) (.c 1 (.a (.v 0) (.k 1)) (.v 1) (.c 1 (.a (.v 1) (.k 1)) (.k 1) .e))) rfl c0 (c1 (n4 h2.symm)) (c2 q))))))
theorem o119 {a b c : Nat} (h0 : a = c + 1) : (a - 1) - (b - 1) < a := n2 fun h => lin [a,(a - 1) - (b - 1),a - 1] (.c 1 (.v 1) (.v 2) (.c 1 (.v 0) (.v 1) (.c 1 (.a (.v 2) (.k 1)) (.v 0) .e))) rfl (Nat.sub_le _ _) h ((n5 (fun q => lin [a,c] (.c 1 (.a (.v 1) (.k 1)) (.v 0) (.c 1 (.a (.v 0) (.k 1)) (.k 1) .e)) rfl (n4 h0.symm) q)))
theorem o120 {a b c : Nat} (h0 : 1 ≤ b) (h1 : b ≤ c + 1) (h2 : a = c + 1) : (a - 1) - ((a - 1) - (b - 1)) = b - 1 := n3 (n1 fun g => zlin [((b - 1 : Nat) : Int),(((a - 1) - ((a - 1) - (b - 1)) : Nat) : Int),((a - 1 : Nat) : Int),(((a - 1) - (b - 1) : Nat) : Int)] (.c 1 (.v 2) (.a (.v 3) (.v 0)) (.c 1 (.a (.v 0) (.k 1)) (.v 1) (.c 1 (.a (.v 1) (.v 3)) (.v 2) .e))) rfl (c1 (sub_ge _ _)) (c2 g) (c1 ((n5 (fun q => zlin [((a - 1 : Nat) : Int),(((a - 1) - (b - 1) : Nat) : Int)] (.c 1 (.v 1) (.v 0) (.c 1 (.a (.v 0) (.k 1)) (.v 1) .e)) rfl (c1 (Nat.sub_le _ _)) (c2 q)))))) (n1 fun g => zlin [(((a - 1) - ((a - 1) - (b - 1)) : Nat) : Int),((a - 1 : Nat) : Int),(((a - 1) - (b - 1) : Nat) : Int),((b - 1 : Nat) : Int)] (.c 1 (.v 1) (.a (.v 0) (.v 2)) (.c 1 (.a (.v 0) (.k 1)) (.v 3) (.c 1 (.a (.v 2) (.v 3)) (.v 1) .e))) rfl (c1 (sub_ge _ _)) (c2 g) (c1 ((n5 (fun q => zlin [((b : Nat) : Int),((c : Nat) : Int),((a : Nat) : Int),((a - 1 : Nat) : Int),((b - 1 : Nat) : Int)] (.c 1 (.v 0) (.a (.v 1) (.k 1)) (.c 1 (.a (.v 1) (.k 1)) (.v 2) (.c 1 (.v 2) (.a (.v 3) (.k 1)) (.c 1 (.a (.v 3) (.k 1)) (.v 4) (.c 1 (.a (.v 4) (.k 1)) (.v 0) .e))))) rfl (c1 h1) (c1 (n4 h2.symm)) (c1 (sub_ge _ _)) (c2 q) (c1 ((n5 (fun q => zlin [((b : Nat) : Int)] (.c 1 (.k 1) (.v 0) (.c 1 (.a (.v 0) (.k 1)) (.k 1) .e)) rfl (c1 h0) (c2 q))))))))))
theorem o121 {a b c : Nat} (h0 : 1 ≤ a) (h1 : a ≤ c + 1) (h2 : b = c + 1) : a - 1 < b := n2 fun h => lin [a,c,b,a - 1] (.c 1 (.v 0) (.a (.v 1) (.k 1)) (.c 1 (.a (.v 1) (.k 1)) (.v 2) (.c 1 (.v 2) (.v 3) (.c 1 (.a (.v 3) (.k 1)) (.v 0) .e)))) rfl h1 (n4 h2.symm) h ((n5 (fun q => lin [a] (.c 1 (.k 1) (.v 0) (.c 1 (.a (.v 0) (.k 1)) (.k 1) .e)) rfl h0 q)))
theorem o122 {a : Nat} (h0 : a ≤ 1) : a + 1 ≤ 2 := n1 fun h => lin [a] (.c 1 (.v 0) (.k 1) (.c 1 (.a (.k 2) (.k 1)) (.a (.v 0) (.k 1)) .e)) rfl h0 h
theorem o123 {a b c : Nat} (h0 : a ≤ 2) (h1 : b ≤ 2 * c) : a + b ≤ 2 * (c + 1) := n1 fun h => lin [a,b,c] (.c 1 (.v 0) (.k 2) (.c 1 (.v 1) (.m 2 (.v 2)) (.c 1 (.a (.m 2 (.a (.v 2) (.k 1))) (.k 1)) (.a (.v 0) (.v 1)) .e))) rfl h0 h1 h
theorem o124 {a b c : Nat}  : ((a + b) + 0) + c = a + (b + c) := n3 (n1 fun h => lin [a,b,c] (.c 1 (.a (.a (.v 0) (.a (.v 1) (.v 2))) (.k 1)) (.a (.a (.a (.v 0) (.v 1)) (.k 0)) (.v 2)) .e) rfl h) (n1 fun h => lin [a,b,c] (.c 1 (.a (.a (.a (.a (.v 0) (.v 1)) (.k 0)) (.v 2)) (.k 1)) (.a (.v 0) (.a (.v 1) (.v 2))) .e) rfl h)
theorem o125 {a b c : Nat} (h0 : b ≤ 1000) (h1 : a ≤ 2 * c) (h2 : c = b) : 0 + a ≤ 16777216 := n1 fun h => lin [b,a,c] (.c 2 (.v 0) (.k 1000) (.c 1 (.v 1) (.m 2 (.v 2)) (.c 2 (.v 2) (.v 0) (.c 1 (.a (.k 16777216) (.k 1)) (.a (.k 0) (.v 1)) .e)))) rfl h0 h1 (n4 h2) h
theorem o126 {a b c : Nat} (h0 : c ≤ 1000) (h1 : a ≤ 2 * b) (h2 : b = c) : a + ((b - 1) * 0) ≤ 16777216 := n1 fun h => lin [c,a,b,b - 1] (.c 2 (.v 0) (.k 1000) (.c 1 (.v 1) (.m 2 (.v 2)) (.c 2 (.v 2) (.v 0) (.c 1 (.a (.k 16777216) (.k 1)) (.a (.v 1) (.r (.v 3) 0)) .e)))) rfl h0 h1 (n4 h2) h
theorem o127 {a : Nat} (h0 : a < 55296) : a < 1114112 := n2 fun h => lin [a] (.c 1 (.a (.v 0) (.k 1)) (.k 55296) (.c 1 (.k 1114112) (.v 0) .e)) rfl h0 h
theorem o128 {a b : Nat}  : a ≤ a + b := n1 fun h => lin [a,b] (.c 1 (.a (.a (.v 0) (.v 1)) (.k 1)) (.v 0) .e) rfl h
theorem o129 {a b : Nat} (h0 : a < b) : a ≤ b := n1 fun h => lin [a,b] (.c 1 (.a (.v 0) (.k 1)) (.v 1) (.c 1 (.a (.v 1) (.k 1)) (.v 0) .e)) rfl h0 h
theorem o130 {a b : Nat}  : (a + b) - a = b := n3 (n1 fun h => lin [b,(a + b) - a,a] (.c 1 (.a (.v 0) (.k 1)) (.v 1) (.c 1 (.a (.v 1) (.v 2)) (.a (.v 2) (.v 0)) .e)) rfl h ((n5 (fun q => lin [a,b] (.c 1 (.a (.a (.v 0) (.v 1)) (.k 1)) (.v 0) .e) rfl q)))) (n1 fun h => lin [(a + b) - a,a,b] (.c 1 (.a (.v 1) (.v 2)) (.a (.v 0) (.v 1)) (.c 1 (.a (.v 0) (.k 1)) (.v 2) .e)) rfl (sub_ge _ _) h)
theorem o131 {a b : Nat} (h0 : (a = 2) ∨ (a = 3)) : min a b ≤ 3 := n1 fun g => (h0.elim (fun d0 => zlin [((min a b : Nat) : Int),((a : Nat) : Int)] (.c 1 (.v 0) (.v 1) (.c 1 (.a (.k 3) (.k 1)) (.v 0) (.c 1 (.v 1) (.k 2) .e))) rfl (c1 (Nat.min_le_left _ _)) (c2 g) (c1 (n4 d0))) (fun d0 => zlin [((min a b : Nat) : Int),((a : Nat) : Int)] (.c 1 (.v 0) (.v 1) (.c 1 (.a (.k 3) (.k 1)) (.v 0) (.c 1 (.v 1) (.k 3) .e))) rfl (c1 (Nat.min_le_left _ _)) (c2 g) (c1 (n4 d0))))
theorem o132 {a b : Nat} (h0 : ((a : Nat) : Int) = ((b : Nat) : Int)) (h1 : ¬(a = b)) : False := (Nat.lt_or_gt_of_ne h1).elim (fun d0 => zlin [((a : Nat) : Int),((b : Nat) : Int)] (.c 1 (.v 1) (.v 0) (.c 1 (.a (.v 0) (.k 1)) (.v 1) .e)) rfl (i4 h0.symm) (c2 d0)) (fun d0 => zlin [((a : Nat) : Int),((b : Nat) : Int)] (.c 1 (.v 0) (.v 1) (.c 1 (.a (.v 1) (.k 1)) (.v 0) .e)) rfl (i4 h0) (c2 d0))
theorem o133 {a b c e : Nat} {f i : Prop} (h0 : c < b) (h1 : e = min a (b - c)) (h2 : ((e = a) ∧ f) ∧ i) : a ≤ (b - (c + 1)) + 1 := n1 fun h => lin [c,b,e,min a (b - c),a,b - c,b - (c + 1)] (.c 1 (.v 3) (.v 5) (.c 1 (.v 2) (.v 3) (.c 1 (.v 4) (.v 2) (.c 1 (.v 1) (.a (.v 6) (.a (.v 0) (.k 1))) (.c 1 (.a (.a (.v 6) (.k 1)) (.k 1)) (.v 4) (.c 1 (.a (.v 5) (.v 0)) (.v 1) .e)))))) rfl (Nat.min_le_right _ _) (n4 h1) (n4 h2.1.1.symm) (sub_ge _ _) h ((n5 (fun q => lin [c,b] (.c 1 (.a (.v 0) (.k 1)) (.v 1) (.c 1 (.a (.v 1) (.k 1)) (.v 0) .e)) rfl h0 q)))
theorem o134 {a : Nat} (h0 : (a = 2) ∨ (a = 3)) : 1 ≤ a := n1 fun g => (h0.elim (fun d0 => zlin [((a : Nat) : Int)] (.c 1 (.a (.v 0) (.k 1)) (.k 1) (.c 1 (.k 2) (.v 0) .e)) rfl (c2 g) (c1 (n4 d0.symm))) (fun d0 => zlin [((a : Nat) : Int)] (.c 1 (.a (.v 0) (.k 1)) (.k 1) (.c 1 (.k 3) (.v 0) .e)) rfl (c2 g) (c1 (n4 d0.symm))))
theorem o135 {a : Nat} (h0 : (a = 2) ∨ (a = 3)) : -(((a : Nat) : Int)) < 0 := i2 fun g => (h0.elim (fun d0 => zlin [((a : Nat) : Int)] (.c 1 (.k 0) (.g (.v 0)) (.c 1 (.k 2) (.v 0) .e)) rfl g (c1 (n4 d0.symm))) (fun d0 => zlin [((a : Nat) : Int)] (.c 1 (.k 0) (.g (.v 0)) (.c 1 (.k 3) (.v 0) .e)) rfl g (c1 (n4 d0.symm))))
theorem o136 {a b c e : Nat} (h0 : e = a - (b + 1)) (h1 : c ≤ e + 1) : -((((a - (b + 1)) + 1 : Nat) : Int)) ≤ -(((c : Nat) : Int)) := i1 fun g => zlin [((e : Nat) : Int),((a - (b + 1) : Nat) : Int),((c : Nat) : Int)] (.c 1 (.v 0) (.v 1) (.c 1 (.v 2) (.a (.v 0) (.k 1)) (.c 1 (.a (.g (.v 2)) (.k 1)) (.g (.a (.v 1) (.k 1))) .e))) rfl (c1 (n4 h0)) (c1 h1) g
theorem o137 {a b : Nat} {c e : Prop} (h0 : b ≤ 3) (h1 : ((b = a) ∧ c) ∧ e) : -9223372036854775808 ≤ -(((a : Nat) : Int)) := i1 fun g => zlin [((b : Nat) : Int),((a : Nat) : Int)] (.c 1 (.v 0) (.k 3) (.c 1 (.v 1) (.v 0) (.c 1 (.a (.g (.v 1)) (.k 1)) (.g (.k 9223372036854775808)) .e))) rfl (c1 h0) (c1 (n4 h1.1.1.symm)) g
theorem o138 {a : Nat}  : 1 ≤ a + 1 := n1 fun h => lin [a] (.c 1 (.a (.a (.v 0) (.k 1)) (.k 1)) (.k 1) .e) rfl h
theorem o139 {a b : Nat} (h0 : a = b + 1) : -(((a : Nat) : Int)) ≤ -1 := i1 fun g => zlin [((a : Nat) : Int),((b : Nat) : Int)] (.c 1 (.k 0) (.v 1) (.c 1 (.a (.v 1) (.k 1)) (.v 0) (.c 1 (.a (.g (.k 1)) (.k 1)) (.g (.v 0)) .e))) rfl c0 (c1 (n4 h0.symm)) g
theorem o140 {a b : Nat} (h0 : a ≤ 1000) (h1 : b < a) : (a - (b + 1)) + 1 ≤ 16777216 := n1 fun h => lin [a,b,a - (b + 1)] (.c 1 (.v 0) (.k 1000) (.c 1 (.a (.k 16777216) (.k 1)) (.a (.v 2) (.k 1)) (.c 1 (.a (.v 2) (.a (.v 1) (.k 1))) (.v 0) .e))) rfl h0 h ((n5 (fun q => lin [a,b] (.c 1 (.a (.v 1) (.k 1)) (.v 0) (.c 1 (.a (.v 0) (.k 1)) (.a (.v 1) (.k 1)) .e)) rfl h1 q)))
theorem o141 {a b : Nat} (h0 : a = b + 1) : -(((a : Nat) : Int)) ≤ -1 := i1 fun g => zlin [((b : Nat) : Int),((a : Nat) : Int)] (.c 1 (.k 0) (.v 0) (.c 1 (.a (.v 0) (.k 1)) (.v 1) (.c 1 (.a (.g (.k 1)) (.k 1)) (.g (.v 1)) .e))) rfl c0 (c1 (n4 h0.symm)) g
theorem o142 {a : Int} {b : Nat} (h0 : ((b : Nat) : Int) < a) : a + 1 = (((a + 1).toNat : Nat) : Int) := i3 (i1 fun g => zlin [a,(((a + 1).toNat : Nat) : Int)] (.c 1 (.a (.v 0) (.k 1)) (.v 1) (.c 1 (.a (.v 1) (.k 1)) (.a (.v 0) (.k 1)) .e)) rfl (Int.self_le_toNat _) g) (i1 fun g => zlin [a,(((a + 1).toNat : Nat) : Int)] (.c 1 (.a (.a (.v 0) (.k 1)) (.k 1)) (.v 1) (.c 1 (.v 1) (.a (.v 0) (.k 1)) .e)) rfl g ((i5 (fun q => zlin [a,(((a + 1).toNat : Nat) : Int)] (.c 1 (.a (.a (.v 0) (.k 1)) (.k 1)) (.v 1) (.c 1 (.v 1) (.a (.v 0) (.k 1)) .e)) rfl g ((i5 (fun q => zlin [((b : Nat) : Int),a] (.c 1 (.k 0) (.v 0) (.c 1 (.a (.v 0) (.k 1)) (.v 1) (.c 1 (.a (.a (.v 1) (.k 1)) (.k 1)) (.k 0) .e))) rfl c0 h0 q)))))))
theorem o143 {a : Nat} (h0 : a ≤ 2000) : a ≤ 16777216 := n1 fun h => lin [a] (.c 1 (.v 0) (.k 2000) (.c 1 (.a (.k 16777216) (.k 1)) (.v 0) .e)) rfl h0 h
theorem o144 {a : Nat} {b : Prop} (h0 : (1 < ((a : Nat) : Int)) ∧ b) : 1 < a := n2 fun g => zlin [((a : Nat) : Int)] (.c 1 (.a (.k 1) (.k 1)) (.v 0) (.c 1 (.v 0) (.k 1) .e)) rfl h0.1 (c1 g)
theorem o145 {a : Nat} {b : Prop} (h0 : (1 < a) ∧ b) : a - 1 < a := n2 fun h => lin [a,a - 1] (.c 1 (.v 0) (.v 1) (.c 1 (.a (.v 1) (.k 1)) (.v 0) .e)) rfl h ((n5 (fun q => lin [a] (.c 1 (.a (.k 1) (.k 1)) (.v 0) (.c 1 (.a (.v 0) (.k 1)) (.k 1) .e)) rfl h0.1 q)))
theorem o146 {a : Nat} {b : Prop} (h0 : (1 < a) ∧ b) : 1 ≤ a - 1 := n1 fun h => lin [a,a - 1] (.c 1 (.a (.k 1) (.k 1)) (.v 0) (.c 1 (.v 0) (.a (.v 1) (.k 1)) (.c 1 (.a (.v 1) (.k 1)) (.k 1) .e))) rfl h0.1 (sub_ge _ _) h
theorem o147 {a : Nat} {b : Prop} (h0 : a ≤ 3) (h1 : (1 < a) ∧ b) : a - 1 ≤ 3 := n1 fun h => lin [a,a - 1] (.c 1 (.v 0) (.k 3) (.c 1 (.a (.k 3) (.k 1)) (.v 1) (.c 1 (.a (.v 1) (.k 1)) (.v 0) .e))) rfl h0 h ((n5 (fun q => lin [a] (.c 1 (.a (.k 1) (.k 1)) (.v 0) (.c 1 (.a (.v 0) (.k 1)) (.k 1) .e)) rfl h1.1 q)))
theorem o148 {a b : Nat} (h0 : a - 1 < b) (h1 : ¬(b = a)) : a < b := n2 fun g => ((Nat.lt_or_gt_of_ne h1).elim (fun d0 => zlin [((a : Nat) : Int),((a - 1 : Nat) : Int),((b : Nat) : Int)] (.c 1 (.v 0) (.a (.v 1) (.k 1)) (.c 1 (.a (.v 1) (.k 1)) (.v 2) (.c 1 (.a (.v 2) (.k 1)) (.v 0) .e))) rfl (c1 (sub_ge _ _)) (c2 h0) (c2 d0)) (fun d0 => zlin [((a : Nat) : Int),((b : Nat) : Int)] (.c 1 (.v 1) (.v 0) (.c 1 (.a (.v 0) (.k 1)) (.v 1) .e)) rfl (c1 g) (c2 d0)))
theorem o149 {a : Nat} {b : Prop} (h0 : (1 < a) ∧ b) : (((a : Nat) : Int)) - 1 = ((a - 1 : Nat) : Int) := i3 (i1 fun g => zlin [((a : Nat) : Int),((a - 1 : Nat) : Int)] (.c 1 (.v 0) (.a (.v 1) (.k 1)) (.c 1 (.a (.v 1) (.k 1)) (.s (.v 0) (.k 1)) .e)) rfl (c1 (sub_ge _ _)) g) (i1 fun g => zlin [((a : Nat) : Int),((a - 1 : Nat) : Int)] (.c 1 (.a (.s (.v 0) (.k 1)) (.k 1)) (.v 1) (.c 1 (.a (.v 1) (.k 1)) (.v 0) .e)) rfl g (c1 ((n5 (fun q => zlin [((a : Nat) : Int)] (.c 1 (.a (.k 1) (.k 1)) (.v 0) (.c 1 (.a (.v 0) (.k 1)) (.k 1) .e)) rfl (c2 h0.1) (c2 q))))))
theorem o150 {a : Nat} (h0 : ¬(a ≤ 1)) : 1 < ((a : Nat) : Int) := i2 fun g => zlin [((a : Nat) : Int)] (.c 1 (.a (.k 1) (.k 1)) (.v 0) (.c 1 (.v 0) (.k 1) .e)) rfl (c2 (n2 h0)) g
theorem o151 {a b : Nat} (h0 : a + (b + 1) ≤ 2000) : a ≤ 2000 := n1 fun h => lin [a,b] (.c 1 (.a (.v 0) (.a (.v 1) (.k 1))) (.k 2000) (.c 1 (.a (.k 2000) (.k 1)) (.v 0) .e)) rfl h0 h
theorem o152 {a b c : Nat} (h0 : c + (b + 1) ≤ 2000) (h1 : a = c + 1) : a + b ≤ 2000 := n1 fun h => lin [c,b,a] (.c 1 (.a (.v 0) (.a (.v 1) (.k 1))) (.k 2000) (.c 1 (.v 2) (.a (.v 0) (.k 1)) (.c 1 (.a (.k 2000) (.k 1)) (.a (.v 2) (.v 1)) .e))) rfl h0 (n4 h1) h
theorem o153 {a : Nat} (h0 : a ≤ 7) : a ≤ 16777216 := n1 fun h => lin [a] (.c 1 (.v 0) (.k 7) (.c 1 (.a (.k 16777216) (.k 1)) (.v 0) .e)) rfl h0 h
theorem o154 {a : Nat} (h0 : a ≤ 1000) : a ≤ 1999 := n1 fun h => lin [a] (.c 1 (.v 0) (.k 1000) (.c 1 (.a (.k 1999) (.k 1)) (.v 0) .e)) rfl h0 h
theorem o155 {a : Nat} (h0 : a ≤ 2000) : a + 1 ≤ 16777216 := n1 fun h => lin [a] (.c 1 (.v 0) (.k 2000) (.c 1 (.a (.k 16777216) (.k 1)) (.a (.v 0) (.k 1)) .e)) rfl h0 h
theorem o156 {a b : Nat} (h0 : a + (b + 1) ≤ 5000) : a ≤ 16777216 := n1 fun h => lin [b,a] (.c 1 (.a (.v 1) (.a (.v 0) (.k 1))) (.k 5000) (.c 1 (.a (.k 16777216) (.k 1)) (.v 1) .e)) rfl h0 h
theorem o157 {a b : Nat} (h0 : a + (b + 1) ≤ 5000) : (a + 1) + b ≤ 5000 := n1 fun h => lin [a,b] (.c 1 (.a (.v 0) (.a (.v 1) (.k 1))) (.k 5000) (.c 1 (.a (.k 5000) (.k 1)) (.a (.a (.v 0) (.k 1)) (.v 1)) .e)) rfl h0 h
theorem o158 {a b : Nat} (h0 : b + (3 * (a + 1)) ≤ 20000) : 0 + (3 * a) ≤ 20000 := n1 fun h => lin [b,a] (.c 1 (.a (.v 0) (.m 3 (.a (.v 1) (.k 1)))) (.k 20000) (.c 1 (.a (.k 20000) (.k 1)) (.a (.k 0) (.m 3 (.v 1))) .e)) rfl h0 h
theorem o159 {a b c : Nat} (h0 : a + (3 * (c + 1)) ≤ 20000) (h1 : b ≤ 3) : (a + b) + (3 * c) ≤ 20000 := n1 fun h => lin [a,c,b] (.c 1 (.a (.v 0) (.m 3 (.a (.v 1) (.k 1)))) (.k 20000) (.c 1 (.v 2) (.k 3) (.c 1 (.a (.k 20000) (.k 1)) (.a (.a (.v 0) (.v 2)) (.m 3 (.v 1))) .e))) rfl h0 h1 h
theorem o160 {a b : Nat} (h0 : a + (b + 1) ≤ 5000) : a + b ≤ 5000 := n1 fun h => lin [a,b] (.c 1 (.a (.v 0) (.a (.v 1) (.k 1))) (.k 5000) (.c 1 (.a (.k 5000) (.k 1)) (.a (.v 0) (.v 1)) .e)) rfl h0 h
theorem o161 {a b c : Nat} (h0 : a + (3 * (c + 1)) ≤ 20000) (h1 : b ≤ 3) : a + b ≤ 16777216 := n1 fun h => lin [a,c,b] (.c 1 (.a (.v 0) (.m 3 (.a (.v 1) (.k 1)))) (.k 20000) (.c 1 (.v 2) (.k 3) (.c 1 (.a (.k 16777216) (.k 1)) (.a (.v 0) (.v 2)) .e))) rfl h0 h1 h
theorem o162 {a : Int} (h0 : 256 ≤ a) (h1 : a < 256) : False := zlin [a] (.c 1 (.k 256) (.v 0) (.c 1 (.a (.v 0) (.k 1)) (.k 256) .e)) rfl h0 h1
theorem o163 {a : Int} (h0 : a < 256) (h1 : 256 ≤ a) : False := zlin [a] (.c 1 (.a (.v 0) (.k 1)) (.k 256) (.c 1 (.k 256) (.v 0) .e)) rfl h0 h1
theorem o164 {a : Int} (h0 : 256 ≤ a) : 0 ≤ a - 247 := i1 fun g => zlin [a] (.c 1 (.k 256) (.v 0) (.c 1 (.a (.s (.v 0) (.k 247)) (.k 1)) (.k 0) .e)) rfl h0 g
theorem o165 {a : Int} (h0 : a ≤ 100000) : a - 247 ≤ 1114111 := i1 fun g => zlin [a] (.c 1 (.v 0) (.k 100000) (.c 1 (.a (.k 1114111) (.k 1)) (.s (.v 0) (.k 247)) .e)) rfl h0 g
theorem o166 {a : Nat}  : ((((a : Nat) : Int)) - 0).toNat = a := n3 (n1 fun g => zlin [((a : Nat) : Int),((((((a : Nat) : Int)) - 0).toNat : Nat) : Int)] (.c 1 (.a (.v 0) (.k 1)) (.v 1) (.c 1 (.v 1) (.s (.v 0) (.k 0)) .e)) rfl (c2 g) ((i5 (fun q => zlin [((a : Nat) : Int),((((((a : Nat) : Int)) - 0).toNat : Nat) : Int)] (.c 1 (.a (.v 0) (.k 1)) (.v 1) (.c 1 (.v 1) (.s (.v 0) (.k 0)) .e)) rfl (c2 g) ((i5 (fun q => zlin [((a : Nat) : Int)] (.c 1 (.k 0) (.v 0) (.c 1 (.a (.s (.v 0) (.k 0)) (.k 1)) (.k 0) .e)) rfl c0 q))))))) (n1 fun g => zlin [((((((a : Nat) : Int)) - 0).toNat : Nat) : Int),((a : Nat) : Int)] (.c 1 (.s (.v 1) (.k 0)) (.v 0) (.c 1 (.a (.v 0) (.k 1)) (.v 1) .e)) rfl (Int.self_le_toNat _) (c2 g))
theorem o167 {a : Nat} (h0 : a < 7) : (0 + (((a : Nat) : Int))).toNat < 7 := n2 fun g => zlin [((a : Nat) : Int),(((0 + (((a : Nat) : Int))).toNat : Nat) : Int)] (.c 1 (.a (.v 0) (.k 1)) (.k 7) (.c 1 (.k 7) (.v 1) (.c 1 (.v 1) (.a (.k 0) (.v 0)) .e))) rfl (c2 h0) (c1 g) ((i5 (fun q => zlin [((a : Nat) : Int)] (.c 1 (.k 0) (.v 0) (.c 1 (.a (.a (.k 0) (.v 0)) (.k 1)) (.k 0) .e)) rfl c0 q)))
theorem o168 {a : Nat}  : 0 ≤ 0 + (((a : Nat) : Int)) := i1 fun g => zlin [((a : Nat) : Int)] (.c 1 (.k 0) (.v 0) (.c 1 (.a (.a (.k 0) (.v 0)) (.k 1)) (.k 0) .e)) rfl c0 g
theorem o169 {a : Nat} (h0 : a < 7) : 0 + (((a : Nat) : Int)) < 9223372036854775808 := i2 fun g => zlin [((a : Nat) : Int)] (.c 1 (.a (.v 0) (.k 1)) (.k 7) (.c 1 (.k 9223372036854775808) (.a (.k 0) (.v 0)) .e)) rfl (c2 h0) g
theorem o170 {a : Nat} (h0 : a < 48) : 0 + (((a : Nat) : Int)) < 9223372036854775808 := i2 fun g => zlin [((a : Nat) : Int)] (.c 1 (.a (.v 0) (.k 1)) (.k 48) (.c 1 (.k 9223372036854775808) (.a (.k 0) (.v 0)) .e)) rfl (c2 h0) g
theorem o171 {a : Nat} (h0 : a < 48) : (0 + (((a : Nat) : Int))).toNat < 48 := n2 fun g => zlin [((a : Nat) : Int),(((0 + (((a : Nat) : Int))).toNat : Nat) : Int)] (.c 1 (.a (.v 0) (.k 1)) (.k 48) (.c 1 (.k 48) (.v 1) (.c 1 (.v 1) (.a (.k 0) (.v 0)) .e))) rfl (c2 h0) (c1 g) ((i5 (fun q => zlin [((a : Nat) : Int)] (.c 1 (.k 0) (.v 0) (.c 1 (.a (.a (.k 0) (.v 0)) (.k 1)) (.k 0) .e)) rfl c0 q)))
theorem o172 {a : Nat} (h0 : a ≤ 4000) : 0 + (3 * a) ≤ 20000 := n1 fun h => lin [a] (.c 3 (.v 0) (.k 4000) (.c 1 (.a (.k 20000) (.k 1)) (.a (.k 0) (.m 3 (.v 0))) .e)) rfl h0 h
theorem o173 {a : Nat} (h0 : a ≤ 4000) : a ≤ 5000 := n1 fun h => lin [a] (.c 1 (.v 0) (.k 4000) (.c 1 (.a (.k 5000) (.k 1)) (.v 0) .e)) rfl h0 h
theorem o174 {a : Nat} (h0 : a ≤ 10000) : a ≤ 16777216 := n1 fun h => lin [a] (.c 1 (.v 0) (.k 10000) (.c 1 (.a (.k 16777216) (.k 1)) (.v 0) .e)) rfl h0 h
theorem o175 {a b : Nat} (h0 : b = 11) : a % 11 < b := n2 fun g => zlin [((b : Nat) : Int),((a % 11 : Nat) : Int)] (.c 1 (.k 11) (.v 0) (.c 1 (.a (.v 1) (.k 1)) (.k 11) (.c 1 (.v 0) (.v 1) .e))) rfl (c1 (n4 h0.symm)) (c1 (Nat.mod_lt _ (by decide))) (c1 g)
theorem o176 {a : Nat} (h0 : a = 11) : a ≤ 1000 := n1 fun h => lin [a] (.c 1 (.v 0) (.k 11) (.c 1 (.a (.k 1000) (.k 1)) (.v 0) .e)) rfl (n4 h0) h
theorem o177 {a : Nat} (h0 : a = 11) : 0 < a := n2 fun h => lin [a] (.c 1 (.k 11) (.v 0) (.c 1 (.v 0) (.k 0) .e)) rfl (n4 h0.symm) h
theorem o178 {a : Int} (h0 : a < 2) : a < 9223372036854775808 := i2 fun g => zlin [a] (.c 1 (.a (.v 0) (.k 1)) (.k 2) (.c 1 (.k 9223372036854775808) (.v 0) .e)) rfl h0 g
theorem o179 {a b : Nat} (h0 : a + (b + 1) ≤ 500) : a ≤ 1000 := n1 fun h => lin [a,b] (.c 1 (.a (.v 0) (.a (.v 1) (.k 1))) (.k 500) (.c 1 (.a (.k 1000) (.k 1)) (.v 0) .e)) rfl h0 h
theorem o180 {a b : Nat} (h0 : a + (b + 1) ≤ 500) : (a + 1) + b ≤ 500 := n1 fun h => lin [a,b] (.c 1 (.a (.v 0) (.a (.v 1) (.k 1))) (.k 500) (.c 1 (.a (.k 500) (.k 1)) (.a (.a (.v 0) (.k 1)) (.v 1)) .e)) rfl h0 h
theorem o181 {a b : Nat}  : (a + 1) + b = (a + b) + 1 := n3 (n1 fun h => lin [a,b] (.c 1 (.a (.a (.a (.v 0) (.v 1)) (.k 1)) (.k 1)) (.a (.a (.v 0) (.k 1)) (.v 1)) .e) rfl h) (n1 fun h => lin [a,b] (.c 1 (.a (.a (.a (.v 0) (.k 1)) (.v 1)) (.k 1)) (.a (.a (.v 0) (.v 1)) (.k 1)) .e) rfl h)
theorem o182 {a : Nat} (h0 : a ≤ 999) : a ≤ 1000 := n1 fun h => lin [a] (.c 1 (.v 0) (.k 999) (.c 1 (.a (.k 1000) (.k 1)) (.v 0) .e)) rfl h0 h
theorem o183 {a : Nat} (h0 : a ≤ 200) : a ≤ 500 := n1 fun h => lin [a] (.c 1 (.v 0) (.k 200) (.c 1 (.a (.k 500) (.k 1)) (.v 0) .e)) rfl h0 h
theorem o184 {a b : Nat} (h0 : a ≤ 200) (h1 : b ≤ 200) : a + b ≤ 16777216 := n1 fun h => lin [a,b] (.c 1 (.v 0) (.k 200) (.c 1 (.v 1) (.k 200) (.c 1 (.a (.k 16777216) (.k 1)) (.a (.v 0) (.v 1)) .e))) rfl h0 h1 h
theorem o185 {a : Nat} (h0 : a ≤ 200) : a ≤ 1000 := n1 fun h => lin [a] (.c 1 (.v 0) (.k 200) (.c 1 (.a (.k 1000) (.k 1)) (.v 0) .e)) rfl h0 h
theorem o186 {a b : Nat} (h0 : a + b ≤ 400) : a + b ≤ 16777216 := n1 fun h => lin [a,b] (.c 1 (.a (.v 0) (.v 1)) (.k 400) (.c 1 (.a (.k 16777216) (.k 1)) (.a (.v 0) (.v 1)) .e)) rfl h0 h
theorem o187 {a b c e : Nat} (h0 : c = (a + b) + e) (h1 : c ≤ 4000) : a + b ≤ 4000 := n1 fun h => lin [c,a,b,e] (.c 1 (.a (.a (.v 1) (.v 2)) (.v 3)) (.v 0) (.c 1 (.v 0) (.k 4000) (.c 1 (.a (.k 4000) (.k 1)) (.a (.v 1) (.v 2)) .e))) rfl (n4 h0.symm) h1 h
theorem o188 {a b c : Nat} (h0 : c ≤ 400) (h1 : a < c) : min a b ≤ 400 := n1 fun h => lin [c,a,min a b] (.c 1 (.v 0) (.k 400) (.c 1 (.a (.v 1) (.k 1)) (.v 0) (.c 1 (.v 2) (.v 1) (.c 1 (.a (.k 400) (.k 1)) (.v 2) .e)))) rfl h0 h1 (Nat.min_le_left _ _) h
theorem o189 {a b : Nat} (h0 : b ≤ 400) (h1 : a < b) : ((a : Nat) : Int) < 9223372036854775808 := i2 fun g => zlin [((b : Nat) : Int),((a : Nat) : Int)] (.c 1 (.v 0) (.k 400) (.c 1 (.a (.v 1) (.k 1)) (.v 0) (.c 1 (.k 9223372036854775808) (.v 1) .e))) rfl (c1 h0) (c2 h1) g
theorem o190 {a : Int} (h0 : (0 ≤ a) ∧ (a < 2)) : a < 9223372036854775808 := i2 fun g => zlin [a] (.c 1 (.a (.v 0) (.k 1)) (.k 2) (.c 1 (.k 9223372036854775808) (.v 0) .e)) rfl h0.2 g
theorem o191 {a b : Nat} (h0 : a + b ≤ 4000) : a + b ≤ 16777216 := n1 fun h => lin [a,b] (.c 1 (.a (.v 0) (.v 1)) (.k 4000) (.c 1 (.a (.k 16777216) (.k 1)) (.a (.v 0) (.v 1)) .e)) rfl h0 h
theorem o192 {a : Nat} (h0 : a ≤ 400) : a ≤ 16777216 := n1 fun h => lin [a] (.c 1 (.v 0) (.k 400) (.c 1 (.a (.k 16777216) (.k 1)) (.v 0) .e)) rfl h0 h
theorem o193 {a b : Nat} (h0 : a + b ≤ 400) : a ≤ 16777216 := n1 fun h => lin [a,b] (.c 1 (.a (.v 0) (.v 1)) (.k 400) (.c 1 (.a (.k 16777216) (.k 1)) (.v 0) .e)) rfl h0 h
theorem o194 {a : Nat} (h0 : a ≤ 2) : a + 1 ≤ 10 := n1 fun h => lin [a] (.c 1 (.v 0) (.k 2) (.c 1 (.a (.k 10) (.k 1)) (.a (.v 0) (.k 1)) .e)) rfl h0 h
theorem o195 {a b c : Nat} (h0 : a ≤ 6) (h1 : b ≤ 6 * c) : a + b ≤ 6 * (c + 1) := n1 fun h => lin [a,b,c] (.c 1 (.v 0) (.k 6) (.c 1 (.v 1) (.m 6 (.v 2)) (.c 1 (.a (.m 6 (.a (.v 2) (.k 1))) (.k 1)) (.a (.v 0) (.v 1)) .e))) rfl h0 h1 h
theorem o196 {a b : Nat} (h0 : a ≤ 6 * b) : 1 + a ≤ 6 * (b + 1) := n1 fun h => lin [a,b] (.c 1 (.v 0) (.m 6 (.v 1)) (.c 1 (.a (.m 6 (.a (.v 1) (.k 1))) (.k 1)) (.a (.k 1) (.v 0)) .e)) rfl h0 h
theorem o197 {a : Nat} (h0 : 1 ≤ a) : 6 ≤ a * 6 := n1 fun h => lin [a] (.c 6 (.k 1) (.v 0) (.c 1 (.a (.r (.v 0) 6) (.k 1)) (.k 6) .e)) rfl h0 h
theorem o198 {a b c e : Nat} (h0 : (7 * (a * (e * 6))) + 36 ≤ 6 * 16777216) (h1 : a * 6 ≤ a * (e * 6)) (h2 : b * c ≤ (a + 1) * 6) : a + (b * c) ≤ 16777216 := n1 fun h => lin [a * (e * 6),a,b * c] (.c 1 (.a (.m 7 (.v 0)) (.k 36)) (.m 6 (.k 16777216)) (.c 7 (.r (.v 1) 6) (.v 0) (.c 6 (.v 2) (.r (.a (.v 1) (.k 1)) 6) (.c 6 (.a (.k 16777216) (.k 1)) (.a (.v 1) (.v 2)) .e)))) rfl h0 h1 h2 h
theorem o199 {a b c : Nat} (h0 : (7 * (b * (c * 6))) + 36 ≤ 6 * 16777216) (h1 : a ≤ 6 * b) (h2 : b * 6 ≤ b * (c * 6)) : a ≤ 16777216 := n1 fun h => lin [b * (c * 6),a,b] (.c 1 (.a (.m 7 (.v 0)) (.k 36)) (.m 6 (.k 16777216)) (.c 7 (.v 1) (.m 6 (.v 2)) (.c 7 (.r (.v 2) 6) (.v 0) (.c 7 (.a (.k 16777216) (.k 1)) (.v 1) .e)))) rfl h0 h1 h2 h
theorem o200 {a b c : Nat} (h0 : (7 * (c * (b * 6))) + 36 ≤ 6 * 16777216) (h1 : a * b ≤ (6 * c) * b) (h2 : (6 * c) * b = c * (b * 6)) : (7 * (a * b)) + 36 ≤ 6 * 16777216 := n1 fun h => lin [c * (b * 6),a * b,(6 * c) * b] (.c 1 (.a (.m 7 (.v 0)) (.k 36)) (.m 6 (.k 16777216)) (.c 7 (.v 1) (.v 2) (.c 7 (.v 2) (.v 0) (.c 1 (.a (.m 6 (.k 16777216)) (.k 1)) (.a (.m 7 (.v 1)) (.k 36)) .e)))) rfl h0 h1 (n4 h2) h
theorem o201 {a : Int} {b : Nat}  : a + 1 = (a + ((((b : Nat) : Int)) + 1)) - (((b : Nat) : Int)) := i3 (i1 fun g => zlin [a,((b : Nat) : Int)] (.c 1 (.a (.s (.a (.v 0) (.a (.v 1) (.k 1))) (.v 1)) (.k 1)) (.a (.v 0) (.k 1)) .e) rfl g) (i1 fun g => zlin [a,((b : Nat) : Int)] (.c 1 (.a (.a (.v 0) (.k 1)) (.k 1)) (.s (.a (.v 0) (.a (.v 1) (.k 1))) (.v 1)) .e) rfl g)
theorem o202 {a b : Int}  : a = (a + b) - b := i3 (i1 fun g => zlin [a,b] (.c 1 (.a (.s (.a (.v 0) (.v 1)) (.v 1)) (.k 1)) (.v 0) .e) rfl g) (i1 fun g => zlin [a,b] (.c 1 (.a (.v 0) (.k 1)) (.s (.a (.v 0) (.v 1)) (.v 1)) .e) rfl g)
theorem o203 {a b : Nat} (h0 : b < a) : a = (a - 1) + 1 := n3 (n1 fun h => lin [a,a - 1] (.c 1 (.v 0) (.a (.v 1) (.k 1)) (.c 1 (.a (.a (.v 1) (.k 1)) (.k 1)) (.v 0) .e)) rfl (sub_ge _ _) h) (n1 fun h => lin [a,a - 1] (.c 1 (.a (.v 0) (.k 1)) (.a (.v 1) (.k 1)) (.c 1 (.a (.v 1) (.k 1)) (.v 0) .e)) rfl h ((n5 (fun q => lin [b,a] (.c 1 (.a (.v 0) (.k 1)) (.v 1) (.c 1 (.a (.v 1) (.k 1)) (.k 1) .e)) rfl h0 q))))
theorem o204 {a b c : Nat} (h0 : c + a < b) : a < b - c := n2 fun h => lin [c,a,b,b - c] (.c 1 (.a (.a (.v 0) (.v 1)) (.k 1)) (.v 2) (.c 1 (.v 2) (.a (.v 3) (.v 0)) (.c 1 (.v 3) (.v 1) .e))) rfl h0 (sub_ge _ _) h
theorem o205 {a b c : Nat} (h0 : a + c < b) : a ≤ b := n1 fun h => lin [a,c,b] (.c 1 (.a (.a (.v 0) (.v 1)) (.k 1)) (.v 2) (.c 1 (.a (.v 2) (.k 1)) (.v 0) .e)) rfl h0 h
theorem o206 {a b c : Nat} (h0 : b + c < a) : a = (a - 1) + 1 := n3 (n1 fun h => lin [a,a - 1] (.c 1 (.v 0) (.a (.v 1) (.k 1)) (.c 1 (.a (.a (.v 1) (.k 1)) (.k 1)) (.v 0) .e)) rfl (sub_ge _ _) h) (n1 fun h => lin [a,a - 1] (.c 1 (.a (.v 0) (.k 1)) (.a (.v 1) (.k 1)) (.c 1 (.a (.v 1) (.k 1)) (.v 0) .e)) rfl h ((n5 (fun q => lin [b,c,a] (.c 1 (.a (.a (.v 0) (.v 1)) (.k 1)) (.v 2) (.c 1 (.a (.v 2) (.k 1)) (.k 1) .e)) rfl h0 q))))
theorem o207 {a b : Nat} (h0 : 1 + a < b + 1) : a < b := n2 fun h => lin [a,b] (.c 1 (.a (.a (.k 1) (.v 0)) (.k 1)) (.a (.v 1) (.k 1)) (.c 1 (.v 1) (.v 0) .e)) rfl h0 h
theorem o208 {a b : Nat} (h0 : a + 1 ≤ b) : a ≤ b := n1 fun h => lin [a,b] (.c 1 (.a (.v 0) (.k 1)) (.v 1) (.c 1 (.a (.v 1) (.k 1)) (.v 0) .e)) rfl h0 h
theorem o209 {a b c e : Nat} (h0 : e + a < b) (h1 : c + 1 = e) : a < b - c := n2 fun h => lin [e,a,b,c,b - c] (.c 1 (.a (.a (.v 0) (.v 1)) (.k 1)) (.v 2) (.c 1 (.a (.v 3) (.k 1)) (.v 0) (.c 1 (.v 2) (.a (.v 4) (.v 3)) (.c 1 (.v 4) (.v 1) .e)))) rfl h0 (n4 h1) (sub_ge _ _) h
theorem o210 {a b : Nat} (h0 : a ≤ b) : a ≤ (b + 1) + 1 := n1 fun h => lin [a,b] (.c 1 (.v 0) (.v 1) (.c 1 (.a (.a (.a (.v 1) (.k 1)) (.k 1)) (.k 1)) (.v 0) .e)) rfl h0 h
theorem o211 {a b c e : Nat} (h0 : c + e < b) (h1 : a + 1 = c) : a ≤ b := n1 fun h => lin [c,e,b,a] (.c 1 (.a (.a (.v 0) (.v 1)) (.k 1)) (.v 2) (.c 1 (.a (.v 3) (.k 1)) (.v 0) (.c 1 (.a (.v 2) (.k 1)) (.v 3) .e))) rfl h0 (n4 h1) h
theorem o212 {a b : Nat} (h0 : a + 1 < b) : a < b := n2 fun h => lin [a,b] (.c 1 (.a (.a (.v 0) (.k 1)) (.k 1)) (.v 1) (.c 1 (.v 1) (.v 0) .e)) rfl h0 h
theorem o213 {a b c e : Int}  : (((a + b) - c) + c) - e = (a + b) - e := i3 (i1 fun g => zlin [a,b,e,c] (.c 1 (.a (.s (.a (.v 0) (.v 1)) (.v 2)) (.k 1)) (.s (.a (.s (.a (.v 0) (.v 1)) (.v 3)) (.v 3)) (.v 2)) .e) rfl g) (i1 fun g => zlin [a,b,c,e] (.c 1 (.a (.s (.a (.s (.a (.v 0) (.v 1)) (.v 2)) (.v 2)) (.v 3)) (.k 1)) (.s (.a (.v 0) (.v 1)) (.v 3)) .e) rfl g)
theorem o214 {a b : Nat} (h0 : a < b) : a < b := n2 fun h => lin [a,b] (.c 1 (.a (.v 0) (.k 1)) (.v 1) (.c 1 (.v 1) (.v 0) .e)) rfl h0 h
theorem o215 {a b c : Int}  : ((a + b) - c) + c = a + b := i3 (i1 fun g => zlin [a,b,c] (.c 1 (.a (.a (.v 0) (.v 1)) (.k 1)) (.a (.s (.a (.v 0) (.v 1)) (.v 2)) (.v 2)) .e) rfl g) (i1 fun g => zlin [a,b,c] (.c 1 (.a (.a (.s (.a (.v 0) (.v 1)) (.v 2)) (.v 2)) (.k 1)) (.a (.v 0) (.v 1)) .e) rfl g)
theorem o216 {a b c : Nat} (h0 : b + 0 = c + 1) (h1 : a = c) : a ≤ b := n1 fun h => lin [b,c,a] (.c 1 (.a (.v 1) (.k 1)) (.a (.v 0) (.k 0)) (.c 1 (.v 2) (.v 1) (.c 1 (.a (.v 0) (.k 1)) (.v 2) .e))) rfl (n4 h0.symm) (n4 h1) h
theorem o217 {a b c e : Nat} (h0 : c + (e + 1) = b + 1) (h1 : a ≤ c) : a < b + 1 := n2 fun h => lin [c,e,b,a] (.c 1 (.a (.v 0) (.a (.v 1) (.k 1))) (.a (.v 2) (.k 1)) (.c 1 (.v 3) (.v 0) (.c 1 (.a (.v 2) (.k 1)) (.v 3) .e))) rfl (n4 h0) h1 h
theorem o218 {a b c : Nat} (h0 : a + (b + 1) = c + 1) : (a + 1) + b = c + 1 := n3 (n1 fun h => lin [a,b,c] (.c 1 (.a (.v 0) (.a (.v 1) (.k 1))) (.a (.v 2) (.k 1)) (.c 1 (.a (.a (.v 2) (.k 1)) (.k 1)) (.a (.a (.v 0) (.k 1)) (.v 1)) .e)) rfl (n4 h0) h) (n1 fun h => lin [a,b,c] (.c 1 (.a (.v 2) (.k 1)) (.a (.v 0) (.a (.v 1) (.k 1))) (.c 1 (.a (.a (.a (.v 0) (.k 1)) (.v 1)) (.k 1)) (.a (.v 2) (.k 1)) .e)) rfl (n4 h0.symm) h)
theorem o219 {a b : Nat} (h0 : a ≤ b) : a + 1 ≤ b + 1 := n1 fun h => lin [b,a] (.c 1 (.v 1) (.v 0) (.c 1 (.a (.a (.v 0) (.k 1)) (.k 1)) (.a (.v 1) (.k 1)) .e)) rfl h0 h
theorem o220 {a b : Nat}  : (a + 1) + b = a + (b + 1) := n3 (n1 fun h => lin [a,b] (.c 1 (.a (.a (.v 0) (.a (.v 1) (.k 1))) (.k 1)) (.a (.a (.v 0) (.k 1)) (.v 1)) .e) rfl h) (n1 fun h => lin [a,b] (.c 1 (.a (.a (.a (.v 0) (.k 1)) (.v 1)) (.k 1)) (.a (.v 0) (.a (.v 1) (.k 1))) .e) rfl h)
theorem o221 {a b : Nat} (h0 : ¬(b < a)) : a ≤ b + 1 := n1 fun h => lin [b,a] (.c 1 (.v 1) (.v 0) (.c 1 (.a (.a (.v 0) (.k 1)) (.k 1)) (.v 1) .e)) rfl (n1 h0) h
theorem o222 {a b : Nat} (h0 : ¬(b < a)) : a ≤ b := n1 fun h => lin [b,a] (.c 1 (.v 1) (.v 0) (.c 1 (.a (.v 0) (.k 1)) (.v 1) .e)) rfl (n1 h0) h
theorem o223 {a : Nat}  : 0 + ((a + 1) - 0) = a + 1 := n3 (n1 fun h => lin [a,(a + 1) - 0] (.c 1 (.v 1) (.a (.v 0) (.k 1)) (.c 1 (.a (.a (.v 0) (.k 1)) (.k 1)) (.a (.k 0) (.v 1)) .e)) rfl (Nat.sub_le _ _) h) (n1 fun h => lin [(a + 1) - 0,a] (.c 1 (.a (.v 1) (.k 1)) (.a (.v 0) (.k 0)) (.c 1 (.a (.a (.k 0) (.v 0)) (.k 1)) (.a (.v 1) (.k 1)) .e)) rfl (sub_ge _ _) h)
theorem o224 {a b : Nat} (h0 : b ≤ 40) (h1 : a ≤ 6 * b) : a ≤ 90000 := n1 fun h => lin [b,a] (.c 6 (.v 0) (.k 40) (.c 1 (.v 1) (.m 6 (.v 0)) (.c 1 (.a (.k 90000) (.k 1)) (.v 1) .e))) rfl h0 h1 h
theorem o225 {a : Nat} (h0 : a ≤ 40) : a ≤ 100 := n1 fun h => lin [a] (.c 1 (.v 0) (.k 40) (.c 1 (.a (.k 100) (.k 1)) (.v 0) .e)) rfl h0 h
theorem o226 {a b : Nat} (h0 : b ≤ 40) (h1 : a ≤ b + 1) : a ≤ 200 := n1 fun h => lin [b,a] (.c 1 (.v 0) (.k 40) (.c 1 (.v 1) (.a (.v 0) (.k 1)) (.c 1 (.a (.k 200) (.k 1)) (.v 1) .e))) rfl h0 h1 h
theorem o227 {a b : Int}  : ((1 + a) - b) + b = 1 + a := i3 (i1 fun g => zlin [a,b] (.c 1 (.a (.a (.k 1) (.v 0)) (.k 1)) (.a (.s (.a (.k 1) (.v 0)) (.v 1)) (.v 1)) .e) rfl g) (i1 fun g => zlin [a,b] (.c 1 (.a (.a (.s (.a (.k 1) (.v 0)) (.v 1)) (.v 1)) (.k 1)) (.a (.k 1) (.v 0)) .e) rfl g)
theorem o228 {a : Int} (h0 : 0 ≤ a) (h1 : a < 55287) : (9 ≤ (9 + a).toNat) ∧ ((9 + a).toNat < 55296) := ⟨(n1 fun g => zlin [a,(((9 + a).toNat : Nat) : Int)] (.c 1 (.k 0) (.v 0) (.c 1 (.a (.k 9) (.v 0)) (.v 1) (.c 1 (.a (.v 1) (.k 1)) (.k 9) .e))) rfl h0 (Int.self_le_toNat _) (c2 g)),(n2 fun g => zlin [a,(((9 + a).toNat : Nat) : Int)] (.c 1 (.a (.v 0) (.k 1)) (.k 55287) (.c 1 (.k 55296) (.v 1) (.c 1 (.v 1) (.a (.k 9) (.v 0)) .e))) rfl h1 (c1 g) ((i5 (fun q => zlin [a] (.c 1 (.k 0) (.v 0) (.c 1 (.a (.a (.k 9) (.v 0)) (.k 1)) (.k 0) .e)) rfl h0 q))))⟩
theorem o229 {a b : Nat} (h0 : 1 ≤ a) (h1 : min a (b + 1) = a) : a - 1 ≤ b := n1 fun h => lin [a,min a (b + 1),b,a - 1] (.c 1 (.v 1) (.a (.v 2) (.k 1)) (.c 1 (.v 0) (.v 1) (.c 1 (.a (.v 2) (.k 1)) (.v 3) (.c 1 (.a (.v 3) (.k 1)) (.v 0) .e)))) rfl (Nat.min_le_right _ _) (n4 h1.symm) h ((n5 (fun q => lin [a] (.c 1 (.k 1) (.v 0) (.c 1 (.a (.v 0) (.k 1)) (.k 1) .e)) rfl h0 q)))
theorem o230 {a b c : Int} (h0 : 1 + c < 1 + b) (h1 : 1 + a < 1 + c) : ((1 + a = 1 + b) ∨ ((1 + a = 1 + c) ∨ (1 + a = 1 + a))) ∧ ((1 + a ≤ 1 + b) ∧ ((1 + a ≤ 1 + c) ∧ (1 + a ≤ 1 + a))) := ⟨(Or.inr (Or.inr (i3 (i1 fun g => zlin [a] (.c 1 (.a (.a (.k 1) (.v 0)) (.k 1)) (.a (.k 1) (.v 0)) .e) rfl g) (i1 fun g => zlin [a] (.c 1 (.a (.a (.k 1) (.v 0)) (.k 1)) (.a (.k 1) (.v 0)) .e) rfl g)))),⟨(i1 fun g => zlin [c,b,a] (.c 1 (.a (.a (.k 1) (.v 0)) (.k 1)) (.a (.k 1) (.v 1)) (.c 1 (.a (.a (.k 1) (.v 2)) (.k 1)) (.a (.k 1) (.v 0)) (.c 1 (.a (.a (.k 1) (.v 1)) (.k 1)) (.a (.k 1) (.v 2)) .e))) rfl h0 h1 g),⟨(i1 fun g => zlin [c,a] (.c 1 (.a (.a (.k 1) (.v 1)) (.k 1)) (.a (.k 1) (.v 0)) (.c 1 (.a (.a (.k 1) (.v 0)) (.k 1)) (.a (.k 1) (.v 1)) .e)) rfl h1 g),(i1 fun g => zlin [a] (.c 1 (.a (.a (.k 1) (.v 0)) (.k 1)) (.a (.k 1) (.v 0)) .e) rfl g)⟩⟩⟩
theorem o231 {a b c : Int} (h0 : 1 + a < 1 + b) (h1 : ¬(1 + c < 1 + a)) : ((1 + a = 1 + b) ∨ ((1 + a = 1 + a) ∨ (1 + a = 1 + c))) ∧ ((1 + a ≤ 1 + b) ∧ ((1 + a ≤ 1 + a) ∧ (1 + a ≤ 1 + c))) := ⟨(Or.inr (Or.inl (i3 (i1 fun g => zlin [a] (.c 1 (.a (.a (.k 1) (.v 0)) (.k 1)) (.a (.k 1) (.v 0)) .e) rfl g) (i1 fun g => zlin [a] (.c 1 (.a (.a (.k 1) (.v 0)) (.k 1)) (.a (.k 1) (.v 0)) .e) rfl g)))),⟨(i1 fun g => zlin [a,b] (.c 1 (.a (.a (.k 1) (.v 0)) (.k 1)) (.a (.k 1) (.v 1)) (.c 1 (.a (.a (.k 1) (.v 1)) (.k 1)) (.a (.k 1) (.v 0)) .e)) rfl h0 g),⟨(i1 fun g => zlin [a] (.c 1 (.a (.a (.k 1) (.v 0)) (.k 1)) (.a (.k 1) (.v 0)) .e) rfl g),(i1 fun g => zlin [a,c] (.c 1 (.a (.k 1) (.v 0)) (.a (.k 1) (.v 1)) (.c 1 (.a (.a (.k 1) (.v 1)) (.k 1)) (.a (.k 1) (.v 0)) .e)) rfl (i1 h1) g)⟩⟩⟩
theorem o232 {a b c : Int} (h0 : ¬(1 + c < 1 + b)) (h1 : 1 + a < 1 + b) : ((1 + a = 1 + b) ∨ ((1 + a = 1 + c) ∨ (1 + a = 1 + a))) ∧ ((1 + a ≤ 1 + b) ∧ ((1 + a ≤ 1 + c) ∧ (1 + a ≤ 1 + a))) := ⟨(Or.inr (Or.inr (i3 (i1 fun g => zlin [a] (.c 1 (.a (.a (.k 1) (.v 0)) (.k 1)) (.a (.k 1) (.v 0)) .e) rfl g) (i1 fun g => zlin [a] (.c 1 (.a (.a (.k 1) (.v 0)) (.k 1)) (.a (.k 1) (.v 0)) .e) rfl g)))),⟨(i1 fun g => zlin [b,a] (.c 1 (.a (.a (.k 1) (.v 1)) (.k 1)) (.a (.k 1) (.v 0)) (.c 1 (.a (.a (.k 1) (.v 0)) (.k 1)) (.a (.k 1) (.v 1)) .e)) rfl h1 g),⟨(i1 fun g => zlin [b,c,a] (.c 1 (.a (.k 1) (.v 0)) (.a (.k 1) (.v 1)) (.c 1 (.a (.a (.k 1) (.v 2)) (.k 1)) (.a (.k 1) (.v 0)) (.c 1 (.a (.a (.k 1) (.v 1)) (.k 1)) (.a (.k 1) (.v 2)) .e))) rfl (i1 h0) h1 g),(i1 fun g => zlin [a] (.c 1 (.a (.a (.k 1) (.v 0)) (.k 1)) (.a (.k 1) (.v 0)) .e) rfl g)⟩⟩⟩
theorem o233 {a b c : Int} (h0 : ¬(1 + b < 1 + a)) (h1 : ¬(1 + c < 1 + a)) : ((1 + a = 1 + a) ∨ ((1 + a = 1 + b) ∨ (1 + a = 1 + c))) ∧ ((1 + a ≤ 1 + a) ∧ ((1 + a ≤ 1 + b) ∧ (1 + a ≤ 1 + c))) := ⟨(Or.inl (i3 (i1 fun g => zlin [a] (.c 1 (.a (.a (.k 1) (.v 0)) (.k 1)) (.a (.k 1) (.v 0)) .e) rfl g) (i1 fun g => zlin [a] (.c 1 (.a (.a (.k 1) (.v 0)) (.k 1)) (.a (.k 1) (.v 0)) .e) rfl g))),⟨(i1 fun g => zlin [a] (.c 1 (.a (.a (.k 1) (.v 0)) (.k 1)) (.a (.k 1) (.v 0)) .e) rfl g),⟨(i1 fun g => zlin [a,b] (.c 1 (.a (.k 1) (.v 0)) (.a (.k 1) (.v 1)) (.c 1 (.a (.a (.k 1) (.v 1)) (.k 1)) (.a (.k 1) (.v 0)) .e)) rfl (i1 h0) g),(i1 fun g => zlin [a,c] (.c 1 (.a (.k 1) (.v 0)) (.a (.k 1) (.v 1)) (.c 1 (.a (.a (.k 1) (.v 1)) (.k 1)) (.a (.k 1) (.v 0)) .e)) rfl (i1 h1) g)⟩⟩⟩
theorem o234 {a b : Int} (h0 : 1 + a < 1 + b) : ((1 + a = 1 + b) ∨ (1 + a = 1 + a)) ∧ ((1 + a ≤ 1 + b) ∧ (1 + a ≤ 1 + a)) := ⟨(Or.inr (i3 (i1 fun g => zlin [a] (.c 1 (.a (.a (.k 1) (.v 0)) (.k 1)) (.a (.k 1) (.v 0)) .e) rfl g) (i1 fun g => zlin [a] (.c 1 (.a (.a (.k 1) (.v 0)) (.k 1)) (.a (.k 1) (.v 0)) .e) rfl g))),⟨(i1 fun g => zlin [a,b] (.c 1 (.a (.a (.k 1) (.v 0)) (.k 1)) (.a (.k 1) (.v 1)) (.c 1 (.a (.a (.k 1) (.v 1)) (.k 1)) (.a (.k 1) (.v 0)) .e)) rfl h0 g),(i1 fun g => zlin [a] (.c 1 (.a (.a (.k 1) (.v 0)) (.k 1)) (.a (.k 1) (.v 0)) .e) rfl g)⟩⟩
theorem o235 {a b : Int} (h0 : ¬(1 + b < 1 + a)) : ((1 + a = 1 + a) ∨ (1 + a = 1 + b)) ∧ ((1 + a ≤ 1 + a) ∧ (1 + a ≤ 1 + b)) := ⟨(Or.inl (i3 (i1 fun g => zlin [a] (.c 1 (.a (.a (.k 1) (.v 0)) (.k 1)) (.a (.k 1) (.v 0)) .e) rfl g) (i1 fun g => zlin [a] (.c 1 (.a (.a (.k 1) (.v 0)) (.k 1)) (.a (.k 1) (.v 0)) .e) rfl g))),⟨(i1 fun g => zlin [a] (.c 1 (.a (.a (.k 1) (.v 0)) (.k 1)) (.a (.k 1) (.v 0)) .e) rfl g),(i1 fun g => zlin [a,b] (.c 1 (.a (.k 1) (.v 0)) (.a (.k 1) (.v 1)) (.c 1 (.a (.a (.k 1) (.v 1)) (.k 1)) (.a (.k 1) (.v 0)) .e)) rfl (i1 h0) g)⟩⟩
theorem o236 {a b : Nat} (h0 : ((((¬(a = 46)) ∧ (¬(b = 46))) ∧ (¬(a = 38))) ∧ (¬(b = 38))) ∨ (((a = 38) ∧ (¬(b = 38))) ∧ (¬(b = 46)))) : (¬(a = 46)) ∧ ((¬(b = 46)) ∧ (¬(b = 38))) := ⟨(fun g0 => (h0.elim (fun d0 => ((Nat.lt_or_gt_of_ne d0.1.1.1).elim (fun d1 => zlin [((a : Nat) : Int)] (.c 1 (.k 46) (.v 0) (.c 1 (.a (.v 0) (.k 1)) (.k 46) .e)) rfl (c1 (n4 g0.symm)) (c2 d1)) (fun d1 => zlin [((a : Nat) : Int)] (.c 1 (.v 0) (.k 46) (.c 1 (.a (.k 46) (.k 1)) (.v 0) .e)) rfl (c1 (n4 g0)) (c2 d1)))) (fun d0 => zlin [((a : Nat) : Int)] (.c 1 (.k 46) (.v 0) (.c 1 (.v 0) (.k 38) .e)) rfl (c1 (n4 g0.symm)) (c1 (n4 d0.1.1))))),⟨(fun g0 => (h0.elim (fun d0 => ((Nat.lt_or_gt_of_ne d0.1.1.1).elim (fun d1 => ((Nat.lt_or_gt_of_ne d0.1.1.2).elim (fun d2 => zlin [((b : Nat) : Int)] (.c 1 (.k 46) (.v 0) (.c 1 (.a (.v 0) (.k 1)) (.k 46) .e)) rfl (c1 (n4 g0.symm)) (c2 d2)) (fun d2 => zlin [((b : Nat) : Int)] (.c 1 (.v 0) (.k 46) (.c 1 (.a (.k 46) (.k 1)) (.v 0) .e)) rfl (c1 (n4 g0)) (c2 d2)))) (fun d1 => ((Nat.lt_or_gt_of_ne d0.1.1.2).elim (fun d2 => zlin [((b : Nat) : Int)] (.c 1 (.k 46) (.v 0) (.c 1 (.a (.v 0) (.k 1)) (.k 46) .e)) rfl (c1 (n4 g0.symm)) (c2 d2)) (fun d2 => zlin [((b : Nat) : Int)] (.c 1 (.v 0) (.k 46) (.c 1 (.a (.k 46) (.k 1)) (.v 0) .e)) rfl (c1 (n4 g0)) (c2 d2)))))) (fun d0 => ((Nat.lt_or_gt_of_ne d0.1.2).elim (fun d1 => zlin [((b : Nat) : Int)] (.c 1 (.k 46) (.v 0) (.c 1 (.a (.v 0) (.k 1)) (.k 38) .e)) rfl (c1 (n4 g0.symm)) (c2 d1)) (fun d1 => ((Nat.lt_or_gt_of_ne d0.2).elim (fun d2 => zlin [((b : Nat) : Int)] (.c 1 (.k 46) (.v 0) (.c 1 (.a (.v 0) (.k 1)) (.k 46) .e)) rfl (c1 (n4 g0.symm)) (c2 d2)) (fun d2 => zlin [((b : Nat) : Int)] (.c 1 (.v 0) (.k 46) (.c 1 (.a (.k 46) (.k 1)) (.v 0) .e)) rfl (c1 (n4 g0)) (c2 d2)))))))),(fun g0 => (h0.elim (fun d0 => ((Nat.lt_or_gt_of_ne d0.1.1.1).elim (fun d1 => ((Nat.lt_or_gt_of_ne d0.2).elim (fun d2 => zlin [((b : Nat) : Int)] (.c 1 (.k 38) (.v 0) (.c 1 (.a (.v 0) (.k 1)) (.k 38) .e)) rfl (c1 (n4 g0.symm)) (c2 d2)) (fun d2 => zlin [((b : Nat) : Int)] (.c 1 (.v 0) (.k 38) (.c 1 (.a (.k 38) (.k 1)) (.v 0) .e)) rfl (c1 (n4 g0)) (c2 d2)))) (fun d1 => ((Nat.lt_or_gt_of_ne d0.2).elim (fun d2 => zlin [((b : Nat) : Int)] (.c 1 (.k 38) (.v 0) (.c 1 (.a (.v 0) (.k 1)) (.k 38) .e)) rfl (c1 (n4 g0.symm)) (c2 d2)) (fun d2 => zlin [((b : Nat) : Int)] (.c 1 (.v 0) (.k 38) (.c 1 (.a (.k 38) (.k 1)) (.v 0) .e)) rfl (c1 (n4 g0)) (c2 d2)))))) (fun d0 => ((Nat.lt_or_gt_of_ne d0.1.2).elim (fun d1 => zlin [((b : Nat) : Int)] (.c 1 (.k 38) (.v 0) (.c 1 (.a (.v 0) (.k 1)) (.k 38) .e)) rfl (c1 (n4 g0.symm)) (c2 d1)) (fun d1 => zlin [((b : Nat) : Int)] (.c 1 (.v 0) (.k 38) (.c 1 (.a (.k 38) (.k 1)) (.v 0) .e)) rfl (c1 (n4 g0)) (c2 d1))))))⟩⟩
theorem o237 {a b : Int} (h0 : b = 1 + a) : a ≤ b := i1 fun g => zlin [b,a] (.c 1 (.a (.k 1) (.v 1)) (.v 0) (.c 1 (.a (.v 0) (.k 1)) (.v 1) .e)) rfl (i4 h0.symm) g
theorem o238 {a b c : Int} (h0 : b = 1 + c) (h1 : c = 1 + a) : a ≤ b := i1 fun g => zlin [b,c,a] (.c 1 (.a (.k 1) (.v 1)) (.v 0) (.c 1 (.a (.k 1) (.v 2)) (.v 1) (.c 1 (.a (.v 0) (.k 1)) (.v 2) .e))) rfl (i4 h0.symm) (i4 h1.symm) g
theorem o239 {a b c e f : Int} (h0 : b = 1 + c) (h1 : a ≤ 1 + e) (h2 : e ≤ 1 + f) (h3 : c = 1 + f) : a ≤ b := i1 fun g => zlin [b,c,a,e,f] (.c 1 (.a (.k 1) (.v 1)) (.v 0) (.c 1 (.v 2) (.a (.k 1) (.v 3)) (.c 1 (.v 3) (.a (.k 1) (.v 4)) (.c 1 (.a (.k 1) (.v 4)) (.v 1) (.c 1 (.a (.v 0) (.k 1)) (.v 2) .e))))) rfl (i4 h0.symm) h1 h2 (i4 h3.symm) g
theorem o240 {a b c : Int} (h0 : a ≤ 1 + c) (h1 : b = 1 + c) : a ≤ b := i1 fun g => zlin [b,a,c] (.c 1 (.v 1) (.a (.k 1) (.v 2)) (.c 1 (.a (.k 1) (.v 2)) (.v 0) (.c 1 (.a (.v 0) (.k 1)) (.v 1) .e))) rfl h0 (i4 h1.symm) g
theorem o241 {a b c : Int} (h0 : a ≤ 1 + b) (h1 : a = 1 + c) (h2 : b ≤ c) : a = 1 + b := i3 h0 (i1 fun g => zlin [a,b,c] (.c 1 (.a (.k 1) (.v 2)) (.v 0) (.c 1 (.v 1) (.v 2) (.c 1 (.a (.v 0) (.k 1)) (.a (.k 1) (.v 1)) .e))) rfl (i4 h1.symm) h2 g)
theorem o242 {a b c e : Int} (h0 : a ≤ 1 + b) (h1 : a = 1 + c) (h2 : b ≤ e) (h3 : e ≤ c) : a = 1 + b := i3 h0 (i1 fun g => zlin [a,b,c,e] (.c 1 (.a (.k 1) (.v 2)) (.v 0) (.c 1 (.v 1) (.v 3) (.c 1 (.v 3) (.v 2) (.c 1 (.a (.v 0) (.k 1)) (.a (.k 1) (.v 1)) .e)))) rfl (i4 h1.symm) h2 h3 g)
theorem o243 {a b c : Nat} (h0 : b ≤ a) (h1 : a < b + c) : a - b < c := n2 fun h => lin [b,a,c,a - b] (.c 1 (.a (.v 1) (.k 1)) (.a (.v 0) (.v 2)) (.c 1 (.v 2) (.v 3) (.c 1 (.a (.v 3) (.v 0)) (.v 1) .e))) rfl h1 h ((n5 (fun q => lin [b,a] (.c 1 (.v 0) (.v 1) (.c 1 (.a (.v 1) (.k 1)) (.v 0) .e)) rfl h0 q)))
theorem o244 {a b c : Nat} (h0 : ¬(a < b + c)) (h1 : ¬(b + c < a)) : ((a : Nat) : Int) = ((b + c : Nat) : Int) := i3 (i1 fun g => zlin [((b : Nat) : Int),((c : Nat) : Int),((a : Nat) : Int)] (.c 1 (.v 2) (.a (.v 0) (.v 1)) (.c 1 (.a (.a (.v 0) (.v 1)) (.k 1)) (.v 2) .e)) rfl (c1 (n1 h1)) g) (i1 fun g => zlin [((b : Nat) : Int),((c : Nat) : Int),((a : Nat) : Int)] (.c 1 (.a (.v 0) (.v 1)) (.v 2) (.c 1 (.a (.v 2) (.k 1)) (.a (.v 0) (.v 1)) .e)) rfl (c1 (n1 h0)) g)
theorem o245 {a b c : Nat} (h0 : 1 ≤ b) (h1 : a ≤ c) : a + 1 ≤ b + c := n1 fun h => lin [b,a,c] (.c 1 (.k 1) (.v 0) (.c 1 (.v 1) (.v 2) (.c 1 (.a (.a (.v 0) (.v 2)) (.k 1)) (.a (.v 1) (.k 1)) .e))) rfl h0 h1 h
theorem o246 {a : Nat} (h0 : 1 ≤ a) : a = (a - 1) + 1 := n3 (n1 fun h => lin [a,a - 1] (.c 1 (.v 0) (.a (.v 1) (.k 1)) (.c 1 (.a (.a (.v 1) (.k 1)) (.k 1)) (.v 0) .e)) rfl (sub_ge _ _) h) (n1 fun h => lin [a,a - 1] (.c 1 (.a (.v 0) (.k 1)) (.a (.v 1) (.k 1)) (.c 1 (.a (.v 1) (.k 1)) (.v 0) .e)) rfl h ((n5 (fun q => lin [a] (.c 1 (.k 1) (.v 0) (.c 1 (.a (.v 0) (.k 1)) (.k 1) .e)) rfl h0 q))))
theorem o247 {a b : Nat} (h0 : a + 1 ≤ b) : min (a + 1) b = a + 1 := n3 (n1 fun h => lin [a,min (a + 1) b] (.c 1 (.v 1) (.a (.v 0) (.k 1)) (.c 1 (.a (.a (.v 0) (.k 1)) (.k 1)) (.v 1) .e)) rfl (Nat.min_le_left _ _) h) (Nat.le_min.mpr ⟨(n1 fun h => lin [a] (.c 1 (.a (.a (.v 0) (.k 1)) (.k 1)) (.a (.v 0) (.k 1)) .e) rfl h),(n1 fun h => lin [a,b] (.c 1 (.a (.v 0) (.k 1)) (.v 1) (.c 1 (.a (.v 1) (.k 1)) (.a (.v 0) (.k 1)) .e)) rfl h0 h)⟩)
theorem o248 {a b : Nat} (h0 : a < b) (h1 : b ≤ a) : False := lin [a,b] (.c 1 (.a (.v 0) (.k 1)) (.v 1) (.c 1 (.v 1) (.v 0) .e)) rfl h0 h1
theorem o249 {a : Nat}  : a + 1 = 1 + a := n3 (n1 fun h => lin [a] (.c 1 (.a (.a (.k 1) (.v 0)) (.k 1)) (.a (.v 0) (.k 1)) .e) rfl h) (n1 fun h => lin [a] (.c 1 (.a (.a (.v 0) (.k 1)) (.k 1)) (.a (.k 1) (.v 0)) .e) rfl h)
theorem o250 {a b : Nat}  : (a + (b + 1)) + 1 = (a + 2) + b := n3 (n1 fun h => lin [a,b] (.c 1 (.a (.a (.a (.v 0) (.k 2)) (.v 1)) (.k 1)) (.a (.a (.v 0) (.a (.v 1) (.k 1))) (.k 1)) .e) rfl h) (n1 fun h => lin [a,b] (.c 1 (.a (.a (.a (.v 0) (.a (.v 1) (.k 1))) (.k 1)) (.k 1)) (.a (.a (.v 0) (.k 2)) (.v 1)) .e) rfl h)
theorem o251 {a : Nat}  : (((a : Nat) : Int)) + 1 = ((a + 1 : Nat) : Int) := i3 (i1 fun g => zlin [((a : Nat) : Int)] (.c 1 (.a (.a (.v 0) (.k 1)) (.k 1)) (.a (.v 0) (.k 1)) .e) rfl g) (i1 fun g => zlin [((a : Nat) : Int)] (.c 1 (.a (.a (.v 0) (.k 1)) (.k 1)) (.a (.v 0) (.k 1)) .e) rfl g)
theorem o252 {a b : Nat}  : a + 1 ≤ a + (1 + b) := n1 fun h => lin [a,b] (.c 1 (.a (.a (.v 0) (.a (.k 1) (.v 1))) (.k 1)) (.a (.v 0) (.k 1)) .e) rfl h
theorem o253 {a b c e : Nat} (h0 : b = a + ((c + 2) + e)) : a + 1 ≤ b := n1 fun h => lin [b,a,c,e] (.c 1 (.a (.v 1) (.a (.a (.v 2) (.k 2)) (.v 3))) (.v 0) (.c 1 (.a (.v 0) (.k 1)) (.a (.v 1) (.k 1)) .e)) rfl (n4 h0.symm) h
theorem o254 {a b : Nat}  : (a + (1 + b)) - (a + 1) = b := n3 (n1 fun h => lin [b,(a + (1 + b)) - (a + 1),a] (.c 1 (.a (.v 0) (.k 1)) (.v 1) (.c 1 (.a (.v 1) (.a (.v 2) (.k 1))) (.a (.v 2) (.a (.k 1) (.v 0))) .e)) rfl h ((n5 (fun q => lin [a,b] (.c 1 (.a (.a (.v 0) (.a (.k 1) (.v 1))) (.k 1)) (.a (.v 0) (.k 1)) .e) rfl q)))) (n1 fun h => lin [(a + (1 + b)) - (a + 1),a,b] (.c 1 (.a (.v 1) (.a (.k 1) (.v 2))) (.a (.v 0) (.a (.v 1) (.k 1))) (.c 1 (.a (.v 0) (.k 1)) (.v 2) .e)) rfl (sub_ge _ _) h)
theorem o255 {a b c e : Nat} (h0 : b = a + ((c + 2) + e)) : a < b := n2 fun h => lin [b,a,c,e] (.c 1 (.a (.v 1) (.a (.a (.v 2) (.k 2)) (.v 3))) (.v 0) (.c 1 (.v 0) (.v 1) .e)) rfl (n4 h0.symm) h
theorem o256 {a b : Nat}  : ((a : Nat) : Int) < (((a : Nat) : Int)) + (1 + (((b : Nat) : Int))) := i2 fun g => zlin [((a : Nat) : Int),((b : Nat) : Int)] (.c 1 (.k 0) (.v 1) (.c 1 (.a (.v 0) (.a (.k 1) (.v 1))) (.v 0) .e)) rfl c0 g
theorem o257 {a b : Nat}  : ((((a + (1 + b) : Nat) : Int)) + 1).toNat = a + (b + 2) := n3 (n1 fun g => zlin [((a : Nat) : Int),((b : Nat) : Int),((((((a + (1 + b) : Nat) : Int)) + 1).toNat : Nat) : Int)] (.c 1 (.a (.a (.v 0) (.a (.v 1) (.k 2))) (.k 1)) (.v 2) (.c 1 (.v 2) (.a (.a (.v 0) (.a (.k 1) (.v 1))) (.k 1)) .e)) rfl (c2 g) ((i5 (fun q => zlin [((a : Nat) : Int),((b : Nat) : Int),((((((a + (1 + b) : Nat) : Int)) + 1).toNat : Nat) : Int)] (.c 1 (.a (.a (.v 0) (.a (.v 1) (.k 2))) (.k 1)) (.v 2) (.c 1 (.v 2) (.a (.a (.v 0) (.a (.k 1) (.v 1))) (.k 1)) .e)) rfl (c2 g) ((i5 (fun q => zlin [((a : Nat) : Int),((b : Nat) : Int)] (.c 1 (.k 0) (.v 0) (.c 1 (.k 0) (.v 1) (.c 1 (.a (.a (.a (.v 0) (.a (.k 1) (.v 1))) (.k 1)) (.k 1)) (.k 0) .e))) rfl c0 c0 q))))))) (n1 fun g => zlin [((a : Nat) : Int),((b : Nat) : Int),((((((a + (1 + b) : Nat) : Int)) + 1).toNat : Nat) : Int)] (.c 1 (.a (.a (.v 0) (.a (.k 1) (.v 1))) (.k 1)) (.v 2) (.c 1 (.a (.v 2) (.k 1)) (.a (.v 0) (.a (.v 1) (.k 2))) .e)) rfl (Int.self_le_toNat _) (c2 g))
theorem o258 {a : Nat}  : (((a : Nat) : Int)) + 1 = 1 + (((a : Nat) : Int)) := i3 (i1 fun g => zlin [((a : Nat) : Int)] (.c 1 (.a (.a (.k 1) (.v 0)) (.k 1)) (.a (.v 0) (.k 1)) .e) rfl g) (i1 fun g => zlin [((a : Nat) : Int)] (.c 1 (.a (.a (.v 0) (.k 1)) (.k 1)) (.a (.k 1) (.v 0)) .e) rfl g)
theorem o259 {a b c e : Nat} (h0 : c ≤ b) (h1 : 1 ≤ e) (h2 : e + a = c + 1) : a ≤ b := n1 fun h => lin [c,b,e,a] (.c 1 (.v 0) (.v 1) (.c 1 (.k 1) (.v 2) (.c 1 (.a (.v 2) (.v 3)) (.a (.v 0) (.k 1)) (.c 1 (.a (.v 1) (.k 1)) (.v 3) .e)))) rfl h0 h1 (n4 h2) h
theorem o260 {a b c e : Nat} (h0 : c < b) (h1 : 1 ≤ e) (h2 : e + a = c + 1) : a < b := n2 fun h => lin [c,b,e,a] (.c 1 (.a (.v 0) (.k 1)) (.v 1) (.c 1 (.k 1) (.v 2) (.c 1 (.a (.v 2) (.v 3)) (.a (.v 0) (.k 1)) (.c 1 (.v 1) (.v 3) .e)))) rfl h0 h1 (n4 h2) h
theorem o261 {a : Nat} (h0 : 255 - (((a : Nat) : Int)) = 0) (h1 : a < 7) : False := zlin [((a : Nat) : Int)] (.c 1 (.s (.k 255) (.v 0)) (.k 0) (.c 1 (.a (.v 0) (.k 1)) (.k 7) .e)) rfl (i4 h0) (c2 h1)
theorem o262 {a : Nat}  : 255 - (((a : Nat) : Int)) ≤ 100000 := i1 fun g => zlin [((a : Nat) : Int)] (.c 1 (.k 0) (.v 0) (.c 1 (.a (.k 100000) (.k 1)) (.s (.k 255) (.v 0)) .e)) rfl c0 g
theorem o263 {a : Int} {b c e : Prop} (h0 : b ∧ ((0 < a) ∧ ((a < 256) ∧ (c ∧ e)))) : (¬(a = 0)) ∧ (a ≤ 100000) := ⟨(fun g0 => zlin [a] (.c 1 (.a (.k 0) (.k 1)) (.v 0) (.c 1 (.v 0) (.k 0) .e)) rfl h0.2.1 (i4 g0)),(i1 fun g => zlin [a] (.c 1 (.a (.v 0) (.k 1)) (.k 256) (.c 1 (.a (.k 100000) (.k 1)) (.v 0) .e)) rfl h0.2.2.1 g)⟩
theorem o264 {a : Nat} (h0 : 3 ≤ a) : 1 ≤ min 3 a := Nat.le_min.mpr ⟨(n1 fun h => lin [] (.c 1 (.a (.k 3) (.k 1)) (.k 1) .e) rfl h),(n1 fun h => lin [a] (.c 1 (.k 3) (.v 0) (.c 1 (.a (.v 0) (.k 1)) (.k 1) .e)) rfl h0 h)⟩
theorem o265 {a : Nat} (h0 : ¬(3 ≤ a)) : a ≤ 3 := n1 fun h => lin [a] (.c 1 (.a (.v 0) (.k 1)) (.k 3) (.c 1 (.a (.k 3) (.k 1)) (.v 0) .e)) rfl (n2 h0) h
theorem o266 {a b : Nat} (h0 : b ≤ 2) : a + b ≤ a + 3 := n1 fun h => lin [b,a] (.c 1 (.v 0) (.k 2) (.c 1 (.a (.a (.v 1) (.k 3)) (.k 1)) (.a (.v 1) (.v 0)) .e)) rfl h0 h
theorem o267 {a : Nat} (h0 : 2 ≤ a) : 1 ≤ min 2 a := Nat.le_min.mpr ⟨(n1 fun h => lin [] (.c 1 (.a (.k 2) (.k 1)) (.k 1) .e) rfl h),(n1 fun h => lin [a] (.c 1 (.k 2) (.v 0) (.c 1 (.a (.v 0) (.k 1)) (.k 1) .e)) rfl h0 h)⟩
theorem o268 {a : Nat} (h0 : 247 + (((a : Nat) : Int)) < 256) (h1 : 9 ≤ a) : False := zlin [((a : Nat) : Int)] (.c 1 (.a (.a (.k 247) (.v 0)) (.k 1)) (.k 256) (.c 1 (.k 9) (.v 0) .e)) rfl h0 (c1 h1)
theorem o269 {a : Nat} (h0 : 9 ≤ a) : ((247 + (((a : Nat) : Int))) - 247).toNat = a := n3 (n1 fun g => zlin [((a : Nat) : Int),((((247 + (((a : Nat) : Int))) - 247).toNat : Nat) : Int)] (.c 1 (.a (.v 0) (.k 1)) (.v 1) (.c 1 (.v 1) (.s (.a (.k 247) (.v 0)) (.k 247)) .e)) rfl (c2 g) ((i5 (fun q => zlin [((a : Nat) : Int)] (.c 1 (.k 9) (.v 0) (.c 1 (.a (.s (.a (.k 247) (.v 0)) (.k 247)) (.k 1)) (.k 0) .e)) rfl (c1 h0) q)))) (n1 fun g => zlin [((a : Nat) : Int),((((247 + (((a : Nat) : Int))) - 247).toNat : Nat) : Int)] (.c 1 (.s (.a (.k 247) (.v 0)) (.k 247)) (.v 1) (.c 1 (.a (.v 1) (.k 1)) (.v 0) .e)) rfl (Int.self_le_toNat _) (c2 g))
theorem o270 {a : Nat} (h0 : a < 55296) : (¬(247 + (((a : Nat) : Int)) = 0)) ∧ (247 + (((a : Nat) : Int)) ≤ 100000) := ⟨(fun g0 => zlin [((a : Nat) : Int)] (.c 1 (.k 0) (.v 0) (.c 1 (.a (.k 247) (.v 0)) (.k 0) .e)) rfl c0 (i4 g0)),(i1 fun g => zlin [((a : Nat) : Int)] (.c 1 (.a (.v 0) (.k 1)) (.k 55296) (.c 1 (.a (.k 100000) (.k 1)) (.a (.k 247) (.v 0)) .e)) rfl (c2 h0) g)⟩
theorem o271 {a : Int} {b : Nat}  : (a + 1) + (((b : Nat) : Int)) = a + ((((b : Nat) : Int)) + 1) := i3 (i1 fun g => zlin [a,((b : Nat) : Int)] (.c 1 (.a (.a (.v 0) (.a (.v 1) (.k 1))) (.k 1)) (.a (.a (.v 0) (.k 1)) (.v 1)) .e) rfl g) (i1 fun g => zlin [a,((b : Nat) : Int)] (.c 1 (.a (.a (.a (.v 0) (.k 1)) (.v 1)) (.k 1)) (.a (.v 0) (.a (.v 1) (.k 1))) .e) rfl g)
theorem o272 {a b : Nat} (h0 : a ≤ b) : a < b + 1 := n2 fun h => lin [a,b] (.c 1 (.v 0) (.v 1) (.c 1 (.a (.v 1) (.k 1)) (.v 0) .e)) rfl h0 h
theorem o273 {a b c e : Nat} (h0 : a ≤ e) (h1 : e ≤ 40) (h2 : b ≤ c * 41) : (a + (0 + 1)) + b ≤ (c + 1) * 41 := n1 fun h => lin [a,e,b,c] (.c 1 (.v 0) (.v 1) (.c 1 (.v 1) (.k 40) (.c 1 (.v 2) (.r (.v 3) 41) (.c 1 (.a (.r (.a (.v 3) (.k 1)) 41) (.k 1)) (.a (.a (.v 0) (.a (.k 0) (.k 1))) (.v 2)) .e)))) rfl h0 h1 h2 h
theorem o274 {a : Nat} (h0 : a ≤ 82) : a ≤ 400 := n1 fun h => lin [a] (.c 1 (.v 0) (.k 82) (.c 1 (.a (.k 400) (.k 1)) (.v 0) .e)) rfl h0 h
theorem o275 {a : Nat} (h0 : a ≤ 40) : a ≤ 1000 := n1 fun h => lin [a] (.c 1 (.v 0) (.k 40) (.c 1 (.a (.k 1000) (.k 1)) (.v 0) .e)) rfl h0 h
theorem o276 {a b : Nat} (h0 : b ≤ 40) (h1 : a ≤ 6 * b) : a ≤ 1000 := n1 fun h => lin [b,a] (.c 6 (.v 0) (.k 40) (.c 1 (.v 1) (.m 6 (.v 0)) (.c 1 (.a (.k 1000) (.k 1)) (.v 1) .e))) rfl h0 h1 h
theorem o277 {a b : Nat} (h0 : b ≤ 40) (h1 : a ≤ b) : a ≤ 2000 := n1 fun h => lin [b,a] (.c 1 (.v 0) (.k 40) (.c 1 (.v 1) (.v 0) (.c 1 (.a (.k 2000) (.k 1)) (.v 1) .e))) rfl h0 h1 h
theorem o278 {a : Nat} (h0 : a ≤ 82) : a * 41 ≤ 4000 := n1 fun h => lin [a] (.c 41 (.v 0) (.k 82) (.c 1 (.a (.k 4000) (.k 1)) (.r (.v 0) 41) .e)) rfl h0 h
theorem o279 {a : Int} (h0 : 0 ≤ a) : a = (((a).toNat : Nat) : Int) := i3 (i1 fun g => zlin [a,(((a).toNat : Nat) : Int)] (.c 1 (.v 0) (.v 1) (.c 1 (.a (.v 1) (.k 1)) (.v 0) .e)) rfl (Int.self_le_toNat _) g) (i1 fun g => zlin [a,(((a).toNat : Nat) : Int)] (.c 1 (.a (.v 0) (.k 1)) (.v 1) (.c 1 (.v 1) (.v 0) .e)) rfl g ((i5 (fun q => zlin [a,(((a).toNat : Nat) : Int)] (.c 1 (.a (.v 0) (.k 1)) (.v 1) (.c 1 (.v 1) (.v 0) .e)) rfl g ((i5 (fun q => zlin [a] (.c 1 (.k 0) (.v 0) (.c 1 (.a (.v 0) (.k 1)) (.k 0) .e)) rfl h0 q)))))))
theorem o280 {a : Int} (h0 : 0 ≤ a) (h1 : a < 5) : (a).toNat < 5 := n2 fun g => zlin [a,(((a).toNat : Nat) : Int)] (.c 1 (.a (.v 0) (.k 1)) (.k 5) (.c 1 (.k 5) (.v 1) (.c 1 (.v 1) (.v 0) .e))) rfl h1 (c1 g) ((i5 (fun q => zlin [a] (.c 1 (.k 0) (.v 0) (.c 1 (.a (.v 0) (.k 1)) (.k 0) .e)) rfl h0 q)))
theorem o281 {a b c : Nat} (h0 : (b ≤ 4 * 10) ∧ (c ≤ 4 * 10)) (h1 : a = b) : a ≤ 40 := n1 fun h => lin [b,a] (.c 1 (.v 0) (.m 4 (.k 10)) (.c 1 (.v 1) (.v 0) (.c 1 (.a (.k 40) (.k 1)) (.v 1) .e))) rfl h0.1 (n4 h1) h
theorem o282 {a b c : Nat} (h0 : (b ≤ 4 * 10) ∧ (c ≤ 4 * 10)) (h1 : a = c) : a ≤ 40 := n1 fun h => lin [c,a] (.c 1 (.v 0) (.m 4 (.k 10)) (.c 1 (.v 1) (.v 0) (.c 1 (.a (.k 40) (.k 1)) (.v 1) .e))) rfl h0.2 (n4 h1) h
theorem o283 {a b : Nat} (h0 : b ≤ 40) (h1 : a ≤ b + 1) : a ≤ 41 := n1 fun h => lin [b,a] (.c 1 (.v 0) (.k 40) (.c 1 (.v 1) (.a (.v 0) (.k 1)) (.c 1 (.a (.k 41) (.k 1)) (.v 1) .e))) rfl h0 h1 h
theorem o284 {a b : Nat} (h0 : b ≤ 40) (h1 : a ≤ b) : a ≤ 40 := n1 fun h => lin [b,a] (.c 1 (.v 0) (.k 40) (.c 1 (.v 1) (.v 0) (.c 1 (.a (.k 40) (.k 1)) (.v 1) .e))) rfl h0 h1 h
theorem o285 {a b : Nat} (h0 : a ≤ 41) (h1 : b ≤ 41) : a + b ≤ 82 := n1 fun h => lin [a,b] (.c 1 (.v 0) (.k 41) (.c 1 (.v 1) (.k 41) (.c 1 (.a (.k 82) (.k 1)) (.a (.v 0) (.v 1)) .e))) rfl h0 h1 h
theorem o286 {a b : Nat} (h0 : ¬(b < a)) : a ≤ b := n1 fun h => lin [a,b] (.c 1 (.v 0) (.v 1) (.c 1 (.a (.v 1) (.k 1)) (.v 0) .e)) rfl (n1 h0) h
theorem o287 {a : Nat} (h0 : a ≤ 63) : a ≤ 10000 := n1 fun h => lin [a] (.c 1 (.v 0) (.k 63) (.c 1 (.a (.k 10000) (.k 1)) (.v 0) .e)) rfl h0 h
theorem o288 {a b c : Nat} {e f i j k l m n o p r s t : Prop} (h0 : b ≤ a) (h1 : (c = 185) ∧ ((b = 598) ∧ (e ∧ (f ∧ (i ∧ (j ∧ (k ∧ (l ∧ (m ∧ (n ∧ (o ∧ (p ∧ (r ∧ (s ∧ t)))))))))))))) : 1 ≤ a := n1 fun h => lin [b,a] (.c 1 (.v 0) (.v 1) (.c 1 (.k 598) (.v 0) (.c 1 (.a (.v 1) (.k 1)) (.k 1) .e))) rfl h0 (n4 h1.2.1.symm) h
theorem o289 {a : Nat} (h0 : ¬(((63 : Nat) : Int) < ((a : Nat) : Int))) : a ≤ 63 := n1 fun g => zlin [((a : Nat) : Int)] (.c 1 (.v 0) (.k 63) (.c 1 (.a (.k 63) (.k 1)) (.v 0) .e)) rfl (i1 h0) (c2 g)
inductive MV where
  | undef | none | bool (b : Bool) | int (i : Int) | str (s : Str)
  | obj (v : Value) | mu (k : Nat)
  | list (xs : List MV) | tup (xs : List MV)
  | dictS (es : List (Str × MV)) | dictI (es : List (Int × MV))
  | rng (a b c : Int)
noncomputable abbrev Frz := Addr → Option Obj
noncomputable abbrev listO (vs : List Value) (n : Nat) : Obj := { cls := .type "list", data := .seq vs.toArray n }
noncomputable abbrev tupO (vs : List Value) (n : Nat) : Obj := { cls := .type "tuple", data := .seq vs.toArray n }
noncomputable def Sub (F F' : Frz) : Prop := ∀ b o, F b = some o → F' b = some o
theorem Sub.refl (F : Frz) : Sub F F := fun _ _ e => e
inductive VR (w : World) (F : Frz) (ρ : Nat → Option Addr) : MV → Value → Prop
  | none : VR w F ρ .none .none
  | bool (b : Bool) : VR w F ρ (.bool b) (.bool b)
  | int (i : Int) (t : Tok) : VR w F ρ (.int i) (.int i t)
  | str (s : Str) (t : Tok) : VR w F ρ (.str s) (.str s t)
  | obj (v : Value) : VR w F ρ (.obj v) v
  | mu (k : Nat) (a : Addr) (h : ρ k = some a) : VR w F ρ (.mu k) (.ref a)
  | list (a : Addr) (xs : List MV) (vs : List Value) (n : Nat) (hF : F a = some (listO vs n)) (hl : vs.length = xs.length)
      (h : ∀ (i : Nat) (x : MV) (v : Value), xs[i]? = some x → vs[i]? = some v → VR w F ρ x v) : VR w F ρ (.list xs) (.ref a)
  | tup (a : Addr) (xs : List MV) (vs : List Value) (n : Nat) (hF : F a = some (tupO vs n)) (hl : vs.length = xs.length)
      (h : ∀ (i : Nat) (x : MV) (v : Value), xs[i]? = some x → vs[i]? = some v → VR w F ρ x v) : VR w F ρ (.tup xs) (.ref a)
  | dictS (a : Addr) (es : List (Str × MV)) (ds : Array DictEntry) (n : Nat) (hF : F a = some { cls := .type "dict", data := .dict ds n }) (hm : (a == sysModules) = false) (hl : ds.size = es.length)
      (hk : ∀ (i : Nat) (x : Str × MV) (d : DictEntry), es[i]? = some x → ds[i]? = some d → (∃ t, d.key = .str x.1 t) ∧ d.hash = hashStr w x.1)
      (h : ∀ (i : Nat) (x : Str × MV) (d : DictEntry), es[i]? = some x → ds[i]? = some d → VR w F ρ x.2 d.val) : VR w F ρ (.dictS es) (.ref a)
  | dictI (a : Addr) (es : List (Int × MV)) (ds : Array DictEntry) (n : Nat) (hF : F a = some { cls := .type "dict", data := .dict ds n }) (hm : (a == sysModules) = false) (hl : ds.size = es.length)
      (hk : ∀ (i : Nat) (x : Int × MV) (d : DictEntry), es[i]? = some x → ds[i]? = some d → (∃ t, d.key = .int x.1 t) ∧ d.hash = hashInt x.1)
      (h : ∀ (i : Nat) (x : Int × MV) (d : DictEntry), es[i]? = some x → ds[i]? = some d → VR w F ρ x.2 d.val) : VR w F ρ (.dictI es) (.ref a)
  | rng (r : Addr) (a b d : Int) (t u c : Tok) (hF : F r = some { cls := .type "range", dict := none, data := .fields #[.int a t, .int b u, .int d c], slots := #[] }) : VR w F ρ (.rng a b d) (.ref r)
noncomputable def VRs (w : World) (F : Frz) (ρ : Nat → Option Addr) (xs : List MV) (vs : List Value) : Prop :=
  vs.length = xs.length ∧ ∀ (i : Nat) (x : MV) (v : Value), xs[i]? = some x → vs[i]? = some v → VR w F ρ x v
section
variable {w : World} {F F' : Frz} {ρ ρ' : Nat → Option Addr}
theorem VR.mono (hF : Sub F F') (hρ : ∀ k a, ρ k = some a → ρ' k = some a) {x : MV} {v : Value} (h : VR w F ρ x v) : VR w F' ρ' x v := by
  induction h with
  | none => exact .none
  | bool b => exact .bool b
  | int i t => exact .int i t
  | str s t => exact .str s t
  | obj v => exact .obj v
  | mu k a h => exact .mu k a (hρ k a h)
  | list a xs vs n h1 h2 _ ih => exact .list a xs vs n (hF _ _ h1) h2 ih
  | tup a xs vs n h1 h2 _ ih => exact .tup a xs vs n (hF _ _ h1) h2 ih
  | dictS a es ds n h1 h0 h2 h3 _ ih => exact .dictS a es ds n (hF _ _ h1) h0 h2 h3 ih
  | dictI a es ds n h1 h0 h2 h3 _ ih => exact .dictI a es ds n (hF _ _ h1) h0 h2 h3 ih
  | rng r a b d t u c h1 => exact .rng r a b d t u c (hF _ _ h1)
theorem VRs.mono (hF : Sub F F') (hρ : ∀ k a, ρ k = some a → ρ' k = some a) {xs : List MV} {vs : List Value} (h : VRs w F ρ xs vs) : VRs w F' ρ' xs vs :=
  ⟨h.1, fun i x v hx hv => (h.2 i x v hx hv).mono hF hρ⟩
theorem VRs.nil : VRs w F ρ [] [] := ⟨rfl, fun _ _ _ h => by simp at h⟩
theorem VRs.cons {x : MV} {v : Value} {xs : List MV} {vs : List Value} (h : VR w F ρ x v) (hs : VRs w F ρ xs vs) : VRs w F ρ (x :: xs) (v :: vs) :=
  ⟨by simp [hs.1], fun i y u hy hu => by
    cases i with
    | zero => simp at hy hu; subst hy hu; exact h
    | succ i => exact hs.2 i y u (by simpa using hy) (by simpa using hu)⟩
theorem VRs.head {x : MV} {v : Value} {xs : List MV} {vs : List Value} (h : VRs w F ρ (x :: xs) (v :: vs)) : VR w F ρ x v := h.2 0 x v rfl rfl
theorem VRs.tail {x : MV} {v : Value} {xs : List MV} {vs : List Value} (h : VRs w F ρ (x :: xs) (v :: vs)) : VRs w F ρ xs vs :=
  ⟨by simpa using h.1, fun i y u hy hu => h.2 (i + 1) y u (by simpa using hy) (by simpa using hu)⟩
theorem VRs.snoc {x : MV} {v : Value} {xs : List MV} {vs : List Value} (hs : VRs w F ρ xs vs) (h : VR w F ρ x v) : VRs w F ρ (xs ++ [x]) (vs ++ [v]) := by
  refine ⟨by simp [hs.1], fun i y u hy hu => ?_⟩
  rw [List.getElem?_append] at hy hu
  rw [hs.1] at hu
  split at hy
  · rename_i hi; rw [if_pos hi] at hu; exact hs.2 i y u hy hu
  · rename_i hi
    rw [if_neg hi] at hu
    generalize i - xs.length = j at hy hu
    cases j with
    | zero => simp at hy hu; subst hy hu; exact h
    | succ j => simp at hy
theorem VRs.get {xs : List MV} {vs : List Value} (hs : VRs w F ρ xs vs) {i : Nat} {x : MV} (hx : xs[i]? = some x) : ∃ v, vs[i]? = some v ∧ VR w F ρ x v := by
  have : i < vs.length := by rw [hs.1]; exact (List.getElem?_eq_some_iff.mp hx).1
  exact ⟨vs[i], List.getElem?_eq_getElem this, hs.2 i x _ hx (List.getElem?_eq_getElem this)⟩
end
structure Ext where
  rel : World → Frz → (Nat → Option Addr) → List Addr → Heap → Prop
  mono : ∀ w F F' ρ ρ' fp h, Sub F F' → (∀ k a, ρ k = some a → ρ' k = some a) → rel w F ρ fp h → rel w F' ρ' fp h
  stab : ∀ w F ρ fp h h', (∀ a ∈ fp, h'.get? a = h.get? a) → rel w F ρ fp h → rel w F ρ fp h'
  nor : ∀ w F ρ fp h, rel w F ρ fp h → rel w F (fun _ => none) fp h
inductive MO where
  | lst (xs : List MV)
  | ext (e : Ext)
inductive OR (w : World) (F : Frz) (ρ : Nat → Option Addr) : MO → List Addr → Heap → Prop
  | lst (a : Addr) (xs : List MV) (vs : List Value) (n : Nat) (h : Heap) (hh : h.get? a = some (listO vs n)) (hv : VRs w F ρ xs vs) : OR w F ρ (.lst xs) [a] h
  | ext (e : Ext) (fp : List Addr) (h : Heap) (hh : e.rel w F ρ fp h) : OR w F ρ (.ext e) fp h
section
variable {w : World} {F F' : Frz} {ρ ρ' : Nat → Option Addr}
theorem OR.mono (hF : Sub F F') (hρ : ∀ k a, ρ k = some a → ρ' k = some a) {o : MO} {fp : List Addr} {h : Heap} (x : OR w F ρ o fp h) : OR w F' ρ' o fp h := by
  cases x with
  | lst a xs vs n _ hh hv => exact .lst a xs vs n h hh (hv.mono hF hρ)
  | ext e _ _ hh => exact .ext e fp h (e.mono _ _ _ _ _ _ _ hF hρ hh)
theorem OR.stab {o : MO} {fp : List Addr} {h h' : Heap} (hs : ∀ a ∈ fp, h'.get? a = h.get? a) (x : OR w F ρ o fp h) : OR w F ρ o fp h' := by
  cases x with
  | lst a xs vs n _ hh hv => exact .lst a xs vs n h' ((hs a (.head _)).trans hh) hv
  | ext e _ _ hh => exact .ext e fp h' (e.stab _ _ _ _ _ _ hs hh)
end
structure St where
  loc : List (Str × MV)
  objs : List (Option MO) := []
structure Kp where
  f : Frz
  x : List Addr
structure Cx where
  env : Env
  oc : List (Str × Addr)
  A : Around
  hB : Frz
  hX : Frz
  glob : List (Str × MV)
  names : List Str
  sh : Shared
  F0 : Frz
  fps0 : List (List Addr)
  lo : Nat
noncomputable def rho (fps : List (List Addr)) (k : Nat) : Option Addr := fps[k]?.bind List.head?
noncomputable def alive : List (Option MO) → List (List Addr) → List Addr
  | some _ :: os, fp :: fps => fp ++ alive os fps
  | none :: os, _ :: fps => alive os fps
  | _, _ => []
noncomputable def Cx.hot (Γ : Cx) (os : List (Option MO)) (fps : List (List Addr)) : List Addr := Γ.env.locals :: (Γ.oc.map (·.2) ++ alive os fps)
variable (prog : Program) (w : World)
structure Cx.Ok (Γ : Cx) : Prop where
  kind : Γ.env.scope.kind = .function
  nodup : Γ.names.Nodup
  kinds : ∀ x ∈ Γ.names, (x == ("__debug__" : Str)) = false ∧ (Γ.env.kindOf x = some .local ∨ (Γ.env.kindOf x = some .cell ∧ ∃ c, Γ.oc.lookup x = some c))
  ocs : ∀ n c, Γ.oc.lookup n = some c → Γ.env.cells.lookup n = some c
  glob : ∀ x mv, (x, mv) ∈ Γ.glob → ∃ v, VR w Γ.hB (fun _ => none) mv v ∧ ∀ (A : Around) (E : Value → Shared → Prop) (s : Shared) (Q : Value → Shared → Prop) (p : Pos), (∀ b o, Γ.hB b = some o → s.heap.get? b = some o) → (∀ b o, Γ.hX b = some o → s.heap.get? b = some o) → Q v s →
    wpAny (model prog w) A (eval (.Name x p) Γ.env) Q E s
  room : Γ.A.depth < recursionLimit
  units : Γ.A.units + 10 < cLine
  handled : Γ.A.handled = none
  lo1 : 1 ≤ Γ.lo
structure Core (Γ : Cx) (K : Kp) (σ : St) (ps : List (MV × Value)) (s : Shared) (F : Frz) (m cm : Str → Option Value) (fps : List (List Addr)) : Prop where
  ok : Γ.Ok prog w
  base : ∀ b o, Γ.hB b = some o → F b = some o
  frz : ∀ b o, F b = some o → s.heap.get? b = some o
  frzH : ∀ b o, F b = some o → b ∉ Γ.hot σ.objs fps
  kept : ∀ b o, K.f b = some o → s.heap.get? b = some o
  keptH : ∀ b o, K.f b = some o → b ∉ Γ.hot σ.objs fps
  hx : ∀ b o, Γ.hX b = some o → K.f b = some o
  held : ∀ b ∈ K.x, F b = none ∧ (∃ o, K.f b = some o) ∧ Γ.sh.heap.get? b = none
  hot : (Γ.hot σ.objs fps).Nodup
  live : ∀ b ∈ Γ.hot σ.objs fps, ∃ o, s.heap.get? b = some o
  ns : s.heap.Ns Γ.env.locals m
  cell : ∀ n c, Γ.oc.lookup n = some c → s.heap.IsCell c (cm n)
  keys : σ.loc.map (·.1) = Γ.names
  loc : ∀ x mv, (x, mv) ∈ σ.loc → mv = .undef ∨ ∃ v, (Γ.env.kindOf x = some .local → m x = some v) ∧ (Γ.env.kindOf x = some .cell → cm x = some v) ∧ VR w F (rho fps) mv v
  len : fps.length = σ.objs.length
  pre : ∃ l, fps = Γ.fps0 ++ l
  trk : ∀ (k : Nat) (o : MO), σ.objs[k]? = some (some o) → ∃ fp, fps[k]? = some fp ∧ OR w F (rho fps) o fp s.heap
  ps : ∀ p ∈ ps, VR w F (rho fps) p.1 p.2
  tok : Γ.lo ≤ s.toks
  same : ∃ h tk, s = { Γ.sh with heap := h, toks := tk }
  lim : ∀ b o, F b = some o → Γ.F0 b = some o ∨ Γ.sh.heap.get? b = none
  ext : ∀ b o, Γ.sh.heap.get? b = some o → ∃ o', s.heap.get? b = some o'
  ownL : ∀ (k : Nat) (xs : List MV) (fp : List Addr), σ.objs[k]? = some (some (.lst xs)) → fps[k]? = some fp → ∀ a ∈ fp, Γ.sh.heap.get? a = none
noncomputable def Rel (Γ : Cx) (K : Kp) (σ : St) (ps : List (MV × Value)) (s : Shared) : Prop := ∃ F m cm fps, Core prog w Γ K σ ps s F m cm fps
noncomputable def WPe (Γ : Cx) (σ : St) (e : Expr) (Q : MV → St → Prop) : Prop :=
  ∀ (K : Kp) (ps : List (MV × Value)) (s : Shared) (R : Value → Shared → Prop), Rel prog w Γ K σ ps s →
    (∀ mv v σ' s', Q mv σ' → Rel prog w Γ K σ' ((mv, v) :: ps) s' → R v s') →
    wpAny (model prog w) Γ.A (eval e Γ.env) R (fun _ _ => False) s
noncomputable def WPv (Γ : Cx) (σ : St) (xs : List MV) (t : List Value → Sem Value) (Q : MV → St → Prop) : Prop :=
  ∀ (K : Kp) (ps : List (MV × Value)) (vs : List Value) (s : Shared) (R : Value → Shared → Prop), vs.length = xs.length → Rel prog w Γ K σ (xs.zip vs ++ ps) s →
    (∀ mv v σ' s', Q mv σ' → Rel prog w Γ K σ' ((mv, v) :: ps) s' → R v s') →
    wpAny (model prog w) Γ.A (t vs) R (fun _ _ => False) s
noncomputable def WPu (Γ : Cx) (σ : St) (xs : List MV) (t : List Value → Sem Unit) (Q : St → Prop) : Prop :=
  ∀ (K : Kp) (ps : List (MV × Value)) (vs : List Value) (s : Shared) (R : Unit → Shared → Prop), vs.length = xs.length → Rel prog w Γ K σ (xs.zip vs ++ ps) s →
    (∀ σ' s', Q σ' → Rel prog w Γ K σ' ps s' → R () s') →
    wpAny (model prog w) Γ.A (t vs) R (fun _ _ => False) s
noncomputable def WPt (Γ : Cx) (σ : St) (e : Expr) (Q : Bool → St → Prop) : Prop :=
  ∀ (K : Kp) (ps : List (MV × Value)) (s : Shared) (R : Bool → Shared → Prop), Rel prog w Γ K σ ps s →
    (∀ b σ' s', Q b σ' → Rel prog w Γ K σ' ps s' → R b s') →
    wpAny (model prog w) Γ.A (isTrue e Γ.env (eval e Γ.env)) R (fun _ _ => False) s
inductive MF where
  | next | brk | cont | ret (v : MV)
noncomputable def FR (prog : Program) (w : World) (Γ : Cx) (K : Kp) (σ : St) (ps : List (MV × Value)) : MF → Flow → Shared → Prop
  | .next, f, s => f = .next ∧ Rel prog w Γ K σ ps s
  | .brk, f, s => f = .brk ∧ Rel prog w Γ K σ ps s
  | .cont, f, s => f = .cont ∧ Rel prog w Γ K σ ps s
  | .ret mv, f, s => ∃ v, f = .ret v ∧ Rel prog w Γ K σ ((mv, v) :: ps) s
noncomputable def WPs (Γ : Cx) (σ : St) (b : List Stmt) (Q : MF → St → Prop) : Prop :=
  ∀ (K : Kp) (ps : List (MV × Value)) (s : Shared) (R : Flow → Shared → Prop), Rel prog w Γ K σ ps s →
    (∀ mf f σ' s', Q mf σ' → FR prog w Γ K σ' ps mf f s' → R f s') →
    wpAny (model prog w) Γ.A (execs b Γ.env) R (fun _ _ => False) s
noncomputable def WPx (Γ : Cx) (σ : St) (b : Stmt) (Q : MF → St → Prop) : Prop :=
  ∀ (K : Kp) (ps : List (MV × Value)) (s : Shared) (R : Flow → Shared → Prop), Rel prog w Γ K σ ps s →
    (∀ mf f σ' s', Q mf σ' → FR prog w Γ K σ' ps mf f s' → R f s') →
    wpAny (model prog w) Γ.A (exec b Γ.env) R (fun _ _ => False) s
variable {prog : Program} {w : World} {Γ : Cx} {K : Kp} {σ σ' : St} {ps : List (MV × Value)} {s : Shared} {F : Frz} {m cm : Str → Option Value} {fps : List (List Addr)}
noncomputable def Frz.put (F : Frz) (a : Addr) (o : Obj) : Frz := fun b => if b = a then some o else F b
theorem Frz.put_sub {F : Frz} {a : Addr} {o : Obj} (h : F a = none) : Sub F (F.put a o) := fun b x e => by
  unfold Frz.put; split
  · rename_i hb; subst hb; rw [h] at e; cases e
  · exact e
theorem Frz.put_self {F : Frz} {a : Addr} {o : Obj} : F.put a o a = some o := if_pos rfl
theorem get?_size (h : Heap) : h.get? h.objs.size = none := by
  cases e : h.get? h.objs.size with
  | none => rfl
  | some o => exact absurd (Heap.lt_size e) (Nat.lt_irrefl _)
theorem mem_alive {o : MO} {fp : List Addr} : ∀ {os : List (Option MO)} {fps : List (List Addr)} {k : Nat}, os[k]? = some (some o) → fps[k]? = some fp → ∀ {a : Addr}, a ∈ fp → a ∈ alive os fps
  | [], _, _, ho, _, _, _ => by simp at ho
  | _ :: _, [], _, _, hfp, _, _ => by simp at hfp
  | x :: os, f :: fps, 0, ho, hfp, a, ha => by
    simp at ho hfp; subst ho hfp
    exact List.mem_append_left _ ha
  | x :: os, f :: fps, k + 1, ho, hfp, a, ha => by
    have := mem_alive (os := os) (fps := fps) (k := k) (by simpa using ho) (by simpa using hfp) ha
    cases x with
    | none => exact this
    | some _ => exact List.mem_append_right _ this
namespace Core
variable (C : Core prog w Γ K σ ps s F m cm fps)
include C
theorem noneF : F s.heap.objs.size = none := by
  cases e : F s.heap.objs.size with
  | none => rfl
  | some o => have := C.frz _ _ e; rw [get?_size] at this; cases this
theorem noneK : K.f s.heap.objs.size = none := by
  cases e : K.f s.heap.objs.size with
  | none => rfl
  | some o => have := C.kept _ _ e; rw [get?_size] at this; cases this
theorem lt {b : Addr} (h : b ∈ Γ.hot σ.objs fps) : b < s.heap.objs.size := let ⟨_, e⟩ := C.live b h; Heap.lt_size e
theorem notHot : s.heap.objs.size ∉ Γ.hot σ.objs fps := fun h => Nat.lt_irrefl _ (C.lt h)
theorem setps {ps' : List (MV × Value)} (h : ∀ p ∈ ps', VR w F (rho fps) p.1 p.2) : Core prog w Γ K σ ps' s F m cm fps :=
  { C with ps := h }
theorem cons {x : MV} {v : Value} (h : VR w F (rho fps) x v) : Core prog w Γ K σ ((x, v) :: ps) s F m cm fps :=
  C.setps fun p hp => by
    rcases List.mem_cons.mp hp with rfl | hp
    · exact h
    · exact C.ps p hp
theorem toks (t : Nat) (ht : s.toks ≤ t := by tm_at "tk") : Core prog w Γ K σ ps { s with toks := t } F m cm fps :=
  { C with
    frz := C.frz, kept := C.kept, live := C.live, ns := C.ns, cell := C.cell, trk := C.trk, tok := Nat.le_trans C.tok ht
    same := by obtain ⟨h, tk, e⟩ := C.same; exact ⟨h, t, by rw [e]⟩
    ext := C.ext }
theorem mem_hot {k : Nat} {o : MO} {fp : List Addr} (ho : σ.objs[k]? = some (some o)) (hfp : fps[k]? = some fp) {a : Addr} (ha : a ∈ fp) : a ∈ Γ.hot σ.objs fps :=
  let _ := C; List.mem_cons_of_mem _ (List.mem_append_right _ (mem_alive ho hfp ha))
theorem grow {h' : Heap} {F' : Frz} (hk : ∀ b o, s.heap.get? b = some o → h'.get? b = some o) (hF : Sub F F') (hF' : ∀ b o, F' b = some o → h'.get? b = some o)
    (hn : ∀ b o, F' b = some o → F b = some o ∨ s.heap.get? b = none) (t : Nat) (ht : s.toks ≤ t := by tm_at "tk") : Core prog w Γ K σ ps { s with heap := h', toks := t } F' m cm fps where
  ok := C.ok
  base := fun b o e => hF _ _ (C.base b o e)
  frz := hF'
  frzH := fun b o e hh => (hn b o e).elim (fun e => C.frzH b o e hh) fun hb => by obtain ⟨o', e'⟩ := C.live b hh; rw [hb] at e'; cases e'
  kept := fun b o e => hk _ _ (C.kept b o e)
  keptH := C.keptH
  hx := C.hx
  held := fun b hb => by
    obtain ⟨h1, ⟨o, h2⟩, h3⟩ := C.held b hb
    refine ⟨?_, ⟨o, h2⟩, h3⟩
    cases e : F' b with
    | none => rfl
    | some o' => rcases hn b o' e with q | q
                 · rw [h1] at q; cases q
                 · rw [C.kept b o h2] at q; cases q
  hot := C.hot
  live := fun b hb => let ⟨o, e⟩ := C.live b hb; ⟨o, hk _ _ e⟩
  ns := C.ns.keeps hk
  cell := fun n c hc => (C.cell n c hc).keeps hk
  keys := C.keys
  loc := fun x mv hx => (C.loc x mv hx).imp id fun ⟨v, h1, h2, h3⟩ => ⟨v, h1, h2, h3.mono hF fun _ _ e => e⟩
  len := C.len
  pre := C.pre
  trk := fun k o ho => by
    obtain ⟨fp, hfp, hr⟩ := C.trk k o ho
    refine ⟨fp, hfp, (hr.mono hF fun _ _ e => e).stab fun a ha => ?_⟩
    obtain ⟨o', e'⟩ := C.live a (C.mem_hot ho hfp ha)
    rw [e', hk _ _ e']
  ps := fun p hp => (C.ps p hp).mono hF fun _ _ e => e
  tok := Nat.le_trans C.tok ht
  same := by obtain ⟨h, tk, e⟩ := C.same; exact ⟨h', t, by rw [e]⟩
  lim := fun b o e => (hn b o e).elim (C.lim b o) fun hb => by
    cases q : Γ.sh.heap.get? b with
    | none => exact .inr rfl
    | some o' => obtain ⟨o'', e'⟩ := C.ext b o' q; rw [hb] at e'; cases e'
  ext := fun b o e => let ⟨o', e'⟩ := C.ext b o e; ⟨o', hk _ _ e'⟩
  ownL := C.ownL
theorem alloc (o : Obj) (ho : o.isFreed = false := by rfl) : Core prog w Γ K σ ps { s with heap := s.heap.push o } (F.put s.heap.objs.size o) m cm fps :=
  C.grow (fun _ _ e => Heap.get?_push_of_some _ e) (Frz.put_sub C.noneF) (fun b x e => by
    unfold Frz.put at e; split at e
    · rename_i hb; subst hb; cases e; exact Heap.get?_push_size _ ho
    · exact Heap.get?_push_of_some _ (C.frz b x e)) (fun b x e => by
    unfold Frz.put at e; split at e
    · rename_i hb; subst hb; exact .inr (get?_size _)
    · exact .inl e) s.toks
theorem zip {xs : List MV} {vs : List Value} (hl : vs.length = xs.length) {qs : List (MV × Value)} (hp : ps = xs.zip vs ++ qs) : VRs w F (rho fps) xs vs := by
  refine ⟨hl, fun i x v hx hv => ?_⟩
  have : (x, v) ∈ xs.zip vs := by
    refine List.mem_iff_getElem?.mpr ⟨i, ?_⟩
    rw [List.getElem?_zip_eq_some]; exact ⟨hx, hv⟩
  exact C.ps (x, v) (by rw [hp]; exact List.mem_append_left _ this)
theorem storeL {x : Str} {mv : MV} {v : Value} {l₁ l₂ : List (Str × MV)} {old : MV} {h' : Heap} (hloc : σ.loc = l₁ ++ (x, old) :: l₂) (hx : Γ.env.kindOf x = some .local) (hv : VR w F (rho fps) mv v)
    (hn : h'.Ns Γ.env.locals fun y => if y = x then some v else m y) (hs : Heap.SameBut Γ.env.locals s.heap h') (t : Nat) (ht : s.toks ≤ t := by tm_at "tk") :
    Core prog w Γ K { σ with loc := l₁ ++ (x, mv) :: l₂ } ps { s with heap := h', toks := t } F (fun y => if y = x then some v else m y) cm fps := by
  have hL : Γ.env.locals ∈ Γ.hot σ.objs fps := .head _
  have hne : ∀ b, b ∈ Γ.oc.map (·.2) ++ alive σ.objs fps → b ≠ Γ.env.locals := fun b hb e => by
    have := (List.nodup_cons.mp C.hot).1
    rw [e] at hb; exact this hb
  have hk : (l₁ ++ (x, old) :: l₂).map (·.1) = Γ.names := hloc ▸ C.keys
  have hnd : ((l₁ ++ (x, old) :: l₂).map (·.1)).Nodup := hk ▸ C.ok.nodup
  refine { C with
    frz := fun b o e => (hs.2 b fun q => C.frzH b o e (q ▸ hL)).trans (C.frz b o e)
    kept := fun b o e => (hs.2 b fun q => C.keptH b o e (q ▸ hL)).trans (C.kept b o e)
    live := fun b hb => ?_
    ns := hn
    cell := fun n c hc => (C.cell n c hc).sameBut hs (hne c (List.mem_append_left _ (List.mem_map.mpr ⟨(n, c), mem_of_lookup hc, rfl⟩)))
    tok := Nat.le_trans C.tok ht
    keys := by rw [← hk]; simp
    loc := fun y mv' hy => ?_
    trk := fun k o ho => ?_
    same := by obtain ⟨h, tk, e⟩ := C.same; exact ⟨h', t, by rw [e]⟩
    ext := fun b o e => ?_ }
  · by_cases q : b = Γ.env.locals
    · subst q; obtain ⟨o, _, _, e, _⟩ := hn; exact ⟨o, e⟩
    · obtain ⟨o, e⟩ := C.live b hb; exact ⟨o, (hs.2 b q).trans e⟩
  · have hy' : (y = x ∧ mv' = mv) ∨ (y ≠ x ∧ (y, mv') ∈ σ.loc) := by
      rw [List.map_append, List.map_cons, List.nodup_append] at hnd
      obtain ⟨_, n2, n3⟩ := hnd
      rcases List.mem_append.mp hy with h | h
      · refine .inr ⟨fun e => ?_, by rw [hloc]; exact List.mem_append_left _ h⟩
        subst e
        exact n3 y (List.mem_map.mpr ⟨_, h, rfl⟩) y (.head _) rfl
      · rcases List.mem_cons.mp h with h | h
        · cases h; exact .inl ⟨rfl, rfl⟩
        · rename_i h'
          refine .inr ⟨fun e => ?_, by rw [hloc]; exact List.mem_append_right _ (.tail _ h)⟩
          subst e
          exact (List.nodup_cons.mp n2).1 (List.mem_map.mpr ⟨_, h, rfl⟩)
    rcases hy' with ⟨rfl, rfl⟩ | ⟨hyx, hy'⟩
    · exact .inr ⟨v, fun _ => if_pos rfl, fun q => by (rw [hx] at q; cases q), hv⟩
    · exact (C.loc y mv' hy').imp id fun ⟨u, h1, h2, h3⟩ => ⟨u, fun q => (if_neg hyx).trans (h1 q), h2, h3⟩
  · obtain ⟨fp, hfp, hr⟩ := C.trk k o ho
    refine ⟨fp, hfp, hr.stab fun a ha => hs.2 a (hne a ?_)⟩
    exact List.mem_append_right _ (mem_alive ho hfp ha)
  · by_cases q : b = Γ.env.locals
    · subst q; obtain ⟨o, _, _, e, _⟩ := hn; exact ⟨o, e⟩
    · obtain ⟨o', e'⟩ := C.ext b o e; exact ⟨o', (hs.2 b q).trans e'⟩
theorem storeC {x : Str} {mv : MV} {v : Value} {l₁ l₂ : List (Str × MV)} {old : MV} {c : Addr} {h' : Heap} (hloc : σ.loc = l₁ ++ (x, old) :: l₂) (hx : Γ.env.kindOf x = some .cell) (hc : Γ.oc.lookup x = some c) (hv : VR w F (rho fps) mv v)
    (hn : h'.IsCell c (some v)) (hs : Heap.SameBut c s.heap h') (t : Nat) (ht : s.toks ≤ t := by tm_at "tk") :
    Core prog w Γ K { σ with loc := l₁ ++ (x, mv) :: l₂ } ps { s with heap := h', toks := t } F m (fun y => if y = x then some v else cm y) fps := by
  have hcm : c ∈ Γ.oc.map (·.2) := List.mem_map.mpr ⟨(x, c), mem_of_lookup hc, rfl⟩
  have hL : c ∈ Γ.hot σ.objs fps := List.mem_cons_of_mem _ (List.mem_append_left _ hcm)
  obtain ⟨n1, n2⟩ := List.nodup_cons.mp C.hot
  obtain ⟨n3, n4, n5⟩ := List.nodup_append.mp n2
  have hLc : Γ.env.locals ≠ c := fun e => n1 (by rw [e]; exact List.mem_append_left _ hcm)
  have hk : (l₁ ++ (x, old) :: l₂).map (·.1) = Γ.names := hloc ▸ C.keys
  have hnd : ((l₁ ++ (x, old) :: l₂).map (·.1)).Nodup := hk ▸ C.ok.nodup
  refine { C with
    frz := fun b o e => (hs.2 b fun q => C.frzH b o e (q ▸ hL)).trans (C.frz b o e)
    kept := fun b o e => (hs.2 b fun q => C.keptH b o e (q ▸ hL)).trans (C.kept b o e)
    live := fun b hb => ?_
    ns := C.ns.sameBut hs hLc
    cell := fun n c' hc' => ?_
    tok := Nat.le_trans C.tok ht
    keys := by rw [← hk]; simp
    loc := fun y mv' hy => ?_
    trk := fun k o ho => ?_
    same := by obtain ⟨h, tk, e⟩ := C.same; exact ⟨h', t, by rw [e]⟩
    ext := fun b o e => ?_ }
  · by_cases q : b = c
    · subst q; obtain ⟨o, e, _⟩ := hn; exact ⟨o, e⟩
    · obtain ⟨o, e⟩ := C.live b hb; exact ⟨o, (hs.2 b q).trans e⟩
  · by_cases q : n = x
    · subst q; rw [hc] at hc'; cases hc'; simpa using hn
    · rw [if_neg q]
      refine (C.cell n c' hc').sameBut hs fun e => q ?_
      subst e
      refine name_of_addr (cs := Γ.oc) ?_ (mem_of_lookup hc') (mem_of_lookup hc)
      have := n3
      unfold List.Nodup at this
      rwa [List.pairwise_map] at this
  · have hy' : (y = x ∧ mv' = mv) ∨ (y ≠ x ∧ (y, mv') ∈ σ.loc) := by
      rw [List.map_append, List.map_cons, List.nodup_append] at hnd
      obtain ⟨_, n2, n3⟩ := hnd
      rcases List.mem_append.mp hy with h | h
      · refine .inr ⟨fun e => ?_, by rw [hloc]; exact List.mem_append_left _ h⟩
        subst e
        exact n3 y (List.mem_map.mpr ⟨_, h, rfl⟩) y (.head _) rfl
      · rcases List.mem_cons.mp h with h | h
        · cases h; exact .inl ⟨rfl, rfl⟩
        · rename_i h'
          refine .inr ⟨fun e => ?_, by rw [hloc]; exact List.mem_append_right _ (.tail _ h)⟩
          subst e
          exact (List.nodup_cons.mp n2).1 (List.mem_map.mpr ⟨_, h, rfl⟩)
    rcases hy' with ⟨rfl, rfl⟩ | ⟨hyx, hy'⟩
    · exact .inr ⟨v, fun q => by (rw [hx] at q; cases q), fun _ => if_pos rfl, hv⟩
    · exact (C.loc y mv' hy').imp id fun ⟨u, h1, h2, h3⟩ => ⟨u, h1, fun q => (if_neg hyx).trans (h2 q), h3⟩
  · obtain ⟨fp, hfp, hr⟩ := C.trk k o ho
    refine ⟨fp, hfp, hr.stab fun a ha => hs.2 a fun e => ?_⟩
    exact n5 c hcm a (mem_alive ho hfp ha) e.symm
  · by_cases q : b = c
    · subst q; obtain ⟨o, e, _⟩ := hn; exact ⟨o, e⟩
    · obtain ⟨o', e'⟩ := C.ext b o e; exact ⟨o', (hs.2 b q).trans e'⟩
end Core
noncomputable def upd (x : Str) (mv : MV) : List (Str × MV) → List (Str × MV)
  | [] => []
  | (y, u) :: l => if y = x then (x, mv) :: l else (y, u) :: upd x mv l
inductive Put (x : Str) (mv : MV) : List (Str × MV) → List (Str × MV) → Prop
  | here (u : MV) (l : List (Str × MV)) : Put x mv ((x, u) :: l) ((x, mv) :: l)
  | there (p : Str × MV) {l l' : List (Str × MV)} (h : Put x mv l l') : Put x mv (p :: l) (p :: l')
theorem Put.split {x : Str} {mv : MV} {l l' : List (Str × MV)} (h : Put x mv l l') : ∃ l₁ l₂ old, l = l₁ ++ (x, old) :: l₂ ∧ l' = l₁ ++ (x, mv) :: l₂ := by
  induction h with
  | here u l => exact ⟨[], l, u, rfl, rfl⟩
  | there p _ ih => obtain ⟨a, b, o, h1, h2⟩ := ih; exact ⟨p :: a, b, o, by rw [h1]; rfl, by rw [h2]; rfl⟩
noncomputable def PutQ (x : Str) (mv : MV) (l : List (Str × MV)) (P : List (Str × MV) → Prop) : Prop := ∃ l', Put x mv l l' ∧ P l'
theorem putq_here {x : Str} {mv u : MV} {l : List (Str × MV)} {P : List (Str × MV) → Prop} (h : P ((x, mv) :: l)) : PutQ x mv ((x, u) :: l) P := ⟨_, .here u l, h⟩
theorem putq_there {x : Str} {mv : MV} {p : Str × MV} {l : List (Str × MV)} {P : List (Str × MV) → Prop} (h : PutQ x mv l fun l' => P (p :: l')) : PutQ x mv (p :: l) P :=
  let ⟨l', a, b⟩ := h; ⟨p :: l', .there p a, b⟩
inductive Lk {α : Type} (x : Str) (mv : α) : List (Str × α) → Prop
  | here (l : List (Str × α)) : Lk x mv ((x, mv) :: l)
  | there (p : Str × α) {l : List (Str × α)} (h : Lk x mv l) : Lk x mv (p :: l)
theorem Lk.mem {α : Type} {x : Str} {mv : α} {l : List (Str × α)} (h : Lk x mv l) : (x, mv) ∈ l := by
  induction h with
  | here l => exact .head _
  | there p _ ih => exact .tail _ ih
noncomputable def MV.ok : MV → Bool
  | .undef => false
  | _ => true
theorem MV.ne {x : MV} (h : x.ok = true) : x ≠ .undef := fun e => by subst e; cases h
variable {Q : MV → St → Prop} {QF : MF → St → Prop}
theorem wp_name {x : Str} {p : Pos} {mv : MV} (hk : Lk x mv σ.loc) (hu : mv.ok = true) (h : Q mv σ) : WPe prog w Γ σ (.Name x p) Q := by
  rintro K ps s R ⟨F, m, cm, fps, C⟩ hR
  have hx := hk.mem
  obtain ⟨v, h1, h2, h3⟩ := (C.loc x mv hx).resolve_left (MV.ne hu)
  obtain ⟨hd, hk⟩ := C.ok.kinds x (C.keys ▸ List.mem_map.mpr ⟨_, hx, rfl⟩)
  refine wpAny_Name ?_ hd
  rcases hk with hk | ⟨hk, c, hc⟩
  · exact wpAny_loadName_local C.ok.kind hk C.ns (h1 hk) (hR _ _ _ _ h ⟨F, m, cm, fps, C.cons h3⟩)
  · exact wpAny_loadName_cell C.ok.kind hk (C.ok.ocs _ _ hc) (h2 hk ▸ C.cell x c hc) (hR _ _ _ _ h ⟨F, m, cm, fps, C.cons h3⟩)
theorem wp_glob {x : Str} {p : Pos} {mv : MV} (hk : Lk x mv Γ.glob) (h : Q mv σ) : WPe prog w Γ σ (.Name x p) Q := by
  rintro K ps s R ⟨F, m, cm, fps, C⟩ hR
  obtain ⟨v, hv, hl⟩ := C.ok.glob x mv hk.mem
  exact hl _ _ _ _ _ (fun b o e => C.frz b o (C.base b o e)) (fun b o e => C.kept b o (C.hx b o e)) (hR _ _ _ _ h ⟨F, m, cm, fps, C.cons (hv.mono C.base fun _ _ e => by cases e)⟩)
variable {prog : Program} {w : World} {Γ : Cx} {K : Kp} {σ σ' : St} {ps : List (MV × Value)} {s : Shared} {F : Frz} {m cm : Str → Option Value} {fps : List (List Addr)}
variable {Q : MV → St → Prop} {QB : Bool → St → Prop} {QF : MF → St → Prop} {QU : St → Prop}
noncomputable def WP1 (prog : Program) (w : World) (Γ : Cx) (σ : St) (x : MV) (t : Value → Sem Value) (Q : MV → St → Prop) : Prop :=
  ∀ (K : Kp) (ps : List (MV × Value)) (v : Value) (s : Shared) (R : Value → Shared → Prop), Rel prog w Γ K σ ((x, v) :: ps) s →
    (∀ mv v σ' s', Q mv σ' → Rel prog w Γ K σ' ((mv, v) :: ps) s' → R v s') → wpAny (model prog w) Γ.A (t v) R (fun _ _ => False) s
noncomputable def WP2 (prog : Program) (w : World) (Γ : Cx) (σ : St) (x y : MV) (t : Value → Value → Sem Value) (Q : MV → St → Prop) : Prop :=
  ∀ (K : Kp) (ps : List (MV × Value)) (v u : Value) (s : Shared) (R : Value → Shared → Prop), Rel prog w Γ K σ ((y, u) :: (x, v) :: ps) s →
    (∀ mv v σ' s', Q mv σ' → Rel prog w Γ K σ' ((mv, v) :: ps) s' → R v s') → wpAny (model prog w) Γ.A (t v u) R (fun _ _ => False) s
noncomputable def WB1 (prog : Program) (w : World) (Γ : Cx) (σ : St) (x : MV) (t : Value → Sem Bool) (Q : Bool → St → Prop) : Prop :=
  ∀ (K : Kp) (ps : List (MV × Value)) (v : Value) (s : Shared) (R : Bool → Shared → Prop), Rel prog w Γ K σ ((x, v) :: ps) s →
    (∀ b σ' s', Q b σ' → Rel prog w Γ K σ' ps s' → R b s') → wpAny (model prog w) Γ.A (t v) R (fun _ _ => False) s
noncomputable def WU1 (prog : Program) (w : World) (Γ : Cx) (σ : St) (x : MV) (t : Value → Sem Unit) (Q : St → Prop) : Prop :=
  ∀ (K : Kp) (ps : List (MV × Value)) (v : Value) (s : Shared) (R : Unit → Shared → Prop), Rel prog w Γ K σ ((x, v) :: ps) s →
    (∀ σ' s', Q σ' → Rel prog w Γ K σ' ps s' → R () s') → wpAny (model prog w) Γ.A (t v) R (fun _ _ => False) s
theorem Core.drop {p : MV × Value} (C : Core prog w Γ K σ (p :: ps) s F m cm fps) : Core prog w Γ K σ ps s F m cm fps := C.setps fun q hq => C.ps q (.tail _ hq)
theorem Rel.drop {p : MV × Value} : Rel prog w Γ K σ (p :: ps) s → Rel prog w Γ K σ ps s := fun ⟨F, m, cm, fps, C⟩ => ⟨F, m, cm, fps, C.drop⟩
theorem Rel.toks (h : Rel prog w Γ K σ ps s) (t : Nat) (ht : s.toks ≤ t := by tm_at "tk") : Rel prog w Γ K σ ps { s with toks := t } := let ⟨F, m, cm, fps, C⟩ := h; ⟨F, m, cm, fps, C.toks t ht⟩
inductive Flat1 : MV → Value → Prop
  | none : Flat1 .none .none
  | bool (b : Bool) : Flat1 (.bool b) (.bool b)
  | int (i : Int) (t : Tok) : Flat1 (.int i) (.int i t)
  | str (s : Str) (t : Tok) : Flat1 (.str s) (.str s t)
  | obj (v : Value) : Flat1 (.obj v) v
theorem Flat1.vr {x : MV} {v : Value} (h : Flat1 x v) {ρ : Nat → Option Addr} : VR w F ρ x v := by cases h <;> constructor
theorem Rel.flat (h : Rel prog w Γ K σ ps s) {x : MV} {v : Value} (hf : Flat1 x v) : Rel prog w Γ K σ ((x, v) :: ps) s := let ⟨F, m, cm, fps, C⟩ := h; ⟨F, m, cm, fps, C.cons hf.vr⟩
theorem Rel.int {i : Int} {v : Value} (h : Rel prog w Γ K σ ((.int i, v) :: ps) s) : ∃ t, v = .int i t := by
  obtain ⟨F, m, cm, fps, C⟩ := h
  have := C.ps _ (.head _); cases this; exact ⟨_, rfl⟩
theorem Rel.str {x : Str} {v : Value} (h : Rel prog w Γ K σ ((.str x, v) :: ps) s) : ∃ t, v = .str x t := by
  obtain ⟨F, m, cm, fps, C⟩ := h
  have := C.ps _ (.head _); cases this; exact ⟨_, rfl⟩
theorem Rel.bool {b : Bool} {v : Value} (h : Rel prog w Γ K σ ((.bool b, v) :: ps) s) : v = .bool b := by
  obtain ⟨F, m, cm, fps, C⟩ := h
  have := C.ps _ (.head _); cases this; rfl
theorem Rel.nil {v : Value} (h : Rel prog w Γ K σ ((.none, v) :: ps) s) : v = .none := by
  obtain ⟨F, m, cm, fps, C⟩ := h
  have := C.ps _ (.head _); cases this; rfl
theorem Rel.obj {u v : Value} (h : Rel prog w Γ K σ ((.obj u, v) :: ps) s) : v = u := by
  obtain ⟨F, m, cm, fps, C⟩ := h
  have h2 : VR w F (rho fps) (.obj u) v := C.ps (.obj u, v) (.head _)
  cases h2; rfl
theorem wp_int {i : Int} {k : Nat} {p : Pos} (h : Q (.int i) σ) : WPe prog w Γ σ (.Constant (.int i) k p) Q := by
  intro K ps s R r hR
  exact wpAny_Constant_int (hR _ _ _ _ h ((r.toks _).flat (.int i _)))
theorem wp_str {x : Str} {k : Nat} {p : Pos} (h : Q (.str x) σ) : WPe prog w Γ σ (.Constant (.str x) k p) Q := by
  intro K ps s R r hR
  exact wpAny_Constant_str (hR _ _ _ _ h ((r.toks _).flat (.str x _)))
theorem wp_none {k : Nat} {p : Pos} (h : Q .none σ) : WPe prog w Γ σ (.Constant .none k p) Q := by
  intro K ps s R r hR
  exact wpAny_Constant_none (hR _ _ _ _ h (r.flat .none))
theorem wp_bool {b : Bool} {k : Nat} {p : Pos} (h : Q (.bool b) σ) : WPe prog w Γ σ (.Constant (.bool b) k p) Q := by
  intro K ps s R r hR
  exact wpAny_Constant_bool (hR _ _ _ _ h (r.flat (.bool b)))
theorem WPe.mono {e : Expr} {Q' : MV → St → Prop} (h : WPe prog w Γ σ e Q) (hQ : ∀ x σ, Q x σ → Q' x σ) : WPe prog w Γ σ e Q' :=
  fun K ps s R r hR => h K ps s R r fun mv v σ' s' q => hR mv v σ' s' (hQ _ _ q)
theorem wp_binop {l r : Expr} {op : Operator} {p : Pos} (h : WPe prog w Γ σ l fun x σ₁ => WPe prog w Γ σ₁ r fun y σ₂ => WP2 prog w Γ σ₂ x y (binaryOp op) Q) : WPe prog w Γ σ (.BinOp l op r p) Q := by
  intro K ps s R r' hR
  exact wpAny_BinOp (h K ps s _ r' fun x v σ₁ s₁ h₁ r₁ => h₁ K _ s₁ _ r₁ fun y u σ₂ s₂ h₂ r₂ => h₂ K ps v u s₂ R r₂ hR)
theorem wp_compare {l r : Expr} {op : CmpOp} {p : Pos} (h : WPe prog w Γ σ l fun x σ₁ => WPe prog w Γ σ₁ r fun y σ₂ => WP2 prog w Γ σ₂ x y (compareOp op) Q)
    (hm : behindInMarks op r = false := by with_unfolding_all rfl) : WPe prog w Γ σ (.Compare l [op] [r] p) Q := by
  intro K ps s R r' hR
  exact wpAny_Compare1 (h K ps s _ r' fun x v σ₁ s₁ h₁ r₁ => h₁ K _ s₁ _ r₁ fun y u σ₂ s₂ h₂ r₂ => h₂ K ps v u s₂ R r₂ hR) hm
theorem wp_unary {op : UnaryOp} {x : Expr} {p : Pos} (h : WPe prog w Γ σ x fun y σ₁ => WP1 prog w Γ σ₁ y (unaryOp op) Q) : WPe prog w Γ σ (.UnaryOp op x p) Q := by
  intro K ps s R r' hR
  exact wpAny_UnaryOp (h K ps s _ r' fun x v σ₁ s₁ h₁ r₁ => h₁ K ps v s₁ R r₁ hR)
theorem wp_ifexp {t b o : Expr} {p : Pos} (h : WPt prog w Γ σ t fun c σ₁ => (c = true → WPe prog w Γ σ₁ b Q) ∧ (c = false → WPe prog w Γ σ₁ o Q)) : WPe prog w Γ σ (.IfExp t b o p) Q := by
  intro K ps s R r' hR
  refine wpAny_IfExp (h K ps s _ r' fun c σ₁ s₁ h₁ r₁ => ?_)
  cases c
  · exact h₁.2 rfl K ps s₁ R r₁ hR
  · exact h₁.1 rfl K ps s₁ R r₁ hR
theorem wt_compare {l r : Expr} {op : CmpOp} {p : Pos} (h : WPe prog w Γ σ l fun x σ₁ => WPe prog w Γ σ₁ r fun y σ₂ => WP2 prog w Γ σ₂ x y (compareOp op) fun z σ₃ => WB1 prog w Γ σ₃ z truthy QB)
    (hm : behindInMarks op r = false := by with_unfolding_all rfl) : WPt prog w Γ σ (.Compare l [op] [r] p) QB := by
  intro K ps s R r' hR
  exact wpAny_isTrue_Compare1 (h K ps s _ r' fun x v σ₁ s₁ h₁ r₁ => h₁ K _ s₁ _ r₁ fun y u σ₂ s₂ h₂ r₂ => h₂ K ps v u s₂ _ r₂ fun z v σ₃ s₃ h₃ r₃ => h₃ K ps v s₃ R r₃ hR) hm
theorem wt_value {e : Expr} (h : WPe prog w Γ σ e fun x σ₁ => WB1 prog w Γ σ₁ x truthy QB) (he : ∀ env whole, isTrue e env whole = (do let v ← whole; standAt e.pos; holding [v] (truthy v)) := by intros; rfl) : WPt prog w Γ σ e QB := by
  intro K ps s R r' hR
  exact wpAny_isTrue_value (h K ps s _ r' fun x v σ₁ s₁ h₁ r₁ => h₁ K ps v s₁ R r₁ hR) (he _ _)
noncomputable def WPall (prog : Program) (w : World) (Γ : Cx) (σ : St) (op : BoolOp) (es : List Expr) (Q : Bool → St → Prop) : Prop :=
  ∀ (K : Kp) (ps : List (MV × Value)) (s : Shared) (R : Bool → Shared → Prop), Rel prog w Γ K σ ps s →
    (∀ b σ' s', Q b σ' → Rel prog w Γ K σ' ps s' → R b s') → wpAny (model prog w) Γ.A (allTrue op es Γ.env) R (fun _ _ => False) s
theorem wt_bool {op : BoolOp} {es : List Expr} {p : Pos} (h : WPall prog w Γ σ op es QB) : WPt prog w Γ σ (.BoolOp op es p) QB := by
  intro K ps s R r' hR
  exact wpAny_isTrue_BoolOp (h K ps s _ r' hR)
theorem wall_and_nil (h : QB true σ) : WPall prog w Γ σ .And [] QB := fun _ _ s _ r hR => wpAny_allTrue_And_nil (hR _ _ s h r)
theorem wall_or_nil (h : QB false σ) : WPall prog w Γ σ .Or [] QB := fun _ _ s _ r hR => wpAny_allTrue_Or_nil (hR _ _ s h r)
theorem wall_and_cons {e : Expr} {es : List Expr} (h : WPt prog w Γ σ e fun b σ₁ => (b = true → WPall prog w Γ σ₁ .And es QB) ∧ (b = false → QB false σ₁)) : WPall prog w Γ σ .And (e :: es) QB := by
  intro K ps s R r' hR
  refine wpAny_allTrue_And_cons (h K ps s _ r' fun b σ₁ s₁ h₁ r₁ => ?_)
  cases b
  · exact hR _ _ _ (h₁.2 rfl) r₁
  · exact h₁.1 rfl K ps s₁ R r₁ hR
theorem wall_or_cons {e : Expr} {es : List Expr} (h : WPt prog w Γ σ e fun b σ₁ => (b = true → QB true σ₁) ∧ (b = false → WPall prog w Γ σ₁ .Or es QB)) : WPall prog w Γ σ .Or (e :: es) QB := by
  intro K ps s R r' hR
  refine wpAny_allTrue_Or_cons (h K ps s _ r' fun b σ₁ s₁ h₁ r₁ => ?_)
  cases b
  · exact h₁.2 rfl K ps s₁ R r₁ hR
  · exact hR _ _ _ (h₁.1 rfl) r₁
theorem wb_bool {b : Bool} (h : QB b σ) : WB1 prog w Γ σ (.bool b) truthy QB := by
  intro K ps v s R r hR
  obtain rfl := r.bool
  exact wpAny_truthy_bool (hR _ _ _ h r.drop)
section
variable {a b : Int}
theorem w2_add (h : Q (.int (a + b)) σ) : WP2 prog w Γ σ (.int a) (.int b) (binaryOp .Add) Q := by
  intro K ps v u s R r hR
  obtain ⟨t, rfl⟩ := r.int; obtain ⟨t', rfl⟩ := r.drop.int
  exact wpAny_add_int (hR _ _ _ _ h ((r.drop.drop.toks _).flat (.int _ _)))
theorem w2_sub (h : Q (.int (a - b)) σ) : WP2 prog w Γ σ (.int a) (.int b) (binaryOp .Sub) Q := by
  intro K ps v u s R r hR
  obtain ⟨t, rfl⟩ := r.int; obtain ⟨t', rfl⟩ := r.drop.int
  exact sub_int (hR _ _ _ _ h ((r.drop.drop.toks _).flat (.int _ _)))
theorem w2_mod (hb : b ≠ 0) (h : Q (.int (a.fmod b)) σ) : WP2 prog w Γ σ (.int a) (.int b) (binaryOp .Mod) Q := by
  intro K ps v u s R r hR
  obtain ⟨t, rfl⟩ := r.int; obtain ⟨t', rfl⟩ := r.drop.int
  exact mod_int hb (hR _ _ _ _ h ((r.drop.drop.toks _).flat (.int _ _)))
theorem w2_lt (h : Q (.bool (decide (a < b))) σ) : WP2 prog w Γ σ (.int a) (.int b) (compareOp .Lt) Q := by
  intro K ps v u s R r hR
  obtain ⟨t, rfl⟩ := r.int; obtain ⟨t', rfl⟩ := r.drop.int
  exact lt_int (hR _ _ _ _ h (r.drop.drop.flat (.bool _)))
theorem w2_gt (h : Q (.bool (decide (b < a))) σ) : WP2 prog w Γ σ (.int a) (.int b) (compareOp .Gt) Q := by
  intro K ps v u s R r hR
  obtain ⟨t, rfl⟩ := r.int; obtain ⟨t', rfl⟩ := r.drop.int
  exact gt_int (hR _ _ _ _ h (r.drop.drop.flat (.bool _)))
theorem w2_ge (h : Q (.bool (decide (b ≤ a))) σ) : WP2 prog w Γ σ (.int a) (.int b) (compareOp .GtE) Q := by
  intro K ps v u s R r hR
  obtain ⟨t, rfl⟩ := r.int; obtain ⟨t', rfl⟩ := r.drop.int
  exact ge_int (hR _ _ _ _ h (r.drop.drop.flat (.bool _)))
theorem w2_eq (h : Q (.bool (a == b)) σ) : WP2 prog w Γ σ (.int a) (.int b) (compareOp .Eq) Q := by
  intro K ps v u s R r hR
  obtain ⟨t, rfl⟩ := r.int; obtain ⟨t', rfl⟩ := r.drop.int
  exact wpAny_eq_int (hR _ _ _ _ h (r.drop.drop.flat (.bool _)))
theorem w1_neg (h : Q (.int (-a)) σ) : WP1 prog w Γ σ (.int a) (unaryOp .USub) Q := by
  intro K ps v s R r hR
  obtain ⟨t, rfl⟩ := r.int
  exact neg_int (hR _ _ _ _ h ((r.drop.toks _).flat (.int _ _)))
end
section
variable {x y : Str}
theorem w2_eqs (h : Q (.bool (x == y)) σ) : WP2 prog w Γ σ (.str x) (.str y) (compareOp .Eq) Q := by
  intro K ps v u s R r hR
  obtain ⟨t, rfl⟩ := r.str; obtain ⟨t', rfl⟩ := r.drop.str
  exact PyProof.Rows.eq_str (hR _ _ _ _ h (r.drop.drop.flat (.bool _)))
theorem w2_nes (h : Q (.bool (x != y)) σ) : WP2 prog w Γ σ (.str x) (.str y) (compareOp .NotEq) Q := by
  intro K ps v u s R r hR
  obtain ⟨t, rfl⟩ := r.str; obtain ⟨t', rfl⟩ := r.drop.str
  exact PyProof.Rows.ne_str (hR _ _ _ _ h (r.drop.drop.flat (.bool _)))
theorem w2_cat (hz : x.length + y.length ≤ sizeLine) (h : Q (.str (x ++ y)) σ) : WP2 prog w Γ σ (.str x) (.str y) (binaryOp .Add) Q := by
  intro K ps v u s R r hR
  obtain ⟨t, rfl⟩ := r.str; obtain ⟨t', rfl⟩ := r.drop.str
  exact wpAny_with_toks (Nat.le_refl _) (PyProof.Rows.add_str (fun _ _ ht => hR _ _ _ _ h ((r.drop.drop.toks _ ht).flat (.str _ _))) hz)
end
variable {prog : Program} {w : World} {Γ : Cx} {K : Kp} {σ σ' : St} {ps : List (MV × Value)} {s : Shared} {F : Frz} {m cm : Str → Option Value} {fps : List (List Addr)}
variable {Q : MV → St → Prop} {QB : Bool → St → Prop} {QF : MF → St → Prop} {QU : St → Prop} {QL : List MV → St → Prop}
theorem Rel.perm {ps' : List (MV × Value)} (h : Rel prog w Γ K σ ps s) (hp : ∀ p ∈ ps', p ∈ ps) : Rel prog w Γ K σ ps' s := let ⟨F, m, cm, fps, C⟩ := h; ⟨F, m, cm, fps, C.setps fun p q => C.ps p (hp p q)⟩
noncomputable def WPl (prog : Program) (w : World) (Γ : Cx) (σ : St) (es : List Expr) (Q : List MV → St → Prop) : Prop :=
  ∀ (pos : Pos) (K : Kp) (ps : List (MV × Value)) (s : Shared) (R : List Value → Shared → Prop), Rel prog w Γ K σ ps s →
    (∀ xs vs σ' s', Q xs σ' → vs.length = xs.length → Rel prog w Γ K σ' (xs.zip vs ++ ps) s' → R vs s') →
    wpAny (model prog w) Γ.A (spliced (backTo pos (starEach es Γ.env))) R (fun _ _ => False) s
theorem wl_nil (h : QL [] σ) : WPl prog w Γ σ [] QL := fun _ _ _ s _ r hR => wpAny_items_nil (hR [] [] σ s h rfl r)
theorem wl_cons {e : Expr} {es : List Expr} (h : WPe prog w Γ σ e fun x σ₁ => WPl prog w Γ σ₁ es fun xs σ₂ => QL (x :: xs) σ₂)
    (he : ∀ env, starEach (e :: es) env = (false, eval e env) :: starEach es env := by intro _; rfl) : WPl prog w Γ σ (e :: es) QL := by
  intro pos K ps s R r hR
  refine wpAny_items_cons (h K ps s _ r fun x v σ₁ s₁ h₁ r₁ => h₁ pos K _ s₁ _ r₁ fun xs vs σ₂ s₂ h₂ hl r₂ => ?_) (he _)
  refine hR (x :: xs) (v :: vs) σ₂ s₂ h₂ (by simp [hl]) (r₂.perm fun p hp => ?_)
  simp only [List.zip_cons_cons, List.cons_append, List.mem_cons, List.mem_append] at hp ⊢
  rcases hp with h | h | h
  · exact .inr (.inl h)
  · exact .inl h
  · exact .inr (.inr h)
theorem Rel.mk_list {xs : List MV} {vs : List Value} (hl : vs.length = xs.length) (h : Rel prog w Γ K σ (xs.zip vs ++ ps) s) :
    Rel prog w Γ K σ ((.list xs, .ref s.heap.objs.size) :: ps) { s with heap := s.heap.push (listO vs 0) } := by
  obtain ⟨F, m, cm, fps, C⟩ := h
  have hz := C.zip hl rfl
  refine ⟨_, m, cm, fps, ((C.alloc (listO vs 0)).setps (ps' := ps) fun p hp => ?_).cons ?_⟩
  · exact (C.ps p (List.mem_append_right _ hp)).mono (Frz.put_sub C.noneF) fun _ _ e => e
  · have hz' := VRs.mono (Frz.put_sub (o := listO vs 0) C.noneF) (fun _ _ e => e) hz
    exact .list _ xs vs 0 Frz.put_self hz'.1 hz'.2
theorem Rel.mk_tup {xs : List MV} {vs : List Value} (hl : vs.length = xs.length) (h : Rel prog w Γ K σ (xs.zip vs ++ ps) s) :
    Rel prog w Γ K σ ((.tup xs, .ref s.heap.objs.size) :: ps) { s with heap := s.heap.push (tupO vs 0) } := by
  obtain ⟨F, m, cm, fps, C⟩ := h
  have hz := C.zip hl rfl
  refine ⟨_, m, cm, fps, ((C.alloc (tupO vs 0)).setps (ps' := ps) fun p hp => ?_).cons ?_⟩
  · exact (C.ps p (List.mem_append_right _ hp)).mono (Frz.put_sub C.noneF) fun _ _ e => e
  · have hz' := VRs.mono (Frz.put_sub (o := tupO vs 0) C.noneF) (fun _ _ e => e) hz
    exact .tup _ xs vs 0 Frz.put_self hz'.1 hz'.2
theorem wp_tuple {es : List Expr} {k : Nat} {p : Pos} (h : WPl prog w Γ σ es fun xs σ₁ => xs.length ≤ sizeLine ∧ Q (.tup xs) σ₁) : WPe prog w Γ σ (.Tuple es k p) Q := by
  intro K ps s R r hR
  refine wpAny_Tuple (h p K ps s _ r fun xs vs σ₁ s₁ h₁ hl r₁ => ⟨by rw [hl]; exact h₁.1, hR _ _ _ _ h₁.2 (r₁.mk_tup hl)⟩)
theorem wp_list {es : List Expr} {p : Pos} (h : WPl prog w Γ σ es fun xs σ₁ => xs.length ≤ sizeLine ∧ Q (.list xs) σ₁) : WPe prog w Γ σ (.List es p) Q := by
  intro K ps s R r hR
  refine wpAny_List (h p K ps s _ r fun xs vs σ₁ s₁ h₁ hl r₁ => ⟨by rw [hl]; exact h₁.1, hR _ _ _ _ h₁.2 (r₁.mk_list hl)⟩)
theorem WP1.to_store {x : Str} {mv : MV} {l' : List (Str × MV)} (hp : Put x mv σ.loc l') (h : QU { σ with loc := l' }) : WU1 prog w Γ σ mv (storeName Γ.env x) QU := by
  rintro K ps v s R ⟨F, m, cm, fps, C⟩ hR
  obtain ⟨l₁, l₂, old, e1, e2⟩ := hp.split
  subst e2
  have hv := C.ps (mv, v) (.head _)
  have C := C.drop
  obtain ⟨hd, hk⟩ := C.ok.kinds x (C.keys ▸ by rw [e1]; simp)
  rcases hk with hk | ⟨hk, c, hc⟩
  · exact wpAny_storeName_local hk C.ns (fun h' hn hs => hR _ _ h ⟨F, _, cm, fps, C.storeL e1 hk hv hn hs _⟩) (by rw [C.ok.kind]; rfl)
  · exact wpAny_storeName_cell C.ok.kind hk (C.ok.ocs _ _ hc) (C.cell x c hc) (fun h' hn hs => hR _ _ h ⟨F, m, _, fps, C.storeC e1 hk hc hv hn hs _⟩)
theorem wa_name {x : Str} {p : Pos} {mv : MV} {l' : List (Str × MV)} (hp : Put x mv σ.loc l') (h : QU { σ with loc := l' }) : WU1 prog w Γ σ mv (assign (.Name x p) Γ.env) QU := by
  intro K ps v s R r hR
  exact assign_Name (WP1.to_store hp h K ps v s R r hR)
noncomputable def WAL (Q : St → Prop) : List Expr → List MV → St → Prop
  | [], [], σ => Q σ
  | .Name x _ :: es, mv :: xs, σ => PutQ x mv σ.loc fun l' => WAL Q es xs { σ with loc := l' }
  | _, _, _ => False
theorem WAL.len : ∀ {es : List Expr} {xs : List MV} {σ : St}, WAL QU es xs σ → (assignEach es Γ.env).length = xs.length ∧ (assignEach es Γ.env).findIdx? (·.1) = none
  | [], [], _, _ => ⟨rfl, rfl⟩
  | [], _ :: _, _, h => False.elim h
  | _ :: _, [], _, h => by rename_i e _ _; cases e <;> exact False.elim h
  | e :: es, x :: xs, σ, h => by
    cases e <;> (try exact False.elim h)
    obtain ⟨l', _, h⟩ := h
    obtain ⟨h1, h2⟩ := WAL.len h
    refine ⟨congrArg (· + 1) h1, ?_⟩
    show (_ :: assignEach es Γ.env).findIdx? (·.1) = none
    rw [List.findIdx?_cons, h2]; rfl
theorem WAL.run : ∀ {es : List Expr} {xs : List MV} {σ : St}, WAL QU es xs σ → ∀ (K : Kp) (ps : List (MV × Value)) (vs : List Value) (s : Shared) (R : Unit → Shared → Prop), vs.length = xs.length → Rel prog w Γ K σ (xs.zip vs ++ ps) s →
    (∀ σ' s', QU σ' → Rel prog w Γ K σ' ps s' → R () s') → wpAny (model prog w) Γ.A (assignInOrder ((assignEach es Γ.env).map (·.2)) vs) R (fun _ _ => False) s
  | [], [], σ, h, K, ps, vs, s, R, hl, r, hR => by
    have : vs = [] := List.length_eq_zero_iff.mp hl
    subst this
    exact wpAny_pure (hR σ s h r)
  | [], _ :: _, _, h, _, _, _, _, _, _, _, _ => False.elim h
  | _ :: _, [], _, h, _, _, _, _, _, _, _, _ => by rename_i e _ _ _ _ _ _ _ _ _ _; cases e <;> exact False.elim h
  | e :: es, x :: xs, σ, h, K, ps, vs, s, R, hl, r, hR => by
      cases e <;> (try exact False.elim h)
      obtain ⟨l', hp, h⟩ := h
      cases vs with
      | nil => cases hl
      | cons v vs =>
        refine wpAny_bind (wpAny_holding (wa_name (QU := fun σ => WAL QU es xs σ) hp h K (xs.zip vs ++ ps) v s _ r fun σ₁ s₁ h₁ r₁ => ?_))
        exact WAL.run h₁ K ps vs s₁ R (by simpa using hl) r₁ hR
theorem Rel.tupAt {xs : List MV} {v : Value} (h : Rel prog w Γ K σ ((.tup xs, v) :: ps) s) : ∃ a vs n, v = .ref a ∧ s.heap.get? a = some (tupO vs n) ∧ vs.length = xs.length ∧ Rel prog w Γ K σ (xs.zip vs ++ ps) s := by
  obtain ⟨F, m, cm, fps, C⟩ := h
  have h2 : VR w F (rho fps) (.tup xs) v := C.ps (.tup xs, v) (.head _)
  cases h2 with
  | tup a _ vs n hF hl hh =>
    refine ⟨a, vs, n, rfl, C.frz _ _ hF, hl, F, m, cm, fps, C.setps fun p hp => ?_⟩
    rcases List.mem_append.mp hp with hp | hp
    · obtain ⟨i, hi⟩ := List.mem_iff_getElem?.mp hp
      rw [List.getElem?_zip_eq_some] at hi
      exact hh i _ _ hi.1 hi.2
    · exact C.ps p (.tail _ hp)
theorem Rel.listAt {xs : List MV} {v : Value} (h : Rel prog w Γ K σ ((.list xs, v) :: ps) s) : ∃ a vs n, v = .ref a ∧ s.heap.get? a = some (listO vs n) ∧ vs.length = xs.length ∧ Rel prog w Γ K σ (xs.zip vs ++ ps) s := by
  obtain ⟨F, m, cm, fps, C⟩ := h
  have h2 : VR w F (rho fps) (.list xs) v := C.ps (.list xs, v) (.head _)
  cases h2 with
  | list a _ vs n hF hl hh =>
    refine ⟨a, vs, n, rfl, C.frz _ _ hF, hl, F, m, cm, fps, C.setps fun p hp => ?_⟩
    rcases List.mem_append.mp hp with hp | hp
    · obtain ⟨i, hi⟩ := List.mem_iff_getElem?.mp hp
      rw [List.getElem?_zip_eq_some] at hi
      exact hh i _ _ hi.1 hi.2
    · exact C.ps p (.tail _ hp)
theorem Rel.grow {h' : Heap} (h : Rel prog w Γ K σ ps s) (hk : ∀ b o, s.heap.get? b = some o → h'.get? b = some o) (t : Nat) (ht : s.toks ≤ t := by tm_at "tk") : Rel prog w Γ K σ ps { s with heap := h', toks := t } :=
  let ⟨F, m, cm, fps, C⟩ := h
  ⟨F, m, cm, fps, C.grow hk (Sub.refl F) (fun b o e => hk _ _ (C.frz b o e)) (fun _ _ e => .inl e) t ht⟩
theorem Rel.handled (h : Rel prog w Γ K σ ps s) : Γ.A.handled = none := let ⟨_, _, _, _, C⟩ := h; C.ok.handled
theorem Rel.ok (h : Rel prog w Γ K σ ps s) : Γ.Ok prog w := let ⟨_, _, _, _, C⟩ := h; C.ok
theorem wa_tuple {es : List Expr} {k : Nat} {p : Pos} {xs : List MV} (h : WAL QU es xs σ) : WU1 prog w Γ σ (.tup xs) (assign (.Tuple es k p) Γ.env) QU := by
  intro K ps v s R r hR
  obtain ⟨a, vs, n, rfl, hg, hl, r'⟩ := r.tupAt
  obtain ⟨h1, h2⟩ := WAL.len (Γ := Γ) h
  refine wpAny_assign_Tuple (t := a) (items := vs.toArray) r.handled ⟨_, hg, rfl, n, rfl⟩ (by rw [h1, List.size_toArray, hl]) h2 fun h' he => ?_
  refine WAL.run h K ps _ _ R (by simpa using hl) ((r'.grow (fun b o e => ?_) _)) hR
  exact he b o (Nat.ne_of_lt (Heap.lt_size e)) e
theorem ws_nil (h : QF .next σ) : WPs prog w Γ σ [] QF := fun _ _ s _ r hR => wpAny_execs_nil (hR .next .next σ s h ⟨rfl, r⟩)
noncomputable def thenS (prog : Program) (w : World) (Γ : Cx) (bs : List Stmt) (QF : MF → St → Prop) : MF → St → Prop
  | .next, σ => WPs prog w Γ σ bs QF
  | f, σ => QF f σ
theorem then_next {bs : List Stmt} (h : WPs prog w Γ σ bs QF) : thenS prog w Γ bs QF .next σ := h
theorem then_ret {bs : List Stmt} {v : MV} (h : QF (.ret v) σ) : thenS prog w Γ bs QF (.ret v) σ := h
theorem ws_cons {b : Stmt} {bs : List Stmt} (h : WPx prog w Γ σ b (thenS prog w Γ bs QF)) : WPs prog w Γ σ (b :: bs) QF := by
  intro K ps s R r hR
  refine wpAny_execs_cons (h K ps s _ r fun mf f σ₁ s₁ h₁ r₁ => ?_)
  cases mf with
  | next => obtain ⟨rfl, r₁⟩ := r₁; exact h₁ K ps s₁ R r₁ hR
  | brk => have := r₁; obtain ⟨rfl, _⟩ := r₁; exact hR _ _ _ _ h₁ this
  | cont => have := r₁; obtain ⟨rfl, _⟩ := r₁; exact hR _ _ _ _ h₁ this
  | ret v => have := r₁; obtain ⟨v, rfl, _⟩ := r₁; exact hR _ _ _ _ h₁ this
theorem WPs.mono {b : List Stmt} {QF' : MF → St → Prop} (h : WPs prog w Γ σ b QF) (hQ : ∀ f σ, QF f σ → QF' f σ) : WPs prog w Γ σ b QF' :=
  fun K ps s R r hR => h K ps s R r fun mf f σ' s' q => hR mf f σ' s' (hQ _ _ q)
theorem wx_assign {x : Str} {p p' : Pos} {e : Expr} (h : WPe prog w Γ σ e fun mv σ₁ => PutQ x mv σ₁.loc fun l' => QF .next { σ₁ with loc := l' })
    (hs : ∀ env, swapsWith e (some (.Name x p')) p.line env = pure false := by intro _; rfl) : WPx prog w Γ σ (.Assign [.Name x p'] e p) QF := by
  intro K ps s R r hR
  refine wpAny_Assign_Name (h K ps s _ r fun mv v σ₁ s₁ h₁ r₁ => ?_) (hs _)
  obtain ⟨l', hp, h₁⟩ := h₁
  exact WP1.to_store (QU := fun σ => QF .next σ) hp h₁ K ps v s₁ _ r₁ fun σ₂ s₂ h₂ r₂ => hR .next .next σ₂ s₂ h₂ ⟨rfl, r₂⟩
theorem wx_assign_tup {es : List Expr} {k : Nat} {p p' : Pos} {e : Expr} (h : WPe prog w Γ σ e fun mv σ₁ => ∃ xs, mv = .tup xs ∧ WAL (QF .next) es xs σ₁)
    (hs : ∀ env, swapsWithSole [.Tuple es k p'] e p.line env = pure false := by intro _; rfl) (hw : swappedStores [.Tuple es k p'] e Γ.env = pure none) : WPx prog w Γ σ (.Assign [.Tuple es k p'] e p) QF := by
  intro K ps s R r hR
  refine Assign_Tuple (h K ps s _ r fun mv v σ₁ s₁ h₁ r₁ => ?_) (hs _) hw
  obtain ⟨xs, rfl, h₁⟩ := h₁
  exact wa_tuple h₁ K ps v s₁ _ r₁ fun σ₂ s₂ h₂ r₂ => hR .next .next σ₂ s₂ h₂ ⟨rfl, r₂⟩
theorem wx_if {t : Expr} {b o : List Stmt} {p : Pos} (h : WPt prog w Γ σ t fun c σ₁ => (c = true → WPs prog w Γ σ₁ b QF) ∧ (c = false → WPs prog w Γ σ₁ o QF)) : WPx prog w Γ σ (.If t b o p) QF := by
  intro K ps s R r hR
  refine wpAny_If (h K ps s _ r fun c σ₁ s₁ h₁ r₁ => ?_)
  cases c
  · exact h₁.2 rfl K ps s₁ R r₁ hR
  · exact h₁.1 rfl K ps s₁ R r₁ hR
theorem wx_return {e : Expr} {p : Pos} (h : WPe prog w Γ σ e fun mv σ₁ => QF (.ret mv) σ₁) : WPx prog w Γ σ (.Return (some e) p) QF := by
  intro K ps s R r hR
  exact wpAny_Return_some (h K ps s _ r fun mv v σ₁ s₁ h₁ r₁ => hR _ _ _ _ h₁ ⟨v, rfl, r₁⟩)
theorem wx_continue {p : Pos} (h : QF .cont σ) : WPx prog w Γ σ (.Continue p) QF := by
  intro K ps s R r hR
  exact wpAny_Continue (hR .cont .cont σ s h ⟨rfl, r⟩)
theorem wx_aug {x : Str} {p p' : Pos} {op : Operator} {e : Expr} {mv : MV} (hlk : Lk x mv σ.loc) (hu : mv.ok = true)
    (h : WPe prog w Γ σ e fun y σ₁ => WP2 prog w Γ σ₁ mv y (inplaceOp op) fun z σ₂ => PutQ x z σ₂.loc fun l' => QF .next { σ₂ with loc := l' }) : WPx prog w Γ σ (.AugAssign (.Name x p') op e p) QF := by
  intro K ps s R r hR
  refine wpAny_AugAssign_Name ?_
  have hx := hlk.mem
  obtain ⟨F, m, cm, fps, C⟩ := r
  obtain ⟨v, h1, h2, h3⟩ := (C.loc x mv hx).resolve_left (MV.ne hu)
  obtain ⟨hd, hk⟩ := C.ok.kinds x (C.keys ▸ List.mem_map.mpr ⟨_, hx, rfl⟩)
  have r' : Rel prog w Γ K σ ((mv, v) :: ps) s := ⟨F, m, cm, fps, C.cons h3⟩
  have go : wpAny (model prog w) Γ.A (eval e Γ.env) (fun u s₂ => wpAny (model prog w) Γ.A (inplaceOp op v u) (fun r s₃ => wpAny (model prog w) Γ.A (storeName Γ.env x r) (fun _ => R .next) (fun _ _ => False) s₃) (fun _ _ => False) s₂) (fun _ _ => False) s := by
    refine h K _ s _ r' fun y u σ₁ s₁ h₁ r₁ => h₁ K ps v u s₁ _ r₁ fun z v' σ₂ s₂ h₂ r₂ => ?_
    obtain ⟨l', hp, h₂⟩ := h₂
    exact WP1.to_store (QU := fun σ => QF .next σ) hp h₂ K ps v' s₂ _ r₂ fun σ₂ s₂ h₂ r₂ => hR .next .next σ₂ s₂ h₂ ⟨rfl, r₂⟩
  rcases hk with hk | ⟨hk, c, hc⟩
  · exact wpAny_loadName_local C.ok.kind hk C.ns (h1 hk) go
  · exact wpAny_loadName_cell C.ok.kind hk (C.ok.ocs _ _ hc) (h2 hk ▸ C.cell x c hc) go
noncomputable def turn (again : St → Prop) (QF : MF → St → Prop) : MF → St → Prop
  | .next, σ => again σ
  | .cont, σ => again σ
  | .brk, σ => QF .next σ
  | .ret v, σ => QF (.ret v) σ
theorem turn_next {P : St → Prop} (h : P σ) : turn P QF .next σ := h
noncomputable def WPw (prog : Program) (w : World) (Γ : Cx) (t : Expr) (b : List Stmt) (QF : MF → St → Prop) : Nat → St → Prop
  | 0, _ => False
  | n + 1, σ => WPt prog w Γ σ t fun c σ₁ => (c = true → WPs prog w Γ σ₁ b (turn (WPw prog w Γ t b QF n) QF)) ∧ (c = false → QF .next σ₁)
theorem wx_while {t : Expr} {b : List Stmt} {p : Pos} (n : Nat) (h : WPw prog w Γ t b QF n σ) : WPx prog w Γ σ (.While t b [] p) QF := by
  intro K ps s R r hR
  refine wpAny_While ?_
  refine codeAny_whileLoop (fun k s' => ∃ σ', WPw prog w Γ t b QF k σ' ∧ Rel prog w Γ K σ' ps s') (fun k s' hI => ?_) n ⟨σ, h, r⟩
  obtain ⟨σ', h', r'⟩ := hI
  cases k with
  | zero => exact False.elim h'
  | succ k =>
    refine wpAny_mono (h' K ps s' (fun c s₁ => if c = true then wpAny (model prog w) Γ.A (execs b Γ.env) (fun f s₃ => match f with
            | .next | .cont => ∃ m, m < k + 1 ∧ ∃ σ', WPw prog w Γ t b QF m σ' ∧ Rel prog w Γ K σ' ps s₃
            | .brk => R .next s₃
            | .ret v => R (.ret v) s₃) (fun _ _ => False) s₁ else R .next s₁) r' fun c σ₁ s₁ h₁ r₁ => ?_) (fun c s₁ h₁ => ?_) (fun _ _ x => x.elim)
    · cases c
      · exact hR .next .next σ₁ s₁ (h₁.2 rfl) ⟨rfl, r₁⟩
      · refine h₁.1 rfl K ps s₁ _ r₁ fun mf f σ₂ s₂ h₂ r₂ => ?_
        cases mf with
        | next => obtain ⟨rfl, r₂⟩ := r₂; exact ⟨k, Nat.lt_succ_self k, σ₂, h₂, r₂⟩
        | cont => obtain ⟨rfl, r₂⟩ := r₂; exact ⟨k, Nat.lt_succ_self k, σ₂, h₂, r₂⟩
        | brk => obtain ⟨rfl, r₂⟩ := r₂; exact hR .next .next σ₂ s₂ h₂ ⟨rfl, r₂⟩
        | ret v => obtain ⟨v, rfl, r₂⟩ := r₂; exact hR _ _ σ₂ s₂ h₂ ⟨v, rfl, r₂⟩
    · cases c
      · exact wpAny_execs_nil h₁
      · exact wpAny_mono h₁ (fun _ _ x => x) fun _ _ x => x.elim
variable {prog : Program} {w : World} {Γ : Cx} {K : Kp} {σ σ' : St} {ps : List (MV × Value)} {s : Shared} {F : Frz} {m cm : Str → Option Value} {fps : List (List Addr)}
variable {Q : MV → St → Prop} {QB : Bool → St → Prop} {QF : MF → St → Prop} {QU : St → Prop} {QL : List MV → St → Prop}
noncomputable abbrev noρ : Nat → Option Addr := fun _ => none
noncomputable def Closed (x : MV) : Prop := ∀ w F ρ v, VR w F ρ x v → VR w F noρ x v
theorem Closed.none : Closed .none := fun _ _ _ _ h => by cases h; exact .none
theorem Closed.bool {b : Bool} : Closed (.bool b) := fun _ _ _ _ h => by cases h; exact .bool b
theorem Closed.int {i : Int} : Closed (.int i) := fun _ _ _ _ h => by cases h; exact .int i _
theorem Closed.str {x : Str} : Closed (.str x) := fun _ _ _ _ h => by cases h; exact .str x _
theorem Closed.obj {v : Value} : Closed (.obj v) := fun _ _ _ _ h => by cases h; exact .obj v
theorem Closed.list {xs : List MV} (hx : ∀ x ∈ xs, Closed x) : Closed (.list xs) := fun w F ρ v h => by
  cases h with | list a _ vs n hF hl hh => exact .list a xs vs n hF hl fun i x v h1 h2 => hx x (List.mem_of_getElem? h1) w F ρ v (hh i x v h1 h2)
theorem Closed.tup {xs : List MV} (hx : ∀ x ∈ xs, Closed x) : Closed (.tup xs) := fun w F ρ v h => by
  cases h with | tup a _ vs n hF hl hh => exact .tup a xs vs n hF hl fun i x v h1 h2 => hx x (List.mem_of_getElem? h1) w F ρ v (hh i x v h1 h2)
theorem Closed.dictS {es : List (Str × MV)} (hx : ∀ x ∈ es, Closed x.2) : Closed (.dictS es) := fun w F ρ v h => by
  cases h with | dictS a _ ds n hF hm hl hk hh => exact .dictS a es ds n hF hm hl hk fun i x v h1 h2 => hx x (List.mem_of_getElem? h1) w F ρ _ (hh i x v h1 h2)
noncomputable def PureFn (prog : Program) (w : World) (ℓ : Nat) (hB : Heap) (f : Value) (args : List MV) (P : MV → Prop) : Prop :=
  ∀ (A : Around) (F : Frz) (s : Shared) (vs : List Value) (R : Result → Shared → Prop), A.depth + ℓ < recursionLimit → A.units + 20 * ℓ < cLine → A.handled = none → 1 ≤ s.toks →
    (∀ b o, hB.get? b = some o → F b = some o) → (∀ b o, F b = some o → s.heap.get? b = some o) → VRs w F noρ args vs →
    (∀ mv v h' tk F', P mv → s.toks ≤ tk → (∀ b o, s.heap.get? b = some o → h'.get? b = some o) → Sub F F' → (∀ b o, F' b = some o → h'.get? b = some o) →
      (∀ b o, F' b = some o → F b = some o ∨ s.heap.get? b = none) → VR w F' noρ mv v → R (.ok (.ret v)) { s with heap := h', toks := tk }) →
    codeAny (model prog w) A (.call f ⟨vs, []⟩) R s
theorem bindL_other {kd : Str → Option NameKind} : ∀ {binds : List (Str × Value)} {x : Str} {m : Str → Option Value}, x ∉ binds.map (·.1) → bindL kd binds m x = m x
  | [], _, _, _ => rfl
  | (y, v) :: l, x, m, h => by
    rw [List.map_cons, List.mem_cons, not_or] at h
    unfold bindL
    rw [bindL_other h.2]
    split
    · exact if_neg h.1
    · rfl
theorem bindC_other {kd : Str → Option NameKind} : ∀ {binds : List (Str × Value)} {x : Str} {m : Str → Option Value}, x ∉ binds.map (·.1) → bindC kd binds m x = m x
  | [], _, _, _ => rfl
  | (y, v) :: l, x, m, h => by
    rw [List.map_cons, List.mem_cons, not_or] at h
    unfold bindC
    rw [bindC_other h.2]
    split
    · rfl
    · exact if_neg h.1
theorem bindL_mem {kd : Str → Option NameKind} : ∀ {binds : List (Str × Value)} {x : Str} {v : Value} {m : Str → Option Value}, (x, v) ∈ binds → (binds.map (·.1)).Nodup → kd x = some .local → bindL kd binds m x = some v
  | (y, u) :: l, x, v, m, h, hn, hk => by
    rw [List.map_cons, List.nodup_cons] at hn
    rcases List.mem_cons.mp h with h | h
    · cases h
      unfold bindL
      rw [bindL_other hn.1, if_pos hk]; exact if_pos rfl
    · unfold bindL; exact bindL_mem h hn.2 hk
theorem bindC_mem {kd : Str → Option NameKind} : ∀ {binds : List (Str × Value)} {x : Str} {v : Value} {m : Str → Option Value}, (x, v) ∈ binds → (binds.map (·.1)).Nodup → kd x = some .cell → bindC kd binds m x = some v
  | (y, u) :: l, x, v, m, h, hn, hk => by
    rw [List.map_cons, List.nodup_cons] at hn
    rcases List.mem_cons.mp h with h | h
    · cases h
      unfold bindC
      rw [bindC_other hn.1, if_neg (by rw [hk]; decide)]; exact if_pos rfl
    · unfold bindC; exact bindC_mem h hn.2 hk
theorem cellsFrom_fst : ∀ (names : List (Str × NameKind)) (n : Nat) (acc : List (Str × Addr)), (cellsFrom n names acc).map (·.1) = ((names.filter (·.2 == .cell)).map (·.1)).reverse ++ acc.map (·.1)
  | [], _, _ => rfl
  | (x, k) :: r, n, acc => by
    unfold cellsFrom
    by_cases h : (k == .cell) = true
    · rw [if_pos h, cellsFrom_fst r]; simp [h]
    · rw [if_neg h, cellsFrom_fst r]; simp [h]
theorem lookup_of_mem {α : Type} : ∀ {l : List (Str × α)} {x : Str} {v : α}, (x, v) ∈ l → (l.map (·.1)).Nodup → l.lookup x = some v
  | (y, u) :: l, x, v, h, hn => by
    rw [List.map_cons, List.nodup_cons] at hn
    rw [List.lookup_cons]
    rcases List.mem_cons.mp h with h' | h'
    · cases h'; simp
    · have : (x == y) = false := by
        refine beq_false_of_ne fun e => hn.1 ?_
        subst e; exact List.mem_map.mpr ⟨_, h', rfl⟩
      rw [this]; exact lookup_of_mem h' hn.2
noncomputable def GlobOk (prog : Program) (w : World) (sc : Scope) (hB : Heap) (glob : List (Str × MV)) : Prop :=
  ∀ x mv, (x, mv) ∈ glob → ∃ v, VR w (fun b => hB.get? b) noρ mv v ∧ ∀ (env : Env) (A : Around) (E : Value → Shared → Prop) (s : Shared) (Q : Value → Shared → Prop) (p : Pos), env.scope = sc → env.globals = mainGlobals → env.builtins = builtinsNs →
    (∀ b o, hB.get? b = some o → s.heap.get? b = some o) → Q v s → wpAny (model prog w) A (eval (.Name x p) env) Q E s
structure ScopeOk (sc : Scope) (names : List Str) : Prop where
  kind : sc.kind = .function
  nodup : names.Nodup
  kinds : ∀ x ∈ names, (x == ("__debug__" : Str)) = false ∧ (sc.names.lookup x = some .local ∨ (sc.names.lookup x = some .cell ∧ x ∈ (sc.names.filter (·.2 == .cell)).map (·.1)))
  cells : ((sc.names.filter (·.2 == .cell)).map (·.1)).Nodup
noncomputable def Γof (sc : Scope) (Γ : Cx) (hB : Heap) (ℓ : Nat) (glob : List (Str × MV)) : Prop :=
  Γ.env.scope = sc ∧ (∀ b o, hB.get? b = some o → Γ.hB b = some o) ∧ Γ.glob = glob ∧ Γ.A.depth + ℓ < recursionLimit ∧ Γ.A.units + 20 * ℓ < cLine ∧ Γ.env.globals = mainGlobals ∧ Γ.env.builtins = builtinsNs
theorem call_cellsT {A : Around} {R : Result → Shared → Prop} {a : Addr} {o : Obj} {fd : FuncData} {body : List Stmt} {vals : List Value} {binds : List (Str × Value)}
    (hroom : A.depth < recursionLimit) (ho : s.heap.get? a = some o) (hdata : o.data = .func fd) (hlim : s.heap.NoLimit) (hcd : s.heap.CodeRec fd.code fd.qualname)
    (hbody : fd.body = .stmts body) (hbind : bindArgs fd ⟨vals, []⟩ = pure binds) (hclo : fd.closure = [])
    (hkind : ∀ x ∈ binds, fd.scope.names.lookup x.1 = some .local ∨ (fd.scope.names.lookup x.1 = some .cell ∧ ((cellsFrom (s.heap.objs.size + 1) fd.scope.names []).lookup x.1).isSome = true))
    (h : ∀ s₁, s.toks ≤ s₁.toks → InCallC s (callEnvC fd s.heap.objs.size a).locals (bindL (callEnvC fd s.heap.objs.size a).kindOf binds fun _ => none) (callEnvC fd s.heap.objs.size a).cells
        (bindC (callEnvC fd s.heap.objs.size a).kindOf binds fun _ => none) s₁ →
      wpAny (model prog w) (A.deeper (callEnvC fd s.heap.objs.size a)) (execs body (callEnvC fd s.heap.objs.size a)) (fun f s' => R (.ok (.ret (match f with | .ret v => v | _ => .none))) s') (fun _ _ => False) s₁)
    (hco : fd.scope.isCoroutine = false) (hgen : fd.scope.isGenerator = false) (hk : fd.scope.kind = .function) :
    codeAny (model prog w) A (.call (.ref a) ⟨vals, []⟩) R s := by
  refine codeAny_call_function hroom ho hdata hco hgen hbody hcd ?_
  rw [hbind, hclo]
  refine wpAny_pure (wpAny_with_toks (Nat.le_refl _) (wpAny_newFunctionEnv_cells hk hkind fun env he s' x ht => ?_))
  subst he
  exact ⟨hlim.keeps x.toInCall.keep, codeAny_func (wpAny_mono (h s' ht x) (fun _ _ q => q) fun _ _ q => q.elim)⟩
theorem PureFn.of_def {ℓ : Nat} {hB : Heap} {f : Addr} {oc : Value} {od : Option Addr} {fd : FuncData} {osl : Array (Option Value)} {body : List Stmt} {params rest : List Str} {args : List MV} {P : MV → Prop} {glob : List (Str × MV)}
    (ho : hB.get? f = some ⟨oc, od, .func fd, osl⟩) (hcode : hB.CodeRec fd.code fd.qualname) (hlim : hB.NoLimit) (hbody : fd.body = .stmts body) (hclo : fd.closure = [])
    (hgl : fd.globals = mainGlobals) (hbi : fd.builtins = builtinsNs)
    (hbind : ∀ vs, vs.length = params.length → bindArgs fd ⟨vs, []⟩ = pure (params.zip vs)) (hlen : args.length = params.length)
    (hsc : ScopeOk fd.scope (params ++ rest)) (hglob : GlobOk prog w fd.scope hB glob)
    (hco : fd.scope.isCoroutine = false) (hgen : fd.scope.isGenerator = false)
    (h : ∀ Γ : Cx, Γof fd.scope Γ hB ℓ glob → WPs prog w Γ ⟨params.zip args ++ rest.map (fun x => (x, .undef)), []⟩ body fun fl _ => match fl with | .ret mv => Closed mv ∧ P mv | .next => P .none | _ => False) :
    PureFn prog w (ℓ + 1) hB (.ref f) args P := by
  intro A F s vs R hd hu hh htk hB1 hF hvs hR
  have hkd : ∀ (L a : Addr) x, (callEnvC fd L a).kindOf x = fd.scope.names.lookup x := fun _ _ _ => rfl
  have hcn : ((cellsFrom (s.heap.objs.size + 1) fd.scope.names []).map (·.1)).Nodup := by
    rw [cellsFrom_fst, List.map_nil, List.append_nil]
    unfold List.Nodup
    rw [List.pairwise_reverse]
    exact List.Pairwise.imp (fun h e => h e.symm) hsc.cells
  have hmem : ∀ x v, (x, v) ∈ params.zip vs → x ∈ params := fun x v hx => (List.of_mem_zip hx).1
  have hnp : params.Nodup := (List.nodup_append.mp hsc.nodup).1
  have hzf : (params.zip vs).map (·.1) = params := by
    rw [List.map_fst_zip]
    rw [hvs.1, hlen]; exact Nat.le_refl _
  refine call_cellsT (by (first | exact o2 hd | omega)) (hF _ _ (hB1 _ _ ho)) rfl (hlim.keeps fun b o e => hF _ _ (hB1 _ _ e)) (hcode.keeps fun b o e => hF _ _ (hB1 _ _ e)) hbody (hbind vs (hvs.1.trans hlen)) hclo (fun x hx => ?_) (fun s₁ htk₁ I => ?_) hco hgen hsc.kind
  · have hx' := (hsc.kinds x.1 (List.mem_append_left _ (hmem x.1 x.2 hx))).2
    refine hx'.imp id fun ⟨a, b⟩ => ⟨a, ?_⟩
    have : x.1 ∈ (cellsFrom (s.heap.objs.size + 1) fd.scope.names []).map (·.1) := by rw [cellsFrom_fst]; simpa using b
    obtain ⟨q, hq, e⟩ := List.mem_map.mp this
    obtain ⟨x1, c⟩ := q
    cases e
    rw [lookup_of_mem hq hcn]
    rfl
  · let Γ : Cx := { env := callEnvC fd s.heap.objs.size f, oc := (callEnvC fd s.heap.objs.size f).cells, A := A.deeper (callEnvC fd s.heap.objs.size f), hB := fun b => hB.get? b, hX := fun _ => none, glob := glob, names := params ++ rest, sh := s, F0 := F, fps0 := [], lo := s.toks }
    have hΓ : Γof fd.scope Γ hB ℓ glob := ⟨rfl, fun _ _ e => e, rfl, by show A.depth + 1 + ℓ < recursionLimit; (first | exact o3 hd | omega), by show A.units + 3 + 20 * ℓ < cLine; (first | exact o4 hu | omega), hgl, hbi⟩
    have hL : ∀ b, s.heap.objs.size ≤ b → s.heap.get? b = none := fun b hb => by
      cases q : s.heap.get? b with
      | none => rfl
      | some o => exact absurd (Heap.lt_size q) (Nat.not_lt.mpr hb)
    have hap := I.apart
    have habove := I.above
    have hcl : (callEnvC fd s.heap.objs.size f).locals = s.heap.objs.size := rfl
    have hhot : ∀ b ∈ Γ.hot [] [], s.heap.objs.size ≤ b := fun b hb => by
      rcases List.mem_cons.mp hb with h | h
      · rw [h]; exact Nat.le_refl _
      · rcases List.mem_append.mp h with h | h
        · obtain ⟨q, hq, e⟩ := List.mem_map.mp h
          have := habove q.1 q.2 hq
          rw [hcl] at this
          subst e; exact Nat.le_of_lt this
        · exact (List.not_mem_nil (show _ ∈ ([] : List Addr) from h)).elim
    have hne : ∀ b o, s.heap.get? b = some o → b ∉ Γ.hot [] [] := fun b o e hb => by
      have := hL b (hhot b hb); rw [this] at e; cases e
    obtain ⟨h₁, tk₁, hs₁⟩ := I.toInCall.same
    have C : Core prog w Γ ⟨fun b => s.heap.get? b, []⟩ ⟨params.zip args ++ rest.map (fun x => (x, .undef)), []⟩ [] s₁ F (bindL (callEnvC fd s.heap.objs.size f).kindOf (params.zip vs) fun _ => none) (bindC (callEnvC fd s.heap.objs.size f).kindOf (params.zip vs) fun _ => none) [] := {
      ok := {
        kind := hsc.kind
        nodup := hsc.nodup
        kinds := fun x hx => by
          obtain ⟨a, b⟩ := hsc.kinds x hx
          refine ⟨a, b.imp id fun ⟨b1, b2⟩ => ⟨b1, ?_⟩⟩
          have : x ∈ (cellsFrom (s.heap.objs.size + 1) fd.scope.names []).map (·.1) := by rw [cellsFrom_fst]; simpa using b2
          obtain ⟨q, hq, e⟩ := List.mem_map.mp this
          obtain ⟨x1, c⟩ := q
          cases e
          exact ⟨c, lookup_of_mem hq hcn⟩
        ocs := fun _ _ e => e
        glob := fun x v hx => let ⟨u, h1, h2⟩ := hglob x v hx; ⟨u, h1, fun A E s Q p hk _ hq => h2 _ A E s Q p rfl hgl hbi hk hq⟩
        room := by show A.depth + 1 < recursionLimit; (first | exact o5 hd | omega)
        units := by show A.units + 3 + 10 < cLine; (first | exact o6 hu | omega)
        handled := hh
        lo1 := htk }
      base := hB1
      frz := fun b o e => I.toInCall.keep _ _ (hF _ _ e)
      frzH := fun b o e => hne b o (hF _ _ e)
      kept := fun b o e => I.toInCall.keep _ _ e
      keptH := fun b o e => hne b o e
      hx := fun _ _ e => by cases e
      held := fun _ hb => nomatch hb
      hot := by
        show (s.heap.objs.size :: ((cellsFrom (s.heap.objs.size + 1) fd.scope.names []).map (·.2) ++ [])).Nodup
        rw [List.append_nil]
        refine List.nodup_cons.mpr ⟨fun hm => ?_, ?_⟩
        · obtain ⟨q, hq, e⟩ := List.mem_map.mp hm
          have := habove q.1 q.2 hq
          rw [hcl] at this
          have e' : q.2 = s.heap.objs.size := e
          rw [e'] at this
          exact absurd this (Nat.lt_irrefl _)
        · unfold List.Nodup; rw [List.pairwise_map]; exact hap
      live := fun b hb => by
        rcases List.mem_cons.mp hb with h | h
        · obtain ⟨o, _, _, e, _⟩ := I.toInCall.ns; exact ⟨o, h ▸ e⟩
        · rcases List.mem_append.mp h with h | h
          · obtain ⟨q, hq, e⟩ := List.mem_map.mp h
            have := I.cell q.1 q.2 (lookup_of_mem hq hcn)
            obtain ⟨o, ho, _⟩ := this
            exact ⟨o, e ▸ ho⟩
          · exact (List.not_mem_nil (show _ ∈ ([] : List Addr) from h)).elim
      ns := I.toInCall.ns
      cell := I.cell
      keys := by
        show (params.zip args ++ rest.map (fun x => (x, MV.undef))).map (·.1) = params ++ rest
        rw [List.map_append, List.map_fst_zip (by rw [hlen]; exact Nat.le_refl _), List.map_map]
        congr 1
        exact List.map_id' rest
      loc := fun x mv hx => by
        rcases List.mem_append.mp hx with hx | hx
        · right
          obtain ⟨i, hi⟩ := List.mem_iff_getElem?.mp hx
          rw [List.getElem?_zip_eq_some] at hi
          obtain ⟨v, hv, hvr⟩ := hvs.get hi.2
          have hz : (x, v) ∈ params.zip vs := List.mem_iff_getElem?.mpr ⟨i, List.getElem?_zip_eq_some.mpr ⟨hi.1, hv⟩⟩
          exact ⟨v, fun hk => bindL_mem hz (by rw [hzf]; exact hnp) hk, fun hk => bindC_mem hz (by rw [hzf]; exact hnp) hk, hvr.mono (Sub.refl F) fun _ _ e => by cases e⟩
        · left
          obtain ⟨y, _, e⟩ := List.mem_map.mp hx
          cases e; rfl
      len := rfl
      pre := ⟨[], rfl⟩
      trk := fun k o ho => by simp at ho
      ps := fun _ hp => nomatch hp
      tok := htk₁
      same := ⟨h₁, tk₁, hs₁⟩
      lim := fun b o e => .inl e
      ext := fun b o e => ⟨o, I.toInCall.keep _ _ e⟩
      ownL := fun k _ _ ho => by simp at ho }
    refine wpAny_mono (h Γ hΓ ⟨fun b => s.heap.get? b, []⟩ [] s₁ _ ⟨F, _, _, [], C⟩ fun mf fl σ' s' hq hr => ?_) (fun _ _ x => x) (fun _ _ x => x.elim)
    cases mf with
    | next =>
      obtain ⟨rfl, F', m', cm', fps', C'⟩ := hr
      obtain ⟨h', tk', e'⟩ := C'.same
      rw [e'] at C' ⊢
      refine hR .none .none h' tk' F hq C'.tok C'.kept (Sub.refl F) (fun b o e => C'.kept _ _ (hF _ _ e)) (fun b o e => .inl e) .none
    | brk => exact hq.elim
    | cont => exact hq.elim
    | ret mv =>
      obtain ⟨v, rfl, F', m', cm', fps', C'⟩ := hr
      obtain ⟨h', tk', e'⟩ := C'.same
      rw [e'] at C' ⊢
      refine hR mv v h' tk' (fun b => if (F b).isSome then F b else F' b) hq.2 C'.tok C'.kept (fun b o e => by simp [e]) (fun b o e => ?_) (fun b o e => ?_) ?_
      · split at e
        · exact C'.kept _ _ (hF _ _ e)
        · exact C'.frz b o e
      · split at e
        · exact .inl e
        · exact C'.lim b o e
      · refine (hq.1 w F' _ v (C'.ps (mv, v) (.head _))).mono (fun b o e => ?_) fun _ _ e => e
        split
        · rename_i hb
          obtain ⟨o', ho'⟩ := Option.isSome_iff_exists.mp hb
          have h1 := C'.kept b o' (hF _ _ ho')
          have h2 := C'.frz b o e
          rw [h1] at h2; cases h2; exact ho'
        · exact e
variable {prog : Program} {w : World} {Γ : Cx} {K : Kp} {σ σ' : St} {ps : List (MV × Value)} {s : Shared} {F : Frz} {m cm : Str → Option Value} {fps : List (List Addr)}
variable {Q : MV → St → Prop} {QB : Bool → St → Prop} {QF : MF → St → Prop} {QU : St → Prop} {QL : List MV → St → Prop}
noncomputable def WAN (Q : St → Prop) : List Str → List MV → St → Prop
  | [], [], σ => Q σ
  | x :: es, mv :: xs, σ => PutQ x mv σ.loc fun l' => WAN Q es xs { σ with loc := l' }
  | _, _, _ => False
theorem WAN.run : ∀ {es : List Str} {xs : List MV} {σ : St}, WAN QU es xs σ → ∀ (K : Kp) (ps : List (MV × Value)) (vs : List Value) (s : Shared) (R : Unit → Shared → Prop), vs.length = xs.length → Rel prog w Γ K σ (xs.zip vs ++ ps) s →
    (∀ σ' s', QU σ' → Rel prog w Γ K σ' ps s' → R () s') → wpAny (model prog w) Γ.A (assignInOrder (es.map fun n => bindName Γ.env n) vs) R (fun _ _ => False) s
  | [], [], σ, h, K, ps, vs, s, R, hl, r, hR => by
    have : vs = [] := List.length_eq_zero_iff.mp hl
    subst this
    exact wpAny_pure (hR σ s h r)
  | [], _ :: _, _, h, _, _, _, _, _, _, _, _ => False.elim h
  | _ :: _, [], _, h, _, _, _, _, _, _, _, _ => False.elim h
  | x :: es, mv :: xs, σ, h, K, ps, vs, s, R, hl, r, hR => by
    obtain ⟨l', hp, h⟩ := h
    cases vs with
    | nil => simp at hl
    | cons v vs =>
      simp only [List.map_cons, assignInOrder]
      refine wpAny_bind (wpAny_holding (wpAny_bindName (WP1.to_store (QU := fun σ => WAN QU es xs σ) hp h K (xs.zip vs ++ ps) v s _ r fun σ₁ s₁ h₁ r₁ => ?_)))
      exact WAN.run h₁ K ps vs s₁ R (by simpa using hl) r₁ hR
theorem wx_assign_swap {es : List Expr} {k : Nat} {p p' : Pos} {e : Expr} (names : List Str) (h : WPe prog w Γ σ e fun mv σ₁ => ∃ xs, mv = .tup xs ∧ xs.length = names.length ∧ WAN (QF .next) names.reverse xs.reverse σ₁)
    (hs : ∀ env, swapsWithSole [.Tuple es k p'] e p.line env = pure false := by intro _; rfl) (hw : swappedStores [.Tuple es k p'] e Γ.env = pure (some names)) : WPx prog w Γ σ (.Assign [.Tuple es k p'] e p) QF := by
  intro K ps s R r hR
  refine Assign_Tuple_swapped (h K ps s _ r fun mv v σ₁ s₁ h₁ r₁ => ?_) (hs _) hw
  obtain ⟨xs, rfl, hxn, h₁⟩ := h₁
  obtain ⟨a, vs, n, rfl, hg, hl, r'⟩ := r₁.tupAt
  have hn : names.length = vs.toArray.size := by rw [List.size_toArray, hl, hxn]
  rw [hn]
  refine wpAny_unpackItems_tuple r₁.handled ⟨_, hg, rfl, n, rfl⟩ fun h' he => ?_
  refine WAN.run h₁ K ps _ _ _ (by simp [hl]) (((r'.grow (fun b o e => he b o (Nat.ne_of_lt (Heap.lt_size e)) e) _)).perm fun q hq => ?_) fun σ₂ s₂ h₂ r₂ => hR .next .next σ₂ s₂ h₂ ⟨rfl, r₂⟩
  rcases List.mem_append.mp hq with hq | hq
  · refine List.mem_append_left _ ?_
    have hz : (xs.reverse.zip vs.toArray.toList.reverse) = (xs.zip vs).reverse := (List.reverse_zipWith (f := Prod.mk) (by simp [hl])).symm
    rw [hz] at hq
    exact List.mem_reverse.mp hq
  · exact List.mem_append_right _ hq
theorem wx_swap2 {es : List Expr} {k : Nat} {p p' : Pos} {e : Expr} (x y : Str) (h : WPe prog w Γ σ e fun mv σ₁ => ∃ a b, mv = .tup [a, b] ∧ PutQ y b σ₁.loc fun l' => PutQ x a l' fun l'' => QF .next { σ₁ with loc := l'' })
    (hs : ∀ env, swapsWithSole [.Tuple es k p'] e p.line env = pure false) (hw : swappedStores [.Tuple es k p'] e Γ.env = pure (some [x, y])) : WPx prog w Γ σ (.Assign [.Tuple es k p'] e p) QF :=
  wx_assign_swap [x, y] (h.mono fun _ _ ⟨a, b, e, l', h1, l'', h2, q⟩ => ⟨[a, b], e, rfl, l', h1, l'', h2, q⟩) hs hw
theorem tup2_intro {a b : MV} {P : MV → MV → Prop} (h : P a b) : ∃ a' b', MV.tup [a, b] = .tup [a', b'] ∧ P a' b' := ⟨a, b, rfl, h⟩
theorem tup_intro {xs : List MV} {P : List MV → Prop} (h : P xs) : ∃ xs', MV.tup xs = .tup xs' ∧ P xs' := ⟨xs, rfl, h⟩
theorem wal_nil (h : QU σ) : WAL QU [] [] σ := h
theorem wal_cons {x : Str} {p : Pos} {es : List Expr} {mv : MV} {xs : List MV} (h : PutQ x mv σ.loc fun l' => WAL QU es xs { σ with loc := l' }) : WAL QU (.Name x p :: es) (mv :: xs) σ := h
section
variable {a b : Int} {x y : Str}
theorem w2_iadd (h : Q (.int (a + b)) σ) : WP2 prog w Γ σ (.int a) (.int b) (inplaceOp .Add) Q := by
  intro K ps v u s R r hR
  obtain ⟨t, rfl⟩ := r.int; obtain ⟨t', rfl⟩ := r.drop.int
  exact iadd_int (hR _ _ _ _ h ((r.drop.drop.toks _).flat (.int _ _)))
theorem w2_isub (h : Q (.int (a - b)) σ) : WP2 prog w Γ σ (.int a) (.int b) (inplaceOp .Sub) Q := by
  intro K ps v u s R r hR
  obtain ⟨t, rfl⟩ := r.int; obtain ⟨t', rfl⟩ := r.drop.int
  exact isub_int (hR _ _ _ _ h ((r.drop.drop.toks _).flat (.int _ _)))
theorem w2_icat (hz : x.length + y.length ≤ sizeLine) (h : Q (.str (x ++ y)) σ) : WP2 prog w Γ σ (.str x) (.str y) (inplaceOp .Add) Q := by
  intro K ps v u s R r hR
  obtain ⟨t, rfl⟩ := r.str; obtain ⟨t', rfl⟩ := r.drop.str
  exact wpAny_with_toks (Nat.le_refl _) (PyProof.Rows.iadd_str (fun _ _ ht => hR _ _ _ _ h ((r.drop.drop.toks _ ht).flat (.str _ _))) hz)
theorem w2_div (hb : b ≠ 0) (hs : b.natAbs < 1073741824) (h : Q (.int (a.fdiv b)) σ) : WP2 prog w Γ σ (.int a) (.int b) (binaryOp .FloorDiv) Q := by
  intro K ps v u s R r hR
  obtain ⟨t, rfl⟩ := r.int; obtain ⟨t', rfl⟩ := r.drop.int
  exact floordiv_int hb (hR _ _ _ _ h ((r.drop.drop.toks _).flat (.int _ _))) (.inl (PyProof.noPylong_small hs))
end
noncomputable def IsFn (hB : Heap) (f : Addr) (qual : Str) (st : Stmt) : Prop := ∃ oc od osl pm cdv ct doc,
  hB.get? f = some ⟨oc, od, .func (fnOf (fName st) qual (fArgs st) (fBody st) (fScope st) .none .none doc pm none cdv ct), osl⟩ ∧ hB.CodeRec cdv qual
structure TopF (hB : Heap) (mg mb : Str → Option Value) : Prop where
  g : hB.Ns mainGlobals mg
  b : hB.Ns builtinsNs mb
  nolimit : hB.NoLimit
noncomputable def GlobAt (w : World) (hB : Heap) (mg mb : Str → Option Value) (sc : Scope) (p : Str × MV) : Prop :=
  (p.1 == ("__debug__" : Str)) = false ∧ sc.names.lookup p.1 = some .globalImplicit ∧ ∃ v, VR w (fun b => hB.get? b) noρ p.2 v ∧ (mg p.1 = some v ∨ (mg p.1 = none ∧ mb p.1 = some v))
theorem GlobOk.of {hB : Heap} {mg mb : Str → Option Value} (T : TopF hB mg mb) {sc : Scope} (hk : sc.kind = .function) {glob : List (Str × MV)} (h : ∀ p ∈ glob, GlobAt w hB mg mb sc p) : GlobOk prog w sc hB glob := by
  intro x mv hx
  obtain ⟨h1, h2, v, hv, h3⟩ := h _ hx
  refine ⟨v, hv, fun env A E s Q p he hg hb hs hq => ?_⟩
  subst he
  rcases h3 with h3 | ⟨h3, h4⟩
  · exact Calls.Name_function_global hk h2 (Calls.loadGlobal_global (hg ▸ T.g.keeps hs) h3 hq) h1
  · exact Calls.Name_function_global hk h2 (Calls.loadGlobal_builtin (hg ▸ T.g.keeps hs) h3 (hb ▸ T.b.keeps hs) h4 hq) h1
theorem PureFn.of_stmt {ℓ : Nat} {hB : Heap} {mg mb : Str → Option Value} (T : TopF hB mg mb) {f : Addr} {qual : Str} {st : Stmt} (hf : IsFn hB f qual st) (params rest : List Str) {args : List MV} {P : MV → Prop} (glob : List (Str × MV))
    (hbind : ∀ doc pm cdv ct vs, vs.length = params.length → bindArgs (fnOf (fName st) qual (fArgs st) (fBody st) (fScope st) .none .none doc pm none cdv ct) ⟨vs, []⟩ = pure (params.zip vs)) (hlen : args.length = params.length)
    (hsc : ScopeOk (fScope st) (params ++ rest)) (hglob : ∀ p ∈ glob, GlobAt w hB mg mb (fScope st) p)
    (hco : (fScope st).isCoroutine = false) (hgen : (fScope st).isGenerator = false)
    (h : ∀ Γ : Cx, Γof (fScope st) Γ hB ℓ glob → WPs prog w Γ ⟨params.zip args ++ rest.map (fun x => (x, .undef)), []⟩ (fBody st) fun fl _ => match fl with | .ret mv => Closed mv ∧ P mv | .next => P .none | _ => False) :
    PureFn prog w (ℓ + 1) hB (.ref f) args P := by
  obtain ⟨oc, od, osl, pm, cdv, ct, doc, h1, h2⟩ := hf
  exact PureFn.of_def h1 h2 T.nolimit rfl rfl rfl rfl (hbind doc pm cdv ct) hlen hsc (GlobOk.of T hsc.kind hglob) hco hgen h
variable {prog : Program} {w : World} {Γ : Cx} {K : Kp} {σ σ' : St} {ps : List (MV × Value)} {s : Shared} {F : Frz} {m cm : Str → Option Value} {fps : List (List Addr)}
variable {Q : MV → St → Prop} {QB : Bool → St → Prop} {QF : MF → St → Prop} {QU : St → Prop} {QL : List MV → St → Prop}
theorem evalArgs_list {f : Value} {args : List (Bool × Sem Value)} {M : Model} {A : Around} {E : Value → Shared → Prop} {Q : Args → Shared → Prop} (hp : args.any (·.1) = false)
    (h : wpAny M A (spliced args) (fun vs s' => Q ⟨vs, []⟩ s') E s) : wpAny M A (evalArgs f true args []) Q E s := by
  cases args with
  | nil =>
    unfold evalArgs
    show wpAny M A (spliced [] >>= _) Q E s
    refine wpAny_bind (wpAny_mono h (fun vs s' h' => ?_) fun _ _ x => x)
    refine wpAny_bind (wpAny_pure (wpAny_holding ?_))
    exact wpAny_bind (wpAny_pure (wpAny_bind (wpAny_pure (wpAny_pure h'))))
  | cons x rest =>
    obtain ⟨b, t⟩ := x
    simp only [List.any_cons, Bool.or_eq_false_iff] at hp
    obtain ⟨rfl, _⟩ := hp
    exact evalArgs_plain h
noncomputable def Kept (f : Value) (h : Heap) : Prop := ∀ M : Model, ∃ k, (k = Keeper.frame ∨ k = Keeper.machine ∨ k = Keeper.boundFrame) ∧ Looks M h (keeperOf f) k
noncomputable def WPc (prog : Program) (w : World) (Γ : Cx) (σ : St) (f : Value) (xs : List MV) (Q : MV → St → Prop) : Prop :=
  ∀ (K : Kp) (ps : List (MV × Value)) (vs : List Value) (s : Shared) (R : Value → Shared → Prop), vs.length = xs.length → Rel prog w Γ K σ (xs.zip vs ++ ps) s →
    (∀ mv v σ' s', Q mv σ' → Rel prog w Γ K σ' ((mv, v) :: ps) s' → R v s') → Kept f s.heap ∧ wpAny (model prog w) Γ.A (call f vs []) R (fun _ _ => False) s
theorem kept_builtin {id : String} {h : Heap} : Kept (.builtin id) h := fun _ => ⟨.machine, .inr (.inl rfl), Looks.of_pure rfl⟩
theorem kept_type {id : String} {h : Heap} : Kept (.type id) h := fun _ => ⟨.machine, .inr (.inl rfl), Looks.of_pure rfl⟩
theorem kept_fn {a : Addr} {h : Heap} {o : Obj} {fd : FuncData} (ho : h.get? a = some o) (hd : o.data = .func fd) : Kept (.ref a) h := fun M => by
  obtain ⟨c, d, dt, sl⟩ := o
  cases hd
  exact ⟨.frame, .inl rfl, (Looks.ld (part := none) ho).andThen .now⟩
theorem WPl.callWith {f : Value} {first : List Value} {fx : List MV} {es : List Expr} {pos : Pos} (hf : first.length = fx.length)
    (he : ∀ env, (backTo pos (starEach es env)).any (·.1) = false)
    (hr : Rel prog w Γ K σ (fx.zip first ++ ps) s) (h : WPl prog w Γ σ es fun xs σ₁ => WPc prog w Γ σ₁ f (fx ++ xs) Q) (R : Value → Shared → Prop)
    (hR : ∀ mv v σ' s', Q mv σ' → Rel prog w Γ K σ' ((mv, v) :: ps) s' → R v s') : wpAny (model prog w) Γ.A (callWith pos f first (backTo pos (starEach es Γ.env)) []) R (fun _ _ => False) s := by
  refine callWith_of (P := Kept f) (by rw [he]; rfl) (fun h k => k _) (evalArgs_list (he _) ?_)
  refine h pos K _ s _ hr fun xs vs σ₁ s₁ h₁ hl r₁ => ?_
  refine h₁ K ps (first ++ vs) s₁ R (by simp [hf, hl]) (r₁.perm fun p hp => ?_) hR
  rw [List.zip_append hf.symm] at hp
  simp only [List.mem_append] at hp ⊢
  rcases hp with (h | h) | h
  · exact .inr (.inl h)
  · exact .inl h
  · exact .inr (.inr h)
theorem wp_call {fe : Expr} {es : List Expr} {p : Pos} (h : WPe prog w Γ σ fe fun fv σ₁ => ∃ f, fv = .obj f ∧ WPl prog w Γ σ₁ es fun xs σ₂ => WPc prog w Γ σ₂ f xs Q)
    (he : ∀ pos env, (backTo pos (starEach es env)).any (·.1) = false) (hc : ∀ env, eval (.Call fe es [] p) env = (do callWith p (← eval fe env) [] (backTo p (starEach es env)) (backToKw p (keywordEach [] env)))) :
    WPe prog w Γ σ (.Call fe es [] p) Q := by
  intro K ps s R r hR
  rw [hc]
  refine wpAny_bind (h K ps s _ r fun fv v σ₁ s₁ h₁ r₁ => ?_)
  obtain ⟨f, rfl, h₁⟩ := h₁
  obtain rfl := r₁.obj
  exact WPl.callWith (first := []) (fx := []) rfl (he p) r₁.drop h₁ R hR
theorem obj_intro {f : Value} {P : Value → Prop} (h : P f) : ∃ f', MV.obj f = .obj f' ∧ P f' := ⟨f, rfl, h⟩
noncomputable def WPm (prog : Program) (w : World) (Γ : Cx) (σ : St) (x : MV) (name : Str) (Q : Value → List MV → St → Prop) : Prop :=
  ∀ (pl : Sem Bool) (K : Kp) (ps : List (MV × Value)) (v : Value) (s : Shared) (R : Value × List Value → Shared → Prop), Rel prog w Γ K σ ((x, v) :: ps) s →
    (∀ f fx first σ' s', Q f fx σ' → first.length = fx.length → Rel prog w Γ K σ' (fx.zip first ++ ps) s' → R (f, first) s') → wpAny (model prog w) Γ.A (getMethod v name pl) R (fun _ _ => False) s
theorem wp_method {o : Expr} {name : Str} {es : List Expr} {pa p : Pos} (h : WPe prog w Γ σ o fun ov σ₁ => WPm prog w Γ σ₁ ov name fun f fx σ₂ => WPl prog w Γ σ₂ es fun xs σ₃ => WPc prog w Γ σ₃ f (fx ++ xs) Q)
    (he : ∀ pos env, (backTo pos (starEach es env)).any (·.1) = false)
    (hc : ∀ env, eval (.Call (.Attribute o name pa) es [] p) env = (do
      let ov ← eval o env
      standAt pa.atName
      let (f, first) ← holding [ov] (getMethod ov name (do return (← importBound o env).getD true))
      callWith p f first (backTo p (starEach es env)) (backToKw p (keywordEach [] env)))) : WPe prog w Γ σ (.Call (.Attribute o name pa) es [] p) Q := by
  intro K ps s R r hR
  refine methodCall_KW (h K ps s _ r fun ov v σ₁ s₁ h₁ r₁ => h₁ _ K ps v s₁ _ r₁ fun f fx first σ₂ s₂ h₂ hl r₂ => ?_) (hc _)
  exact WPl.callWith hl (he p) r₂ h₂ R hR
theorem wx_expr {e : Expr} {p : Pos} (h : WPe prog w Γ σ e fun mv σ₁ => mv = .none ∧ QF .next σ₁) (hs : ∀ env, swapsWith e none p.line env = pure false) : WPx prog w Γ σ (.Expr e p) QF := by
  intro K ps s R r hR
  refine wpAny_Expr (h K ps s _ r fun mv v σ₁ s₁ h₁ r₁ => ?_) (by unfold interactive; rw [r.ok.kind]; rfl) (hs _)
  obtain ⟨rfl, h₁⟩ := h₁
  obtain rfl := r₁.nil
  exact hR .next .next σ₁ s₁ h₁ ⟨rfl, r₁.drop⟩
theorem none_intro {P : Prop} (h : P) : MV.none = .none ∧ P := ⟨rfl, h⟩
theorem alive_nil (os : List (Option MO)) : alive os [] = [] := by
  cases os with
  | nil => rfl
  | cons x os => cases x <;> rfl
theorem alive_set {o o' : MO} : ∀ {os : List (Option MO)} {fps : List (List Addr)} {k : Nat}, os[k]? = some (some o) → alive (os.set k (some o')) fps = alive os fps
  | [], _, _, h => by simp at h
  | x :: os, [], k, _ => by rw [alive_nil, alive_nil]
  | x :: os, f :: fps, 0, h => by simp at h; subst h; rfl
  | x :: os, f :: fps, k + 1, h => by
    have := alive_set (o' := o') (fps := fps) (k := k) (os := os) (by simpa using h)
    cases x with
    | none => exact this
    | some _ => exact congrArg (f ++ ·) this
theorem alive_apart {o o' : MO} : ∀ {os : List (Option MO)} {fps : List (List Addr)} {j k : Nat} {fp fp' : List Addr}, (alive os fps).Nodup → os[j]? = some (some o) → fps[j]? = some fp → os[k]? = some (some o') → fps[k]? = some fp' → j ≠ k →
    ∀ a ∈ fp, a ∉ fp'
  | [], _, _, _, _, _, _, h, _, _, _, _ => by simp at h
  | _ :: _, [], _, _, _, _, _, _, h, _, _, _ => by simp at h
  | x :: os, f :: fps, 0, 0, _, _, _, _, _, _, _, h => absurd rfl h
  | x :: os, f :: fps, 0, k + 1, fp, fp', hn, h1, h2, h3, h4, _ => fun a ha ha' => by
    simp at h1 h2; subst h1 h2
    have hm := mem_alive (os := os) (fps := fps) (k := k) (by simpa using h3) (by simpa using h4) ha'
    exact (List.nodup_append.mp hn).2.2 a ha a hm rfl
  | x :: os, f :: fps, j + 1, 0, fp, fp', hn, h1, h2, h3, h4, _ => fun a ha ha' => by
    simp at h3 h4; subst h3 h4
    have hm := mem_alive (os := os) (fps := fps) (k := j) (by simpa using h1) (by simpa using h2) ha
    exact (List.nodup_append.mp hn).2.2 a ha' a hm rfl
  | x :: os, f :: fps, j + 1, k + 1, fp, fp', hn, h1, h2, h3, h4, hne => by
    refine alive_apart (os := os) (fps := fps) (j := j) (k := k) ?_ (by simpa using h1) (by simpa using h2) (by simpa using h3) (by simpa using h4) (fun e => hne (by rw [e]))
    cases x with
    | none => exact hn
    | some _ => exact (List.nodup_append.mp hn).2.1
theorem Core.setObj (C : Core prog w Γ K σ ps s F m cm fps) {k : Nat} {o o' : MO} {fp : List Addr} {h' : Heap} (hk : σ.objs[k]? = some (some o)) (hfp : fps[k]? = some fp) (hs : ∀ b, b ∉ fp → h'.get? b = s.heap.get? b)
    (hl : ∀ a ∈ fp, ∃ x, h'.get? a = some x) (hr : OR w F (rho fps) o' fp h') (ho : ∀ xs, o' = .lst xs → ∃ ys, o = .lst ys) (t : Nat) (ht : s.toks ≤ t := by tm_at "tk") :
    Core prog w Γ K { σ with objs := σ.objs.set k (some o') } ps { s with heap := h', toks := t } F m cm fps := by
  have hh : Γ.hot (σ.objs.set k (some o')) fps = Γ.hot σ.objs fps := by unfold Cx.hot; rw [alive_set hk]
  have hm : ∀ a ∈ fp, a ∈ alive σ.objs fps := fun a ha => mem_alive hk hfp ha
  obtain ⟨n1, n2⟩ := List.nodup_cons.mp C.hot
  obtain ⟨n3, n4, n5⟩ := List.nodup_append.mp n2
  have hL : Γ.env.locals ∉ fp := fun h => n1 (List.mem_append_right _ (hm _ h))
  have hc : ∀ n c, Γ.oc.lookup n = some c → c ∉ fp := fun n c e h => n5 c (List.mem_map.mpr ⟨(n, c), mem_of_lookup e, rfl⟩) c (hm c h) rfl
  refine { C with
    frz := fun b x e => (hs b fun q => C.frzH b x e (C.mem_hot hk hfp q)).trans (C.frz b x e)
    frzH := fun b x e => by rw [hh]; exact C.frzH b x e
    kept := fun b x e => (hs b fun q => C.keptH b x e (C.mem_hot hk hfp q)).trans (C.kept b x e)
    keptH := fun b x e => by rw [hh]; exact C.keptH b x e
    hot := by rw [hh]; exact C.hot
    live := fun b hb => ?_
    ns := ?_
    cell := fun n c e => ?_
    len := by rw [List.length_set]; exact C.len
    tok := Nat.le_trans C.tok ht
    trk := fun j x hj => ?_
    same := by obtain ⟨h, tk, e⟩ := C.same; exact ⟨h', t, by rw [e]⟩
    ext := fun b x e => ?_
    ownL := fun j xs fp' hj hj' => ?_ }
  · rw [hh] at hb
    by_cases q : b ∈ fp
    · exact hl b q
    · obtain ⟨x, e⟩ := C.live b hb; exact ⟨x, (hs b q).trans e⟩
  · obtain ⟨x, es, ep, e, r⟩ := C.ns
    exact ⟨x, es, ep, (hs _ hL).trans e, r⟩
  · obtain ⟨x, e', d⟩ := C.cell n c e
    exact ⟨x, (hs _ (hc n c e)).trans e', d⟩
  · rw [List.getElem?_set] at hj
    split at hj
    · rename_i e; subst e
      split at hj
      · cases hj; exact ⟨fp, hfp, hr⟩
      · cases hj
    · rename_i e
      obtain ⟨fp', h1, h2⟩ := C.trk j x hj
      exact ⟨fp', h1, h2.stab fun a ha => hs a (alive_apart n4 hj h1 hk hfp (fun q => e q.symm) a ha)⟩
  · by_cases q : b ∈ fp
    · exact hl b q
    · obtain ⟨x', e'⟩ := C.ext b x e; exact ⟨x', (hs b q).trans e'⟩
  · rw [List.getElem?_set] at hj
    split at hj
    · rename_i e; subst e
      split at hj
      · cases hj
        obtain ⟨ys, e⟩ := ho xs rfl
        subst e
        exact C.ownL k ys fp' hk hj'
      · cases hj
    · exact C.ownL j xs fp' hj hj'
theorem alive_snoc {o : MO} {fp : List Addr} : ∀ {os : List (Option MO)} {fps : List (List Addr)}, fps.length = os.length → alive (os ++ [some o]) (fps ++ [fp]) = alive os fps ++ fp
  | [], [], _ => List.append_nil fp
  | [], _ :: _, h => nomatch h
  | _ :: _, [], h => nomatch h
  | x :: os, f :: fps, h => by
    have := alive_snoc (o := o) (fp := fp) (os := os) (fps := fps) (Nat.succ.inj h)
    cases x with
    | none => exact this
    | some _ => exact (congrArg (f ++ ·) this).trans (List.append_assoc ..).symm
theorem rho_snoc {fp : List Addr} {k : Nat} {a : Addr} (h : rho fps k = some a) : rho (fps ++ [fp]) k = some a := by
  unfold rho at h ⊢
  cases e : fps[k]? with
  | none => rw [e] at h; cases h
  | some x =>
    have hk : k < fps.length := (List.getElem?_eq_some_iff.mp e).1
    rw [List.getElem?_append_left hk, e]; rw [e] at h; exact h
theorem Core.addObj (C : Core prog w Γ K σ ps s F m cm fps) {o : MO} {fp : List Addr} {h' : Heap} (hk : ∀ b x, s.heap.get? b = some x → h'.get? b = some x) (hn : fp.Nodup) (hf : ∀ a ∈ fp, s.heap.get? a = none)
    (hl : ∀ a ∈ fp, ∃ x, h'.get? a = some x) (hr : OR w F (rho (fps ++ [fp])) o fp h') (t : Nat) (ht : s.toks ≤ t := by tm_at "tk") :
    Core prog w Γ K { σ with objs := σ.objs ++ [some o] } ps { s with heap := h', toks := t } F m cm (fps ++ [fp]) := by
  have hh : Γ.hot (σ.objs ++ [some o]) (fps ++ [fp]) = Γ.hot σ.objs fps ++ fp := by unfold Cx.hot; rw [alive_snoc C.len]; simp
  have C' := C.grow hk (Sub.refl F) (fun b x e => hk _ _ (C.frz b x e)) (fun _ _ e => .inl e) t ht
  have hrm : ∀ k a, rho fps k = some a → rho (fps ++ [fp]) k = some a := fun k a e => rho_snoc e
  have hnone : ∀ b x, s.heap.get? b = some x → b ∉ fp := fun b x e h => by rw [hf b h] at e; cases e
  refine { C' with
    frzH := fun b x e => by
      rw [hh]; intro hb
      rcases List.mem_append.mp hb with hb | hb
      · exact C.frzH b x e hb
      · exact hnone b x (C.frz b x e) hb
    keptH := fun b x e => by
      rw [hh]; intro hb
      rcases List.mem_append.mp hb with hb | hb
      · exact C.keptH b x e hb
      · exact hnone b x (C.kept b x e) hb
    hot := by
      rw [hh]
      refine List.nodup_append.mpr ⟨C.hot, hn, fun a ha b hb e => ?_⟩
      subst e
      obtain ⟨x, e⟩ := C.live a ha
      exact hnone a x e hb
    live := fun b hb => by
      rw [hh] at hb
      rcases List.mem_append.mp hb with hb | hb
      · exact C'.live b hb
      · exact hl b hb
    loc := fun x mv hx => (C'.loc x mv hx).imp id fun ⟨v, h1, h2, h3⟩ => ⟨v, h1, h2, h3.mono (Sub.refl F) hrm⟩
    len := by simp [C.len]
    pre := by obtain ⟨l, e⟩ := C.pre; exact ⟨l ++ [fp], by rw [e, List.append_assoc]⟩
    trk := fun j x hj => ?_
    ps := fun p hp => (C'.ps p hp).mono (Sub.refl F) hrm
    ownL := fun j xs fp' hj hj' => ?_ }
  · by_cases q : j < σ.objs.length
    · rw [List.getElem?_append_left q] at hj
      obtain ⟨fp', h1, h2⟩ := C'.trk j x hj
      exact ⟨fp', by rw [List.getElem?_append_left (by rw [C.len]; exact q)]; exact h1, h2.mono (Sub.refl F) hrm⟩
    · rw [List.getElem?_append_right (Nat.le_of_not_lt q)] at hj
      have hj0 : j - σ.objs.length = 0 := by
        cases e : j - σ.objs.length with
        | zero => rfl
        | succ i => rw [e] at hj; simp at hj
      rw [hj0] at hj
      simp at hj
      subst hj
      exact ⟨fp, by rw [List.getElem?_append_right (by rw [C.len]; exact Nat.le_of_not_lt q), C.len, hj0]; rfl, hr⟩
  · by_cases q : j < σ.objs.length
    · rw [List.getElem?_append_left q] at hj
      rw [List.getElem?_append_left (by rw [C.len]; exact q)] at hj'
      exact C.ownL j xs fp' hj hj'
    · have hj2 : j - σ.objs.length = 0 := by
        rw [List.getElem?_append_right (Nat.le_of_not_lt q)] at hj
        cases e : j - σ.objs.length with
        | zero => rfl
        | succ i => rw [e] at hj; simp at hj
      rw [List.getElem?_append_right (by rw [C.len]; exact Nat.le_of_not_lt q), C.len, hj2] at hj'
      simp at hj'
      subst hj'
      intro a ha
      cases e : Γ.sh.heap.get? a with
      | none => rfl
      | some x => obtain ⟨x', e'⟩ := C.ext a x e; rw [hf a ha] at e'; cases e'
theorem alive_sub {o : MO} : ∀ {os : List (Option MO)} {fps : List (List Addr)} {k : Nat}, os[k]? = some (some o) → (alive (os.set k none) fps).Sublist (alive os fps)
  | [], _, _, h => by simp at h
  | x :: os, [], k, _ => by rw [alive_nil, alive_nil]; exact List.Sublist.slnil
  | x :: os, f :: fps, 0, h => by simp at h; subst h; exact List.sublist_append_right _ _
  | x :: os, f :: fps, k + 1, h => by
    have := alive_sub (fps := fps) (k := k) (os := os) (by simpa using h)
    cases x with
    | none => exact this
    | some _ => exact List.Sublist.append (List.Sublist.refl _) this
theorem Core.freeze (C : Core prog w Γ K σ ps s F m cm fps) {k : Nat} {xs : List MV} (hk : σ.objs[k]? = some (some (.lst xs))) :
    ∃ F' a, Core prog w Γ K { σ with objs := σ.objs.set k none } ps s F' m cm fps ∧ rho fps k = some a ∧ VR w F' (rho fps) (.list xs) (.ref a) := by
  obtain ⟨fp, hfp, hr⟩ := C.trk k _ hk
  cases hr with
  | lst a _ vs n _ hh hv =>
    have ham : a ∈ alive σ.objs fps := mem_alive hk hfp (.head _)
    have hah : a ∈ Γ.hot σ.objs fps := C.mem_hot hk hfp (.head _)
    have hFa : F a = none := by
      cases e : F a with
      | none => rfl
      | some x => exact absurd hah (C.frzH a x e)
    have hsub : (Γ.hot (σ.objs.set k none) fps).Sublist (Γ.hot σ.objs fps) := List.Sublist.cons_cons _ (List.Sublist.append (List.Sublist.refl _) (alive_sub hk))
    have hnot : a ∉ Γ.hot (σ.objs.set k none) fps := fun h => by
      have key : ∀ {os : List (Option MO)} {fps : List (List Addr)} {k : Nat}, os[k]? = some (some (.lst xs)) → fps[k]? = some [a] → (alive os fps).Nodup → a ∉ alive (os.set k none) fps := by
        intro os
        induction os with
        | nil => intro fps k h; simp at h
        | cons x os ih =>
          intro fps k h1 h2 h3
          cases fps with
          | nil => simp at h2
          | cons f fps =>
            cases k with
            | zero =>
              simp at h1 h2; subst h1 h2
              intro hm
              exact (List.nodup_append.mp h3).2.2 a (.head _) a hm rfl
            | succ k =>
              have h1' : os[k]? = some (some (.lst xs)) := by simpa using h1
              have h2' : fps[k]? = some [a] := by simpa using h2
              cases x with
              | none => exact ih h1' h2' h3
              | some o =>
                intro hm
                have h3' := List.nodup_append.mp h3
                rcases List.mem_append.mp hm with hm | hm
                · exact h3'.2.2 a hm a (mem_alive h1' h2' (.head _)) rfl
                · exact ih h1' h2' h3'.2.1 hm
      obtain ⟨n1, n2⟩ := List.nodup_cons.mp C.hot
      obtain ⟨n3, n4, n5⟩ := List.nodup_append.mp n2
      rcases List.mem_cons.mp h with h | h
      · exact n1 (List.mem_append_right _ (h ▸ ham))
      · rcases List.mem_append.mp h with h | h
        · exact n5 a h a ham rfl
        · exact key hk hfp n4 h
    have hS := Frz.put_sub (o := listO vs n) hFa
    refine ⟨F.put a (listO vs n), a, { C with
      base := fun b o e => hS _ _ (C.base b o e)
      frz := fun b o e => ?_
      frzH := fun b o e hb => ?_
      keptH := fun b o e hb => C.keptH b o e (hsub.mem hb)
      held := fun b hb => by
        obtain ⟨h1, ⟨o, h2⟩, h3⟩ := C.held b hb
        refine ⟨?_, ⟨o, h2⟩, h3⟩
        unfold Frz.put; split
        · rename_i q; subst q; exact absurd hah (C.keptH b o h2)
        · exact h1
      hot := C.hot.sublist hsub
      live := fun b hb => C.live b (hsub.mem hb)
      loc := fun x mv hx => (C.loc x mv hx).imp id fun ⟨v, h1, h2, h3⟩ => ⟨v, h1, h2, h3.mono hS fun _ _ e => e⟩
      len := by rw [List.length_set]; exact C.len
      trk := fun j o hj => ?_
      ps := fun p hp => (C.ps p hp).mono hS fun _ _ e => e
      lim := fun b o e => ?_
      ownL := fun j ys fp' hj => ?_ }, by unfold rho; rw [hfp]; rfl, ?_⟩
    · unfold Frz.put at e; split at e
      · rename_i q; subst q; cases e; exact hh
      · exact C.frz b o e
    · unfold Frz.put at e; split at e
      · rename_i q; subst q; exact hnot hb
      · exact C.frzH b o e (hsub.mem hb)
    · rw [List.getElem?_set] at hj
      split at hj
      · split at hj <;> cases hj
      · obtain ⟨fp', h1, h2⟩ := C.trk j o hj
        exact ⟨fp', h1, h2.mono hS fun _ _ e => e⟩
    · unfold Frz.put at e; split at e
      · rename_i q; subst q; exact .inr (C.ownL k xs [b] hk hfp b (.head _))
      · exact C.lim b o e
    · rw [List.getElem?_set] at hj
      split at hj
      · split at hj <;> cases hj
      · exact C.ownL j ys fp' hj
    · have hv' := hv.mono hS fun _ _ e => e
      exact .list a xs vs n Frz.put_self hv'.1 hv'.2
noncomputable def ObjAt (σ : St) (k : Nat) (o : MO) : Prop := σ.objs[k]? = some (some o)
theorem Rel.freezeName {x : Str} {k : Nat} {xs : List MV} {l' : List (Str × MV)} (r : Rel prog w Γ K σ ps s) (hx : Lk x (.mu k) σ.loc) (hk : ObjAt σ k (.lst xs)) (hp : Put x (.list xs) σ.loc l') : Rel prog w Γ K { loc := l', objs := σ.objs.set k none } ps s := by
  obtain ⟨F, m, cm, fps, C⟩ := r
  obtain ⟨v, h1, h2, h3⟩ := (C.loc x _ hx.mem).resolve_left (by nofun)
  obtain ⟨F', a, C', ha, hv⟩ := C.freeze hk
  obtain rfl : v = .ref a := by
    cases h3 with | mu _ b hb => rw [ha] at hb; cases hb; rfl
  obtain ⟨l₁, l₂, old, e1, e2⟩ := hp.split
  subst e2
  exact ⟨F', m, cm, fps, { C' with
    keys := by
      have := C'.keys
      rw [show ({ σ with objs := σ.objs.set k none } : St).loc = l₁ ++ (x, old) :: l₂ from e1] at this
      simpa using this
    loc := fun y mv hy => by
      by_cases q : (y, mv) = (x, .list xs)
      · cases q; exact .inr ⟨_, h1, h2, hv⟩
      · refine C'.loc y mv ?_
        show (y, mv) ∈ σ.loc
        rw [e1]
        rcases List.mem_append.mp hy with hy | hy
        · exact List.mem_append_left _ hy
        · rcases List.mem_cons.mp hy with hy | hy
          · exact absurd hy q
          · exact List.mem_append_right _ (.tail _ hy) }⟩
theorem ws_freeze {x : Str} {k : Nat} {xs : List MV} {bs : List Stmt} (hx : Lk x (.mu k) σ.loc) (hk : ObjAt σ k (.lst xs)) (h : PutQ x (.list xs) σ.loc fun l' => WPs prog w Γ { loc := l', objs := σ.objs.set k none } bs QF) : WPs prog w Γ σ bs QF := by
  intro K ps s R r hR
  obtain ⟨l', hp, h⟩ := h
  exact h K ps s R (r.freezeName hx hk hp) hR
theorem wx_new {x : Str} {p p' pl : Pos} {es : List Expr} (h : WPl prog w Γ σ es fun xs σ₁ => xs.length ≤ sizeLine ∧ PutQ x (.mu σ₁.objs.length) σ₁.loc fun l' => QF .next { loc := l', objs := σ₁.objs ++ [some (.lst xs)] }) :
    WPx prog w Γ σ (.Assign [.Name x p'] (.List es pl) p) QF := by
  intro K ps s R r hR
  refine wpAny_Assign_Name (wpAny_List (h pl K ps s _ r fun xs vs σ₁ s₁ h₁ hl r₁ => ⟨by rw [hl]; exact h₁.1, ?_⟩)) rfl
  obtain ⟨_, l', hp, h₁⟩ := h₁
  obtain ⟨F, m, cm, fps, C⟩ := r₁
  have hz := C.zip hl rfl
  have C := C.setps (ps' := ps) fun p hp => C.ps p (List.mem_append_right _ hp)
  have C' := C.addObj (o := .lst xs) (fp := [s₁.heap.objs.size]) (h' := s₁.heap.push (listO vs 0)) (fun b x e => Heap.get?_push_of_some _ e) (by simp) (fun a ha => by simp at ha; subst ha; exact get?_size _)
    (fun a ha => by simp at ha; subst ha; exact ⟨_, Heap.get?_push_size _ rfl⟩) (.lst _ xs vs 0 _ (Heap.get?_push_size _ rfl) (hz.mono (Sub.refl F) fun _ _ e => rho_snoc e)) s₁.toks
  have hr : rho (fps ++ [[s₁.heap.objs.size]]) σ₁.objs.length = some s₁.heap.objs.size := by
    unfold rho; rw [← C.len, List.getElem?_append_right (Nat.le_refl _), Nat.sub_self]; rfl
  exact WP1.to_store (σ := { σ₁ with objs := σ₁.objs ++ [some (.lst xs)] }) (mv := .mu σ₁.objs.length) (QU := fun σ => QF .next σ) hp h₁ K ps _ _ _ ⟨F, m, cm, _, C'.cons (.mu _ _ hr)⟩ fun σ₂ s₂ h₂ r₂ => hR .next .next σ₂ s₂ h₂ ⟨rfl, r₂⟩
variable {prog : Program} {w : World} {Γ : Cx} {K : Kp} {σ σ' : St} {ps : List (MV × Value)} {s : Shared} {F : Frz} {m cm : Str → Option Value} {fps : List (List Addr)}
variable {Q : MV → St → Prop} {QB : Bool → St → Prop} {QF : MF → St → Prop} {QU : St → Prop} {QL : List MV → St → Prop}
noncomputable def owners : List String := ["enumerate", "zip", "dict_itemiterator", "dict_reverseitemiterator", "odict_iterator", "itertools.zip_longest", "itertools.pairwise"]
structure Itr (prog : Program) (w : World) (x : MV) (items : List MV) where
  D : Value → Nat → Obj → Prop
  opn : ∀ {A : Around} {F : Frz} {ρ : Nat → Option Addr} {v : Value} {s : Shared} {R : Value → Shared → Prop}, A.handled = none → VR w F ρ x v → (∀ b o, F b = some o → s.heap.get? b = some o) →
    (∀ o, D v 0 o → o.isFreed = false → R (.ref s.heap.objs.size) { s with heap := s.heap.push o }) → wpAny (model prog w) A (pyIter v) R (fun _ _ => False) s
  wk : ∀ {A : Around} {F : Frz} {ρ : Nat → Option Addr} {v : Value} {I : Addr}, A.handled = none → VR w F ρ x v → F I = none → ∃ fp P St, Walks prog w A I fp [I] items.length P St ∧ (∀ b ∈ fp, b = I ∨ ∃ o, F b = some o) ∧
    (∀ (i : Nat) (h : Heap) o, (∀ b o, F b = some o → h.get? b = some o) → h.get? I = some o → D v i o → St i h) ∧ (∀ i h, St i h → ∃ o, h.get? I = some o ∧ D v i o) ∧ (∀ i u, i < items.length → P i u → ∃ y, items[i]? = some y ∧ VR w F ρ y u)
  cls : ∀ v i o, D v i o → ∃ T fs, o.cls = .type T ∧ o.data = .fields fs ∧ owners.contains T = false
noncomputable def Itr.list (prog : Program) (w : World) (xs : List MV) : Itr prog w (.list xs) xs where
  D := fun v i o => o.cls = .type "list_iterator" ∧ o.data = .fields #[v, .int i 0]
  opn := by
    intro A F ρ v s R hh hv hF hR
    cases hv with
    | list a _ vs n h1 h2 h3 => exact wpAny_pyIter_list ⟨_, hF _ _ h1, rfl, n, rfl⟩ (hR _ ⟨rfl, rfl⟩ rfl)
  wk := by
    intro A F ρ v I hh hv hI
    cases hv with
    | list a _ vs n h1 h2 h3 =>
      have hne : a ≠ I := fun e => by rw [e, hI] at h1; cases h1
      refine ⟨[I, a], fun i v => vs.toArray[i]? = some v, fun i h => h.IsListIter I a i ∧ h.IsList a vs.toArray, (by have := Walks.list (prog := prog) (w := w) hh I a hne vs.toArray; rw [List.size_toArray, h2] at this; exact this), fun b hb => ?_, fun i h o hk ho hD => ⟨⟨o, ho, hD.1, hD.2⟩, ⟨_, hk _ _ h1, rfl, n, rfl⟩⟩, fun i h hs => ?_, fun i u _ hu => ?_⟩
      · simp at hb; rcases hb with rfl | rfl
        · exact .inl rfl
        · exact .inr ⟨_, h1⟩
      · obtain ⟨⟨o, ho, hc, hd⟩, _⟩ := hs; exact ⟨o, ho, hc, hd⟩
      · have hu : vs[i]? = some u := by simpa using hu
        have hi : i < xs.length := by rw [← h2]; exact (List.getElem?_eq_some_iff.mp hu).1
        exact ⟨xs[i], List.getElem?_eq_getElem hi, h3 i _ _ (List.getElem?_eq_getElem hi) hu⟩
  cls := fun v i o h => ⟨_, _, h.1, h.2, rfl⟩
noncomputable def Itr.tup (prog : Program) (w : World) (xs : List MV) : Itr prog w (.tup xs) xs where
  D := fun v i o => o.cls = .type "tuple_iterator" ∧ o.data = .fields #[v, .int i 0]
  opn := by
    intro A F ρ v s R hh hv hF hR
    cases hv with
    | tup a _ vs n h1 h2 h3 => exact wpAny_pyIter_tuple ⟨_, hF _ _ h1, rfl, n, rfl⟩ (hR _ ⟨rfl, rfl⟩ rfl)
  wk := by
    intro A F ρ v I hh hv hI
    cases hv with
    | tup a _ vs n h1 h2 h3 =>
      have hne : a ≠ I := fun e => by rw [e, hI] at h1; cases h1
      refine ⟨[I, a], fun i v => vs.toArray[i]? = some v, fun i h => h.IsTupleIter I a i ∧ h.IsTuple a vs.toArray, (by have := Walks.tuple (prog := prog) (w := w) hh I a hne vs.toArray; rw [List.size_toArray, h2] at this; exact this), fun b hb => ?_, fun i h o hk ho hD => ⟨⟨o, ho, hD.1, hD.2⟩, ⟨_, hk _ _ h1, rfl, n, rfl⟩⟩, fun i h hs => ?_, fun i u _ hu => ?_⟩
      · simp at hb; rcases hb with rfl | rfl
        · exact .inl rfl
        · exact .inr ⟨_, h1⟩
      · obtain ⟨⟨o, ho, hc, hd⟩, _⟩ := hs; exact ⟨o, ho, hc, hd⟩
      · have hu : vs[i]? = some u := by simpa using hu
        have hi : i < xs.length := by rw [← h2]; exact (List.getElem?_eq_some_iff.mp hu).1
        exact ⟨xs[i], List.getElem?_eq_getElem hi, h3 i _ _ (List.getElem?_eq_getElem hi) hu⟩
  cls := fun v i o h => ⟨_, _, h.1, h.2, rfl⟩
noncomputable def signs (x : Str) : List MV := x.cps.toList.map fun c => .str ⟨#[c]⟩
noncomputable def Itr.str (prog : Program) (w : World) (x : Str) : Itr prog w (.str x) (signs x) where
  D := fun v i o => (o.cls = .type (strIterType x) ∧ o.data = .fields #[v, .int i 0])
  opn := by
    intro A F ρ v s R hh hv hF hR
    cases hv with
    | str _ t => exact wpAny_pyIter_strU (hR _ ⟨rfl, rfl⟩ rfl)
  wk := by
    intro A F ρ v I hh hv hI
    cases hv with
    | str _ t =>
      have hl : (signs x).length = x.cps.size := by simp [signs]
      rw [hl]
      have fin : ∀ i u, i < x.cps.size → SignAt x i u → ∃ y, (signs x)[i]? = some y ∧ VR w F ρ y u := fun i u _ ⟨c, k, hc, e⟩ => by
        subst e; exact ⟨.str ⟨#[c]⟩, by simp [signs, hc], .str _ _⟩
      have fpk : ∀ b ∈ [I], b = I ∨ ∃ o, F b = some o := fun b hb => .inl (by simpa using hb)
      cases ha : x.cps.all (· < 128) with
      | false =>
        have e : strIterType x = "str_iterator" := by simp [strIterType, ha]
        rw [e]
        exact ⟨[I], _, _, Walks.strWide hh I x t, fpk, fun i h o hk ho hD => ⟨o, ho, hD.1, hD.2⟩, fun i h hs => by obtain ⟨o, ho, hc, hd⟩ := hs; exact ⟨o, ho, hc, hd⟩, fin⟩
      | true =>
        have e : strIterType x = "str_ascii_iterator" := by simp [strIterType, ha]
        rw [e]
        exact ⟨[I], _, _, Walks.strAscii hh I x t, fpk, fun i h o hk ho hD => ⟨o, ho, hD.1, hD.2⟩, fun i h hs => by obtain ⟨o, ho, hc, hd⟩ := hs; exact ⟨o, ho, hc, hd⟩, fin⟩
  cls := fun v i o h => ⟨_, _, h.1, h.2, by
    unfold strIterType; split <;> rfl⟩
noncomputable def intsOf (a b : Int) : List MV := (List.range (b - a).toNat).map fun i : Nat => .int (a + (i : Int))
noncomputable def Itr.rng (prog : Program) (w : World) (a b : Int) (hs : Builtin.Range.small a b 1 = true) (hz : Builtin.Range.rangeSize a b 1 = (b - a).toNat) : Itr prog w (.rng a b 1) (intsOf a b) where
  D := fun v i o => o = { cls := .type "range_iterator", dict := none, data := .fields #[rawInt (a + (i : Nat) * 1), rawInt (((b - a).toNat : Int) - (i : Nat)), rawInt 1], slots := #[] }
  opn := by
    intro A F ρ v s R hh hv hF hR
    cases hv with
    | rng r _ _ _ t u c h1 =>
      refine wpAny_pyIter_range (hF _ _ h1) hs (hR _ ?_ rfl)
      rw [hz]; simp
  wk := by
    intro A F ρ v I hh hv hI
    cases hv with
    | rng r _ _ _ t u c h1 =>
      have hl : (intsOf a b).length = (b - a).toNat := by simp [intsOf]
      rw [hl]
      refine ⟨[I], _, _, Walks.range hh I a 1 (b - a).toNat, fun b hb => .inl (by simpa using hb), fun i h o hk ho hD => by subst hD; exact ho, fun i h hs => ⟨_, hs, rfl⟩, fun i u hi ⟨t, e⟩ => ⟨.int (a + i), by simp [intsOf, hi], ?_⟩⟩
      subst e; rw [Int.mul_one]; exact .int _ _
  cls := fun v i o h => by subst h; exact ⟨_, _, rfl, rfl, rfl⟩
theorem Core.rekeep (C : Core prog w Γ K σ ps s F m cm fps) {I : Addr} {K' : Kp} {h' : Heap} (hF : F I = none) (hI : I ∉ Γ.hot σ.objs fps) (hold : Γ.sh.heap.get? I = none) (he : ∀ b o, b ≠ I → s.heap.get? b = some o → h'.get? b = some o)
    (hk : ∀ b o, K'.f b = some o → h'.get? b = some o) (hH : ∀ b o, K'.f b = some o → b ∉ Γ.hot σ.objs fps) (hx : ∀ b o, Γ.hX b = some o → K'.f b = some o) (hh : ∀ b ∈ K'.x, F b = none ∧ (∃ o, K'.f b = some o) ∧ Γ.sh.heap.get? b = none) (t : Nat) (ht : s.toks ≤ t := by tm_at "tk") :
    Core prog w Γ K' σ ps { s with heap := h', toks := t } F m cm fps := by
  have hne : ∀ b, b ∈ Γ.hot σ.objs fps → b ≠ I := fun b hb e => hI (e ▸ hb)
  exact { C with
    frz := fun b o e => he b o (fun q => by rw [q, hF] at e; cases e) (C.frz b o e)
    kept := hk
    keptH := hH
    hx := hx
    held := hh
    live := fun b hb => let ⟨o, e⟩ := C.live b hb; ⟨o, he b o (hne b hb) e⟩
    ns := C.ns.at' fun o e => he _ o (hne _ (.head _)) e
    cell := fun n c e => by
      obtain ⟨x, e', d⟩ := C.cell n c e
      exact ⟨x, he _ _ (hne _ (List.mem_cons_of_mem _ (List.mem_append_left _ (List.mem_map.mpr ⟨(n, c), mem_of_lookup e, rfl⟩)))) e', d⟩
    trk := fun k o ho => by
      obtain ⟨fp, hfp, hr⟩ := C.trk k o ho
      refine ⟨fp, hfp, hr.stab fun a ha => ?_⟩
      have hm := C.mem_hot ho hfp ha
      obtain ⟨o', e'⟩ := C.live a hm
      rw [e', he a o' (hne a hm) e']
    tok := Nat.le_trans C.tok ht
    same := by obtain ⟨h, tk, e⟩ := C.same; exact ⟨h', t, by rw [e]⟩
    ext := fun b o e => let ⟨o', e'⟩ := C.ext b o e; ⟨o', he b o' (fun q => by rw [q, hold] at e; cases e) e'⟩ }
noncomputable abbrev Kp.hold (K : Kp) (I : Addr) (o : Obj) : Kp := ⟨fun b => if b = I then some o else K.f b, I :: K.x⟩
theorem Rel.hold (h : Rel prog w Γ K σ ps s) {o : Obj} (ho : o.isFreed = false) : Rel prog w Γ (K.hold s.heap.objs.size o) σ ps { s with heap := s.heap.push o } ∧ K.f s.heap.objs.size = none ∧ Γ.hX s.heap.objs.size = none := by
  obtain ⟨F, m, cm, fps, C⟩ := h
  have hold : Γ.sh.heap.get? s.heap.objs.size = none := by
    cases q : Γ.sh.heap.get? s.heap.objs.size with
    | none => rfl
    | some o' => obtain ⟨o'', e'⟩ := C.ext _ o' q; rw [get?_size] at e'; cases e'
  refine ⟨⟨F, m, cm, fps, C.rekeep (I := s.heap.objs.size) (K' := K.hold s.heap.objs.size o) C.noneF C.notHot hold (fun b x _ e => Heap.get?_push_of_some _ e) (fun b x e => ?_) (fun b x e => ?_) (fun b x e => ?_) (fun b hb => ?_) s.toks⟩, C.noneK, by
    cases e : Γ.hX s.heap.objs.size with
    | none => rfl
    | some x => have := C.hx _ x e; rw [C.noneK] at this; cases this⟩
  · dsimp only at e; split at e
    · rename_i q; subst q; cases e; exact Heap.get?_push_size _ ho
    · exact Heap.get?_push_of_some _ (C.kept b x e)
  · dsimp only at e; split at e
    · rename_i q; subst q; exact C.notHot
    · exact C.keptH b x e
  · have := C.hx b x e
    dsimp only; split
    · rename_i q; subst q; rw [C.noneK] at this; cases this
    · exact this
  · rcases List.mem_cons.mp hb with q | q
    · subst q; exact ⟨C.noneF, ⟨o, if_pos rfl⟩, hold⟩
    · obtain ⟨h1, ⟨o', h2⟩, h3⟩ := C.held b q
      refine ⟨h1, ⟨o', ?_⟩, h3⟩
      dsimp only; rw [if_neg (fun q => by rw [q, C.noneK] at h2; cases h2)]; exact h2
theorem Rel.renew {I : Addr} {o o' : Obj} {h' : Heap} (h : Rel prog w Γ (K.hold I o) σ ps s) (hX : Γ.hX I = none) (he : ∀ b x, b ≠ I → s.heap.get? b = some x → h'.get? b = some x) (ho : h'.get? I = some o') (t : Nat) (ht : s.toks ≤ t := by tm_at "tk") :
    Rel prog w Γ (K.hold I o') σ ps { s with heap := h', toks := t } := by
  obtain ⟨F, m, cm, fps, C⟩ := h
  obtain ⟨h1, _, h3⟩ := C.held I (.head _)
  refine ⟨F, m, cm, fps, C.rekeep h1 (C.keptH I o (if_pos rfl)) h3 he (fun b x e => ?_) (fun b x e => ?_) (fun b x e => ?_) (fun b hb => ?_) t ht⟩
  · dsimp only at e; split at e
    · rename_i q; subst q; cases e; exact ho
    · rename_i q; exact he b x q (C.kept b x ((if_neg q).trans e))
  · dsimp only at e; split at e
    · rename_i q; subst q; exact C.keptH b o (if_pos rfl)
    · rename_i q; exact C.keptH b x ((if_neg q).trans e)
  · have := C.hx b x e
    dsimp only at this ⊢; split
    · rename_i q; subst q
      rw [hX] at e; cases e
    · rename_i q; rw [if_neg q] at this; exact this
  · obtain ⟨g1, ⟨o2, g2⟩, g3⟩ := C.held b hb
    refine ⟨g1, ?_, g3⟩
    dsimp only at g2 ⊢; split
    · exact ⟨_, rfl⟩
    · rename_i q; rw [if_neg q] at g2; exact ⟨o2, g2⟩
theorem Rel.letgo {I : Addr} {o : Obj} {h' : Heap} (h : Rel prog w Γ (K.hold I o) σ ps s) (hK : K.f I = none) (he : ∀ b x, b ≠ I → s.heap.get? b = some x → h'.get? b = some x) (hKx : ∀ b ∈ K.x, ∃ o, K.f b = some o) (hXK : ∀ b o, Γ.hX b = some o → K.f b = some o) (t : Nat) (ht : s.toks ≤ t := by tm_at "tk") :
    Rel prog w Γ K σ ps { s with heap := h', toks := t } := by
  obtain ⟨F, m, cm, fps, C⟩ := h
  obtain ⟨h1, _, h3⟩ := C.held I (.head _)
  have hne : ∀ b o, K.f b = some o → b ≠ I := fun b o e q => by rw [q, hK] at e; cases e
  refine ⟨F, m, cm, fps, C.rekeep h1 (C.keptH I o (if_pos rfl)) h3 he (fun b x e => he b x (hne b x e) (C.kept b x ((if_neg (hne b x e)).trans e))) (fun b x e => C.keptH b x ((if_neg (hne b x e)).trans e)) hXK (fun b hb => ?_) t ht⟩
  obtain ⟨g1, _, g3⟩ := C.held b (.tail _ hb)
  exact ⟨g1, hKx b hb, g3⟩
theorem Rel.kx (h : Rel prog w Γ K σ ps s) : (∀ b ∈ K.x, ∃ o, K.f b = some o) ∧ (∀ b o, Γ.hX b = some o → K.f b = some o) := let ⟨_, _, _, _, C⟩ := h; ⟨fun b hb => (C.held b hb).2.1, C.hx⟩
noncomputable def WPf (prog : Program) (w : World) (Γ : Cx) (tgt : Expr) (b : List Stmt) (QF : MF → St → Prop) : List MV → St → Prop
  | [], σ => QF .next σ
  | y :: ys, σ => WU1 prog w Γ σ y (assign tgt Γ.env) fun σ₁ => WPs prog w Γ σ₁ b (turn (WPf prog w Γ tgt b QF ys) QF)
theorem go_own {tgt : Expr} {A : Around} {E : Value → Shared → Prop} {I : Addr} {o : Obj} {v : Value} {R : Unit → Shared → Prop} (ho : s.heap.get? I = some o) (hc : ∃ T fs, o.cls = .type T ∧ o.data = .fields fs ∧ owners.contains T = false) (hR : R () s) :
    wpAny (model prog w) A (letOwnedTupleGo tgt (.ref I) v) R E s := by
  obtain ⟨T, fs, hc, hd, hT⟩ := hc
  have go : ∀ a, wpAny (model prog w) A (do
      let o ← load I
      match o.cls, o.data with
      | .type n, .fields vs =>
        if owners.contains n && vs[0]? == some (rawInt a) then
          rule "for.unpacks-the-owned-tuple"
          updateField I 0 .none
      | _, _ => pure () : Sem Unit) R E s := fun a => by
    refine wpAny_bind (wpAny_load ho ?_)
    rw [hc, hd]
    show wpAny _ A (if (owners.contains T && fs[0]? == some (rawInt a)) = true then _ else _) R E s
    rw [hT, Bool.false_and, if_neg (by simp)]
    exact wpAny_pure hR
  unfold letOwnedTupleGo
  split
  · cases v <;> first | exact wpAny_pure hR | exact go _
  · cases v <;> first | exact wpAny_pure hR | exact go _
  · exact wpAny_pure hR
theorem wx_for {tgt it : Expr} {b : List Stmt} {p : Pos} (h : WPe prog w Γ σ it fun x σ₁ => ∃ items, ∃ _ : Itr prog w x items, WPf prog w Γ tgt b QF items σ₁)
    (hs : ∀ env x, foldedSetIterable it env x = pure x) : WPx prog w Γ σ (.For tgt it b [] p) QF := by
  intro K ps s R r hR
  refine wpAny_For (h K ps s _ r fun x v σ₁ s₁ h₁ r₁ => ?_) (hs _)
  obtain ⟨items, T, h₁⟩ := h₁
  have hvr := r₁
  obtain ⟨F, m, cm, fps, C⟩ := hvr
  refine T.opn r₁.handled (C.ps _ (.head _)) C.frz fun o hD ho => ?_
  obtain ⟨r₂, hK, hX⟩ := r₁.hold ho
  obtain ⟨kx1, kx2⟩ := r.kx
  refine codeAny_forLoop_any (fun n s' => ∃ i ys σ' o', i ≤ items.length ∧ items.drop i = ys ∧ n = ys.length + 1 ∧ T.D v i o' ∧ WPf prog w Γ tgt b QF ys σ' ∧ Rel prog w Γ (K.hold s₁.heap.objs.size o') σ' ((x, v) :: ps) s') (fun n s' hI => ?_) (items.length + 1) ⟨0, items, σ₁, o, Nat.zero_le _, rfl, rfl, hD, h₁, r₂⟩
  obtain ⟨i, ys, σ', o', hil, hys, hn, hD', hw, r'⟩ := hI
  have r'' := r'
  obtain ⟨F', m', cm', fps', C'⟩ := r''
  have hFI : F' s₁.heap.objs.size = none := (C'.held _ (.head _)).1
  obtain ⟨fp, P, St, W, hfp, hst1, hst2, hP⟩ := T.wk (A := Γ.A) (I := s₁.heap.objs.size) r'.handled (C'.ps _ (.head _)) hFI
  have hIo : s'.heap.get? s₁.heap.objs.size = some o' := C'.kept _ _ (if_pos rfl)
  have hSt : St i s'.heap := hst1 i _ _ C'.frz hIo hD'
  cases ys with
  | nil =>
    have hi : i = items.length := Nat.le_antisymm hil (by simpa using hys)
    subst hi
    refine wpAny_with_toks (Nat.le_refl _) (W.done s' _ _ hSt fun h' tk hk ht => ?_)
    exact wpAny_execs_nil (hR .next .next σ' _ hw ⟨rfl, (r'.letgo hK (fun b x hb e => hk b x (by simpa using hb) e) kx1 kx2 tk ht).drop⟩)
  | cons y ys =>
    have hi : i < items.length := by
      rcases Nat.lt_or_ge i items.length with q | q
      · exact q
      · rw [List.drop_eq_nil_of_le q] at hys; cases hys
    refine wpAny_with_toks (Nat.le_refl _) (W.item i s' _ _ hi hSt fun u h' tk hPu hSt' hk ht => ?_)
    obtain ⟨y', hy, hyv⟩ := hP i u hi hPu
    have hyy : y' = y := by
      have := congrArg List.head? hys
      rw [List.head?_drop, hy] at this; simpa using this
    subst hyy
    obtain ⟨o'', ho'', hD''⟩ := hst2 _ _ hSt'
    have r₃ : Rel prog w Γ (K.hold s₁.heap.objs.size o'') σ' ((y', u) :: (x, v) :: ps) { s' with heap := h', toks := tk } :=
      Rel.renew ⟨F', m', cm', fps', C'.cons hyv⟩ hX (fun b x hb e => hk b x (by simpa using hb) e) ho'' tk ht
    refine go_own ho'' (T.cls _ _ _ hD'') (wpAny_mono (hw _ ((x, v) :: ps) u _ (fun (_ : Unit) s₂ => wpAny (model prog w) Γ.A (execs b Γ.env) _ (fun _ _ => False) s₂) r₃ fun σ₂ s₂ h₂ r₄ => ?_) (fun _ s₂ h₂ => wpAny_mono h₂ (fun _ _ q => q) fun _ _ q => q.elim) fun _ _ q => q.elim)
    refine h₂ _ _ s₂ _ r₄ fun mf f σ₃ s₃ h₃ r₅ => ?_
    cases mf with
    | next => obtain ⟨rfl, r₅⟩ := r₅; exact ⟨ys.length + 1, by rw [hn]; simp, i + 1, ys, σ₃, o'', hi, by rw [← List.tail_drop, hys]; rfl, rfl, hD'', h₃, r₅⟩
    | cont => obtain ⟨rfl, r₅⟩ := r₅; exact ⟨ys.length + 1, by rw [hn]; simp, i + 1, ys, σ₃, o'', hi, by rw [← List.tail_drop, hys]; rfl, rfl, hD'', h₃, r₅⟩
    | brk => obtain ⟨rfl, r₅⟩ := r₅; exact hR .next .next σ₃ s₃ h₃ ⟨rfl, (r₅.letgo (h' := s₃.heap) hK (fun b x hb e => e) kx1 kx2 s₃.toks).drop⟩
    | ret z =>
      obtain ⟨z', rfl, r₅⟩ := r₅
      refine hR (.ret z) _ σ₃ s₃ h₃ ⟨z', rfl, ?_⟩
      exact (r₅.letgo (h' := s₃.heap) hK (fun b x hb e => e) kx1 kx2 s₃.toks).perm fun p hp => by
        rcases List.mem_cons.mp hp with q | q
        · rw [q]; exact .head _
        · exact .tail _ (.tail _ q)
variable {prog : Program} {w : World} {Γ Γ' : Cx} {K K' : Kp} {σ σ' : St} {ps qs : List (MV × Value)} {s s' : Shared} {F F' : Frz} {m cm m' cm' : Str → Option Value} {fps fps' : List (List Addr)}
variable {Q : MV → St → Prop} {QB : Bool → St → Prop} {QF : MF → St → Prop} {QU : St → Prop} {QL : List MV → St → Prop}
theorem Rel.kp (h : Rel prog w Γ K σ ps s) (hf : ∀ b, K'.f b = K.f b) (hx : ∀ b ∈ K'.x, b ∈ K.x) : Rel prog w Γ K' σ ps s := by
  obtain ⟨F, m, cm, fps, C⟩ := h
  exact ⟨F, m, cm, fps, { C with
    kept := fun b o e => C.kept b o ((hf b).symm.trans e)
    keptH := fun b o e => C.keptH b o ((hf b).symm.trans e)
    hx := fun b o e => (hf b).trans (C.hx b o e)
    held := fun b hb => let ⟨h1, ⟨o, h2⟩, h3⟩ := C.held b (hx b hb); ⟨h1, ⟨o, (hf b).trans h2⟩, h3⟩ }⟩
noncomputable def hide : Option MO → Option MO
  | some (.ext e) => some (.ext e)
  | _ => none
noncomputable def mask (os : List (Option MO)) : List (Option MO) := os.map hide
theorem mask_get {os : List (Option MO)} {k : Nat} {o : MO} (h : (mask os)[k]? = some (some o)) : os[k]? = some (some o) ∧ ∃ e, o = .ext e := by
  unfold mask at h
  rw [List.getElem?_map] at h
  cases e : os[k]? with
  | none => rw [e] at h; cases h
  | some x =>
    rw [e] at h
    cases x with
    | none => cases h
    | some x => cases x with
      | lst xs => cases h
      | ext e => cases h; exact ⟨rfl, _, rfl⟩
theorem mask_sub : ∀ {os : List (Option MO)} {fps : List (List Addr)}, (alive (mask os) fps).Sublist (alive os fps)
  | [], fps => by cases fps <;> exact List.Sublist.refl _
  | x :: os, [] => by rw [alive_nil, alive_nil]; exact List.Sublist.refl _
  | none :: os, f :: fps => mask_sub (os := os) (fps := fps)
  | some (.lst xs) :: os, f :: fps => (mask_sub (os := os) (fps := fps)).trans (List.sublist_append_right _ _)
  | some (.ext e) :: os, f :: fps => List.Sublist.append (List.Sublist.refl _) (mask_sub (os := os) (fps := fps))
inductive Turned : List (Option MO) → List (Option MO) → Prop
  | nil : Turned [] []
  | same (o : Option MO) {os os' : List (Option MO)} (h : Turned os os') : Turned (o :: os) (o :: os')
  | ext (e e' : Ext) {os os' : List (Option MO)} (h : Turned os os') : Turned (some (.ext e) :: os) (some (.ext e') :: os')
theorem Turned.refl : ∀ os : List (Option MO), Turned os os
  | [] => .nil
  | o :: os => .same o (.refl os)
theorem Turned.len {os os' : List (Option MO)} (h : Turned os os') : os.length = os'.length := by
  induction h with
  | nil => rfl
  | same _ _ ih => simp [ih]
  | ext _ _ _ ih => simp [ih]
theorem Turned.alive {os os' : List (Option MO)} (h : Turned os os') : ∀ {fps : List (List Addr)}, alive os fps = alive os' fps := by
  induction h with
  | nil => intro fps; rfl
  | same o _ ih => intro fps; cases fps with
    | nil => rw [alive_nil, alive_nil]
    | cons f fps => cases o with
      | none => exact ih
      | some _ => exact congrArg (f ++ ·) ih
  | ext _ _ _ ih => intro fps; cases fps with
    | nil => rw [alive_nil, alive_nil]
    | cons f fps => exact congrArg (f ++ ·) ih
theorem Turned.get {os os' : List (Option MO)} (h : Turned os os') : ∀ {k : Nat} {o : MO}, os'[k]? = some (some o) → os[k]? = some (some o) ∨ (∃ e, o = .ext e) ∧ ∃ e', os[k]? = some (some (.ext e')) := by
  induction h with
  | nil => intro k o h; simp at h
  | same o _ ih => intro k o' h; cases k with
    | zero => exact .inl h
    | succ k => exact ih (by simpa using h)
  | ext e e' _ ih => intro k o' h; cases k with
    | zero => simp at h; exact .inr ⟨⟨e', h.symm⟩, e, rfl⟩
    | succ k => exact ih (by simpa using h)
theorem mask_of {os : List (Option MO)} {k : Nat} {e : Ext} (h : os[k]? = some (some (.ext e))) : (mask os)[k]? = some (some (.ext e)) := by
  unfold mask; rw [List.getElem?_map, h]; rfl
noncomputable abbrev inK (L : Addr) (os : List (Option MO)) (fps : List (List Addr)) (h : Heap) : Kp := ⟨fun b => if b = L ∨ b ∈ alive (mask os) fps then none else h.get? b, []⟩
theorem Core.inner (C : Core prog w Γ K σ ps s F m cm fps) {L : Addr} (hL : L ∈ K.x) {mL : Str → Option Value} (hns : s.heap.Ns L mL) (e1 : Γ'.env.locals = L) (e2 : Γ'.oc = []) (e3 : Γ'.sh = s) (e4 : Γ'.F0 = F) (e5 : Γ'.fps0 = fps) (e6 : Γ'.lo = s.toks) (hok : Γ'.Ok prog w)
    (hB : ∀ b o, Γ'.hB b = some o → F b = some o) (hX : ∀ b o, Γ'.hX b = some o → b ≠ L ∧ b ∉ alive (mask σ.objs) fps ∧ s.heap.get? b = some o) (hq : ∀ p ∈ qs, VR w F (rho fps) p.1 p.2) :
    Core prog w Γ' (inK L σ.objs fps s.heap) ⟨Γ'.names.map fun x => (x, .undef), mask σ.objs⟩ qs s F mL (fun _ => none) fps := by
  obtain ⟨hFL, ⟨oL, hKL⟩, hshL⟩ := C.held L hL
  have hLh := C.keptH L oL hKL
  have hLs := C.kept L oL hKL
  have hh : Γ'.hot (mask σ.objs) fps = L :: alive (mask σ.objs) fps := by unfold Cx.hot; rw [e1, e2]; rfl
  have hsubA : ∀ b, b ∈ alive (mask σ.objs) fps → b ∈ Γ.hot σ.objs fps := fun b hb => List.mem_cons_of_mem _ (List.mem_append_right _ (mask_sub.mem hb))
  have hno : ∀ b, b ∉ Γ.hot σ.objs fps → b ≠ L → b ∉ Γ'.hot (mask σ.objs) fps := fun b h1 h2 h3 => by
    rw [hh] at h3; rcases List.mem_cons.mp h3 with q | q
    · exact h2 q
    · exact h1 (hsubA b q)
  exact {
    ok := hok
    base := hB
    frz := C.frz
    frzH := fun b o e => hno b (C.frzH b o e) fun q => by rw [q, hFL] at e; cases e
    kept := fun b o e => by dsimp only at e; split at e; (· cases e); (· exact e)
    keptH := fun b o e hb => by
      rw [hh] at hb; dsimp only at e
      rw [if_pos (List.mem_cons.mp hb)] at e; cases e
    hx := fun b o e => by
      obtain ⟨h1, h2, h3⟩ := hX b o e
      dsimp only; rw [if_neg (fun q => q.elim h1 h2)]; exact h3
    held := fun b hb => nomatch hb
    hot := by
      rw [hh]
      obtain ⟨n1, n2⟩ := List.nodup_cons.mp C.hot
      exact List.nodup_cons.mpr ⟨fun h => hLh (hsubA L h), (List.nodup_append.mp n2).2.1.sublist mask_sub⟩
    live := fun b hb => by
      rw [hh] at hb; rcases List.mem_cons.mp hb with q | q
      · subst q; exact ⟨oL, hLs⟩
      · exact C.live b (hsubA b q)
    ns := by rw [e1]; exact hns
    cell := fun n c h => by rw [e2] at h; cases h
    keys := by rw [List.map_map]; exact List.map_id' _
    loc := fun x mv hx => by
      obtain ⟨y, _, e⟩ := List.mem_map.mp hx
      cases e; exact .inl rfl
    len := by rw [C.len]; simp [mask]
    pre := ⟨[], by rw [e5]; simp⟩
    trk := fun k o hk => C.trk k o (mask_get hk).1
    ps := hq
    tok := by rw [e6]; exact Nat.le_refl _
    same := ⟨s.heap, s.toks, by rw [e3]⟩
    lim := fun b o e => .inl (by rw [e4]; exact e)
    ext := fun b o e => ⟨o, by rw [e3] at e; exact e⟩
    ownL := fun k xs fp hk => by obtain ⟨_, e, h⟩ := mask_get hk; cases h }
theorem Turned.mask {os os' : List (Option MO)} (h : Turned os os') : Turned (mask os) (mask os') := by
  induction h with
  | nil => exact .nil
  | same o _ ih => exact .same _ ih
  | ext e e' _ ih => exact .ext e e' ih
theorem alive_inv {a : Addr} : ∀ {os : List (Option MO)} {fps : List (List Addr)}, a ∈ alive os fps → ∃ (j : Nat) (o : MO) (fp : List Addr), os[j]? = some (some o) ∧ fps[j]? = some fp ∧ a ∈ fp
  | [], fps, h => by rw [show alive [] fps = [] by cases fps <;> rfl] at h; cases h
  | x :: os, [], h => by rw [alive_nil] at h; cases h
  | none :: os, f :: fps, h => by
    obtain ⟨j, o, fp, h1, h2, h3⟩ := alive_inv (os := os) (fps := fps) h
    exact ⟨j + 1, o, fp, by simpa using h1, by simpa using h2, h3⟩
  | some x :: os, f :: fps, h => by
    rcases List.mem_append.mp h with h | h
    · exact ⟨0, x, f, rfl, rfl, h⟩
    · obtain ⟨j, o, fp, h1, h2, h3⟩ := alive_inv (os := os) (fps := fps) h
      exact ⟨j + 1, o, fp, by simpa using h1, by simpa using h2, h3⟩
theorem Core.back (C : Core prog w Γ K σ ps s F m cm fps) {L : Addr} (hL : L ∈ K.x) (hXL : Γ.hX L = none) (e1 : Γ'.env.locals = L) (e2 : Γ'.oc = []) (e3 : Γ'.sh = s) (e4 : Γ'.F0 = F) (e5 : Γ'.fps0 = fps) (e6 : Γ'.lo = s.toks) {objs : List (Option MO)} (ht : Turned σ.objs objs) (ho : σ'.objs = mask objs)
    (C' : Core prog w Γ' (inK L σ.objs fps s.heap) σ' qs s' F' m' cm' fps') :
    ∃ F'' oL, Core prog w Γ ⟨fun b => if b = L then some oL else K.f b, K.x⟩ ⟨σ.loc, objs⟩ ps s' F'' m cm fps ∧ s'.heap.Ns L m' ∧ s'.heap.get? L = some oL ∧ (∀ r u, (r, u) ∈ qs → Closed r → VR w F'' (rho fps) r u) := by
  obtain ⟨hFL, ⟨oL, hKL⟩, hshL⟩ := C.held L hL
  have hLh := C.keptH L oL hKL
  have hLs := C.kept L oL hKL
  have hmo : alive (mask objs) fps = alive (mask σ.objs) fps := ht.mask.alive.symm
  have hfps : fps' = fps := by
    obtain ⟨l, e⟩ := C'.pre
    have h1 := C'.len
    rw [ho] at h1
    have h2 : (mask objs).length = fps.length := by unfold mask; rw [List.length_map, ← ht.len, C.len]
    rw [h2, e, e5, List.length_append] at h1
    have : l = [] := List.length_eq_zero_iff.mp (by (first | exact o7 h1 | omega))
    rw [e, e5, this, List.append_nil]
  subst hfps
  have hhot' : Γ'.hot σ'.objs fps' = L :: alive (mask σ.objs) fps' := by unfold Cx.hot; rw [e1, e2, ho, hmo]; rfl
  have hsubA : ∀ b, b ∈ alive (mask σ.objs) fps' → b ∈ Γ.hot σ.objs fps' := fun b hb => List.mem_cons_of_mem _ (List.mem_append_right _ (mask_sub.mem hb))
  have hk : ∀ b o, b ≠ L → b ∉ alive (mask σ.objs) fps' → s.heap.get? b = some o → s'.heap.get? b = some o := fun b o h1 h2 e => C'.kept b o (by dsimp only; rw [if_neg (fun q => q.elim h1 h2)]; exact e)
  have hlive' : ∀ b o, s.heap.get? b = some o → ∃ o', s'.heap.get? b = some o' := fun b o e => by
    by_cases q : b ∈ Γ'.hot σ'.objs fps'
    · exact C'.live b q
    · rw [hhot', List.mem_cons, not_or] at q; exact ⟨o, hk b o q.1 q.2 e⟩
  have hFk : ∀ b o, F b = some o → s'.heap.get? b = some o := fun b o e => hk b o (fun q => by rw [q, hFL] at e; cases e) (fun q => C.frzH b o e (hsubA b q)) (C.frz b o e)
  have hKk : ∀ b o, b ≠ L → K.f b = some o → s'.heap.get? b = some o := fun b o h1 e => hk b o h1 (fun q => C.keptH b o e (hsubA b q)) (C.kept b o e)
  have hlim : ∀ b o, F' b = some o → F b = some o ∨ s.heap.get? b = none := fun b o e => by have := C'.lim b o e; rw [e3, e4] at this; exact this
  obtain ⟨oL', hLs'⟩ := hlive' L oL hLs
  have hhot : Γ.hot objs fps' = Γ.hot σ.objs fps' := by unfold Cx.hot; rw [ht.alive]
  let F'' : Frz := fun b => if (F b).isSome then F b else F' b
  have hS1 : Sub F F'' := fun b o e => by show (if (F b).isSome then F b else F' b) = _; rw [e]; rfl
  have hS2 : Sub F' F'' := fun b o e => by
    show (if (F b).isSome then F b else F' b) = _
    split
    · rename_i q
      obtain ⟨o', ho'⟩ := Option.isSome_iff_exists.mp q
      have h1 := hFk b o' ho'
      have h2 := C'.frz b o e
      rw [h1] at h2; cases h2; exact ho'
    · exact e
  have hF'' : ∀ b o, F'' b = some o → F b = some o ∨ (F' b = some o ∧ s.heap.get? b = none) := fun b o e => by
    have e : (if (F b).isSome then F b else F' b) = some o := e
    split at e
    · exact .inl e
    · rename_i q
      rcases hlim b o e with h | h
      · exact .inl h
      · exact .inr ⟨e, h⟩
  refine ⟨F'', oL', ?_, by rw [← e1]; exact C'.ns, hLs', fun r u hm hc => ?_⟩
  · exact {
      ok := C.ok
      base := fun b o e => hS1 b o (C.base b o e)
      frz := fun b o e => (hF'' b o e).elim (hFk b o) fun h => C'.frz b o h.1
      frzH := fun b o e hb => by
        rw [hhot] at hb
        rcases hF'' b o e with h | h
        · exact C.frzH b o h hb
        · obtain ⟨x, h'⟩ := C.live b hb; rw [h.2] at h'; cases h'
      kept := fun b o e => by
        dsimp only at e; split at e
        · rename_i q; subst q; cases e; exact hLs'
        · rename_i q; exact hKk b o q e
      keptH := fun b o e hb => by
        rw [hhot] at hb; dsimp only at e; split at e
        · rename_i q; subst q; exact hLh hb
        · exact C.keptH b o e hb
      hx := fun b o e => by
        dsimp only; rw [if_neg (fun q => by rw [q, hXL] at e; cases e)]; exact C.hx b o e
      held := fun b hb => by
        obtain ⟨h1, ⟨x, h2⟩, h3⟩ := C.held b hb
        refine ⟨?_, ?_, h3⟩
        · cases e : F'' b with
          | none => rfl
          | some x' =>
            rcases hF'' b x' e with h | h
            · rw [h1] at h; cases h
            · rw [C.kept b x h2] at h; cases h.2
        · dsimp only; split
          · exact ⟨_, rfl⟩
          · exact ⟨x, h2⟩
      hot := by rw [hhot]; exact C.hot
      live := fun b hb => by rw [hhot] at hb; obtain ⟨x, e⟩ := C.live b hb; exact hlive' b x e
      ns := by
        obtain ⟨n1, n2⟩ := List.nodup_cons.mp C.hot
        exact C.ns.at' fun o e => hk _ o (fun q => hLh (q ▸ .head _)) (fun q => n1 (List.mem_append_right _ (mask_sub.mem q))) e
      cell := fun n c h => by
        obtain ⟨x, e, d⟩ := C.cell n c h
        obtain ⟨n1, n2⟩ := List.nodup_cons.mp C.hot
        obtain ⟨n3, n4, n5⟩ := List.nodup_append.mp n2
        have hcm : c ∈ Γ.oc.map (·.2) := List.mem_map.mpr ⟨(n, c), mem_of_lookup h, rfl⟩
        exact ⟨x, hk _ _ (fun q => hLh (q ▸ List.mem_cons_of_mem _ (List.mem_append_left _ hcm))) (fun q => n5 c hcm c (mask_sub.mem q) rfl) e, d⟩
      keys := C.keys
      loc := fun x mv hx => (C.loc x mv hx).imp id fun ⟨v, h1, h2, h3⟩ => ⟨v, h1, h2, h3.mono hS1 fun _ _ e => e⟩
      len := by rw [← ht.len]; exact C.len
      pre := C.pre
      trk := fun k o hk' => by
        rcases ht.get hk' with h | ⟨⟨e, rfl⟩, e', h⟩
        · cases o with
          | lst xs =>
            obtain ⟨fp, hfp, hr⟩ := C.trk k _ h
            refine ⟨fp, hfp, (hr.mono hS1 fun _ _ e => e).stab fun a ha => ?_⟩
            obtain ⟨x, e⟩ := C.live a (C.mem_hot h hfp ha)
            rw [e]
            refine hk a x (fun q => hLh (q ▸ C.mem_hot h hfp ha)) (fun q => ?_) e
            obtain ⟨j, o', fp', h1, h2, h3⟩ := alive_inv q
            obtain ⟨h1, e1, rfl⟩ := mask_get h1
            obtain ⟨n1, n2⟩ := List.nodup_cons.mp C.hot
            refine alive_apart (List.nodup_append.mp n2).2.1 h hfp h1 h2 (fun q => ?_) a ha h3
            subst q; rw [h] at h1; cases h1
          | ext e =>
            obtain ⟨fp, hfp, hr⟩ := C'.trk k (.ext e) (by rw [ho]; exact mask_of hk')
            exact ⟨fp, hfp, hr.mono hS2 fun _ _ e => e⟩
        · obtain ⟨fp, hfp, hr⟩ := C'.trk k (.ext e) (by rw [ho]; exact mask_of hk')
          exact ⟨fp, hfp, hr.mono hS2 fun _ _ e => e⟩
      ps := fun p hp => (C.ps p hp).mono hS1 fun _ _ e => e
      tok := Nat.le_trans C.tok (e6 ▸ C'.tok)
      same := by
        obtain ⟨h, tk, e⟩ := C'.same
        obtain ⟨h₀, tk₀, e₀⟩ := C.same
        exact ⟨h, tk, by rw [e, e3]; rw [e₀]⟩
      lim := fun b o e => by
        rcases hF'' b o e with h | h
        · exact C.lim b o h
        · cases q : Γ.sh.heap.get? b with
          | none => exact .inr rfl
          | some x => obtain ⟨y, e'⟩ := C.ext b x q; rw [h.2] at e'; cases e'
      ext := fun b o e => let ⟨x, e'⟩ := C.ext b o e; hlive' b x e'
      ownL := fun k xs fp hk' => by
        rcases ht.get hk' with h | ⟨⟨e, h⟩, _⟩
        · exact C.ownL k xs fp h
        · cases h }
  · have h1 : VR w F' (rho fps') r u := C'.ps (r, u) hm
    exact ((hc w F' _ u h1).mono hS2 fun _ _ e => by cases e)
variable {prog : Program} {w : World} {Γ Γ' : Cx} {K K' : Kp} {σ σ' : St} {ps qs : List (MV × Value)} {s s' : Shared} {F F' : Frz} {m cm m' cm' : Str → Option Value} {fps fps' : List (List Addr)}
variable {Q : MV → St → Prop} {QB : Bool → St → Prop} {QF : MF → St → Prop} {QU : St → Prop} {QL : List MV → St → Prop}
theorem closure_go {env : Env} : ∀ (l : List (Str × NameKind)) (acc : List (Str × Addr)), (∀ n, (n, NameKind.free) ∈ l → ∃ c, env.cells.lookup n = some c) →
    ∃ cl, (forIn l acc fun (x : Str × NameKind) cs => (if x.2 == .free then do let c ← cellOf env x.1; pure (ForInStep.yield ((x.1, c) :: cs)) else pure (ForInStep.yield cs) : Sem (ForInStep (List (Str × Addr))))) = pure cl ∧
      (∀ n c, acc.lookup n = some c → env.cells.lookup n = some c → cl.lookup n = some c) ∧ ∀ n c, (n, NameKind.free) ∈ l → env.cells.lookup n = some c → cl.lookup n = some c
  | [], acc, _ => ⟨acc, rfl, fun _ _ h _ => h, fun _ _ h => nomatch h⟩
  | (x, k) :: l, acc, h => by
    by_cases hk : k = .free
    · subst hk
      obtain ⟨c, hc⟩ := h x (.head _)
      obtain ⟨cl, e, h1, h2⟩ := closure_go l ((x, c) :: acc) fun n hn => h n (.tail _ hn)
      refine ⟨cl, ?_, fun n d hn hd => ?_, fun n d hn hd => ?_⟩
      · rw [List.forIn_cons]
        simp only [beq_self_eq_true, if_true, cellOf, hc, pure_bind]
        exact e
      · refine h1 n d ?_ hd
        rw [List.lookup_cons]
        by_cases q : n = x
        · subst q; rw [hc] at hd; cases hd; simp
        · rw [show (n == x) = false by simpa using q]; exact hn
      · rcases List.mem_cons.mp hn with q | q
        · cases q; rw [hc] at hd; cases hd; exact h1 _ _ (by simp) hc
        · exact h2 n d q hd
    · obtain ⟨cl, e, h1, h2⟩ := closure_go l acc fun n hn => h n (.tail _ hn)
      have hb : (k == NameKind.free) = false := by simpa using hk
      refine ⟨cl, ?_, h1, fun n d hn hd => ?_⟩
      · rw [List.forIn_cons]
        simp only [hb, Bool.false_eq_true, if_false, pure_bind]
        exact e
      · rcases List.mem_cons.mp hn with q | q
        · cases q; exact absurd rfl hk
        · exact h2 n d q hd
theorem closure_some {scope : Scope} {env : Env} (h : ∀ n, (n, NameKind.free) ∈ scope.names → ∃ c, env.cells.lookup n = some c) :
    ∃ cl, closureFor scope env = pure cl ∧ ∀ n c, (n, NameKind.free) ∈ scope.names → env.cells.lookup n = some c → cl.lookup n = some c := by
  obtain ⟨cl, e, _, h2⟩ := closure_go (env := env) scope.names [] h
  refine ⟨cl, ?_, h2⟩
  unfold closureFor
  have : (forIn scope.names ([] : List (Str × Addr)) fun (x : Str × NameKind) cs => (do
      let (name, kind) := x
      let mut cs := cs
      if kind == .free then cs := (name, ← cellOf env name) :: cs
      pure (ForInStep.yield cs) : Sem (ForInStep (List (Str × Addr))))) = pure cl := by
    exact e
  exact (congrArg (· >>= pure) this).trans (pure_bind ..)
noncomputable abbrev Kp.h3 (K : Kp) (I : Addr) (oI : Obj) (D : Addr) (oD : Obj) (L : Addr) (oL : Obj) : Kp := ((K.hold I oI).hold D oD).hold L oL
section
variable {I D L : Addr} {oI oD oL o' : Obj} {h' : Heap}
theorem Rel.renewI (h : Rel prog w Γ (K.h3 I oI D oD L oL) σ ps s) (hID : I ≠ D) (hIL : I ≠ L) (hX : Γ.hX I = none) (he : ∀ b x, b ≠ I → s.heap.get? b = some x → h'.get? b = some x) (ho : h'.get? I = some o') (t : Nat) (ht : s.toks ≤ t := by tm_at "tk") :
    Rel prog w Γ (K.h3 I o' D oD L oL) σ ps { s with heap := h', toks := t } := by
  have h1 : Rel prog w Γ (((K.hold D oD).hold L oL).hold I oI) σ ps s := h.kp (fun b => by
    dsimp only
    by_cases q : b = I
    · subst q; rw [if_pos rfl, if_neg hIL, if_neg hID, if_pos rfl]
    · rw [if_neg q, if_neg q]) (fun b hb => by simp only [List.mem_cons] at hb ⊢; rcases hb with q | q | q | q <;> simp [q])
  exact (h1.renew hX he ho t ht).kp (fun b => by
    dsimp only
    by_cases q : b = I
    · subst q; rw [if_pos rfl, if_neg hIL, if_neg hID, if_pos rfl]
    · rw [if_neg q, if_neg q]) (fun b hb => by simp only [List.mem_cons] at hb ⊢; rcases hb with q | q | q | q <;> simp [q])
theorem Rel.renewD (h : Rel prog w Γ (K.h3 I oI D oD L oL) σ ps s) (hDL : D ≠ L) (hX : Γ.hX D = none) (he : ∀ b x, b ≠ D → s.heap.get? b = some x → h'.get? b = some x) (ho : h'.get? D = some o') (t : Nat) (ht : s.toks ≤ t := by tm_at "tk") :
    Rel prog w Γ (K.h3 I oI D o' L oL) σ ps { s with heap := h', toks := t } := by
  have h1 : Rel prog w Γ (((K.hold I oI).hold L oL).hold D oD) σ ps s := h.kp (fun b => by
    dsimp only
    by_cases q : b = D
    · subst q; rw [if_pos rfl, if_neg hDL, if_pos rfl]
    · rw [if_neg q, if_neg q]) (fun b hb => by simp only [List.mem_cons] at hb ⊢; rcases hb with q | q | q | q <;> simp [q])
  exact (h1.renew hX he ho t ht).kp (fun b => by
    dsimp only
    by_cases q : b = D
    · subst q; rw [if_pos rfl, if_neg hDL, if_pos rfl]
    · rw [if_neg q, if_neg q]) (fun b hb => by simp only [List.mem_cons] at hb ⊢; rcases hb with q | q | q | q <;> simp [q])
theorem Rel.freezeAny {x : MV} (h : Rel prog w Γ (K.hold D oD) σ (qs ++ ps) s) (hD : K.f D = none) (hKx : ∀ b ∈ K.x, ∃ o, K.f b = some o) (hXK : ∀ b o, Γ.hX b = some o → K.f b = some o)
    (hv : ∀ (F' : Frz) (ρ : Nat → Option Addr), F' D = some oD → (∀ p ∈ qs, VR w F' ρ p.1 p.2) → VR w F' ρ x (.ref D)) : Rel prog w Γ K σ ((x, .ref D) :: ps) s := by
  obtain ⟨F, m, cm, fps, C⟩ := h
  obtain ⟨h1, _, h3⟩ := C.held D (.head _)
  have hDh := C.keptH D _ (if_pos rfl)
  have hDs := C.kept D _ (if_pos rfl)
  have hS := Frz.put_sub (o := oD) h1
  have hne : ∀ b o, K.f b = some o → b ≠ D := fun b o e q => by rw [q, hD] at e; cases e
  refine ⟨F.put D oD, m, cm, fps, Core.cons (x := x) (v := .ref D) { C with
    base := fun b o e => hS b o (C.base b o e)
    frz := fun b o e => by
      unfold Frz.put at e; split at e
      · rename_i q; subst q; cases e; exact hDs
      · exact C.frz b o e
    frzH := fun b o e => by
      unfold Frz.put at e; split at e
      · rename_i q; subst q; exact hDh
      · exact C.frzH b o e
    kept := fun b o e => C.kept b o ((if_neg (hne b o e)).trans e)
    keptH := fun b o e => C.keptH b o ((if_neg (hne b o e)).trans e)
    hx := hXK
    held := fun b hb => by
      obtain ⟨g1, _, g3⟩ := C.held b (.tail _ hb)
      refine ⟨?_, hKx b hb, g3⟩
      obtain ⟨o, e⟩ := hKx b hb
      unfold Frz.put; rw [if_neg (hne b o e)]; exact g1
    loc := fun x mv hx => (C.loc x mv hx).imp id fun ⟨v, a, b, c⟩ => ⟨v, a, b, c.mono hS fun _ _ e => e⟩
    trk := fun k o hk => let ⟨fp, a, b⟩ := C.trk k o hk; ⟨fp, a, b.mono hS fun _ _ e => e⟩
    ps := fun p hp => (C.ps p (List.mem_append_right _ hp)).mono hS fun _ _ e => e
    lim := fun b o e => by
      unfold Frz.put at e; split at e
      · rename_i q; subst q; exact .inr h3
      · exact C.lim b o e } (hv _ _ Frz.put_self fun p hp => (C.ps p (List.mem_append_left _ hp)).mono hS fun _ _ e => e)⟩
theorem zip_vrs {ρ : Nat → Option Addr} {xs : List MV} {vs : List Value} (hl : vs.length = xs.length) (h : ∀ p ∈ xs.zip vs, VR w F ρ p.1 p.2) : VRs w F ρ xs vs :=
  ⟨hl, fun i x v hx hv => h (x, v) (List.mem_iff_getElem?.mpr ⟨i, List.getElem?_zip_eq_some.mpr ⟨hx, hv⟩⟩)⟩
theorem Rel.freezeD {xs : List MV} {vs : List Value} {n : Nat} (h : Rel prog w Γ ((K.hold I oI).hold D (listO vs n)) σ (xs.zip vs ++ ps) s) (hl : vs.length = xs.length) (hD : (K.hold I oI).f D = none) (hKx : ∀ b ∈ (K.hold I oI).x, ∃ o, (K.hold I oI).f b = some o) (hXK : ∀ b o, Γ.hX b = some o → (K.hold I oI).f b = some o) :
    Rel prog w Γ (K.hold I oI) σ ((.list xs, .ref D) :: ps) s :=
  Rel.freezeAny h hD hKx hXK fun F' ρ hF hz => let hz' := zip_vrs hl hz; .list D xs vs n hF hz'.1 hz'.2
end
structure CompSc (scope sc' : Scope) (names cs : List Str) : Prop where
  kind : scope.kind = .function
  nocell : ∀ y ∈ scope.names, y.2 ≠ .cell
  loc : ∀ y ∈ scope.names, y.2 = .local → scope.names.lookup y.1 = some .local
  nodup : names.Nodup
  inner : ∀ x ∈ names, (x == ("__debug__" : Str)) = false ∧ scope.names.lookup x = some .local
  free : ∀ y ∈ scope.names, y.2 = .free → y.1 ∈ cs
  cell : ∀ x ∈ cs, (x == ("__debug__" : Str)) = false ∧ sc'.names.lookup x = some .cell ∧ (x, NameKind.free) ∈ scope.names
noncomputable def ifsTree (ifs : List Expr) (env : Env) : Sem Bool := forIn ifs true fun c r => if r = true then do let ok ← isTrue c env (eval c env); pure (ForInStep.yield ok) else pure (ForInStep.yield r)
noncomputable def WPi (prog : Program) (w : World) (Γ : Cx) (σ : St) (ifs : List Expr) (Q : Bool → St → Prop) : Prop :=
  ∀ (K : Kp) (ps : List (MV × Value)) (s : Shared) (R : Bool → Shared → Prop), Rel prog w Γ K σ ps s → (∀ b σ' s', Q b σ' → Rel prog w Γ K σ' ps s' → R b s') → wpAny (model prog w) Γ.A (ifsTree ifs Γ.env) R (fun _ _ => False) s
theorem wi_nil (h : QB true σ) : WPi prog w Γ σ [] QB := fun _ _ s _ r hR => wpAny_pure (hR _ _ s h r)
theorem wi_one {c : Expr} (h : WPt prog w Γ σ c QB) : WPi prog w Γ σ [c] QB := by
  intro K ps s R r hR
  unfold ifsTree
  rw [List.forIn_cons]
  refine wpAny_bind ?_
  rw [if_pos rfl]
  refine wpAny_bind (h K ps s _ r fun b σ' s' q r' => wpAny_pure ?_)
  exact wpAny_pure (hR b σ' s' q r')
noncomputable def WPcomp (prog : Program) (w : World) (P : Cx → Prop) (tgt : Expr) (ifs : List Expr) (elt : Expr) (names : List Str) (Qc : List MV → List (Option MO) → Prop) : List MV → List MV → List (Option MO) → Prop
  | [], acc, objs => Qc acc objs
  | y :: ys, acc, objs => ∀ Γ', P Γ' → WU1 prog w Γ' ⟨names.map fun x => (x, .undef), mask objs⟩ y (assign tgt Γ'.env) fun σ' => WPi prog w Γ' σ' ifs fun b σ'' =>
      (b = true → WPe prog w Γ' σ'' elt fun r σ₃ => Closed r ∧ ∃ objs₁, Turned objs objs₁ ∧ σ₃.objs = mask objs₁ ∧ WPcomp prog w P tgt ifs elt names Qc ys (acc ++ [r]) objs₁) ∧
      (b = false → ∃ objs₁, Turned objs objs₁ ∧ σ''.objs = mask objs₁ ∧ WPcomp prog w P tgt ifs elt names Qc ys acc objs₁)
noncomputable abbrev compΓ (Γ : Cx) (scope : Scope) (cl : List (Str × Addr)) (L : Addr) (s : Shared) (F : Frz) (fps : List (List Addr)) (glob : List (Str × MV)) (names : List Str) : Cx :=
  { env := compEnvC scope cl L Γ.env, oc := [], A := Γ.A, hB := F, hX := fun b => if b ∈ Γ.oc.map (·.2) then s.heap.get? b else Γ.hX b, glob := glob, names := names, sh := s, F0 := F, fps0 := fps, lo := s.toks }
theorem comp_ok {hB : Heap} {ℓ : Nat} {sc sc' : Scope} {gl cells globs : List (Str × MV)} {scope : Scope} {names : List Str} {cl : List (Str × Addr)} {L : Addr} (hΓ : Γof sc Γ hB ℓ gl) (hre : relabel scope Γ.env = sc') (S : CompSc scope sc' names (cells.map (·.1)))
    (hglob : GlobOk prog w sc' hB globs) (C : Core prog w Γ K σ ps s F m cm fps) (hc : ∀ p ∈ cells, p ∈ σ.loc ∧ p.2.ok = true ∧ Closed p.2 ∧ Γ.env.kindOf p.1 = some .cell) (hcl : ∀ n c, (n, NameKind.free) ∈ scope.names → Γ.env.cells.lookup n = some c → cl.lookup n = some c) :
    (compΓ Γ scope cl L s F fps (cells ++ globs) names).Ok prog w ∧ Γof sc' (compΓ Γ scope cl L s F fps (cells ++ globs) names) hB ℓ (cells ++ globs) := by
  obtain ⟨g1, g2, g3, g4, g5, g6, g7⟩ := hΓ
  refine ⟨?_, hre, fun b o e => C.base b o (g2 b o e), rfl, g4, g5, g6, g7⟩
  exact {
    kind := S.kind
    nodup := S.nodup
    kinds := fun x hx => ⟨(S.inner x hx).1, .inl (lookup_relabel_local (S.inner x hx).2)⟩
    ocs := fun n c e => by cases e
    glob := fun x mv hx => by
      rcases List.mem_append.mp hx with hx | hx
      · obtain ⟨h1, h2, h3, h4⟩ := hc _ hx
        obtain ⟨d1, d2, d3⟩ := S.cell x (List.mem_map.mpr ⟨_, hx, rfl⟩)
        obtain ⟨v, _, hv, hr⟩ := (C.loc x mv h1).resolve_left (MV.ne h2)
        obtain ⟨_, hk⟩ := C.ok.kinds x (C.keys ▸ List.mem_map.mpr ⟨_, h1, rfl⟩)
        rcases hk with hk | ⟨hk, c, hoc⟩
        · rw [h4] at hk; cases hk
        · have hcc := C.cell x c hoc
          rw [hv h4] at hcc
          refine ⟨v, h3 w F _ v hr, fun A E s' Q p hB' hX' hQ => ?_⟩
          have hlk : (compΓ Γ scope cl L s F fps (cells ++ globs) names).env.cells.lookup x = some c := hcl x c d3 (C.ok.ocs _ _ hoc)
          have hkd : (compΓ Γ scope cl L s F fps (cells ++ globs) names).env.kindOf x = some .cell := by
            show (relabel scope Γ.env).names.lookup x = _
            rw [hre]; exact d2
          obtain ⟨o, ho, hd⟩ := hcc
          refine wpAny_Name (wpAny_loadName_cell (by exact S.kind) hkd hlk ⟨o, hX' c o ?_, hd⟩ hQ) d1
          show (if c ∈ Γ.oc.map (·.2) then s.heap.get? c else Γ.hX c) = _
          rw [if_pos (List.mem_map.mpr ⟨(x, c), mem_of_lookup hoc, rfl⟩)]; exact ho
      · obtain ⟨v, h1, h2⟩ := hglob x mv hx
        exact ⟨v, h1.mono (fun b o e => C.base b o (g2 b o e)) fun _ _ e => e, fun A E s' Q p hB' _ hQ => h2 _ A E s' Q p hre g6 g7 (fun b o e => hB' b o (C.base b o (g2 b o e))) hQ⟩
    room := C.ok.room
    units := C.ok.units
    handled := C.ok.handled
    lo1 := Nat.le_trans C.ok.lo1 C.tok }
variable {prog : Program} {w : World} {Γ Γ' : Cx} {K K' : Kp} {σ σ' : St} {ps qs : List (MV × Value)} {s s' : Shared} {F F' : Frz} {m cm m' cm' : Str → Option Value} {fps fps' : List (List Addr)}
variable {Q : MV → St → Prop} {QB : Bool → St → Prop} {QF : MF → St → Prop} {QU : St → Prop} {QL : List MV → St → Prop}
section
variable {I D L : Addr} {oI oD oL : Obj}
theorem Turned.trans {a b c : List (Option MO)} (h : Turned a b) : Turned b c → Turned a c := by
  induction h generalizing c with
  | nil => exact fun h => h
  | same o _ ih => intro h; cases h with
    | same _ h => exact .same _ (ih h)
    | ext e e' h => exact .ext _ _ (ih h)
  | ext e e' _ ih => intro h; cases h with
    | same _ h => exact .ext _ _ (ih h)
    | ext _ e'' h => exact .ext _ _ (ih h)
theorem Rel.within {hB : Heap} {ℓ : Nat} {sc sc' : Scope} {gl cells globs : List (Str × MV)} {scope : Scope} {names : List Str} {cl : List (Str × Addr)} (hΓ : Γof sc Γ hB ℓ gl) (hre : relabel scope Γ.env = sc') (S : CompSc scope sc' names (cells.map (·.1)))
    (hglob : GlobOk prog w sc' hB globs) (hc : ∀ p ∈ cells, p ∈ σ.loc ∧ p.2.ok = true ∧ Closed p.2 ∧ Γ.env.kindOf p.1 = some .cell) (hcl : ∀ n c, (n, NameKind.free) ∈ scope.names → Γ.env.cells.lookup n = some c → cl.lookup n = some c)
    (h : Rel prog w Γ (K.hold L oL) σ ps s) (hXL : Γ.hX L = none) {mL : Str → Option Value} (hns : s.heap.Ns L mL) {y : MV} {v : Value} (hy : (y, v) ∈ ps) :
    ∃ Γ' K', Γof sc' Γ' hB ℓ (cells ++ globs) ∧ Γ'.A = Γ.A ∧ Γ'.env = compEnvC scope cl L Γ.env ∧ Rel prog w Γ' K' ⟨names.map fun x => (x, .undef), mask σ.objs⟩ [(y, v)] s ∧
      ∀ (σ' : St) qs s' objs, σ'.objs = mask objs → Turned σ.objs objs → (∀ p ∈ qs, Closed p.1) → Rel prog w Γ' K' σ' qs s' → ∃ oL' mL', s'.heap.Ns L mL' ∧ Rel prog w Γ (K.hold L oL') ⟨σ.loc, objs⟩ (qs ++ ps) s' ∧ s'.heap.get? L = some oL' := by
  obtain ⟨F, m, cm, fps, C⟩ := h
  obtain ⟨ok, hΓ'⟩ := comp_ok (L := L) (s := s) hΓ hre S hglob C hc hcl
  have hap : ∀ c, c ∈ Γ.oc.map (·.2) → c ∉ alive (mask σ.objs) fps := fun c hc hm => by
    obtain ⟨n1, n2⟩ := List.nodup_cons.mp C.hot
    exact (List.nodup_append.mp n2).2.2 c hc c (mask_sub.mem hm) rfl
  have hLh := C.keptH L oL (if_pos rfl)
  have C₁ := C.inner (Γ' := compΓ Γ scope cl L s F fps (cells ++ globs) names) (L := L) (.head _) hns rfl rfl rfl rfl rfl rfl ok (fun b o e => e) (fun b o e => by
    have e : (if b ∈ Γ.oc.map (·.2) then s.heap.get? b else Γ.hX b) = some o := e
    split at e
    · rename_i q
      exact ⟨fun q' => hLh (q' ▸ List.mem_cons_of_mem _ (List.mem_append_left _ q)), hap b q, e⟩
    · have hk := C.hx b o e
      exact ⟨fun q' => (by rw [q', hXL] at e; cases e), fun hm => C.keptH b o hk (List.mem_cons_of_mem _ (List.mem_append_right _ (mask_sub.mem hm))), C.kept b o hk⟩) (qs := [(y, v)]) (fun p hp => C.ps p (by simp at hp; rw [hp]; exact hy))
  refine ⟨_, _, hΓ', rfl, rfl, ⟨F, mL, _, fps, C₁⟩, fun σ' qs s' objs ho ht hq hr => ?_⟩
  obtain ⟨F', m', cm', fps', C'⟩ := hr
  obtain ⟨F'', oL', C'', h1, h2, h3⟩ := C.back (L := L) (.head _) hXL (Γ' := compΓ Γ scope cl L s F fps (cells ++ globs) names) rfl rfl rfl rfl rfl rfl ht ho C'
  have C₃ : Core prog w Γ ⟨fun b => if b = L then some oL' else K.f b, L :: K.x⟩ ⟨σ.loc, objs⟩ ps s' F'' m cm fps := by
    have : (fun b => if b = L then some oL' else (K.hold L oL).f b) = fun b => if b = L then some oL' else K.f b := by
      funext b; split
      · rfl
      · rename_i q; exact if_neg q
    rw [this] at C''; exact C''
  refine ⟨oL', m', h1, ⟨F'', m, cm, fps, C₃.setps fun p hp => ?_⟩, h2⟩
  rcases List.mem_append.mp hp with hp | hp
  · exact h3 p.1 p.2 hp (hq p hp)
  · exact C₃.ps p hp
end
theorem Rel.outI {I D L : Addr} {oI oL : Obj} {x : MV} {v : Value} {acc : List MV} {vs : List Value} {nD : Nat} {h' : Heap} (hID : I ≠ D) (hIL : I ≠ L) (hDL : D ≠ L) (hKI : K.f I = none) (hDK : K.f D = none) (hKL : K.f L = none) (hXD : Γ.hX D = none) (hXL : Γ.hX L = none)
    (kx : (∀ b ∈ K.x, ∃ o, K.f b = some o) ∧ (∀ b o, Γ.hX b = some o → K.f b = some o)) (hvl : vs.length = acc.length) (r : Rel prog w Γ (K.h3 I oI D (listO vs nD) L oL) σ (acc.zip vs ++ (x, v) :: ps) s)
    (hk : ∀ b x, b ≠ I → s.heap.get? b = some x → h'.get? b = some x) (tk : Nat) (ht : s.toks ≤ tk) : Rel prog w Γ (K.hold L oL) σ ((.list acc, .ref D) :: ps) { s with heap := h', toks := tk } := by
  have hKLn : ∀ {b o}, K.f b = some o → ¬ b = L := fun e q => by rw [q, hKL] at e; cases e
  have hKDn : ∀ {b o}, K.f b = some o → ¬ b = D := fun e q => by rw [q, hDK] at e; cases e
  have hx : ∀ {b o}, Γ.hX b = some o → ¬ b = L ∧ ¬ b = D := fun e => ⟨hKLn (kx.2 _ _ e), hKDn (kx.2 _ _ e)⟩
  have r₅ : Rel prog w Γ (((K.hold D (listO vs nD)).hold L oL).hold I oI) σ (acc.zip vs ++ (x, v) :: ps) s := r.kp (fun b => by
    dsimp only
    by_cases q : b = I
    · rw [if_pos q, q, if_neg hIL, if_neg hID, if_pos rfl]
    · rw [if_neg q, if_neg q]) (fun b hb => by simp only [List.mem_cons] at hb ⊢; rcases hb with q | q | q | q <;> simp [q])
  have r₆ := r₅.letgo (h' := h') ((if_neg hIL).trans ((if_neg hID).trans hKI)) hk (fun b hb => by
    rcases List.mem_cons.mp hb with q | q
    · exact ⟨_, if_pos q⟩
    · rcases List.mem_cons.mp q with q | q
      · exact ⟨_, (if_neg (q ▸ hDL)).trans (if_pos q)⟩
      · obtain ⟨o, e⟩ := kx.1 b q
        exact ⟨o, (if_neg (hKLn e)).trans ((if_neg (hKDn e)).trans e)⟩) (fun b o e => (if_neg (hx e).1).trans ((if_neg (hx e).2).trans (kx.2 b o e))) tk ht
  have r₇ : Rel prog w Γ ((K.hold L oL).hold D (listO vs nD)) σ (acc.zip vs ++ (x, v) :: ps) { s with heap := h', toks := tk } := r₆.kp (fun b => by
    dsimp only
    by_cases q : b = D
    · rw [if_pos q, q, if_neg hDL, if_pos rfl]
    · rw [if_neg q, if_neg q]) (fun b hb => by simp only [List.mem_cons] at hb ⊢; rcases hb with q | q | q <;> simp [q])
  refine (r₇.freezeD hvl ((if_neg hDL).trans hDK) (fun b hb => ?_) (fun b o e => (if_neg (hx e).1).trans (kx.2 b o e))).perm fun p hp => ?_
  · rcases List.mem_cons.mp hb with q | q
    · exact ⟨_, if_pos q⟩
    · obtain ⟨o, e⟩ := kx.1 b q
      exact ⟨o, (if_neg (hKLn e)).trans e⟩
  · rcases List.mem_cons.mp hp with q | q
    · rw [q]; exact .head _
    · exact .tail _ (.tail _ q)
inductive CompInv (prog : Program) (w : World) (Γ : Cx) (K : Kp) (σ : St) (ps : List (MV × Value)) (I D L : Addr) {x : MV} {items : List MV} (T : Itr prog w x items) (v : Value) (WP : List MV → List MV → List (Option MO) → Prop) : Nat → Shared → Prop
  | mk {s' : Shared} (i : Nat) (ys acc : List MV) (vs : List Value) (objs : List (Option MO)) (nD : Nat) (oI' oL' : Obj) (mL' : Str → Option Value) (hil : i ≤ items.length) (hys : items.drop i = ys) (hai : acc.length ≤ i) (hvl : vs.length = acc.length)
      (hD : T.D v i oI') (htu : Turned σ.objs objs) (hw : WP ys acc objs) (r : Rel prog w Γ (K.h3 I oI' D (listO vs nD) L oL') ⟨σ.loc, objs⟩ (acc.zip vs ++ (x, v) :: ps) s') (hns : s'.heap.Ns L mL') : CompInv prog w Γ K σ ps I D L T v WP (ys.length + 1) s'
theorem comp_step {elt : Expr} {tn : Str} {tp : Pos} {ifs : List Expr} {scope : Scope} {hB : Heap} {ℓ : Nat} {sc sc' : Scope} {gl cells globs : List (Str × MV)} {names : List Str} {cl : List (Str × Addr)}
    (hΓ : Γof sc Γ hB ℓ gl) (hre : relabel scope Γ.env = sc') (S : CompSc scope sc' names (cells.map (·.1))) (hglob : GlobOk prog w sc' hB globs)
    (hc : ∀ p ∈ cells, p ∈ σ.loc ∧ p.2.ok = true ∧ Closed p.2 ∧ Γ.env.kindOf p.1 = some .cell) (hcl : ∀ n c, (n, NameKind.free) ∈ scope.names → Γ.env.cells.lookup n = some c → cl.lookup n = some c)
    {x y : MV} {v u : Value} {items ys acc : List MV} {vs : List Value} {objs : List (Option MO)} (T : Itr prog w x items) (hz : items.length ≤ sizeLine) {Qc : List MV → List (Option MO) → Prop} {NX : Shared → Prop}
    {I D L : Addr} {oI oL : Obj} {mL : Str → Option Value} {i nD : Nat} (hID : I ≠ D) (hDL : D ≠ L) (hXD : Γ.hX D = none) (hXL : Γ.hX L = none) (hi : i < items.length) (hys : items.drop i = y :: ys) (hai : acc.length ≤ i) (hvl : vs.length = acc.length) (hD : T.D v (i + 1) oI) (htu : Turned σ.objs objs)
    (hw : WPcomp prog w (fun Γ' => Γof sc' Γ' hB ℓ (cells ++ globs)) (.Name tn tp) ifs elt names Qc (y :: ys) acc objs)
    (hN : ∀ s₅, CompInv prog w Γ K σ ps I D L T v (WPcomp prog w (fun Γ' => Γof sc' Γ' hB ℓ (cells ++ globs)) (.Name tn tp) ifs elt names Qc) (ys.length + 1) s₅ → NX s₅)
    {s' : Shared} (r : Rel prog w Γ (K.h3 I oI D (listO vs nD) L oL) ⟨σ.loc, objs⟩ ((y, u) :: (acc.zip vs ++ (x, v) :: ps)) s') (hns : s'.heap.Ns L mL) :
    wpAny (model prog w) Γ.A (assign (.Name tn tp) (compEnvC scope cl L Γ.env) u) (fun _ s₂ => wpAny (model prog w) Γ.A (ifsTree ifs (compEnvC scope cl L Γ.env)) (fun ok s₃ => if ok = true then wpAny (model prog w) Γ.A (eval elt (compEnvC scope cl L Γ.env)) (fun z s₄ =>
        wpAny (model prog w) Γ.A (call (.builtin "list.append") [.ref D, z]) (fun _ s₅ => NX s₅) (fun _ _ => False) s₄) (fun _ _ => False) s₃ else NX s₃) (fun _ _ => False) s₂) (fun _ _ => False) s' := by
  obtain ⟨Γ', K', hΓ', hA, hE, rin, back⟩ := Rel.within (L := L) (K := (K.hold I oI).hold D (listO vs nD)) hΓ hre S hglob (σ := ⟨σ.loc, objs⟩) hc hcl r hXL hns (y := y) (v := u) (.head _)
  rw [← hA, ← hE]
  refine hw Γ' hΓ' K' [] u _ (fun (_ : Unit) s₂ => _) rin fun σ₂ s₂ h₂ r₂ => h₂ K' [] s₂ _ r₂ fun ok σ₃ s₃ h₃ r₃ => ?_
  cases ok with
  | false =>
    obtain ⟨objs₁, t1, t2, t3⟩ := h₃.2 rfl
    obtain ⟨oL₃, mL₃, n3, r₆, _⟩ := back σ₃ [] s₃ objs₁ t2 t1 (fun p hp => nomatch hp) r₃
    rw [if_neg (by simp)]
    exact hN _ (.mk (i + 1) ys acc vs objs₁ nD oI oL₃ mL₃ hi (by rw [← List.tail_drop, hys]; rfl) (Nat.le_succ_of_le hai) hvl hD (htu.trans t1) t3 (r₆.perm fun p hp => .tail _ hp) n3)
  | true =>
    rw [if_pos rfl]
    refine h₃.1 rfl K' [] s₃ _ r₃ fun z uz σ₄ s₄ h₄ r₄ => ?_
    obtain ⟨hz1, objs₁, t1, t2, t3⟩ := h₄
    obtain ⟨oL₃, mL₃, n3, r₆, _⟩ := back σ₄ [(z, uz)] s₄ objs₁ t2 t1 (fun p hp => by simp at hp; rw [hp]; exact hz1) r₄
    have hDo : s₄.heap.get? D = some (listO vs nD) := by
      obtain ⟨_, _, _, _, C₆⟩ := r₆
      exact C₆.kept D _ ((if_neg hDL).trans (if_pos rfl))
    refine wpAny_list_append_plain (items := vs.toArray) ⟨nD, hDo⟩ (fun h₅ hpl hs₅ => ?_) (by rw [List.size_toArray, hvl]; (first | exact o8 hz hi hai | omega))
    obtain ⟨n₅, hD₅⟩ := hpl
    rw [List.push_toArray] at hD₅
    have r₇ := r₆.renewD hDL hXD (fun b x hb e => hs₅.extBut b x hb e) hD₅ s₄.toks
    refine hN _ (.mk (i + 1) ys (acc ++ [z]) (vs ++ [uz]) objs₁ n₅ oI oL₃ mL₃ hi (by rw [← List.tail_drop, hys]; rfl) (by simp; exact hai) (by simp [hvl]) hD (htu.trans t1) t3 (r₇.perm fun p hp => ?_) (n3.at' fun o e => hs₅.extBut L o hDL.symm e))
    rw [List.zip_append hvl.symm] at hp
    simp only [List.mem_append, List.mem_cons, List.zip_cons_cons, List.zip_nil_right, List.not_mem_nil, or_false] at hp ⊢
    rcases hp with (h | h) | h | h
    · exact .inr (.inr (.inl h))
    · exact .inl h
    · exact .inr (.inr (.inr (.inl h)))
    · exact .inr (.inr (.inr (.inr h)))
theorem comp_run {elt iter : Expr} {tn : Str} {tp : Pos} {ifs : List Expr} {scope : Scope} {pos : Pos} {hB : Heap} {ℓ : Nat} {sc sc' : Scope} {gl cells globs : List (Str × MV)} {names : List Str} {cl : List (Str × Addr)}
    (hΓ : Γof sc Γ hB ℓ gl) (hre : relabel scope Γ.env = sc') (S : CompSc scope sc' names (cells.map (·.1))) (hglob : GlobOk prog w sc' hB globs)
    (hc : ∀ p ∈ cells, p ∈ σ.loc ∧ p.2.ok = true ∧ Closed p.2 ∧ Γ.env.kindOf p.1 = some .cell) (hcl : ∀ n c, (n, NameKind.free) ∈ scope.names → Γ.env.cells.lookup n = some c → cl.lookup n = some c)
    {x : MV} {v : Value} {items : List MV} (T : Itr prog w x items) (hz : items.length ≤ sizeLine) {Qc : List MV → List (Option MO) → Prop}
    (hw : WPcomp prog w (fun Γ' => Γof sc' Γ' hB ℓ (cells ++ globs)) (.Name tn tp) ifs elt names Qc items [] σ.objs)
    {I D L : Addr} {oI oL : Obj} {mL : Str → Option Value} (hID : I ≠ D) (hIL : I ≠ L) (hDL : D ≠ L) (hKI : K.f I = none) (hDK' : K.f D = none) (hKLn : K.f L = none) (hXI : Γ.hX I = none) (hXD : Γ.hX D = none) (hXL : Γ.hX L = none)
    (kx : (∀ b ∈ K.x, ∃ o, K.f b = some o) ∧ (∀ b o, Γ.hX b = some o → K.f b = some o)) (hDI : T.D v 0 oI) {RR : Value → Addr → Result → Shared → Prop}
    (hRR : ∀ acc objs D L oL mL s', Qc acc objs → Rel prog w Γ (K.hold L oL) ⟨σ.loc, objs⟩ ((.list acc, .ref D) :: ps) s' → s'.heap.Ns L mL → K.f L = none → Γ.hX L = none → RR (.ref D) L (.ok .next) s')
    {s₄ : Shared} (r₄ : Rel prog w Γ (K.h3 I oI D (listO [] 0) L oL) σ ((x, v) :: ps) s₄) (hns : s₄.heap.Ns L mL) :
    codeAny (model prog w) Γ.A (.compLoop (.ListComp elt [⟨.Name tn tp, iter, ifs, 0⟩] scope pos) 0 (.ref I) (.ref D) (compEnvC scope cl L Γ.env)) (RR (.ref D) L) s₄ := by
  refine codeAny_compLoop_tests (CompInv prog w Γ K σ ps I D L T v (WPcomp prog w (fun Γ' => Γof sc' Γ' hB ℓ (cells ++ globs)) (.Name tn tp) ifs elt names Qc)) (fun n s' hI => ?_)
    (items.length + 1) (.mk 0 items [] [] σ.objs 0 oI oL _ (Nat.zero_le _) rfl (Nat.le_refl _) rfl hDI (.refl _) hw r₄ hns)
  obtain ⟨i, ys, acc, vs, objs, nD, oI', oL', mL', hil, hys, hai, hvl, hD', htu, hw', r', hns'⟩ := hI
  obtain ⟨F', m', cm', fps', C'⟩ := id r'
  have hFI : F' I = none := (C'.held I (.tail _ (.tail _ (.head _)))).1
  have hIo : s'.heap.get? I = some oI' := C'.kept I _ (by show (if I = L then _ else if I = D then _ else if I = I then _ else _) = _; rw [if_neg hIL, if_neg hID, if_pos rfl])
  obtain ⟨fp, P, St, W, hfp, hst1, hst2, hP⟩ := T.wk (A := Γ.A) (I := I) r'.handled (C'.ps (x, v) (List.mem_append_right _ (.head _))) hFI
  have hSt : St i s'.heap := hst1 i _ _ C'.frz hIo hD'
  cases ys with
  | nil =>
    have hi : i = items.length := Nat.le_antisymm hil (by simpa using hys)
    refine wpAny_with_toks (Nat.le_refl _) (W.done s' _ _ (hi ▸ hSt) fun h' tk hk ht => ?_)
    have hk' : ∀ b x, b ≠ I → s'.heap.get? b = some x → h'.get? b = some x := fun b x hb e => hk b x (by simpa using hb) e
    exact hRR acc objs D L oL' mL' _ hw' (r'.outI hID hIL hDL hKI hDK' hKLn hXD hXL kx hvl hk' tk ht) (hns'.at' fun o e => hk' L o hIL.symm e) hKLn hXL
  | cons y ys =>
    have hi : i < items.length := by
      rcases Nat.lt_or_ge i items.length with q | q
      · exact q
      · rw [List.drop_eq_nil_of_le q] at hys; cases hys
    refine wpAny_with_toks (Nat.le_refl _) (W.item i s' _ _ hi hSt fun u h' tk hPu hSt' hk ht => ?_)
    obtain ⟨y', hy, hyv⟩ := hP i u hi hPu
    have hyy : y' = y := by
      have := congrArg List.head? hys
      rw [List.head?_drop, hy] at this; simpa using this
    subst hyy
    obtain ⟨oI'', ho'', hD''⟩ := hst2 _ _ hSt'
    have r₅ : Rel prog w Γ (K.h3 I oI'' D (listO vs nD) L oL') ⟨σ.loc, objs⟩ ((y', u) :: (acc.zip vs ++ (x, v) :: ps)) { s' with heap := h', toks := tk } :=
      Rel.renewI ⟨F', m', cm', fps', C'.cons hyv⟩ hID hIL hXI (fun b x hb e => hk b x (by simpa using hb) e) ho'' tk ht
    have hns₅ : h'.Ns L mL' := hns'.at' fun o e => hk L o (by simpa using hIL.symm) e
    exact wpAny_mono (comp_step hΓ hre S hglob hc hcl T hz hID hDL hXD hXL hi hys hai hvl hD'' htu hw' (NX := fun s₅ => ∃ m, m < (y' :: ys).length + 1 ∧ CompInv prog w Γ K σ ps I D L T v (WPcomp prog w (fun Γ' => Γof sc' Γ' hB ℓ (cells ++ globs)) (.Name tn tp) ifs elt names Qc) m s₅) (fun s₅ h => ⟨_, Nat.lt_succ_self _, h⟩) r₅ hns₅) (fun _ _ q => wpAny_mono q (fun ok _ q => by
      cases ok with
      | false => exact q
      | true => exact wpAny_mono q (fun _ _ q => wpAny_mono q (fun _ _ q => q) fun _ _ q => q.elim) fun _ _ q => q.elim) fun _ _ q => q.elim) fun _ _ q => q.elim
theorem comp_end {elt iter : Expr} {tn : Str} {tp : Pos} {ifs : List Expr} {scope : Scope} {pos : Pos} {hB : Heap} {ℓ : Nat} {sc sc' : Scope} {gl cells globs : List (Str × MV)} {names : List Str} {cl : List (Str × Addr)}
    (hΓ : Γof sc Γ hB ℓ gl) (hre : relabel scope Γ.env = sc') (S : CompSc scope sc' names (cells.map (·.1))) (hglob : GlobOk prog w sc' hB globs)
    (hc : ∀ p ∈ cells, p ∈ σ.loc ∧ p.2.ok = true ∧ Closed p.2 ∧ Γ.env.kindOf p.1 = some .cell) (hcl : ∀ n c, (n, NameKind.free) ∈ scope.names → Γ.env.cells.lookup n = some c → cl.lookup n = some c)
    {x : MV} {v : Value} {items : List MV} (T : Itr prog w x items) (hz : items.length ≤ sizeLine) {Qc : List MV → List (Option MO) → Prop}
    (hw : WPcomp prog w (fun Γ' => Γof sc' Γ' hB ℓ (cells ++ globs)) (.Name tn tp) ifs elt names Qc items [] σ.objs)
    {I D L : Addr} {oI oL : Obj} {mL : Str → Option Value} (hID : I ≠ D) (hIL : I ≠ L) (hDL : D ≠ L) (hKI : K.f I = none) (hKD : (K.hold I oI).f D = none) (hKL : ((K.hold I oI).hold D (listO [] 0)).f L = none) (hXI : Γ.hX I = none) (hXD : Γ.hX D = none) (hXL : Γ.hX L = none)
    (kx : (∀ b ∈ K.x, ∃ o, K.f b = some o) ∧ (∀ b o, Γ.hX b = some o → K.f b = some o)) (hDI : T.D v 0 oI) {RR : Value → Addr → Result → Shared → Prop}
    (hRR : ∀ acc objs D L oL mL s', Qc acc objs → Rel prog w Γ (K.hold L oL) ⟨σ.loc, objs⟩ ((.list acc, .ref D) :: ps) s' → s'.heap.Ns L mL → K.f L = none → Γ.hX L = none → RR (.ref D) L (.ok .next) s')
    {s₄ : Shared} (r₄ : Rel prog w Γ (K.h3 I oI D (listO [] 0) L oL) σ ((x, v) :: ps) s₄) (hns : s₄.heap.Ns L mL) :
    codeAny (model prog w) Γ.A (.compStart (.ListComp elt [⟨.Name tn tp, iter, ifs, 0⟩] scope pos) 0 (.ref I) (.ref D) (compEnvC scope cl L Γ.env)) (RR (.ref D) L) s₄ := by
  have hDK' : K.f D = none := (if_neg hID.symm).symm.trans hKD
  have hKLn : K.f L = none := (if_neg hIL.symm).symm.trans ((if_neg hDL.symm).symm.trans hKL)
  have loop := comp_run (iter := iter) (pos := pos) hΓ hre S hglob hc hcl T hz hw hID hIL hDL hKI hDK' hKLn hXI hXD hXL kx hDI hRR r₄ hns
  refine codeAny_compStart_list loop ?_
  obtain ⟨F', m', cm', fps', C'⟩ := id r₄
  have hIo : s₄.heap.get? I = some oI := C'.kept I _ ((if_neg hIL).trans ((if_neg hID).trans (if_pos rfl)))
  obtain ⟨fp, P, St, W, hfp, hst1, hst2, hP⟩ := T.wk (A := Γ.A) (I := I) r₄.handled (C'.ps (x, v) (.head _)) (C'.held I (.tail _ (.tail _ (.head _)))).1
  exact W.self 0 _ _ _ (hst1 0 _ _ C'.frz hIo hDI) loop
theorem comp_core {elt iter : Expr} {tn : Str} {tp : Pos} {ifs : List Expr} {scope : Scope} {pos : Pos} {hB : Heap} {ℓ : Nat} {sc sc' : Scope} {gl cells globs : List (Str × MV)} {names : List Str} {cl : List (Str × Addr)}
    (hΓ : Γof sc Γ hB ℓ gl) (hre : relabel scope Γ.env = sc') (S : CompSc scope sc' names (cells.map (·.1))) (hglob : GlobOk prog w sc' hB globs)
    (hc : ∀ p ∈ cells, p ∈ σ.loc ∧ p.2.ok = true ∧ Closed p.2 ∧ Γ.env.kindOf p.1 = some .cell) (hcl : ∀ n c, (n, NameKind.free) ∈ scope.names → Γ.env.cells.lookup n = some c → cl.lookup n = some c)
    {x : MV} {v : Value} {items : List MV} (T : Itr prog w x items) (hz : items.length ≤ sizeLine) {Qc : List MV → List (Option MO) → Prop}
    (hw : WPcomp prog w (fun Γ' => Γof sc' Γ' hB ℓ (cells ++ globs)) (.Name tn tp) ifs elt names Qc items [] σ.objs)
    (r : Rel prog w Γ K σ ((x, v) :: ps) s) {RR : Value → Addr → Result → Shared → Prop}
    (hRR : ∀ acc objs D L oL mL s', Qc acc objs → Rel prog w Γ (K.hold L oL) ⟨σ.loc, objs⟩ ((.list acc, .ref D) :: ps) s' → s'.heap.Ns L mL → K.f L = none → Γ.hX L = none → RR (.ref D) L (.ok .next) s') :
    wpAny (model prog w) Γ.A (pyIter v) (fun it s₂ => wpAny (model prog w) Γ.A (newList []) (fun acc s₃ => wpAny (model prog w) Γ.A (newFunctionEnv scope Γ.env.globals cl [] Γ.env.qual none .none (some Γ.env)) (fun cenv s₄ =>
      codeAny (model prog w) Γ.A (.compStart (.ListComp elt [⟨.Name tn tp, iter, ifs, 0⟩] scope pos) 0 it acc { cenv with scope := relabel scope Γ.env }) (RR acc cenv.locals) s₄) (fun _ _ => False) s₃) (fun _ _ => False) s₂) (fun _ _ => False) s := by
  have hvr := r
  obtain ⟨F, m, cm, fps, C⟩ := hvr
  refine T.opn r.handled (C.ps _ (.head _)) C.frz fun oI hDI hoI => ?_
  obtain ⟨r₁, hKI, hXI⟩ := r.hold hoI
  refine wpAny_newObj_type (hd := by size_fits) ?_
  obtain ⟨r₂, hKD, hXD⟩ := r₁.hold (o := listO [] 0) rfl
  refine wpAny_newFunctionEnv S.nocell (by intro y hy; simp at hy) (fun h₁ hns₁ hsb₁ => ?_) S.kind
  obtain ⟨r₃, hKL, hXL⟩ := r₂.hold (o := { cls := .type "dict", data := .dict #[] }) rfl
  have hDs := Heap.size_push (h := s.heap) oI
  have hLs := Heap.size_push (h := s.heap.push oI) (listO [] 0)
  obtain ⟨oL, _, _, hoL, _⟩ := id hns₁
  have r₄ := r₃.renew hXL (fun b x hb e => hsb₁.extBut b x hb e) hoL (s.toks + ([] : List (Str × Value)).length)
  have hID : s.heap.objs.size ≠ (s.heap.push oI).objs.size := by (first | exact fun q => o9 q hDs | omega)
  have hIL : s.heap.objs.size ≠ ((s.heap.push oI).push (listO [] 0)).objs.size := by (first | exact fun q => o10 q hDs hLs | omega)
  have hDL : (s.heap.push oI).objs.size ≠ ((s.heap.push oI).push (listO [] 0)).objs.size := by (first | exact fun q => o9 q hLs | omega)
  exact comp_end hΓ hre S hglob hc hcl T hz hw hID hIL hDL hKI hKD hKL hXI hXD hXL r.kx hDI hRR r₄ hns₁
theorem comp_cl {hB : Heap} {ℓ : Nat} {sc sc' : Scope} {gl : List (Str × MV)} {cs names : List Str} {scope : Scope} (hΓ : Γof sc Γ hB ℓ gl) (S : CompSc scope sc' names cs) (hck : ∀ x ∈ cs, x ∈ σ.loc.map (·.1) ∧ sc.names.lookup x = some .cell) (r : Rel prog w Γ K σ ps s) :
    ∃ cl, closureFor scope Γ.env = pure cl ∧ ∀ n c, (n, NameKind.free) ∈ scope.names → Γ.env.cells.lookup n = some c → cl.lookup n = some c := by
  refine closure_some fun n hn => ?_
  obtain ⟨F, m, cm, fps, C⟩ := r
  obtain ⟨h1, h2⟩ := hck n (S.free _ hn rfl)
  rcases (C.ok.kinds n (C.keys ▸ h1)).2 with hk | ⟨hk, c, hc⟩
  · have : sc.names.lookup n = some .local := by rw [← hΓ.1]; exact hk
    rw [h2] at this; cases this
  · exact ⟨c, C.ok.ocs n c hc⟩
section
variable {elt iter : Expr} {tn : Str} {tp : Pos} {ifs : List Expr} {scope : Scope} {pos : Pos} {hB : Heap} {ℓ : Nat} {sc : Scope} {gl : List (Str × MV)}
theorem wp_comp (hΓ : Γof sc Γ hB ℓ gl) (sc' : Scope) (names : List Str) (cells globs : List (Str × MV)) (hre : relabel scope Γ.env = sc') (S : CompSc scope sc' names (cells.map (·.1))) (hglob : GlobOk prog w sc' hB globs)
    (hck : ∀ x ∈ cells.map (·.1), x ∈ σ.loc.map (·.1) ∧ sc.names.lookup x = some .cell)
    (h : WPe prog w Γ σ iter fun xv σ₁ => ∃ items, ∃ _ : Itr prog w xv items, items.length ≤ sizeLine ∧ (∀ p ∈ cells, p ∈ σ₁.loc ∧ p.2.ok = true ∧ Closed p.2) ∧
      WPcomp prog w (fun Γ' => Γof sc' Γ' hB ℓ (cells ++ globs)) (.Name tn tp) ifs elt names (fun acc objs => Q (.list acc) ⟨σ₁.loc, objs⟩) items [] σ₁.objs)
    (hs : ∀ env x, foldedSetIterable iter env x = pure x) : WPe prog w Γ σ (.ListComp elt [⟨.Name tn tp, iter, ifs, 0⟩] scope pos) Q := by
  intro K ps s R r hR
  obtain ⟨cl, hclos, hcl⟩ := comp_cl hΓ S hck r
  rw [eval_ListComp]
  refine wpAny_comprehension_free (use := none) rfl (hs _) hclos S.kind S.loc ?_
  refine h K ps s _ r fun xv v σ₁ s₁ h₁ r₁ => ?_
  obtain ⟨items, T, hz, hc, hw⟩ := h₁
  refine comp_core hΓ hre S hglob (fun p hp => ⟨(hc p hp).1, (hc p hp).2.1, (hc p hp).2.2, by have := (hck p.1 (List.mem_map.mpr ⟨p, hp, rfl⟩)).2; rw [← hΓ.1] at this; exact this⟩) hcl T hz hw r₁ (RR := compPost (model prog w) Γ.A (fun _ _ => False) none R) fun acc objs D L oL mL s' hq r' hn hK hX => ?_
  refine ⟨mL, hn, fun h' hs' => hR _ _ _ _ hq ?_⟩
  have kx := r.kx
  exact r'.letgo hK (fun b x hb e => hs'.extBut b x hb e) kx.1 kx.2 s'.toks
theorem wx_assign_comp {y : Str} {py spos : Pos} (hΓ : Γof sc Γ hB ℓ gl) (sc' : Scope) (names : List Str) (cells globs : List (Str × MV)) (hre : relabel scope Γ.env = sc') (S : CompSc scope sc' names (cells.map (·.1))) (hglob : GlobOk prog w sc' hB globs)
    (hck : ∀ x ∈ cells.map (·.1), x ∈ σ.loc.map (·.1) ∧ sc.names.lookup x = some .cell)
    (h : WPe prog w Γ σ iter fun xv σ₁ => ∃ items, ∃ _ : Itr prog w xv items, items.length ≤ sizeLine ∧ (∀ p ∈ cells, p ∈ σ₁.loc ∧ p.2.ok = true ∧ Closed p.2) ∧
      WPcomp prog w (fun Γ' => Γof sc' Γ' hB ℓ (cells ++ globs)) (.Name tn tp) ifs elt names (fun acc objs => PutQ y (.list acc) σ₁.loc fun l' => QF .next ⟨l', objs⟩) items [] σ₁.objs)
    (hs : ∀ env x, foldedSetIterable iter env x = pure x) (hsw : swapsWith (.ListComp elt [⟨.Name tn tp, iter, ifs, 0⟩] scope pos) (some (.Name y py)) spos.line Γ.env = pure true) :
    WPx prog w Γ σ (.Assign [.Name y py] (.ListComp elt [⟨.Name tn tp, iter, ifs, 0⟩] scope pos) spos) QF := by
  intro K ps s R r hR
  obtain ⟨cl, hclos, hcl⟩ := comp_cl hΓ S hck r
  rw [exec_Assign_Name_used _ _ _ _ hsw]
  refine wpAny_bind (wpAny_standAt (wpAny_bind ?_))
  show wpAny _ Γ.A (do let _ ← comprehension (.ListComp elt [⟨.Name tn tp, iter, ifs, 0⟩] scope pos) scope Γ.env _ (newList []) false (eval iter Γ.env) (some (assign (.Name y py) Γ.env))) _ _ s
  refine wpAny_bind (wpAny_mono (wpAny_comprehension_free (use := some (assign (.Name y py) Γ.env)) (Q := fun _ s' => R .next s') (E := fun _ _ => False) rfl (hs _) hclos S.kind S.loc ?_) (fun _ s' hq => wpAny_pure (wpAny_pure hq)) fun _ _ e => e)
  refine h K ps s _ r fun xv v σ₁ s₁ h₁ r₁ => ?_
  obtain ⟨items, T, hz, hc, hw⟩ := h₁
  refine comp_core hΓ hre S hglob (fun p hp => ⟨(hc p hp).1, (hc p hp).2.1, (hc p hp).2.2, by have := (hck p.1 (List.mem_map.mpr ⟨p, hp, rfl⟩)).2; rw [← hΓ.1] at this; exact this⟩) hcl T hz hw r₁ (RR := compPost (model prog w) Γ.A (fun _ _ => False) (some (assign (.Name y py) Γ.env)) (fun _ s' => R .next s')) fun acc objs D L oL mL s' hq r' hn hK hX => ?_
  obtain ⟨l', hp, hq⟩ := hq
  refine wa_name (QU := fun σ => QF .next σ) (σ := ⟨σ₁.loc, objs⟩) hp hq _ ps (.ref D) s' _ r' fun σ₂ s₂ h₂ r₂ => ?_
  have kx := r.kx
  have hL : s₂.heap.get? L = some oL ∧ s'.heap.get? L = some oL := by
    obtain ⟨_, _, _, _, C₂⟩ := r₂
    obtain ⟨_, _, _, _, C'⟩ := r'
    exact ⟨C₂.kept L _ (if_pos rfl), C'.kept L _ (if_pos rfl)⟩
  refine ⟨mL, hn.at' fun o e => by rw [hL.2] at e; rw [hL.1]; exact e, fun h' hs' => hR .next .next σ₂ _ h₂ ⟨rfl, ?_⟩⟩
  exact r₂.letgo hK (fun b x hb e => hs'.extBut b x hb e) kx.1 kx.2 s₂.toks
end
variable {prog : Program} {w : World} {Γ Γ' : Cx} {K K' : Kp} {σ σ' : St} {ps qs : List (MV × Value)} {s s' : Shared} {F F' : Frz} {m cm : Str → Option Value} {fps : List (List Addr)}
variable {Q : MV → St → Prop} {QB : Bool → St → Prop} {QF : MF → St → Prop} {QU : St → Prop} {QL : List MV → St → Prop}
noncomputable def Plain (e : Expr) : Prop := ∀ o i, subscripted e false o i = operate [o, i] (getItem o i)
noncomputable def WIt (prog : Program) (w : World) (Γ : Cx) (σ : St) (x y : MV) (Q : MV → St → Prop) : Prop := ∀ value slice, Plain slice → WP2 prog w Γ σ x y (fun o i => subscriptTail value slice o i) Q
theorem wp_item {value slice : Expr} {pos : Pos} (hp : Plain slice) (h : WPe prog w Γ σ value fun x σ₁ => WPe prog w Γ σ₁ slice fun y σ₂ => WIt prog w Γ σ₂ x y Q) : WPe prog w Γ σ (.Subscript value slice pos) Q := by
  intro K ps s R r hR
  exact PyProof.Rows.Subscript_ (h K ps s _ r fun x v σ₁ s₁ h₁ r₁ => h₁ K _ s₁ _ r₁ fun y u σ₂ s₂ h₂ r₂ => h₂ value slice hp K ps v u s₂ R r₂ hR)
theorem Rel.zipGet {xs : List MV} {vs : List Value} {i : Nat} {z : MV} (r : Rel prog w Γ K σ (xs.zip vs ++ ps) s) (hl : vs.length = xs.length) (hz : xs[i]? = some z) : ∃ v, vs[i]? = some v ∧ Rel prog w Γ K σ ((z, v) :: ps) s := by
  obtain ⟨F, m, cm, fps, C⟩ := r
  obtain ⟨v, h1, h2⟩ := (C.zip hl rfl).get hz
  exact ⟨v, h1, F, m, cm, fps, (C.setps fun p hp => C.ps p (List.mem_append_right _ hp)).cons h2⟩
theorem it_list {xs : List MV} {k : Int} {z : MV} (h0 : 0 ≤ k) (hk : k < 9223372036854775808) (hz : xs[k.toNat]? = some z) (h : Q z σ) : WIt prog w Γ σ (.list xs) (.int k) Q := by
  intro value slice hp K ps v u s R r hR
  obtain ⟨t, rfl⟩ := r.int
  obtain ⟨a, vs, n, rfl, hg, hl, r'⟩ := r.drop.listAt
  obtain ⟨x, hx, r''⟩ := r'.zipGet hl hz
  exact item_listR (items := vs.toArray) ⟨_, hg, rfl, n, rfl⟩ h0 hk (by simpa using hx) (hR _ _ _ _ h r'') (hp _ _)
theorem it_tup {xs : List MV} {k : Int} {z : MV} (h0 : 0 ≤ k) (hk : k < 9223372036854775808) (hz : xs[k.toNat]? = some z) (h : Q z σ) : WIt prog w Γ σ (.tup xs) (.int k) Q := by
  intro value slice hp K ps v u s R r hR
  obtain ⟨t, rfl⟩ := r.int
  obtain ⟨a, vs, n, rfl, hg, hl, r'⟩ := r.drop.tupAt
  obtain ⟨x, hx, r''⟩ := r'.zipGet hl hz
  have hi : IsTup s.heap a vs.toArray := ⟨_, hg, rfl, n, rfl⟩
  have hlt : k.toNat < vs.toArray.size := by
    rw [List.size_toArray, hl]; exact (List.getElem?_eq_some_iff.mp hz).1
  refine subscriptTail_builtinR hi.typeIs slot_tuple_getitem.lookup (getItem_tuple (j := k.toNat) hi (by omega) hk ?_ (by simpa using hx) ⟨rfl, hR _ _ _ _ h r''⟩) (hp _ _)
  unfold seqIndex?
  have : (decide (0 ≤ k) && decide (k < (vs.toArray.size : Int))) = true := by simp only [Bool.and_eq_true, decide_eq_true_eq]; (first | exact o11 h0 hlt | omega)
  simp only [show ¬ k < 0 by (first | exact fun q => o12 q h0 | omega), if_false, this, if_true]
theorem it_str {x : Str} {k : Int} {c : Nat} (h0 : 0 ≤ k) (hk : k < 9223372036854775808) (hc : x.cps[k.toNat]? = some c) (h : Q (.str ⟨#[c]⟩) σ) : WIt prog w Γ σ (.str x) (.int k) Q := by
  intro value slice hp K ps v u s R r hR
  obtain ⟨t, rfl⟩ := r.int
  obtain ⟨t', rfl⟩ := r.drop.str
  have hlt : k.toNat < x.length := by
    rcases Nat.lt_or_ge k.toNat x.length with q | q
    · exact q
    · have : x.cps[k.toNat]? = none := Array.getElem?_eq_none q
      rw [this] at hc; cases hc
  refine subscriptTail_builtinR (typeIs_str s x t') F.slot_str_getitem.lookup (PyProof.Rows.getItem_str (c := c) (by simp only [Bool.or_eq_false_iff, decide_eq_false_iff_not]; omega) ?_ ⟨rfl, hR _ _ _ _ h ((r.drop.drop.toks _).flat (.str _ _))⟩) (hp _ _)
  unfold seqIndex?
  have : (decide (0 ≤ k) && decide (k < (x.length : Int))) = true := by simp only [Bool.and_eq_true, decide_eq_true_eq]; (first | exact o11 h0 hlt | omega)
  simp only [show ¬ k < 0 by (first | exact fun q => o12 q h0 | omega), if_false, this, if_true]
  exact hc
noncomputable def WPo (prog : Program) (w : World) (Γ : Cx) (σ : St) (e : Option Expr) (Q : Option Int → St → Prop) : Prop :=
  ∀ (K : Kp) (ps : List (MV × Value)) (s : Shared) (R : Value → Shared → Prop), Rel prog w Γ K σ ps s →
    (∀ l : Option (Int × Tok), ∀ σ' s', Q (l.map (·.1)) σ' → Rel prog w Γ K σ' ps s' → R (partValue l) s') → wpAny (model prog w) Γ.A (evalPart e Γ.env) R (fun _ _ => False) s
theorem wo_none {QO : Option Int → St → Prop} (h : QO none σ) : WPo prog w Γ σ none QO := fun _ _ s _ r hR => evalPart_none_step (hR none σ s h r)
theorem wo_some {e : Expr} {QO : Option Int → St → Prop} (h : WPe prog w Γ σ e fun x σ₁ => ∃ i, x = .int i ∧ QO (some i) σ₁) : WPo prog w Γ σ (some e) QO := by
  intro K ps s R r hR
  refine evalPart_some_step (h K ps s _ r fun x v σ₁ s₁ h₁ r₁ => ?_)
  obtain ⟨i, rfl, h₁⟩ := h₁
  obtain ⟨t, rfl⟩ := r₁.int
  exact hR (some (i, t)) _ _ h₁ r₁.drop
theorem int_intro {i : Int} {P : Int → Prop} (h : P i) : ∃ i', MV.int i = .int i' ∧ P i' := ⟨i, rfl, h⟩
noncomputable def WSl (prog : Program) (w : World) (Γ : Cx) (σ : St) (x : MV) (lo hi : Option Int) (Q : MV → St → Prop) : Prop :=
  ∀ (K : Kp) (ps : List (MV × Value)) (v : Value) (l u : Option (Int × Tok)) (s : Shared) (R : Value → Shared → Prop), l.map (·.1) = lo → u.map (·.1) = hi → Rel prog w Γ K σ ((x, v) :: ps) s →
    (∀ mv v σ' s', Q mv σ' → Rel prog w Γ K σ' ((mv, v) :: ps) s' → R v s') →
    ItemOn (model prog w) Γ.A (fun _ _ => False) v (.ref s.heap.objs.size) R { s with heap := s.heap.push { cls := .type "slice", data := .fields #[partValue l, partValue u, .none] } }
theorem wp_slice {value : Expr} {lower upper : Option Expr} {p pos : Pos} (h : WPe prog w Γ σ value fun x σ₁ => WPo prog w Γ σ₁ lower fun lo σ₂ => WPo prog w Γ σ₂ upper fun hi σ₃ => WSl prog w Γ σ₃ x lo hi Q)
    (ht : ∀ o r, letTemporaryGo value o r = pure ()) : WPe prog w Γ σ (.Subscript value (.Slice lower upper none p) pos) Q := by
  intro K ps s R r hR
  refine Subscript_Slice (h K ps s _ r fun x v σ₁ s₁ h₁ r₁ => ?_) ht
  refine wpAny_Slice (h₁ K _ s₁ _ r₁ fun l σ₂ s₂ h₂ r₂ => h₂ K _ s₂ _ r₂ fun u σ₃ s₃ h₃ r₃ => ?_)
  rw [evalPart_none]
  exact wpAny_pure (h₃ K ps v l u s₃ R rfl rfl r₃ hR)
theorem Rel.push {o : Obj} (h : Rel prog w Γ K σ ps s) (t : Nat) (ht : s.toks ≤ t := by tm_at "tk") : Rel prog w Γ K σ ps { s with heap := s.heap.push o, toks := t } := h.grow (fun _ _ e => Heap.get?_push_of_some _ e) t ht
theorem sl_str {x : Str} {lo hi : Option Int} (hx : x.length ≤ sizeLine) (h : Q (.str (Txt.slice x lo hi)) σ) : WSl prog w Γ σ (.str x) lo hi Q := by
  intro K ps v l u s R hl hu r hR
  obtain ⟨t, rfl⟩ := r.str
  subst hl hu
  refine ⟨"str", _, F.slot_str_getitem.lookup, typeIs_str _ _ _, wpAny_with_toks (n := s.toks) (Nat.le_refl _) (wpAny_getItem_str_slice (l := l) (u := u) (st := none) ⟨_, Heap.get?_push_size _ rfl, rfl, rfl⟩ rfl ?_)⟩
  exact post_val_or_str ⟨Nat.le_trans (Txt.slice_le x _ _) hx, fun t' k ht => hR _ _ _ _ h ((r.drop.push k ht).flat (.str _ t'))⟩
inductive IsD : MV → PyData → Prop
  | none : IsD .none .none
  | bool (b : Bool) : IsD (.bool b) (.bool b)
  | int (i : Int) : IsD (.int i) (.int i)
  | str (x : Str) : IsD (.str x) (.str x)
  | list (xs : List MV) (ds : List PyData) (hl : xs.length = ds.length) (h : ∀ (i : Nat) (x : MV) (d : PyData), xs[i]? = some x → ds[i]? = some d → IsD x d) : IsD (.list xs) (.list ds)
  | tup (xs : List MV) (ds : List PyData) (hl : xs.length = ds.length) (h : ∀ (i : Nat) (x : MV) (d : PyData), xs[i]? = some x → ds[i]? = some d → IsD x d) : IsD (.tup xs) (.tuple ds)
theorem readsAll_of {h : Heap} : ∀ (vs : List Value) (ds : List PyData), vs.length = ds.length → (∀ (i : Nat) (v : Value) (d : PyData), vs[i]? = some v → ds[i]? = some d → ∃ as, Reads h v d as) → ∃ as, ReadsAll h vs ds as
  | [], [], _, _ => ⟨[], .nil⟩
  | [], _ :: _, h, _ => by simp at h
  | _ :: _, [], h, _ => by simp at h
  | v :: vs, d :: ds, hl, h => by
    obtain ⟨as, h1⟩ := h 0 v d rfl rfl
    obtain ⟨bs, h2⟩ := readsAll_of vs ds (by simpa using hl) fun i v d a b => h (i + 1) v d (by simpa using a) (by simpa using b)
    exact ⟨_, .cons h1 h2⟩
theorem IsD.reads {h : Heap} {ρ : Nat → Option Addr} (hF : ∀ b o, F b = some o → h.get? b = some o) {x : MV} {d : PyData} (hd : IsD x d) : ∀ {v : Value}, VR w F ρ x v → ∃ as, Reads h v d as := by
  induction hd with
  | none => intro v hv; cases hv; exact ⟨_, .none⟩
  | bool b => intro v hv; cases hv; exact ⟨_, .bool b⟩
  | int i => intro v hv; cases hv; exact ⟨_, .int i _⟩
  | str x => intro v hv; cases hv; exact ⟨_, .str x _⟩
  | list xs ds hl _ ih =>
    intro v hv
    cases hv with
    | list a _ vs n hFa hvl hh =>
      obtain ⟨as, hr⟩ := readsAll_of (h := h) vs ds (hvl.trans hl) fun i v d a b => by
        have hi : i < xs.length := by rw [← hvl]; exact (List.getElem?_eq_some_iff.mp a).1
        exact ih i xs[i] d (List.getElem?_eq_getElem hi) b (hh i _ _ (List.getElem?_eq_getElem hi) a)
      exact ⟨_, .list (hF _ _ hFa) rfl rfl (by simpa using hr)⟩
  | tup xs ds hl _ ih =>
    intro v hv
    cases hv with
    | tup a _ vs n hFa hvl hh =>
      obtain ⟨as, hr⟩ := readsAll_of (h := h) vs ds (hvl.trans hl) fun i v d a b => by
        have hi : i < xs.length := by rw [← hvl]; exact (List.getElem?_eq_some_iff.mp a).1
        exact ih i xs[i] d (List.getElem?_eq_getElem hi) b (hh i _ _ (List.getElem?_eq_getElem hi) a)
      exact ⟨_, .tuple (hF _ _ hFa) rfl rfl (by simpa using hr)⟩
section
variable {x y : MV} {dx dy : PyData}
theorem w2_eqD (hx : IsD x dx) (hy : IsD y dy) (cx : dx.canLay0 = true) (cy : dy.canLay0 = true) (hd : dx.depth ≤ 10) (h : Q (.bool (PyData.eqv dx dy)) σ) : WP2 prog w Γ σ x y (compareOp .Eq) Q := by
  intro K ps v u s R r hR
  have r' := r
  obtain ⟨F, m, cm, fps, C⟩ := r'
  obtain ⟨as, rx⟩ := hx.reads C.frz (C.ps (x, v) (.tail _ (.head _)))
  obtain ⟨bs, ry⟩ := hy.reads C.frz (C.ps (y, u) (.head _))
  have := C.ok.units
  exact SeqAt.compareEq_reads rx ry cx cy (by have := Nat.min_le_left dx.depth dy.depth; (first | exact o13 hd (by assumption) | omega)) (hR _ _ _ _ h (r.drop.drop.flat (.bool _)))
theorem w2_neD (hx : IsD x dx) (hy : IsD y dy) (cx : dx.canLay0 = true) (cy : dy.canLay0 = true) (hd : dx.depth ≤ 10) (h : Q (.bool (!PyData.eqv dx dy)) σ) : WP2 prog w Γ σ x y (compareOp .NotEq) Q := by
  intro K ps v u s R r hR
  have r' := r
  obtain ⟨F, m, cm, fps, C⟩ := r'
  obtain ⟨as, rx⟩ := hx.reads C.frz (C.ps (x, v) (.tail _ (.head _)))
  obtain ⟨bs, ry⟩ := hy.reads C.frz (C.ps (y, u) (.head _))
  have := C.ok.units
  exact SeqAt.compareNe_reads rx ry cx cy (by have := Nat.min_le_left dx.depth dy.depth; (first | exact o13 hd (by assumption) | omega)) (hR _ _ _ _ h (r.drop.drop.flat (.bool _)))
end
theorem w2_inStr {x y : Str} (h : Q (.bool !(Builtin.Str.occurrences x y 0 x.length 1).isEmpty) σ) : WP2 prog w Γ σ (.str y) (.str x) (compareOp .In) Q := by
  intro K ps v u s R r hR
  obtain ⟨t, rfl⟩ := r.str; obtain ⟨t', rfl⟩ := r.drop.str
  exact PyProof.Rows.in_str (hR _ _ _ _ h (r.drop.drop.flat (.bool _)))
theorem strsAre_of {ρ : Nat → Option Addr} : ∀ {ys : List Str} {vs : List Value}, VRs w F ρ (ys.map .str) vs → StrsAre vs ys
  | [], vs, h => by
    have : vs = [] := List.length_eq_zero_iff.mp h.1
    subst this; exact .nil
  | y :: ys, [], h => by have := h.1; simp at this
  | y :: ys, v :: vs, h => by
    have h1 : VR w F ρ (.str y) v := VRs.head h
    cases h1
    exact .cons y _ (strsAre_of (VRs.tail h))
theorem Rel.vrs {xs : List MV} {vs : List Value} (r : Rel prog w Γ K σ (xs.zip vs ++ ps) s) (hl : vs.length = xs.length) : ∃ F ρ, VRs w F ρ xs vs := by
  obtain ⟨F, m, cm, fps, C⟩ := r
  exact ⟨F, _, C.zip hl rfl⟩
variable {prog : Program} {w : World} {Γ Γ' : Cx} {K K' : Kp} {σ σ' : St} {ps qs : List (MV × Value)} {s s' : Shared} {F F' : Frz} {m cm : Str → Option Value} {fps : List (List Addr)}
variable {Q : MV → St → Prop} {QB : Bool → St → Prop} {QF : MF → St → Prop} {QU : St → Prop} {QL : List MV → St → Prop}
theorem wc_pure {ℓ ℓ' : Nat} {hB : Heap} {f : Addr} {args : List MV} {P : MV → Prop} {sc : Scope} {gl : List (Str × MV)} {qual : Str} {st : Stmt} (hΓ : Γof sc Γ hB ℓ' gl) (hf : PureFn prog w ℓ hB (.ref f) args P) (hi : IsFn hB f qual st) (hℓ : ℓ ≤ ℓ') (hc : ∀ x ∈ args, Closed x) (h : ∀ mv, P mv → Q mv σ) : WPc prog w Γ σ (.ref f) args Q := by
  intro K ps vs s R hl r hR
  obtain ⟨F, m, cm, fps, C⟩ := r
  obtain ⟨g1, g2, g3, g4, g5, g6, g7⟩ := hΓ
  obtain ⟨oc, od, osl, pm, cdv, ct, doc, h1, h2⟩ := hi
  have hfs : s.heap.get? f = some _ := C.frz f _ (C.base f _ (g2 f _ h1))
  refine ⟨kept_fn hfs rfl, wpAny_call (hf Γ.A F s vs _ (by (first | exact o14 hℓ g4 | omega)) (by (first | exact o15 hℓ g5 | omega)) C.ok.handled (Nat.le_trans C.ok.lo1 C.tok) (fun b o e => C.base b o (g2 b o e)) C.frz ⟨hl, fun i x v hx hv => hc x (List.mem_of_getElem? hx) w F _ v ((C.zip hl rfl).2 i x v hx hv)⟩ fun mv v h' tk F' hP ht hk hS hF' hn hv => ?_)⟩
  exact hR mv v σ _ (h mv hP) ⟨F', m, cm, fps, ((C.setps (ps' := ps) fun p hp => C.ps p (List.mem_append_right _ hp)).grow hk hS hF' hn tk ht).cons (hv.mono (Sub.refl F') fun _ _ e => by cases e)⟩
theorem Rel.one {x : MV} {vs : List Value} (h : Rel prog w Γ K σ ([x].zip vs ++ ps) s) (hl : vs.length = 1) : ∃ v, vs = [v] ∧ Rel prog w Γ K σ ((x, v) :: ps) s := by
  obtain ⟨v, rfl⟩ := len1 hl; exact ⟨v, rfl, h⟩
theorem Rel.two {x y : MV} {vs : List Value} (h : Rel prog w Γ K σ ([x, y].zip vs ++ ps) s) (hl : vs.length = 2) : ∃ v u, vs = [v, u] ∧ Rel prog w Γ K σ ((x, v) :: (y, u) :: ps) s := by
  obtain ⟨v, u, rfl⟩ := len2 hl; exact ⟨v, u, rfl, h⟩
theorem Rel.three {x y z : MV} {vs : List Value} (h : Rel prog w Γ K σ ([x, y, z].zip vs ++ ps) s) (hl : vs.length = 3) : ∃ v u t, vs = [v, u, t] ∧ Rel prog w Γ K σ ((x, v) :: (y, u) :: (z, t) :: ps) s := by
  obtain ⟨v, u, t, rfl⟩ := len3 hl; exact ⟨v, u, t, rfl, h⟩
theorem wc_lenS {x : Str} (hx : x.length ≤ sizeLine) (h : Q (.int x.length) σ) : WPc prog w Γ σ (.builtin "len") [.str x] Q := by
  intro K ps vs s R hl r hR
  obtain ⟨v, rfl, r⟩ := r.one hl
  obtain ⟨t, rfl⟩ := r.str
  have hx' : x.length ≤ 16777216 := hx
  exact ⟨kept_builtin, PyProof.Rows.len_str (by omega) (hR _ _ _ _ h ((r.drop.toks _).flat (.int _ _)))⟩
theorem wc_lenL {xs : List MV} (hx : xs.length ≤ sizeLine) (h : Q (.int xs.length) σ) : WPc prog w Γ σ (.builtin "len") [.list xs] Q := by
  intro K ps vs s R hl r hR
  obtain ⟨v, rfl, r⟩ := r.one hl
  obtain ⟨a, vs, n, rfl, hg, hl2, r'⟩ := r.listAt
  have hx' : xs.length ≤ 16777216 := hx
  refine ⟨kept_builtin, call_len_list (items := vs.toArray) ⟨_, hg, rfl, n, rfl⟩ (by rw [List.size_toArray, hl2]; omega) ?_⟩
  rw [List.size_toArray, hl2]
  exact hR _ _ _ _ h ((r.drop.toks _).flat (.int _ _))
theorem wm_str {x : Str} {name : Str} {id : String} {QM : Value → List MV → St → Prop} (slot : Slot "str" name id) (hty : typeOf (.builtin id) = pure (.type "method_descriptor")) (h : QM (.builtin id) [.str x] σ) : WPm prog w Γ σ (.str x) name QM := by
  intro pl K ps v s R r hR
  obtain ⟨t, rfl⟩ := r.str
  have hq : R (.builtin id, [.str x t]) s := hR _ [.str x] [.str x t] _ _ h rfl r
  with_reducible exact GM.of (.str x t) (typeIs_str _ _ _) slot hty GM.noRef hq
theorem wc_count {x y : Str} (h : Q (.int (Builtin.Str.occurrences x y 0 x.length (x.length + 1)).length) σ) : WPc prog w Γ σ (.builtin "str.count") [.str x, .str y] Q := by
  intro K ps vs s R hl r hR
  obtain ⟨v, u, rfl, r⟩ := r.two hl
  obtain ⟨t, rfl⟩ := r.str; obtain ⟨t', rfl⟩ := r.drop.str
  exact ⟨kept_builtin, call_gives PySem.F.slot_str_count (typeIs_str s x t) PySem.F.entry_str_count (PySem.F.args_str_count_2 _ _) (gives_str_count x y t t') (hR _ _ _ _ h ((r.drop.drop.toks _).flat (.int _ _)))⟩
theorem Rel.muAt {k : Nat} {xs : List MV} {v : Value} (r : Rel prog w Γ K σ ((.mu k, v) :: ps) s) (hk : ObjAt σ k (.lst xs)) : ∃ a vs n, v = .ref a ∧ s.heap.get? a = some (listO vs n) ∧ vs.length = xs.length ∧
    ∀ (ps' : List (MV × Value)) (xs' : List MV) (vs' : List Value) (h' : Heap) (n' : Nat), Rel prog w Γ K σ (ps' ++ (.mu k, v) :: ps) s → vs'.length = xs'.length → (∀ p ∈ xs'.zip vs', p ∈ xs.zip vs ∨ p ∈ ps') → (∀ b, b ≠ a → h'.get? b = s.heap.get? b) → h'.get? a = some (listO vs' n') →
      Rel prog w Γ K { σ with objs := σ.objs.set k (some (.lst xs')) } ps { s with heap := h' } := by
  have key : ∀ ps₀, Rel prog w Γ K σ (ps₀ ++ (.mu k, v) :: ps) s → ∃ F m cm fps a vs n, Core prog w Γ K σ (ps₀ ++ (.mu k, v) :: ps) s F m cm fps ∧ v = .ref a ∧ fps[k]? = some [a] ∧ s.heap.get? a = some (listO vs n) ∧ VRs w F (rho fps) xs vs := fun ps₀ r => by
    obtain ⟨F, m, cm, fps, C⟩ := r
    obtain ⟨fp, hfp, ho⟩ := C.trk k _ hk
    cases ho with
    | lst a _ vs n _ hh hv =>
      have h2 : VR w F (rho fps) (.mu k) v := C.ps (.mu k, v) (List.mem_append_right _ (.head _))
      cases h2 with
      | mu _ b hb =>
        have : rho fps k = some a := by unfold rho; rw [hfp]; rfl
        rw [this] at hb; cases hb
        exact ⟨F, m, cm, fps, a, vs, n, C, rfl, hfp, hh, hv⟩
  obtain ⟨F, m, cm, fps, a, vs, n, C, rfl, hfp, hh, hv⟩ := key [] r
  refine ⟨a, vs, n, rfl, hh, hv.1, fun ps' xs' vs' h' n' r' hl hz hs ho => ?_⟩
  obtain ⟨F', m', cm', fps', a', vs₂, n₂, C', e, hfp', hh', hv'⟩ := key ps' r'
  cases e
  have hvs : vs₂ = vs := by
    rw [hh] at hh'
    injection hh' with e
    injection e with _ _ e _
    injection e with e _
    exact (congrArg Array.toList e).symm
  subst hvs
  refine ⟨F', m', cm', fps', ((C'.setps (ps' := ps) fun p hp => C'.ps p (List.mem_append_right _ (.tail _ hp))).setObj (o' := .lst xs') hk hfp' (fun b hb => hs b (by simpa using hb)) (fun b hb => by simp at hb; subst hb; exact ⟨_, ho⟩) (.lst a xs' vs' n' h' ho ⟨hl, fun i x u hx hu => ?_⟩) (fun _ _ => ⟨xs, rfl⟩) s.toks)⟩
  have hm : (x, u) ∈ xs'.zip vs' := List.mem_iff_getElem?.mpr ⟨i, List.getElem?_zip_eq_some.mpr ⟨hx, hu⟩⟩
  rcases hz _ hm with h | h
  · obtain ⟨j, hj⟩ := List.mem_iff_getElem?.mp h
    rw [List.getElem?_zip_eq_some] at hj
    exact hv'.2 j _ _ hj.1 hj.2
  · exact C'.ps (x, u) (List.mem_append_left _ h)
theorem wm_mu {k : Nat} {xs : List MV} {name : Str} {id : String} {QM : Value → List MV → St → Prop} (hk : ObjAt σ k (.lst xs)) (slot : Slot "list" name id) (hty : typeOf (.builtin id) = pure (.type "method_descriptor")) (h : QM (.builtin id) [.mu k] σ) : WPm prog w Γ σ (.mu k) name QM := by
  intro pl K ps v s R r hR
  obtain ⟨a, vs, n, rfl, hg, hl, _⟩ := r.muAt hk
  exact getMethod_list_of (items := vs.toArray) slot hty ⟨_, hg, rfl, n, rfl⟩ ⟨_, hg, rfl⟩ (hR _ [.mu k] [.ref a] _ _ h rfl r)
theorem wc_append {k : Nat} {xs : List MV} {x : MV} (hk : ObjAt σ k (.lst xs)) (hz : xs.length ≤ sizeLine) (h : Q .none { σ with objs := σ.objs.set k (some (.lst (xs ++ [x]))) }) : WPc prog w Γ σ (.builtin "list.append") [.mu k, x] Q := by
  intro K ps vs s R hl r hR
  obtain ⟨v, u, rfl, r⟩ := r.two hl
  have r₂ : Rel prog w Γ K σ ([(x, u)] ++ (.mu k, v) :: ps) s := r.perm fun p hp => by
    rcases List.mem_cons.mp hp with q | q
    · rw [q]; exact .tail _ (.head _)
    · rcases List.mem_cons.mp q with q | q
      · rw [q]; exact .head _
      · exact .tail _ (.tail _ q)
  have r₁ : Rel prog w Γ K σ ((.mu k, v) :: ps) s := r₂.drop
  obtain ⟨a, vs, n, rfl, hg, hvl, go⟩ := r₁.muAt hk
  refine ⟨kept_builtin, wpAny_list_append_plain (items := vs.toArray) ⟨n, hg⟩ (fun h' hp hs => ?_) (by rw [List.size_toArray, hvl]; exact hz)⟩
  obtain ⟨n', ho⟩ := hp
  rw [List.push_toArray] at ho
  refine hR .none .none _ _ h ((go [(x, u)] (xs ++ [x]) (vs ++ [u]) h' n' r₂ (by simp [hvl]) (fun p hp => ?_) (fun b hb => hs.2 b hb) ho).flat .none)
  rw [List.zip_append hvl.symm] at hp
  rcases List.mem_append.mp hp with q | q
  · exact .inl q
  · exact .inr q
theorem wc_extend {k : Nat} {xs ys : List MV} (hk : ObjAt σ k (.lst xs)) (hz : xs.length + ys.length ≤ sizeLine) (h : Q .none { σ with objs := σ.objs.set k (some (.lst (xs ++ ys))) }) : WPc prog w Γ σ (.builtin "list.extend") [.mu k, .list ys] Q := by
  intro K ps vs s R hl r hR
  obtain ⟨v, u, rfl, r⟩ := r.two hl
  have r₂ : Rel prog w Γ K σ ((.list ys, u) :: (.mu k, v) :: ps) s := r.perm fun p hp => by
    rcases List.mem_cons.mp hp with q | q
    · rw [q]; exact .tail _ (.head _)
    · rcases List.mem_cons.mp q with q | q
      · rw [q]; exact .head _
      · exact .tail _ (.tail _ q)
  obtain ⟨b, us, n₂, rfl, hgb, hul, r₃⟩ := r₂.listAt
  obtain ⟨a, vs, n, rfl, hg, hvl, go⟩ := r₂.drop.muAt hk
  have hz' : xs.length + ys.length ≤ 16777216 := hz
  have hs1 : vs.toArray.size = xs.length := by rw [List.size_toArray, hvl]
  have hs2 : us.toArray.size = ys.length := by rw [List.size_toArray, hul]
  refine ⟨kept_builtin, call_meets PySem.F.slot_list_extend ⟨_, hg, rfl⟩ PySem.F.entry_list_extend (PySem.F.args_list_extend_2 _ _) (AutoSeq1.list_extend_list_list_0 a vs.toArray n b us.toArray n₂ ?_ ?_ ?_) ⟨hg, hgb, ?_⟩⟩
  · rw [hs1, hs2]
    rw [show Builtin.List.listTooLong (xs.length + ys.length) = false from decide_eq_false (by show ¬ _ > 16777216; (first | exact fun q => o16 q hz' | omega)), Bool.and_false]
    exact Bool.false_ne_true
  · rw [hs1]; show _ ≤ 16777216; (first | exact o17 hz' | omega)
  · rw [hs1, hs2]; show _ ≤ 16777216 + 1; (first | exact o18 hz' | omega)
  · obtain ⟨n', e'⟩ : ∃ n', Obj.mapSeq (fun x => x ++ us.toArray) (listO vs n) = listO (vs ++ us) n' := ⟨_, by
      unfold Obj.mapSeq listO
      dsimp only
      rw [show vs.toArray ++ us.toArray = (vs ++ us).toArray by simp]⟩
    refine hR .none .none _ _ h ((go (ys.zip us) (xs ++ ys) (vs ++ us) _ n' r₃ (by simp [hvl, hul]) (fun p hp => ?_) (fun c hc => (Heap.SameBut.update ..).2 c hc) ?_).flat .none)
    · rw [List.zip_append hvl.symm] at hp
      exact List.mem_append.mp hp
    · rw [Heap.get?_update_self _ hg (by rw [e']; rfl), e']
variable {prog : Program} {w : World} {Γ Γ' : Cx} {K K' : Kp} {σ σ' : St} {ps qs : List (MV × Value)} {s s' : Shared} {F F' : Frz} {m cm : Str → Option Value} {fps : List (List Addr)}
variable {Q : MV → St → Prop} {QB : Bool → St → Prop} {QF : MF → St → Prop} {QU : St → Prop} {QL : List MV → St → Prop}
theorem strs_of {ρ : Nat → Option Addr} : ∀ {ys : List Str} {vs : List Value}, VRs w F ρ (ys.map .str) vs → ∃ l : List (Str × Tok), vs = strValues l ∧ l.map (·.1) = ys
  | [], vs, h => by
    have : vs = [] := List.length_eq_zero_iff.mp h.1
    subst this; exact ⟨[], rfl, rfl⟩
  | y :: ys, [], h => by have := h.1; simp at this
  | y :: ys, v :: vs, h => by
    have h1 : VR w F ρ (.str y) v := VRs.head h
    cases h1 with
    | str _ t =>
      obtain ⟨l, e1, e2⟩ := strs_of (VRs.tail h)
      exact ⟨(y, t) :: l, by rw [e1]; rfl, by simp [e2]⟩
noncomputable def joinLen (sep : Str) (ys : List Str) : Nat := ys.toArray.foldl (· + ·.length + sep.length) 0
theorem wc_join {sep : Str} {ys : List Str} (hz : joinLen sep ys ≤ sizeLine) (hz2 : (Builtin.Str.glued sep ys).length ≤ sizeLine) (h : Q (.str (Builtin.Str.glued sep ys)) σ) : WPc prog w Γ σ (.builtin "str.join") [.str sep, .list (ys.map .str)] Q := by
  intro K ps vs s R hl r hR
  obtain ⟨v, u, rfl, r⟩ := r.two hl
  obtain ⟨t, rfl⟩ := r.str
  obtain ⟨a, us, n, rfl, hg, hul, r'⟩ := r.drop.listAt
  obtain ⟨F, ρ, hv⟩ := r'.vrs hul
  obtain ⟨l, rfl, rfl⟩ := strs_of hv
  refine ⟨kept_builtin, call_meets PySem.F.slot_str_join (typeIs_str s sep t) PySem.F.entry_str_join (PySem.F.args_str_join_2 _ _) (meets_str_join_list sep t a l (decide_eq_false (Nat.not_lt.mpr hz))) ⟨⟨_, hg, rfl, n, rfl⟩, ?_⟩⟩
  have r0 := r'.perm (ps' := ps) fun p hp => List.mem_append_right _ hp
  match l with
  | [] => exact ⟨hz2, hR _ _ _ _ h ((r0.toks _).flat (.str _ _))⟩
  | [p] =>
    have e : Builtin.Str.glued sep [p.1] = p.1 := by simp [Builtin.Str.glued]
    simp only [List.map_cons, List.map_nil] at h
    rw [e] at h
    exact hR _ _ _ _ h (r0.flat (.str _ _))
  | p :: q :: l => exact ⟨hz2, hR _ _ _ _ h ((r0.toks _).flat (.str _ _))⟩
theorem w2_addL {xs ys : List MV} (hz : xs.length + ys.length ≤ sizeLine) (h : Q (.list (xs ++ ys)) σ) : WP2 prog w Γ σ (.list xs) (.list ys) (binaryOp .Add) Q := by
  intro K ps v u s R r hR
  obtain ⟨b, us, n2, rfl, hgb, hul, r'⟩ := r.listAt
  have r2 : Rel prog w Γ K σ ((.list xs, v) :: (ys.zip us ++ ps)) s := r'.perm fun p hp => by
    rcases List.mem_cons.mp hp with q | q
    · rw [q]; exact List.mem_append_right _ (.head _)
    · rcases List.mem_append.mp q with q | q
      · exact List.mem_append_left _ q
      · exact List.mem_append_right _ (.tail _ q)
  obtain ⟨a, vs, n, rfl, hg, hvl, r3⟩ := r2.listAt
  refine concat_meets ⟨_, hg, rfl⟩ ⟨_, hgb, rfl⟩ noFill_list_add seq_list_add PySem.F.slot_list_add PySem.F.entry_list_add (PySem.F.args_list_add_2 _ _) (list_addW a b vs.toArray us.toArray n n2 none none #[] #[] (by simpa [hvl, hul] using hz)) ⟨hg, hgb, ?_⟩
  rw [show vs.toArray ++ us.toArray = (vs ++ us).toArray by simp]
  refine hR _ _ _ _ h (Rel.mk_list (xs := xs ++ ys) (vs := vs ++ us) (by simp [hvl, hul]) (r3.perm fun p hp => ?_))
  rw [List.zip_append hvl.symm, List.append_assoc] at hp
  exact hp
theorem wc_range1 {n : Int} (h : Q (.rng 0 n 1) σ) : WPc prog w Γ σ (.type "range") [.int n] Q := by
  intro K ps vs s R hl r hR
  obtain ⟨v, rfl, r⟩ := r.one hl
  obtain ⟨t, rfl⟩ := r.int
  refine ⟨kept_type, call_range_1 (hR _ _ _ _ h ?_)⟩
  obtain ⟨F, m, cm, fps, C⟩ := r.drop
  refine ⟨_, m, cm, fps, ((C.alloc { cls := .type "range", data := .fields #[.int 0 s.toks, .int n t, .int 1 (s.toks + 1)] }).toks (s.toks + 1 + 1)).cons (.rng _ 0 n _ _ _ _ Frz.put_self)⟩
theorem wc_range2 {a b : Int} (h : Q (.rng a b 1) σ) : WPc prog w Γ σ (.type "range") [.int a, .int b] Q := by
  intro K ps vs s R hl r hR
  obtain ⟨v, u, rfl, r⟩ := r.two hl
  obtain ⟨t, rfl⟩ := r.int
  obtain ⟨t', rfl⟩ := r.drop.int
  refine ⟨kept_type, call_range_2 (hR _ _ _ _ h ?_)⟩
  obtain ⟨F, m, cm, fps, C⟩ := r.drop.drop
  refine ⟨_, m, cm, fps, ((C.alloc { cls := .type "range", data := .fields #[.int a t, .int b t', .int 1 s.toks] }).toks (s.toks + 1)).cons (.rng _ a b _ _ _ _ Frz.put_self)⟩
variable {prog : Program} {w : World} {Γ Γ' : Cx} {K K' : Kp} {σ σ' : St} {ps qs : List (MV × Value)} {s s' : Shared} {F F' : Frz} {m cm : Str → Option Value} {fps : List (List Addr)}
variable {Q : MV → St → Prop} {QB : Bool → St → Prop} {QF : MF → St → Prop} {QU : St → Prop} {QL : List MV → St → Prop}
section
variable {κ : Type} [DecidableEq κ] {knd : KeyKind prog w κ}
theorem dict_entries {h : Heap} {a : Addr} {kvs : List (κ × Value)} (hd : h.DictOf knd a kvs) : ∃ ds n, h.get? a = some { cls := .type "dict", data := .dict ds n } ∧ ds.size = kvs.length ∧
    ∀ (i : Nat) (kv : κ × Value) (d : DictEntry), kvs[i]? = some kv → ds[i]? = some d → knd.is kv.1 d.key = true ∧ d.hash = knd.hash kv.1 ∧ d.val = kv.2 := by
  obtain ⟨⟨c, dd, dt, sl⟩, es, ep, ho, ⟨e1, e2, e3⟩, e4, hk, hp, hn⟩ := hd
  simp only at e1 e2 e3 e4
  subst e1 e2 e3 e4
  refine ⟨es, ep, ho, ?_, ?_⟩
  · have : ∀ {l : List DictEntry} {k : List (κ × Value)}, Pairs knd l k → l.length = k.length := fun h => by
      induction h with
      | nil => rfl
      | cons _ _ _ ih => simp [ih]
    simpa using this hp
  · have go : ∀ {l : List DictEntry} {k : List (κ × Value)}, Pairs knd l k → (∀ e ∈ l, ∃ k, knd.is k e.key = true ∧ e.hash = knd.hash k) → ∀ (i : Nat) (kv : κ × Value) (d : DictEntry), k[i]? = some kv → l[i]? = some d → knd.is kv.1 d.key = true ∧ d.hash = knd.hash kv.1 ∧ d.val = kv.2 := fun h => by
      induction h with
      | nil => intro _ i kv d h1; simp at h1
      | cons a b _ ih =>
        intro hk i kv d h1 h2
        cases i with
        | zero =>
          simp at h1 h2; subst h1 h2
          obtain ⟨k', c, e⟩ := hk _ (.head _)
          have := knd.inj _ _ _ c a
          subst this
          exact ⟨a, e, b⟩
        | succ i => exact ih (fun e he => hk e (.tail _ he)) i kv d (by simpa using h1) (by simpa using h2)
    intro i kv d h1 h2
    exact go hp (fun e he => hk e (by simpa using he)) i kv d h1 (by simpa using h2)
theorem merged_nodup : ∀ (kvs acc : List (κ × Value)), ((acc ++ kvs).map (·.1)).Nodup → merged acc kvs = acc ++ kvs
  | [], acc, _ => by simp [merged]
  | kv :: kvs, acc, h => by
    have hno : acc.any (fun p => p.1 = kv.1) = false := by
      rw [List.any_eq_false]
      intro p hp hpk
      have hpk : p.1 = kv.1 := by simpa using hpk
      rw [List.map_append] at h
      exact (List.nodup_append.mp h).2.2 p.1 (List.mem_map.mpr ⟨p, hp, rfl⟩) kv.1 (by simp) hpk
    show merged (stored acc kv.1 kv.2) kvs = _
    have e : stored acc kv.1 kv.2 = acc ++ [kv] := by unfold stored; rw [hno]; rfl
    rw [e, merged_nodup kvs (acc ++ [kv]) (by simpa using h)]
    simp
end
noncomputable def WPdT (prog : Program) (w : World) (Γ : Cx) (σ : St) (keys : List (Option Expr)) (values : List Expr) (Q : List (MV × MV) → St → Nat → Prop) : Prop :=
  ∀ (pos : Pos) (K : Kp) (ps : List (MV × Value)) (s : Shared) (R : List (Value × Value) → Shared → Prop), Rel prog w Γ K σ ps s →
    (∀ xs vs σ' s', Q xs σ' s'.toks → vs.length = xs.length → Rel prog w Γ K σ' ((xs.map (·.1)).zip (vs.map (·.1)) ++ (xs.map (·.2)).zip (vs.map (·.2)) ++ ps) s' → R vs s') → wpAny (model prog w) Γ.A (evalPairs (pairTrees keys values Γ.env pos)) R (fun _ _ => False) s
noncomputable abbrev WPd (prog : Program) (w : World) (Γ : Cx) (σ : St) (keys : List (Option Expr)) (values : List Expr) (Q : List (MV × MV) → St → Prop) : Prop := WPdT prog w Γ σ keys values fun xs σ _ => Q xs σ
theorem wd_nil {QD : List (MV × MV) → St → Prop} (h : QD [] σ) : WPd prog w Γ σ [] [] QD := fun _ _ _ s _ r hR => pairTrees_nil_walk (hR [] [] σ s h rfl r)
theorem wd_cons {QD : List (MV × MV) → St → Prop} {k v : Expr} {ks : List (Option Expr)} {vs : List Expr} (h : WPe prog w Γ σ k fun x σ₁ => WPe prog w Γ σ₁ v fun y σ₂ => WPd prog w Γ σ₂ ks vs fun xs σ₃ => QD ((x, y) :: xs) σ₃) : WPd prog w Γ σ (some k :: ks) (v :: vs) QD := by
  intro pos K ps s R r hR
  refine pairTrees_cons_walk (h K ps s _ r fun x v σ₁ s₁ h₁ r₁ => h₁ K _ s₁ _ r₁ fun y u σ₂ s₂ h₂ r₂ => h₂ pos K _ s₂ _ r₂ fun xs vs σ₃ s₃ h₃ hl r₃ => ?_)
  refine hR ((x, y) :: xs) ((v, u) :: vs) σ₃ s₃ h₃ (by simp [hl]) (r₃.perm fun p hp => ?_)
  simp only [List.map_cons, List.zip_cons_cons, List.cons_append, List.mem_cons, List.mem_append] at hp ⊢
  rcases hp with h | (h | h | h) | h
  · exact .inr (.inr (.inl h))
  · exact .inl (.inl h)
  · exact .inr (.inl h)
  · exact .inl (.inr h)
  · exact .inr (.inr (.inr h))
variable {prog : Program} {w : World} {Γ Γ' : Cx} {K K' : Kp} {σ σ' : St} {ps qs : List (MV × Value)} {s s' : Shared} {F F' : Frz} {m cm : Str → Option Value} {fps : List (List Addr)}
variable {Q : MV → St → Prop} {QB : Bool → St → Prop} {QF : MF → St → Prop} {QU : St → Prop} {QL : List MV → St → Prop}
noncomputable def mvAt {κ : Type} [DecidableEq κ] (es : List (κ × MV)) (k : κ) : Option MV := (es.find? fun e => decide (e.1 = k)).map (·.2)
section
variable {κ : Type} [DecidableEq κ] {knd : KeyKind prog w κ}
theorem find_go {ρ : Nat → Option Addr} : ∀ (es : List (κ × MV)) (ds : List DictEntry), ds.length = es.length → (∀ (i : Nat) (e : κ × MV) (d : DictEntry), es[i]? = some e → ds[i]? = some d → knd.is e.1 d.key = true ∧ VR w F ρ e.2 d.val) → ∀ k,
    (mvAt es k = none ∧ (ds.find? fun d => knd.is k d.key) = none) ∨ ∃ mv d, mvAt es k = some mv ∧ (ds.find? fun d => knd.is k d.key) = some d ∧ VR w F ρ mv d.val
  | [], [], _, _, k => .inl ⟨rfl, rfl⟩
  | [], _ :: _, h, _, _ => by simp at h
  | _ :: _, [], h, _, _ => by simp at h
  | e :: es, d :: ds, hl, h, k => by
    obtain ⟨h1, h2⟩ := h 0 e d rfl rfl
    by_cases q : e.1 = k
    · refine .inr ⟨e.2, d, ?_, ?_, h2⟩
      · simp [mvAt, q]
      · rw [List.find?_cons, ← q, h1]
    · have hf : knd.is k d.key = false := by rw [KeyKind.is_eq_decide h1]; simpa using fun e' => q e'.symm
      have e1 : mvAt (e :: es) k = mvAt es k := by simp [mvAt, q]
      rw [e1, List.find?_cons, hf]
      exact find_go es ds (by simpa using hl) (fun i e d a b => h (i + 1) e d (by simpa using a) (by simpa using b)) k
theorem map_of {ρ : Nat → Option Addr} {h : Heap} {a : Addr} {es : List (κ × MV)} {ds : Array DictEntry} {n : Nat} (hg : h.get? a = some { cls := .type "dict", data := .dict ds n }) (hl : ds.size = es.length)
    (hent : ∀ (i : Nat) (e : κ × MV) (d : DictEntry), es[i]? = some e → ds[i]? = some d → knd.is e.1 d.key = true ∧ d.hash = knd.hash e.1 ∧ VR w F ρ e.2 d.val) :
    h.MapOf knd a (fun k => findBy knd.is ds k) ∧ ∀ k, (mvAt es k = none ∧ findBy knd.is ds k = none) ∨ ∃ mv v, mvAt es k = some mv ∧ findBy knd.is ds k = some v ∧ VR w F ρ mv v := by
  refine ⟨⟨_, ds, n, hg, ⟨rfl, rfl, rfl⟩, rfl, fun e he => ?_, fun _ => rfl⟩, fun k => ?_⟩
  · obtain ⟨i, hi, rfl⟩ := Array.mem_iff_getElem.mp he
    have hi' : i < es.length := by rw [← hl]; exact hi
    obtain ⟨h1, h2, _⟩ := hent i es[i] ds[i] (List.getElem?_eq_getElem hi') (Array.getElem?_eq_getElem hi)
    exact ⟨_, h1, h2⟩
  · rcases find_go (F := F) (ρ := ρ) es ds.toList (by simpa using hl) (fun i e d a b => let ⟨h1, _, h3⟩ := hent i e d a (by simpa using b); ⟨h1, h3⟩) k with ⟨h1, h2⟩ | ⟨mv, d, h1, h2, h3⟩
    · refine .inl ⟨h1, ?_⟩
      unfold findBy
      rw [← Array.find?_toList, h2]; rfl
    · refine .inr ⟨mv, d.val, h1, ?_, h3⟩
      unfold findBy
      rw [← Array.find?_toList, h2]; rfl
end
theorem Rel.dictS {es : List (Str × MV)} {v : Value} (h : Rel prog w Γ K σ ((.dictS es, v) :: ps) s) : ∃ a f, v = .ref a ∧ (a == sysModules) = false ∧ s.heap.MapOf (strKind prog w) a f ∧ (∃ o, s.heap.get? a = some o ∧ o.dict = none) ∧
    ∀ k, (mvAt es k = none ∧ f k = none) ∨ ∃ mv u, mvAt es k = some mv ∧ f k = some u ∧ Rel prog w Γ K σ ((mv, u) :: ps) s := by
  obtain ⟨F, m, cm, fps, C⟩ := h
  have h2 : VR w F (rho fps) (.dictS es) v := C.ps (.dictS es, v) (.head _)
  cases h2 with
  | dictS a _ ds n hF hm hl hk hh =>
    obtain ⟨h1, h2⟩ := map_of (knd := strKind prog w) (F := F) (ρ := rho fps) (C.frz _ _ hF) hl fun i e d a b => by
      obtain ⟨⟨t, e1⟩, e2⟩ := hk i e d a b
      exact ⟨by rw [e1]; exact strKind_is prog w e.1 t, e2, hh i e d a b⟩
    refine ⟨a, _, rfl, hm, h1, ⟨_, C.frz _ _ hF, rfl⟩, fun k => (h2 k).imp id fun ⟨mv, u, g1, g2, g3⟩ => ⟨mv, u, g1, g2, F, m, cm, fps, C.drop.cons g3⟩⟩
section
variable {es : List (Str × MV)} {ei : List (Int × MV)} {x : Str} {k : Int}
theorem w2_inS (h : Q (.bool (mvAt es x).isSome) σ) : WP2 prog w Γ σ (.str x) (.dictS es) (compareOp .In) Q := by
  intro K ps v u s R r hR
  obtain ⟨a, f, rfl, hm, hM, _, hf⟩ := r.dictS
  obtain ⟨t, rfl⟩ := r.drop.str
  have e : (f x).isSome = (mvAt es x).isSome := by rcases hf x with ⟨h1, h2⟩ | ⟨_, _, h1, h2, _⟩ <;> rw [h1, h2] <;> rfl
  exact wpAny_in_of (strKind_is prog w x t) hm hM (e ▸ hR _ _ _ _ h ((r.drop.drop.toks _).flat (.bool _)))
theorem w2_ninS (h : Q (.bool (!(mvAt es x).isSome)) σ) : WP2 prog w Γ σ (.str x) (.dictS es) (compareOp .NotIn) Q := by
  intro K ps v u s R r hR
  obtain ⟨a, f, rfl, hm, hM, _, hf⟩ := r.dictS
  obtain ⟨t, rfl⟩ := r.drop.str
  have e : (f x).isSome = (mvAt es x).isSome := by rcases hf x with ⟨h1, h2⟩ | ⟨_, _, h1, h2, _⟩ <;> rw [h1, h2] <;> rfl
  exact wpAny_notIn_of (strKind_is prog w x t) hm hM (e ▸ hR _ _ _ _ h ((r.drop.drop.toks _).flat (.bool _)))
theorem wm_dictS {name : Str} {id : String} {QM : Value → List MV → St → Prop} (slot : Slot "dict" name id) (hty : typeOf (.builtin id) = pure (.type "method_descriptor")) (h : QM (.builtin id) [.dictS es] σ) : WPm prog w Γ σ (.dictS es) name QM := by
  intro pl K ps v s R r hR
  obtain ⟨a, f, rfl, hm, hM, hd, hf⟩ := r.dictS
  exact getMethod_builtin hM.typeIs PySem.F.plainAttrs_dict slot hty (fun b e => by cases e; exact hd) (hR _ [.dictS es] [.ref a] _ _ h rfl r)
theorem wc_getS (h : Q ((mvAt es x).getD .none) σ) : WPc prog w Γ σ (.builtin "dict.get") [.dictS es, .str x] Q := by
  intro K ps vs s R hl r hR
  obtain ⟨v, u, rfl, r⟩ := r.two hl
  obtain ⟨a, f, rfl, hm, hM, hd, hf⟩ := r.dictS
  obtain ⟨t, rfl⟩ := r.drop.str
  refine ⟨kept_builtin, call_meetsIn PySem.F.slot_dict_get hM.typeIs PySem.F.entry_dict_get (PySem.F.args_dict_get_2 _ _) (meets_dict_get (strKind prog w) a (strKind_is prog w x t) hm) ⟨f, hM, ?_⟩⟩
  rcases hf x with ⟨h1, h2⟩ | ⟨mv, u, h1, h2, r'⟩
  · rw [h1] at h; rw [h2]
    exact hR _ _ _ _ h ((r.drop.drop.toks _).flat .none)
  · rw [h1] at h; rw [h2]
    exact hR _ _ _ _ h ((r'.perm (ps' := (mv, u) :: ps) fun p hp => by
      rcases List.mem_cons.mp hp with q | q
      · rw [q]; exact .head _
      · exact .tail _ (.tail _ q)).toks _)
theorem wc_getSd {d : MV} (h : Q ((mvAt es x).getD d) σ) : WPc prog w Γ σ (.builtin "dict.get") [.dictS es, .str x, d] Q := by
  intro K ps vs s R hl r hR
  obtain ⟨v, u, dv, rfl, r⟩ := r.three hl
  obtain ⟨a, f, rfl, hm, hM, hd, hf⟩ := r.dictS
  obtain ⟨t, rfl⟩ := r.drop.str
  refine ⟨kept_builtin, call_meetsIn PySem.F.slot_dict_get hM.typeIs PySem.F.entry_dict_get (PySem.F.args_dict_get_3 _ _ _) (meets_dict_get_default (strKind prog w) a (strKind_is prog w x t) hm dv) ⟨f, hM, ?_⟩⟩
  rcases hf x with ⟨h1, h2⟩ | ⟨mv, u, h1, h2, r'⟩
  · rw [h1] at h; rw [h2]
    exact hR _ _ _ _ h (r.drop.drop.toks _)
  · rw [h1] at h; rw [h2]
    exact hR _ _ _ _ h ((r'.perm (ps' := (mv, u) :: ps) fun p hp => by
      rcases List.mem_cons.mp hp with q | q
      · rw [q]; exact .head _
      · exact .tail _ (.tail _ (.tail _ q))).toks _)
end
variable {prog : Program} {w : World} {Γ : Cx} {σ : St} {Q : MV → St → Prop}
theorem wp_globE {x : Str} {p : Pos} {mv : MV} {gl : List (Str × MV)} (hg : Γ.glob = gl) (hk : Lk x mv gl) (h : Q mv σ) : WPe prog w Γ σ (.Name x p) Q := wp_glob (hg ▸ hk) h
theorem w2_eqO {x : MV} {o : Option Int} {k : Int} (e : x = (o.map MV.int).getD .none) (h : Q (.bool (o == some k)) σ) : WP2 prog w Γ σ x (.int k) (compareOp .Eq) Q := by
  subst e
  cases o with
  | none =>
    intro K ps v u s R r hR
    obtain ⟨t, rfl⟩ := r.int
    obtain rfl := r.drop.nil
    exact PySem.EqNone.eq_none_int (hR _ _ _ _ h (r.drop.drop.flat (.bool _)))
  | some i =>
    refine w2_eq ?_
    have : (some i == some k) = (i == k) := rfl
    rw [this] at h; exact h
theorem wt_and2 {QB : Bool → St → Prop} {e₁ e₂ : Expr} {p : Pos} (A B : Bool) (h1 : WPt prog w Γ σ e₁ fun b σ₁ => b = A ∧ σ₁ = σ ∧ (A = true → WPt prog w Γ σ e₂ fun c σ₂ => c = B ∧ σ₂ = σ)) (h : QB (A && B) σ) : WPt prog w Γ σ (.BoolOp .And [e₁, e₂] p) QB := by
  refine wt_bool (wall_and_cons ?_)
  intro K ps s R r hR
  refine h1 K ps s R r fun b σ₁ s₁ h₁ r₁ => hR b σ₁ s₁ ?_ r₁
  obtain ⟨rfl, rfl, h2⟩ := h₁
  refine ⟨fun hb => wall_and_cons ?_, fun hb => by subst hb; exact h⟩
  subst hb
  intro K ps s R r hR
  refine h2 rfl K ps s R r fun c σ₂ s₂ h₂ r₂ => hR c σ₂ s₂ ?_ r₂
  obtain ⟨rfl, rfl⟩ := h₂
  exact ⟨fun hc => by subst hc; exact wall_and_nil h, fun hc => by subst hc; exact h⟩
theorem WPt.mono {QB QB' : Bool → St → Prop} {e : Expr} (h : WPt prog w Γ σ e QB) (hQ : ∀ b σ, QB b σ → QB' b σ) : WPt prog w Γ σ e QB' := fun K ps s R r hR => h K ps s R r fun b σ' s' q => hR b σ' s' (hQ _ _ q)
theorem turn_mono {P P' : St → Prop} {QF : MF → St → Prop} (h : ∀ σ, P σ → P' σ) : ∀ f σ, turn P QF f σ → turn P' QF f σ
  | .next, σ, q => h σ q
  | .cont, σ, q => h σ q
  | .brk, _, q => q
  | .ret _, _, q => q
theorem wx_whileI {t : Expr} {b : List Stmt} {p : Pos} {QF : MF → St → Prop} (I : Nat → St → Prop) (n : Nat) (h : I n σ)
    (step : ∀ n σ, I n σ → WPt prog w Γ σ t fun c σ₁ => (c = true → WPs prog w Γ σ₁ b (turn (fun σ' => ∃ m, m < n ∧ I m σ') QF)) ∧ (c = false → QF .next σ₁)) : WPx prog w Γ σ (.While t b [] p) QF := by
  have key : ∀ N n σ, n ≤ N → I n σ → WPw prog w Γ t b QF (N + 1) σ := by
    intro N
    induction N with
    | zero =>
      intro n σ hn hI
      refine (step n σ hI).mono fun c σ₁ q => ⟨fun hc => (q.1 hc).mono (turn_mono fun σ' ⟨m, hm, _⟩ => by omega), q.2⟩
    | succ N ih =>
      intro n σ hn hI
      refine (step n σ hI).mono fun c σ₁ q => ⟨fun hc => (q.1 hc).mono (turn_mono fun σ' ⟨m, hm, hI'⟩ => ih m σ' (by (first | exact o19 hn hm | omega)) hI'), q.2⟩
  exact wx_while (n + 1) (key n n σ (Nat.le_refl _) h)
theorem wpf_inv {tgt : Expr} {b : List Stmt} {QF : MF → St → Prop} (I : List MV → St → Prop) (step : ∀ y ys σ, I (y :: ys) σ → WU1 prog w Γ σ y (assign tgt Γ.env) fun σ₁ => WPs prog w Γ σ₁ b (turn (I ys) QF)) (fin : ∀ σ, I [] σ → QF .next σ) :
    ∀ ys σ, I ys σ → WPf prog w Γ tgt b QF ys σ
  | [], σ, h => fin σ h
  | y :: ys, σ, h => fun K ps v s R r hR => step y ys σ h K ps v s R r fun σ' s' q r' => hR σ' s' (q.mono (turn_mono fun σ' q => wpf_inv I step fin ys σ' q)) r'
variable {prog : Program} {w : World} {Γ Γ' : Cx} {K K' : Kp} {σ σ' : St} {ps qs : List (MV × Value)} {s s' : Shared} {F F' : Frz} {m cm : Str → Option Value} {fps : List (List Addr)}
variable {Q : MV → St → Prop} {QB : Bool → St → Prop} {QF : MF → St → Prop} {QU : St → Prop} {QL : List MV → St → Prop}
noncomputable def occs (x y : Str) : List Nat := Builtin.Str.occurrences x y 0 x.length (x.length + 1)
noncomputable def repS (x y z : Str) : Str := if ((occs x y).isEmpty || (y.length == 0 && z.length == 0)) = true then x else Builtin.Str.glued z (Builtin.Str.partsBetween x (occs x y) y.length)
theorem call_replace {A : Around} {E : Value → Shared → Prop} {x y z : Str} {t u v : Tok} {R : Value → Shared → Prop} (hu : u ≠ 0) (hv : v ≠ 0) (huv : u ≠ v) (hyz : (y == z) = false) (hl : x.length + (occs x y).length * z.length ≤ sizeLine) (hz : (repS x y z).length ≤ sizeLine)
    (h : ∀ t' k, s.toks ≤ k → R (.str (repS x y z) t') { s with toks := k }) : wpAny (model prog w) A (call (.builtin "str.replace") [.str x t, .str y u, .str z v]) R E s := by
  refine wpAny_with_toks (n := s.toks) (Nat.le_refl _) (call_gives PySem.F.slot_str_replace (typeIs_str s x t) PySem.F.entry_str_replace (PySem.F.args_str_replace_3 _ _ _) (gives_str_replace x y z t u v fun _ => ⟨?_, ?_, hyz, decide_eq_false (Nat.not_lt.mpr hl)⟩) ?_)
  · simp [hu, hv]
  · simpa using huv
  · exact post_val_or_str ⟨hz, fun t' k hk => h t' k hk⟩
theorem wp_replace {o : Expr} {y z : Str} {ky kz : Nat} {py pz pa p : Pos} (hyz : (y == z) = false) (h : WPe prog w Γ σ o fun ov σ₁ => ∃ x, ov = .str x ∧ (x.length + (occs x y).length * z.length ≤ sizeLine ∧ (repS x y z).length ≤ sizeLine) ∧ Q (.str (repS x y z)) σ₁)
    (hc : ∀ env, eval (.Call (.Attribute o "replace" pa) [.Constant (.str y) ky py, .Constant (.str z) kz pz] [] p) env = (do
      let ov ← eval o env
      standAt pa.atName
      let (f, first) ← holding [ov] (getMethod ov "replace" (do return (← importBound o env).getD true))
      callWith p f first (backTo p (starEach [.Constant (.str y) ky py, .Constant (.str z) kz pz] env)) (backToKw p (keywordEach [] env)))) :
    WPe prog w Γ σ (.Call (.Attribute o "replace" pa) [.Constant (.str y) ky py, .Constant (.str z) kz pz] [] p) Q := by
  intro K ps s R r hR
  refine methodCall_KW (h K ps s _ r fun ov v σ₁ s₁ h₁ r₁ => ?_) (hc _)
  obtain ⟨x, rfl, ⟨hl, hz⟩, h₁⟩ := h₁
  obtain ⟨t, rfl⟩ := r₁.str
  have hlo : 1 ≤ s₁.toks := by
    obtain ⟨_, _, _, _, C⟩ := r₁
    exact Nat.le_trans C.ok.lo1 C.tok
  with_reducible refine GM.replace ?_
  refine callWith_of (P := Kept (.builtin "str.replace")) rfl (fun h k => k _) (evalArgs_list rfl ?_)
  refine wpAny_items_cons (wpAny_Constant_str (wpAny_items_cons (wpAny_Constant_str (wpAny_items_nil ?_)) rfl)) rfl
  refine ⟨kept_builtin, call_replace (show s₁.toks ≠ 0 from Nat.ne_of_gt hlo) (show s₁.toks + 1 ≠ 0 from Nat.succ_ne_zero _) (show s₁.toks ≠ s₁.toks + 1 from Nat.ne_of_lt (Nat.lt_succ_self _)) hyz hl hz fun t' k hk => ?_⟩
  exact hR _ _ _ _ h₁ ((r₁.drop.toks k (by have : s₁.toks + 1 + 1 ≤ k := hk; (first | exact o20 this | omega))).flat (.str _ t'))
theorem wx_try {body orelse : List Stmt} {h₀ : ExceptHandler} {hs : List ExceptHandler} {p : Pos} (h : WPs prog w Γ σ body (thenS prog w Γ orelse QF)) : WPx prog w Γ σ (.Try body (h₀ :: hs) orelse [] p) QF := by
  intro K ps s R r hR
  refine wpAny_Try_except (wpAny_mono (h K ps s (fun f s₁ => match f with | .next => wpAny (model prog w) Γ.A (execs orelse Γ.env) R (fun _ _ => False) s₁ | f => R f s₁) r fun mf f σ₁ s₁ h₁ r₁ => ?_) (fun _ _ q => q) fun _ _ q => q.elim)
  cases mf with
  | next => obtain ⟨rfl, r₁⟩ := r₁; exact h₁ K ps s₁ R r₁ hR
  | brk => have := r₁; obtain ⟨rfl, _⟩ := r₁; exact hR _ _ _ _ h₁ this
  | cont => have := r₁; obtain ⟨rfl, _⟩ := r₁; exact hR _ _ _ _ h₁ this
  | ret v => have := r₁; obtain ⟨v, rfl, _⟩ := r₁; exact hR _ _ _ _ h₁ this
noncomputable def hasS (x y : Str) : Bool := !(Builtin.Str.occurrences x y 0 x.length 1).isEmpty
noncomputable def escS (x : Str) : List (Str × Str) → Str
  | [] => x
  | (y, z) :: l => escS (if hasS x y then repS x y z else x) l
noncomputable def fitS (x y z : Str) : Prop := x.length + (occs x y).length * z.length ≤ sizeLine ∧ (repS x y z).length ≤ sizeLine
noncomputable def fitsS (x : Str) : List (Str × Str) → Prop
  | [] => True
  | (y, z) :: l => fitS x y z ∧ fitsS (if hasS x y then repS x y z else x) l
theorem wx_esc {x y z : Str} {k₁ k₂ k₃ : Nat} {q₁ q₂ q₃ q₄ q₅ q₆ q₇ q₈ q₉ q q' : Pos} (hyz : (y == z) = false) (hf : fitS x y z) (h : QF .next ⟨[("text", .str (if hasS x y then repS x y z else x))], []⟩)
    (hc : ∀ env, eval (.Call (.Attribute (.Name "text" q₁) "replace" q₂) [.Constant (.str y) k₁ q₃, .Constant (.str z) k₂ q₄] [] q₅) env = (do
      let ov ← eval (.Name "text" q₁) env
      standAt q₂.atName
      let (f, first) ← holding [ov] (getMethod ov "replace" (do return (← importBound (.Name "text" q₁) env).getD true))
      callWith q₅ f first (backTo q₅ (starEach [.Constant (.str y) k₁ q₃, .Constant (.str z) k₂ q₄] env)) (backToKw q₅ (keywordEach [] env))))
    (hs : ∀ env, swapsWith (.Call (.Attribute (.Name "text" q₁) "replace" q₂) [.Constant (.str y) k₁ q₃, .Constant (.str z) k₂ q₄] [] q₅) (some (.Name "text" q₆)) q₇.line env = pure false) :
    WPx prog w Γ ⟨[("text", .str x)], []⟩ (.If (.Compare (.Constant (.str y) k₃ q₈) [.In] [.Name "text" q₉] q') [.Assign [.Name "text" q₆] (.Call (.Attribute (.Name "text" q₁) "replace" q₂) [.Constant (.str y) k₁ q₃, .Constant (.str z) k₂ q₄] [] q₅) q₇] [] q) QF := by
  refine wx_if (wt_compare (wp_str (wp_name (Lk.here _) rfl (w2_inStr (wb_bool ⟨fun hb => ?_, fun hb => ?_⟩)))) rfl)
  · rw [show hasS x y = true from hb, if_pos rfl] at h
    exact ws_cons (wx_assign (wp_replace hyz (wp_name (Lk.here _) rfl ⟨x, rfl, hf, putq_here (then_next (ws_nil h))⟩) hc) hs)
  · rw [show hasS x y = false from hb, if_neg (by simp)] at h
    exact ws_nil h
theorem comp_map {P : Cx → Prop} {tgt elt : Expr} {ifs : List Expr} {names : List Str} {Qc : List MV → List (Option MO) → Prop} (t : MV → Bool) (f : MV → MV) : ∀ (items acc : List MV) (objs : List (Option MO)), (∀ y ∈ items, t y = true → Closed (f y)) →
    (∀ y ∈ items, ∀ Γ', P Γ' → WU1 prog w Γ' ⟨names.map fun x => (x, .undef), mask objs⟩ y (assign tgt Γ'.env) fun σ' => WPi prog w Γ' σ' ifs fun b σ'' => b = t y ∧ σ''.objs = mask objs ∧ (t y = true → WPe prog w Γ' σ'' elt fun r σ₃ => r = f y ∧ σ₃.objs = mask objs)) →
    Qc (acc ++ (items.filter t).map f) objs → WPcomp prog w P tgt ifs elt names Qc items acc objs
  | [], acc, objs, _, _, hQ => Eq.mp (congrArg (fun l => Qc l objs) (List.append_nil acc)) hQ
  | y :: ys, acc, objs, hcl, h, hQ => by
    intro Γ' hP K ps v s R r hR
    refine h y (.head _) Γ' hP K ps v s R r fun σ' s' q r' => hR σ' s' ?_ r'
    intro K ps s R r hR
    refine q K ps s R r fun b σ'' s'' q' r'' => hR b σ'' s'' ?_ r''
    obtain ⟨rfl, ho, q'⟩ := q'
    refine ⟨fun hb => ?_, fun hb => ?_⟩
    · refine (q' hb).mono fun r σ₃ ⟨e, ho₃⟩ => ⟨?_, objs, .refl _, ho₃, ?_⟩
      · subst e; exact hcl y (.head _) hb
      · subst e
        refine comp_map t f ys _ objs (fun z hz => hcl z (.tail _ hz)) (fun z hz => h z (.tail _ hz)) ?_
        rw [List.filter_cons, if_pos hb, List.map_cons] at hQ
        simpa using hQ
    · refine ⟨objs, .refl _, ho, comp_map t f ys _ objs (fun z hz => hcl z (.tail _ hz)) (fun z hz => h z (.tail _ hz)) ?_⟩
      rw [List.filter_cons, if_neg (by simp [hb])] at hQ
      exact hQ
variable {prog : Program} {w : World} {Γ Γ' : Cx} {K K' : Kp} {σ σ' : St} {ps qs : List (MV × Value)} {s s' : Shared} {F F' : Frz} {m cm : Str → Option Value} {fps : List (List Addr)}
variable {Q : MV → St → Prop} {QB : Bool → St → Prop} {QF : MF → St → Prop} {QU : St → Prop} {QL : List MV → St → Prop}
noncomputable def maxI (ns : List Int) : Int := ns.getD (argBest (fun i j => decide (ns.getD j 0 < ns.getD i 0)) (ns.length - 1)) 0
noncomputable def splitS (x y : Str) : List Str := if (decide (x.length < y.length) || decide (Builtin.Str.strKind x < Builtin.Str.strKind y)) = true then [x] else if (occs x y).isEmpty = true then [x] else Builtin.Str.partsBetween x (occs x y) y.length
theorem strsFrom_vr {ρ : Nat → Option Addr} : ∀ (tk : Nat) (xs : List Str), VRs w F ρ (xs.map .str) (strsFrom tk xs)
  | _, [] => VRs.nil
  | tk, x :: xs => VRs.cons (.str x tk) (strsFrom_vr (tk + 1) xs)
theorem Rel.strsList {xs : List Str} {vs : List Value} (r : Rel prog w Γ K σ ps s) (hv : ∀ F ρ, VRs w F ρ (xs.map .str) vs) (t : Nat) (ht : s.toks ≤ t) : Rel prog w Γ K σ ((.list (xs.map .str), .ref s.heap.objs.size) :: ps) { s with heap := s.heap.push (listO vs 0), toks := t } := by
  obtain ⟨F, m, cm, fps, C⟩ := r
  have hz := hv (F.put s.heap.objs.size (listO vs 0)) (rho fps)
  exact ⟨_, m, cm, fps, ((C.alloc (listO vs 0)).toks t ht).cons (.list _ _ vs 0 Frz.put_self hz.1 hz.2)⟩
theorem wc_split {x y : Str} (hy : (y.length == 0) = false) (hx : x.length ≤ sizeLine) (hn : (splitS x y).length ≤ sizeLine) (h : Q (.list ((splitS x y).map .str)) σ) : WPc prog w Γ σ (.builtin "str.split") [.str x, .str y] Q := by
  intro K ps vs s R hl r hR
  obtain ⟨v, u, rfl, r⟩ := r.two hl
  obtain ⟨t, rfl⟩ := r.str; obtain ⟨t', rfl⟩ := r.drop.str
  refine ⟨kept_builtin, ?_⟩
  unfold splitS at h hn
  have one : ∀ F ρ, VRs w F ρ (([x] : List Str).map .str) [Value.str x t] := fun F ρ => VRs.cons (.str x t) VRs.nil
  cases h1 : (decide (x.length < y.length) || decide (Builtin.Str.strKind x < Builtin.Str.strKind y)) with
  | true =>
    rw [h1, if_pos rfl] at h
    exact call_meets PySem.F.slot_str_split (typeIs_str s x t) PySem.F.entry_str_split (PySem.F.args_str_split_2 _ _) (meets_str_split_cannot_occur x y t t' h1) (hR _ _ _ _ h (r.drop.drop.strsList one s.toks (Nat.le_refl _)))
  | false =>
    rw [h1, if_neg (by simp)] at h hn
    cases h2 : (occs x y).isEmpty with
    | true =>
      rw [h2, if_pos rfl] at h
      exact call_meets PySem.F.slot_str_split (typeIs_str s x t) PySem.F.entry_str_split (PySem.F.args_str_split_2 _ _) (meets_str_split_not_found x y t t' h1 hy h2) (hR _ _ _ _ h (r.drop.drop.strsList one s.toks (Nat.le_refl _)))
    | false =>
      rw [h2, if_neg (by simp)] at h hn
      exact call_meets PySem.F.slot_str_split (typeIs_str s x t) PySem.F.entry_str_split (PySem.F.args_str_split_2 _ _) (meets_str_split_sep x y t t' h1 hy h2 hx hn) (hR _ _ _ _ h (r.drop.drop.strsList (fun _ _ => strsFrom_vr _ _) _ (Nat.le_add_right _ _)))
variable {prog : Program} {w : World} {Γ Γ' : Cx} {K K' : Kp} {σ σ' : St} {ps qs : List (MV × Value)} {s s' : Shared} {F F' : Frz} {m cm : Str → Option Value} {fps : List (List Addr)}
variable {Q : MV → St → Prop} {QB : Bool → St → Prop} {QF : MF → St → Prop} {QU : St → Prop} {QL : List MV → St → Prop}
noncomputable abbrev Cx.at' (Γ : Cx) (n : Nat) : Cx := { Γ with lo := n }
theorem Γof.at' {sc : Scope} {hB : Heap} {ℓ n : Nat} {gl : List (Str × MV)} (h : Γof sc Γ hB ℓ gl) : Γof sc (Γ.at' n) hB ℓ gl := h
noncomputable abbrev dEnv (sc : Scope) : Env := { scope := sc, locals := 0, globals := 0, cells := [] }
theorem relabel_of {scope sc : Scope} {env : Env} (h : env.scope = sc) : relabel scope env = relabel scope (dEnv sc) := by
  subst h; rfl
section
variable {elt iter : Expr} {tn : Str} {tp : Pos} {ifs : List Expr} {scope : Scope} {pos : Pos} {hB : Heap} {ℓ : Nat} {sc : Scope} {gl : List (Str × MV)}
theorem wp_compD (hΓ : Γof sc Γ hB ℓ gl) (names : List Str) (cells globs : List (Str × MV)) (cs : List Str) (hcs : cells.map (·.1) = cs) (S : CompSc scope (relabel scope (dEnv sc)) names cs) (hglob : GlobOk prog w (relabel scope (dEnv sc)) hB globs)
    (hck : ∀ x ∈ cs, x ∈ σ.loc.map (·.1) ∧ sc.names.lookup x = some .cell)
    (h : WPe prog w Γ σ iter fun xv σ₁ => ∃ items, ∃ _ : Itr prog w xv items, items.length ≤ sizeLine ∧ (∀ p ∈ cells, p ∈ σ₁.loc ∧ p.2.ok = true ∧ Closed p.2) ∧
      WPcomp prog w (fun Γ' => Γof (relabel scope (dEnv sc)) Γ' hB ℓ (cells ++ globs)) (.Name tn tp) ifs elt names (fun acc objs => Q (.list acc) ⟨σ₁.loc, objs⟩) items [] σ₁.objs)
    (hs : ∀ env x, foldedSetIterable iter env x = pure x) : WPe prog w Γ σ (.ListComp elt [⟨.Name tn tp, iter, ifs, 0⟩] scope pos) Q :=
  wp_comp hΓ _ names cells globs (relabel_of hΓ.1) (hcs ▸ S) hglob (hcs ▸ hck) h hs
end
variable {prog : Program} {w : World} {Γ Γ' : Cx} {K K' : Kp} {σ σ' : St} {ps qs : List (MV × Value)} {s s' : Shared} {F F' : Frz} {m cm : Str → Option Value} {fps : List (List Addr)}
variable {Q : MV → St → Prop} {QB : Bool → St → Prop} {QF : MF → St → Prop} {QU : St → Prop} {QL : List MV → St → Prop}
theorem Core.turnObj (C : Core prog w Γ K σ ps s F m cm fps) {k : Nat} {o o' : MO} {fp : List Addr} {h' : Heap} (hk : σ.objs[k]? = some (some o)) (hfp : fps[k]? = some fp) (hs : ∀ b x, b ∉ fp → s.heap.get? b = some x → h'.get? b = some x)
    (hl : ∀ a ∈ fp, ∃ x, h'.get? a = some x) (hS : Sub F F') (hF' : ∀ b x, F' b = some x → h'.get? b = some x) (hn : ∀ b x, F' b = some x → F b = some x ∨ s.heap.get? b = none)
    (hr : OR w F' (rho fps) o' fp h') (ho : ∀ xs, o' = .lst xs → ∃ ys, o = .lst ys) (t : Nat) (ht : s.toks ≤ t) :
    Core prog w Γ K { σ with objs := σ.objs.set k (some o') } ps { s with heap := h', toks := t } F' m cm fps := by
  have hh : Γ.hot (σ.objs.set k (some o')) fps = Γ.hot σ.objs fps := by unfold Cx.hot; rw [alive_set hk]
  have hm : ∀ a ∈ fp, a ∈ alive σ.objs fps := fun a ha => mem_alive hk hfp ha
  obtain ⟨n1, n2⟩ := List.nodup_cons.mp C.hot
  obtain ⟨n3, n4, n5⟩ := List.nodup_append.mp n2
  have hL : Γ.env.locals ∉ fp := fun h => n1 (List.mem_append_right _ (hm _ h))
  have hc : ∀ n c, Γ.oc.lookup n = some c → c ∉ fp := fun n c e h => n5 c (List.mem_map.mpr ⟨(n, c), mem_of_lookup e, rfl⟩) c (hm c h) rfl
  refine { C with
    base := fun b x e => hS _ _ (C.base b x e)
    frz := hF'
    frzH := fun b x e hb => ?_
    kept := fun b x e => hs b x (fun q => C.keptH b x e (C.mem_hot hk hfp q)) (C.kept b x e)
    keptH := fun b x e => by rw [hh]; exact C.keptH b x e
    held := fun b hb => ?_
    hot := by rw [hh]; exact C.hot
    live := fun b hb => ?_
    ns := ?_
    cell := fun n c e => ?_
    loc := fun y mv hy => (C.loc y mv hy).imp id fun ⟨v, h1, h2, h3⟩ => ⟨v, h1, h2, h3.mono hS fun _ _ e => e⟩
    len := by rw [List.length_set]; exact C.len
    tok := Nat.le_trans C.tok ht
    trk := fun j x hj => ?_
    ps := fun p hp => (C.ps p hp).mono hS fun _ _ e => e
    same := by obtain ⟨h, tk, e⟩ := C.same; exact ⟨h', t, by rw [e]⟩
    lim := fun b x e => ?_
    ext := fun b x e => ?_
    ownL := fun j xs fp' hj hj' => ?_ }
  · rw [hh] at hb
    rcases hn b x e with q | q
    · exact C.frzH b x q hb
    · obtain ⟨y, e'⟩ := C.live b hb; rw [q] at e'; cases e'
  · obtain ⟨g1, ⟨y, g2⟩, g3⟩ := C.held b hb
    refine ⟨?_, ⟨y, g2⟩, g3⟩
    cases e : F' b with
    | none => rfl
    | some z => rcases hn b z e with q | q
                · rw [g1] at q; cases q
                · rw [C.kept b y g2] at q; cases q
  · rw [hh] at hb
    by_cases q : b ∈ fp
    · exact hl b q
    · obtain ⟨x, e⟩ := C.live b hb; exact ⟨x, hs b x q e⟩
  · exact C.ns.at' fun x e => hs _ x hL e
  · obtain ⟨x, e', d⟩ := C.cell n c e
    exact ⟨x, hs _ _ (hc n c e) e', d⟩
  · rw [List.getElem?_set] at hj
    split at hj
    · rename_i e; subst e
      split at hj
      · cases hj; exact ⟨fp, hfp, hr⟩
      · cases hj
    · rename_i e
      obtain ⟨fp', h1, h2⟩ := C.trk j x hj
      refine ⟨fp', h1, (h2.mono hS fun _ _ e => e).stab fun a ha => ?_⟩
      obtain ⟨y, ey⟩ := C.live a (C.mem_hot hj h1 ha)
      rw [ey]; exact hs a y (alive_apart n4 hj h1 hk hfp (fun q => e q.symm) a ha) ey
  · rcases hn b x e with q | q
    · exact C.lim b x q
    · cases e' : Γ.sh.heap.get? b with
      | none => exact .inr rfl
      | some y => obtain ⟨y', e''⟩ := C.ext b y e'; rw [q] at e''; cases e''
  · obtain ⟨x', e'⟩ := C.ext b x e
    by_cases q : b ∈ fp
    · exact hl b q
    · exact ⟨x', hs b x' q e'⟩
  · rw [List.getElem?_set] at hj
    split at hj
    · rename_i e; subst e
      split at hj
      · cases hj
        obtain ⟨ys, e⟩ := ho xs rfl
        subst e
        exact C.ownL k ys fp' hk hj'
      · cases hj
    · exact C.ownL j xs fp' hj hj'
noncomputable def ExtFn (prog : Program) (w : World) (ℓ : Nat) (hB : Heap) (f : Value) (args : List MV) (e : Ext) (P : MV → Ext → Prop) : Prop :=
  ∀ (A : Around) (F : Frz) (s : Shared) (vs : List Value) (fp : List Addr) (R : Result → Shared → Prop), A.depth + ℓ < recursionLimit → A.units + 20 * ℓ < cLine → A.handled = none → 1 ≤ s.toks →
    (∀ b o, hB.get? b = some o → F b = some o) → (∀ b o, F b = some o → s.heap.get? b = some o) → VRs w F noρ args vs →
    e.rel w F noρ fp s.heap → fp.Nodup → (∀ a ∈ fp, F a = none) → (∀ a ∈ fp, ∃ o, s.heap.get? a = some o) →
    (∀ mv v h' tk F' e', P mv e' → s.toks ≤ tk → (∀ b o, b ∉ fp → s.heap.get? b = some o → h'.get? b = some o) → (∀ a ∈ fp, ∃ o, h'.get? a = some o) → Sub F F' → (∀ b o, F' b = some o → h'.get? b = some o) →
      (∀ b o, F' b = some o → F b = some o ∨ s.heap.get? b = none) → VR w F' noρ mv v → e'.rel w F' noρ fp h' → R (.ok (.ret v)) { s with heap := h', toks := tk }) →
    codeAny (model prog w) A (.call f ⟨vs, []⟩) R s
noncomputable abbrev Kbut (fp : List Addr) (s : Shared) : Kp := ⟨fun b => if b ∈ fp then none else s.heap.get? b, []⟩
structure Fresh (Γ : Cx) (s : Shared) (F : Frz) (fp : List Addr) : Prop where
  sh : Γ.sh = s
  F0 : Γ.F0 = F
  fps0 : Γ.fps0 = [fp]
  lo : Γ.lo = s.toks
  oc : ∀ n c, Γ.oc.lookup n = some c → s.heap.get? c = none
theorem call_core {A : Around} {s : Shared} {vs : List Value} {fp : List Addr} {R : Result → Shared → Prop} {ℓ : Nat} {hB : Heap} {f : Addr} {oc : Value} {od : Option Addr} {fd : FuncData} {osl : Array (Option Value)} {body : List Stmt} {params rest : List Str} {args : List MV} {e : Ext} {glob : List (Str × MV)} {QF : Cx → MF → St → Prop}
    (ho : hB.get? f = some ⟨oc, od, .func fd, osl⟩) (hcode : hB.CodeRec fd.code fd.qualname) (hlim : hB.NoLimit) (hbody : fd.body = .stmts body) (hclo : fd.closure = [])
    (hgl : fd.globals = mainGlobals) (hbi : fd.builtins = builtinsNs)
    (hbind : ∀ vs, vs.length = params.length → bindArgs fd ⟨vs, []⟩ = pure (params.zip vs)) (hlen : args.length = params.length)
    (hsc : ScopeOk fd.scope (params ++ rest)) (hglob : GlobOk prog w fd.scope hB glob)
    (hco : fd.scope.isCoroutine = false) (hgen : fd.scope.isGenerator = false)
    (hd : A.depth + (ℓ + 1) < recursionLimit) (hu : A.units + 20 * (ℓ + 1) < cLine) (hh : A.handled = none) (htk : 1 ≤ s.toks)
    (hB1 : ∀ b o, hB.get? b = some o → F b = some o) (hF : ∀ b o, F b = some o → s.heap.get? b = some o) (hvs : VRs w F noρ args vs)
    (her : e.rel w F noρ fp s.heap) (hnd : fp.Nodup) (hFfp : ∀ a ∈ fp, F a = none) (hfpl : ∀ a ∈ fp, ∃ o, s.heap.get? a = some o)
    (h : ∀ Γ : Cx, Γof fd.scope Γ hB ℓ glob → Fresh Γ s F fp → Γ.env.code = fd.code ∧ Γ.env.qual = (callEnvC fd 0 0).qual → WPs prog w Γ ⟨params.zip args ++ rest.map (fun x => (x, .undef)), [some (.ext e)]⟩ body (QF Γ))
    (fin : ∀ Γ mf fl σ' s', Fresh Γ s F fp → QF Γ mf σ' → FR prog w Γ (Kbut fp s) σ' [] mf fl s' → R (.ok (.ret (match fl with | .ret v => v | _ => .none))) s') :
    codeAny (model prog w) A (.call (.ref f) ⟨vs, []⟩) R s := by
  have hcn : ((cellsFrom (s.heap.objs.size + 1) fd.scope.names []).map (·.1)).Nodup := by
    rw [cellsFrom_fst, List.map_nil, List.append_nil]
    unfold List.Nodup
    rw [List.pairwise_reverse]
    exact List.Pairwise.imp (fun h e => h e.symm) hsc.cells
  have hmem : ∀ x v, (x, v) ∈ params.zip vs → x ∈ params := fun x v hx => (List.of_mem_zip hx).1
  have hnp : params.Nodup := (List.nodup_append.mp hsc.nodup).1
  have hzf : (params.zip vs).map (·.1) = params := by
    rw [List.map_fst_zip]
    rw [hvs.1, hlen]; exact Nat.le_refl _
  refine call_cellsT (by (first | exact o2 hd | omega)) (hF _ _ (hB1 _ _ ho)) rfl (hlim.keeps fun b o e => hF _ _ (hB1 _ _ e)) (hcode.keeps fun b o e => hF _ _ (hB1 _ _ e)) hbody (hbind vs (hvs.1.trans hlen)) hclo (fun x hx => ?_) (fun s₁ htk₁ I => ?_) hco hgen hsc.kind
  · have hx' := (hsc.kinds x.1 (List.mem_append_left _ (hmem x.1 x.2 hx))).2
    refine hx'.imp id fun ⟨a, b⟩ => ⟨a, ?_⟩
    have : x.1 ∈ (cellsFrom (s.heap.objs.size + 1) fd.scope.names []).map (·.1) := by rw [cellsFrom_fst]; simpa using b
    obtain ⟨q, hq, e⟩ := List.mem_map.mp this
    obtain ⟨x1, c⟩ := q
    cases e
    rw [lookup_of_mem hq hcn]
    rfl
  · let Γ : Cx := { env := callEnvC fd s.heap.objs.size f, oc := (callEnvC fd s.heap.objs.size f).cells, A := A.deeper (callEnvC fd s.heap.objs.size f), hB := fun b => hB.get? b, hX := fun _ => none, glob := glob, names := params ++ rest, sh := s, F0 := F, fps0 := [fp], lo := s.toks }
    have hΓ : Γof fd.scope Γ hB ℓ glob := ⟨rfl, fun _ _ e => e, rfl, by show A.depth + 1 + ℓ < recursionLimit; (first | exact o3 hd | omega), by show A.units + 3 + 20 * ℓ < cLine; (first | exact o4 hu | omega), hgl, hbi⟩
    have hL : ∀ b, s.heap.objs.size ≤ b → s.heap.get? b = none := fun b hb => by
      cases q : s.heap.get? b with
      | none => rfl
      | some o => exact absurd (Heap.lt_size q) (Nat.not_lt.mpr hb)
    have hap := I.apart
    have habove := I.above
    have hcl : (callEnvC fd s.heap.objs.size f).locals = s.heap.objs.size := rfl
    have hhot : Γ.hot [some (.ext e)] [fp] = s.heap.objs.size :: ((cellsFrom (s.heap.objs.size + 1) fd.scope.names []).map (·.2) ++ fp) := by unfold Cx.hot; show _ :: (_ ++ (fp ++ [])) = _; rw [List.append_nil]; rfl
    have hcge : ∀ b ∈ (cellsFrom (s.heap.objs.size + 1) fd.scope.names []).map (·.2), s.heap.objs.size < b := fun b hb => by
      obtain ⟨q, hq, e⟩ := List.mem_map.mp hb
      have := habove q.1 q.2 hq
      rw [hcl] at this
      subst e; exact this
    have hne : ∀ b o, s.heap.get? b = some o → b ∉ fp → b ∉ Γ.hot [some (.ext e)] [fp] := fun b o e hbf hb => by
      rw [hhot] at hb
      rcases List.mem_cons.mp hb with q | q
      · rw [q, get?_size] at e; cases e
      · rcases List.mem_append.mp q with q | q
        · rw [hL b (Nat.le_of_lt (hcge b q))] at e; cases e
        · exact hbf q
    obtain ⟨h₁, tk₁, hs₁⟩ := I.toInCall.same
    have C : Core prog w Γ (Kbut fp s) ⟨params.zip args ++ rest.map (fun x => (x, .undef)), [some (.ext e)]⟩ [] s₁ F (bindL (callEnvC fd s.heap.objs.size f).kindOf (params.zip vs) fun _ => none) (bindC (callEnvC fd s.heap.objs.size f).kindOf (params.zip vs) fun _ => none) [fp] := {
      ok := {
        kind := hsc.kind
        nodup := hsc.nodup
        kinds := fun x hx => by
          obtain ⟨a, b⟩ := hsc.kinds x hx
          refine ⟨a, b.imp id fun ⟨b1, b2⟩ => ⟨b1, ?_⟩⟩
          have : x ∈ (cellsFrom (s.heap.objs.size + 1) fd.scope.names []).map (·.1) := by rw [cellsFrom_fst]; simpa using b2
          obtain ⟨q, hq, e⟩ := List.mem_map.mp this
          obtain ⟨x1, c⟩ := q
          cases e
          exact ⟨c, lookup_of_mem hq hcn⟩
        ocs := fun _ _ e => e
        glob := fun x v hx => let ⟨u, h1, h2⟩ := hglob x v hx; ⟨u, h1, fun A E s Q p hk _ hq => h2 _ A E s Q p rfl hgl hbi hk hq⟩
        room := by show A.depth + 1 < recursionLimit; (first | exact o5 hd | omega)
        units := by show A.units + 3 + 10 < cLine; (first | exact o6 hu | omega)
        handled := hh
        lo1 := htk }
      base := hB1
      frz := fun b o e => I.toInCall.keep _ _ (hF _ _ e)
      frzH := fun b o e => hne b o (hF _ _ e) fun q => by rw [hFfp b q] at e; cases e
      kept := fun b o e => by dsimp only at e; split at e; (· cases e); (· exact I.toInCall.keep _ _ e)
      keptH := fun b o e => by dsimp only at e; split at e; (· cases e); (· rename_i q; exact hne b o e q)
      hx := fun _ _ e => by cases e
      held := fun _ hb => nomatch hb
      hot := by
        rw [hhot]
        refine List.nodup_cons.mpr ⟨fun hm => ?_, List.nodup_append.mpr ⟨?_, hnd, fun a ha b hb e => ?_⟩⟩
        · rcases List.mem_append.mp hm with q | q
          · exact absurd (hcge _ q) (Nat.lt_irrefl _)
          · obtain ⟨o, e⟩ := hfpl _ q; rw [get?_size] at e; cases e
        · unfold List.Nodup; rw [List.pairwise_map]; exact hap
        · subst e
          obtain ⟨o, e⟩ := hfpl _ hb
          rw [hL a (Nat.le_of_lt (hcge a ha))] at e; cases e
      live := fun b hb => by
        rw [hhot] at hb
        rcases List.mem_cons.mp hb with h | h
        · obtain ⟨o, _, _, e, _⟩ := I.toInCall.ns; exact ⟨o, h ▸ e⟩
        · rcases List.mem_append.mp h with h | h
          · obtain ⟨q, hq, e⟩ := List.mem_map.mp h
            have := I.cell q.1 q.2 (lookup_of_mem hq hcn)
            obtain ⟨o, ho, _⟩ := this
            exact ⟨o, e ▸ ho⟩
          · obtain ⟨o, e⟩ := hfpl b h; exact ⟨o, I.toInCall.keep _ _ e⟩
      ns := I.toInCall.ns
      cell := I.cell
      keys := by
        show (params.zip args ++ rest.map (fun x => (x, MV.undef))).map (·.1) = params ++ rest
        rw [List.map_append, List.map_fst_zip (by rw [hlen]; exact Nat.le_refl _), List.map_map]
        congr 1
        exact List.map_id' rest
      loc := fun x mv hx => by
        rcases List.mem_append.mp hx with hx | hx
        · right
          obtain ⟨i, hi⟩ := List.mem_iff_getElem?.mp hx
          rw [List.getElem?_zip_eq_some] at hi
          obtain ⟨v, hv, hvr⟩ := hvs.get hi.2
          have hz : (x, v) ∈ params.zip vs := List.mem_iff_getElem?.mpr ⟨i, List.getElem?_zip_eq_some.mpr ⟨hi.1, hv⟩⟩
          exact ⟨v, fun hk => bindL_mem hz (by rw [hzf]; exact hnp) hk, fun hk => bindC_mem hz (by rw [hzf]; exact hnp) hk, hvr.mono (Sub.refl F) fun _ _ e => by cases e⟩
        · left
          obtain ⟨y, _, e⟩ := List.mem_map.mp hx
          cases e; rfl
      len := rfl
      pre := ⟨[], rfl⟩
      trk := fun k o hk => by
        cases k with
        | zero =>
          simp at hk; subst hk
          refine ⟨fp, rfl, .ext e fp _ (e.stab _ _ _ _ _ _ (fun a ha => ?_) (e.mono _ _ _ _ _ _ _ (Sub.refl F) (fun _ _ e => by cases e) her))⟩
          obtain ⟨o, e'⟩ := hfpl a ha
          rw [e', I.toInCall.keep _ _ e']
        | succ k => simp at hk
      ps := fun _ hp => nomatch hp
      tok := htk₁
      same := ⟨h₁, tk₁, hs₁⟩
      lim := fun b o e => .inl e
      ext := fun b o e => ⟨o, I.toInCall.keep _ _ e⟩
      ownL := fun k xs _ hk => by
        cases k with
        | zero => simp at hk
        | succ k => simp at hk }
    have hfr : Fresh Γ s F fp := ⟨rfl, rfl, rfl, rfl, fun n c hc => hL c (Nat.le_of_lt (hcge c (List.mem_map.mpr ⟨(n, c), mem_of_lookup hc, rfl⟩)))⟩
    exact wpAny_mono (h Γ hΓ hfr ⟨rfl, rfl⟩ _ [] s₁ _ ⟨F, _, _, [fp], C⟩ fun mf fl σ' s' hq hr => fin Γ mf fl σ' s' hfr hq hr) (fun _ _ x => x) (fun _ _ x => x.elim)
theorem ExtFn.of_def {ℓ : Nat} {hB : Heap} {f : Addr} {oc : Value} {od : Option Addr} {fd : FuncData} {osl : Array (Option Value)} {body : List Stmt} {params rest : List Str} {args : List MV} {e : Ext} {P : MV → Ext → Prop} {glob : List (Str × MV)}
    (ho : hB.get? f = some ⟨oc, od, .func fd, osl⟩) (hcode : hB.CodeRec fd.code fd.qualname) (hlim : hB.NoLimit) (hbody : fd.body = .stmts body) (hclo : fd.closure = [])
    (hgl : fd.globals = mainGlobals) (hbi : fd.builtins = builtinsNs)
    (hbind : ∀ vs, vs.length = params.length → bindArgs fd ⟨vs, []⟩ = pure (params.zip vs)) (hlen : args.length = params.length)
    (hsc : ScopeOk fd.scope (params ++ rest)) (hglob : GlobOk prog w fd.scope hB glob)
    (hco : fd.scope.isCoroutine = false) (hgen : fd.scope.isGenerator = false)
    (h : ∀ Γ : Cx, Γof fd.scope Γ hB ℓ glob → WPs prog w Γ ⟨params.zip args ++ rest.map (fun x => (x, .undef)), [some (.ext e)]⟩ body fun fl σ => ∃ e' l, σ.objs = some (.ext e') :: l ∧ match fl with | .ret mv => Closed mv ∧ P mv e' | .next => P .none e' | _ => False) :
    ExtFn prog w (ℓ + 1) hB (.ref f) args e P := by
  intro A F s vs fp R hd hu hh htk hB1 hF hvs her hnd hFfp hfpl hR
  refine call_core (QF := fun _ fl σ => ∃ e' l, σ.objs = some (.ext e') :: l ∧ match fl with | .ret mv => Closed mv ∧ P mv e' | .next => P .none e' | _ => False) ho hcode hlim hbody hclo hgl hbi hbind hlen hsc hglob hco hgen hd hu hh htk hB1 hF hvs her hnd hFfp hfpl (fun Γ hΓ _ _ => h Γ hΓ) fun Γ mf fl σ' s' fr hq hr => ?_
  · obtain ⟨e', l, hob, hq⟩ := hq
    have fin : ∀ (mv : MV) (v : Value), Closed mv → P mv e' → Rel prog w Γ (Kbut fp s) σ' [(mv, v)] s' → R (.ok (.ret v)) s' := fun mv v hcl hP hr => by
      obtain ⟨F', m', cm', fps', C'⟩ := hr
      obtain ⟨h', tk', es⟩ := C'.same
      rw [fr.sh] at es
      obtain ⟨lf, elf⟩ := C'.pre
      have hfp' : fps'[0]? = some fp := by rw [elf, fr.fps0]; rfl
      have ho' : σ'.objs[0]? = some (some (.ext e')) := by rw [hob]; rfl
      have hlv : ∀ a ∈ fp, ∃ o, s'.heap.get? a = some o := fun a ha => C'.live a (C'.mem_hot ho' hfp' ha)
      obtain ⟨fp₂, e₂, hor⟩ := C'.trk 0 _ ho'
      rw [hfp'] at e₂; cases e₂
      have hrel : e'.rel w F' (rho fps') fp s'.heap := by cases hor with | ext _ _ _ hh => exact hh
      rw [es] at C' hlv hrel ⊢
      have hkeep : ∀ b o, b ∉ fp → s.heap.get? b = some o → h'.get? b = some o := fun b o q e => C'.kept b o ((if_neg q).trans e)
      have hFk : ∀ b o, F b = some o → h'.get? b = some o := fun b o e => hkeep b o (fun q => by rw [hFfp b q] at e; cases e) (hF _ _ e)
      have hS2 : Sub F' (fun b => if (F b).isSome then F b else F' b) := fun b o e => by
        dsimp only
        split
        · rename_i hb
          obtain ⟨o', ho'⟩ := Option.isSome_iff_exists.mp hb
          have h1 := hFk b o' ho'
          have h2 := C'.frz b o e
          rw [h1] at h2; cases h2; exact ho'
        · exact e
      refine hR mv v h' tk' (fun b => if (F b).isSome then F b else F' b) e' hP (by have q := C'.tok; rw [fr.lo] at q; exact q) hkeep hlv (fun b o e => by simp [e]) (fun b o e => ?_) (fun b o e => ?_) ?_ ?_
      · split at e
        · exact hFk b o e
        · exact C'.frz b o e
      · split at e
        · exact .inl e
        · have := C'.lim b o e
          rwa [fr.F0, fr.sh] at this
      · exact (hcl w F' _ v (C'.ps (mv, v) (.head _))).mono hS2 fun _ _ e => e
      · exact e'.mono _ _ _ _ _ _ _ hS2 (fun _ _ e => by cases e) (e'.nor _ _ _ _ _ hrel)
    cases mf with
    | next => obtain ⟨rfl, hr⟩ := hr; exact fin .none .none Closed.none hq (hr.flat .none)
    | brk => exact hq.elim
    | cont => exact hq.elim
    | ret mv => obtain ⟨v, rfl, hr⟩ := hr; exact fin mv v hq.1 hq.2 hr
theorem ExtFn.of_stmt {ℓ : Nat} {hB : Heap} {mg mb : Str → Option Value} (T : TopF hB mg mb) {f : Addr} {qual : Str} {st : Stmt} (hf : IsFn hB f qual st) (params rest : List Str) {args : List MV} {e : Ext} {P : MV → Ext → Prop} (glob : List (Str × MV))
    (hbind : ∀ doc pm cdv ct vs, vs.length = params.length → bindArgs (fnOf (fName st) qual (fArgs st) (fBody st) (fScope st) .none .none doc pm none cdv ct) ⟨vs, []⟩ = pure (params.zip vs)) (hlen : args.length = params.length)
    (hsc : ScopeOk (fScope st) (params ++ rest)) (hglob : ∀ p ∈ glob, GlobAt w hB mg mb (fScope st) p)
    (hco : (fScope st).isCoroutine = false) (hgen : (fScope st).isGenerator = false)
    (h : ∀ Γ : Cx, Γof (fScope st) Γ hB ℓ glob → WPs prog w Γ ⟨params.zip args ++ rest.map (fun x => (x, .undef)), [some (.ext e)]⟩ (fBody st) fun fl σ => ∃ e' l, σ.objs = some (.ext e') :: l ∧ match fl with | .ret mv => Closed mv ∧ P mv e' | .next => P .none e' | _ => False) :
    ExtFn prog w (ℓ + 1) hB (.ref f) args e P := by
  obtain ⟨oc, od, osl, pm, cdv, ct, doc, h1, h2⟩ := hf
  exact ExtFn.of_def h1 h2 T.nolimit rfl rfl rfl rfl (hbind doc pm cdv ct) hlen hsc (GlobOk.of T hsc.kind hglob) hco hgen h
theorem nodup_at {o : MO} {fp : List Addr} : ∀ {os : List (Option MO)} {fps : List (List Addr)} {k : Nat}, os[k]? = some (some o) → fps[k]? = some fp → (alive os fps).Nodup → fp.Nodup
  | [], _, _, h, _, _ => by simp at h
  | _ :: _, [], _, _, h, _ => by simp at h
  | x :: os, g :: fps, 0, h1, h2, h3 => by simp at h1 h2; subst h1 h2; exact (List.nodup_append.mp h3).1
  | none :: os, g :: fps, k + 1, h1, h2, h3 => nodup_at (os := os) (fps := fps) (k := k) (by simpa using h1) (by simpa using h2) h3
  | some _ :: os, g :: fps, k + 1, h1, h2, h3 => nodup_at (os := os) (fps := fps) (k := k) (by simpa using h1) (by simpa using h2) (List.nodup_append.mp h3).2.1
theorem Core.callExt (C : Core prog w Γ K σ ps s F m cm fps) {A : Around} {ℓ k : Nat} {hB : Heap} {f : Value} {args : List MV} {vs : List Value} {e : Ext} {P : MV → Ext → Prop} {R : Result → Shared → Prop} (h1 : A.depth + ℓ < recursionLimit) (h2 : A.units + 20 * ℓ < cLine) (h3 : A.handled = none)
    (g2 : ∀ b o, hB.get? b = some o → Γ.hB b = some o) (hf : ExtFn prog w ℓ hB f args e P) (hc : ∀ x ∈ args, Closed x) (hk : ObjAt σ k (.ext e)) {fp : List Addr} (hfp : fps[k]? = some fp) (hvs : VRs w F (rho fps) args vs)
    (hR : ∀ mv v e' s' F', P mv e' → Core prog w Γ K { σ with objs := σ.objs.set k (some (.ext e')) } ((mv, v) :: ps) s' F' m cm fps → (∀ b o, b ∉ fp → s.heap.get? b = some o → s'.heap.get? b = some o) → R (.ok (.ret v)) s') :
    codeAny (model prog w) A (.call f ⟨vs, []⟩) R s := by
  obtain ⟨fp₁, hfp₁, hor⟩ := C.trk k _ hk
  rw [hfp] at hfp₁; cases hfp₁
  have hrel : e.rel w F (rho fps) fp s.heap := by cases hor with | ext _ _ _ hh => exact hh
  have hfh : ∀ a ∈ fp, a ∈ Γ.hot σ.objs fps := fun a ha => C.mem_hot hk hfp ha
  refine hf A F s vs fp _ h1 h2 h3 (Nat.le_trans C.ok.lo1 C.tok) (fun b o e => C.base b o (g2 b o e)) C.frz ⟨hvs.1, fun i x v hx hv => hc x (List.mem_of_getElem? hx) w F _ v (hvs.2 i x v hx hv)⟩ (e.nor _ _ _ _ _ hrel) ?_ (fun a ha => ?_) (fun a ha => C.live a (hfh a ha)) fun mv v h' tk F' e' hP ht hk' hl' hS hF' hn hv hr' => ?_
  · obtain ⟨n1, n2⟩ := List.nodup_cons.mp C.hot
    exact nodup_at hk hfp (List.nodup_append.mp n2).2.1
  · cases q : F a with
    | none => rfl
    | some o => exact absurd (hfh a ha) (C.frzH a o q)
  · exact hR mv v e' _ F' hP ((C.turnObj hk hfp hk' hl' hS hF' hn (.ext e' fp h' (e'.mono _ _ _ _ _ _ _ (Sub.refl _) (fun _ _ e => by cases e) hr')) (fun xs e => by cases e) tk ht).cons (hv.mono (Sub.refl F') fun _ _ e => by cases e)) hk'
theorem wc_ext {ℓ ℓ' k : Nat} {hB : Heap} {f : Addr} {args : List MV} {e : Ext} {P : MV → Ext → Prop} {sc : Scope} {gl : List (Str × MV)} {qual : Str} {st : Stmt} (hΓ : Γof sc Γ hB ℓ' gl) (hf : ExtFn prog w ℓ hB (.ref f) args e P) (hi : IsFn hB f qual st) (hℓ : ℓ ≤ ℓ') (hc : ∀ x ∈ args, Closed x)
    (hk : ObjAt σ k (.ext e)) (h : ∀ mv e', P mv e' → Q mv { σ with objs := σ.objs.set k (some (.ext e')) }) : WPc prog w Γ σ (.ref f) args Q := by
  intro K ps vs s R hl r hR
  obtain ⟨F, m, cm, fps, C⟩ := r
  obtain ⟨g1, g2, g3, g4, g5, g6, g7⟩ := hΓ
  obtain ⟨oc, od, osl, pm, cdv, ct, doc, h1, h2⟩ := hi
  have hfs : s.heap.get? f = some _ := C.frz f _ (C.base f _ (g2 f _ h1))
  obtain ⟨fp, hfp, _⟩ := C.trk k _ hk
  refine ⟨kept_fn hfs rfl, wpAny_call (Core.callExt (C.setps (ps' := ps) fun p hp => C.ps p (List.mem_append_right _ hp)) (by (first | exact o14 hℓ g4 | omega)) (by (first | exact o15 hℓ g5 | omega)) C.ok.handled g2 hf hc hk hfp (C.zip hl rfl) fun mv v e' s' F' hP C' _ => hR mv v _ _ (h mv e' hP) ⟨F', m, cm, fps, C'⟩)⟩
theorem Core.addExt (C : Core prog w Γ K σ ps s F m cm fps) {e : Ext} {fp : List Addr} (hn : fp.Nodup) (hF : ∀ a ∈ fp, F a = none) (hK : ∀ a ∈ fp, K.f a = none) (hH : ∀ a ∈ fp, a ∉ Γ.hot σ.objs fps) (hl : ∀ a ∈ fp, ∃ x, s.heap.get? a = some x) (hr : e.rel w F noρ fp s.heap) :
    Core prog w Γ K { σ with objs := σ.objs ++ [some (.ext e)] } ps s F m cm (fps ++ [fp]) := by
  have hh : Γ.hot (σ.objs ++ [some (.ext e)]) (fps ++ [fp]) = Γ.hot σ.objs fps ++ fp := by unfold Cx.hot; rw [alive_snoc C.len]; simp
  have hrm : ∀ k a, rho fps k = some a → rho (fps ++ [fp]) k = some a := fun k a e => rho_snoc e
  refine { C with
    frzH := fun b x e hb => by
      rw [hh] at hb
      rcases List.mem_append.mp hb with q | q
      · exact C.frzH b x e q
      · rw [hF b q] at e; cases e
    keptH := fun b x e hb => by
      rw [hh] at hb
      rcases List.mem_append.mp hb with q | q
      · exact C.keptH b x e q
      · rw [hK b q] at e; cases e
    hot := by
      rw [hh]
      exact List.nodup_append.mpr ⟨C.hot, hn, fun a ha b hb e => by subst e; exact hH a hb ha⟩
    live := fun b hb => by
      rw [hh] at hb
      rcases List.mem_append.mp hb with q | q
      · exact C.live b q
      · exact hl b q
    loc := fun x mv hx => (C.loc x mv hx).imp id fun ⟨v, h1, h2, h3⟩ => ⟨v, h1, h2, h3.mono (Sub.refl F) hrm⟩
    len := by simp [C.len]
    pre := by obtain ⟨l, e⟩ := C.pre; exact ⟨l ++ [fp], by rw [e, List.append_assoc]⟩
    trk := fun j x hj => ?_
    ps := fun p hp => (C.ps p hp).mono (Sub.refl F) hrm
    ownL := fun j xs fp' hj hj' => ?_ }
  · by_cases q : j < σ.objs.length
    · rw [List.getElem?_append_left q] at hj
      obtain ⟨fp', h1, h2⟩ := C.trk j x hj
      exact ⟨fp', by rw [List.getElem?_append_left (by rw [C.len]; exact q)]; exact h1, h2.mono (Sub.refl F) hrm⟩
    · rw [List.getElem?_append_right (Nat.le_of_not_lt q)] at hj
      have hj0 : j - σ.objs.length = 0 := by
        cases e : j - σ.objs.length with
        | zero => rfl
        | succ i => rw [e] at hj; simp at hj
      rw [hj0] at hj
      simp at hj
      subst hj
      exact ⟨fp, by rw [List.getElem?_append_right (by rw [C.len]; exact Nat.le_of_not_lt q), C.len, hj0]; rfl, .ext e fp _ (e.mono _ _ _ _ _ _ _ (Sub.refl F) (fun _ _ e => by cases e) hr)⟩
  · by_cases q : j < σ.objs.length
    · rw [List.getElem?_append_left q] at hj
      rw [List.getElem?_append_left (by rw [C.len]; exact q)] at hj'
      exact C.ownL j xs fp' hj hj'
    · rw [List.getElem?_append_right (Nat.le_of_not_lt q)] at hj
      have hj0 : j - σ.objs.length = 0 := by
        cases e : j - σ.objs.length with
        | zero => rfl
        | succ i => rw [e] at hj; simp at hj
      rw [hj0] at hj; simp at hj
theorem Core.newF (C : Core prog w Γ K σ ps s F m cm fps) {a : Addr} (ha : s.heap.get? a = none) : F a = none ∧ K.f a = none ∧ a ∉ Γ.hot σ.objs fps ∧ Γ.sh.heap.get? a = none := by
  refine ⟨?_, ?_, fun h => ?_, ?_⟩
  · cases e : F a with
    | none => rfl
    | some o => have := C.frz a o e; rw [ha] at this; cases this
  · cases e : K.f a with
    | none => rfl
    | some o => have := C.kept a o e; rw [ha] at this; cases this
  · obtain ⟨o, e⟩ := C.live a h; rw [ha] at e; cases e
  · cases e : Γ.sh.heap.get? a with
    | none => rfl
    | some o => obtain ⟨o', e'⟩ := C.ext a o e; rw [ha] at e'; cases e'
open Builtin Builtin.ObjectAttr
section
variable {prog : Program} {w : World} {A : Around} {E : Value → Shared → Prop} {h : Heap} {g : Array GenState} {d : Drawn} {t : Nat} {os : OsState}
variable {nm q : Str} {C N x : Addr} {bs : List Value} {sn : List Str} {sub : List Value} {ab : Bool} {col : Option Bool} {dd : Option Addr} {k0 k1 k2 k3 k5 : Option Value} {newId : String}
  {mN mA : Str → Option Value} {name : Str} {v : Value}
theorem gm_own {pl : Sem Bool} {Q : Value × List Value → Shared → Prop}
    (hC : h.get? C = some (excClassObj nm q C N bs [.type "object"] true sn sub ab col dd k0 k1 k2 k3 k5 newId)) (hn : h.Ns N mN) (hng : mN "__getattribute__" = none) (hnh : mN "__getattr__" = none)
    (hna : mN name = none) (hB : typeLookup (.type "object") name = pure none) (I : h.InstFk x C mA) (hv : mA name = some v) (hh : handedOut v = pure v) (hq : Q (v, []) ⟨h, g, d, t + 1, os⟩) :
    wpAny (model prog w) A (getMethod (.ref x) name pl) Q E ⟨h, g, d, t, os⟩ := by
  have I' := I
  obtain ⟨o, hx, hc, hnc, hd⟩ := I
  have hcan := PySem.F.canon_object_ga
  unfold getMethod specialOf
  repeat (first | (with_reducible refine load_attrFk hC hn hng hna hB I' hv hh ?_) | (with_reducible refine wpAny_loadPart_at hx ?_; rw [hc]) | (with_reducible refine wpAny_typeLookup_exc hC hn PySem.F.mro_object PySem.F.lk_object_ga ?_; rw [hng]) | (with_reducible refine wpAny_typeLookup_exc hC hn PySem.F.mro_object PySem.F.lk_object_getattr ?_; rw [hnh]) | (with_reducible refine wpAny_typeLookup_exc hC hn PySem.F.mro_object hB ?_; rw [hna]) | simp only [hcan, Bool.false_eq_true, if_false] | wp_step)
  exact hq
theorem ga_bound {f : Addr} {of : Obj} {expr : Bool} {Q : Value → Shared → Prop}
    (hC : h.get? C = some (excClassObj nm q C N bs [.type "object"] true sn sub ab col dd k0 k1 k2 k3 k5 newId)) (hn : h.Ns N mN) (hng : mN "__getattribute__" = none) (hnh : mN "__getattr__" = none)
    (hf : mN name = some (.ref f)) (hfo : h.get? f = some of) (hfc : of.cls = .type "function") (hB : typeLookup (.type "object") name = pure none)
    (I : h.InstFk x C mA) (hdic : ∀ o, h.get? x = some o → o.dict ≠ none) (hcn : copiedNames.contains name = false) (hsh : mA name = none) (hq : Q (.ref h.objs.size) ⟨h.push (methodObj (.ref f) (.ref x)), g, d, t + 1, os⟩) :
    wpAny (model prog w) A (getAttr (.ref x) name expr) Q E ⟨h, g, d, t, os⟩ := by
  obtain ⟨o, hx, hc, hnc, hd⟩ := I
  have hTf : ∀ t', (⟨h, g, d, t', os⟩ : Shared).TypeIs (.ref f) "function" := fun _ => ⟨_, hfo, hfc⟩
  unfold getAttr getAttrBy
  repeat (first | (with_reducible refine wpAny_loadPart_at hx ?_; rw [hc]) | (with_reducible refine wpAny_typeLookup_exc hC hn PySem.F.mro_object PySem.F.lk_object_ga ?_; rw [hng]) | wp_step)
  show wpAny _ _ ((runValue (.builtin "proto.getattr_hooked" ⟨[.ref x, .str name t], []⟩)).onRaise (noteIf true (.ref x) (.str name t))) _ _ _
  refine wpAny_onRaise (wpAny_runValue (codeAny_builtin PySem.F.plainObj_entry_getattr_hooked ?_))
  have hlk : typeLookup (.type "function") "__get__" = pure (some (.builtin "function.__get__")) := KF.slot_fn.lookup
  have hls : typeLookup (.type "function") "__set__" = pure none := by rw [typeLookup_type, builtinLookup_eq_fast]; kernel_rfl
  have hld : typeLookup (.type "function") "__delete__" = pure none := by rw [typeLookup_type, builtinLookup_eq_fast]; kernel_rfl
  unfold Builtin.«proto.getattr_hooked»
  repeat (first | (with_reducible refine wpAny_of_eq hlk ?_) | (with_reducible refine wpAny_of_eq hls ?_) | (with_reducible refine wpAny_of_eq hld ?_) | (with_reducible refine wpAny_loadPart_at hx ?_; rw [hc]) | (with_reducible refine wpAny_typeLookup_exc hC hn PySem.F.mro_object hB ?_; rw [hf]) | (with_reducible refine wpAny_typeLookup_exc hC hn PySem.F.mro_object PySem.F.lk_object_getattr ?_; rw [hnh]) | (with_reducible refine wpAny_typeOf (hTf _) ?_) | wp_step)
  split
  · rename_i c hcd
    exact absurd hcd (hnc c)
  unfold instanceDict
  repeat (first | (with_reducible refine wpAny_loadPart_at hx ?_; rw [hc]) | with_reducible refine wpAny_loadPart_at hC ?_ | wp_step)
  rcases hd with ⟨hdn, _⟩ | ⟨dx, hdx, hne, hns, _⟩
  · exact absurd hdn (hdic o hx)
  rw [hdx]
  have hcn' : (["__module__", "__name__", "__qualname__", "__doc__", "__annotations__"] : List Str).contains name = false := hcn
  repeat (first | (with_reducible refine wpAny_nsGet hns.ns ?_; rw [hsh]) | rw [if_neg (by rw [hcn']; exact Bool.false_ne_true)] | wp_step)
  refine wpAny_typeLookup_exc hC hn PySem.F.mro_object PySem.F.lk_object_getattr ?_
  rw [hnh]
  show wpAny _ _ (holding [.ref f] (call (.builtin "function.__get__") [.ref f, .ref x, .ref C]) >>= ret) _ _ _
  refine wpAny_bind (wpAny_holding (wpAny_call (codeAny_call_builtin KF.slot_fn.plain KF.entry_fn (KF.slot_fn.check _ _ _ _ _ _ _ _ ⟨_, hfo, hfc⟩ (KF.args_fn _ _ _) ?_))))
  repeat k_node
  exact hq
end
open Builtin
theorem ci_slot_next : Slot "callable_iterator" "__next__" "callable_iterator.__next__" :=
  .of (owner := "callable_iterator") (n := "__next__") (by rw [typeLookup_type, builtinLookup_eq_fast]; kernel_rfl) (by decide +kernel) (by decide +kernel) (by decide +kernel)
    (by first | exact .inl (by decide +kernel) | exact .inr (by decide +kernel)) (by rw [isSubtype_type]; kernel_rfl)
theorem ci_slot_iter : Slot "callable_iterator" "__iter__" "callable_iterator.__iter__" :=
  .of (owner := "callable_iterator") (n := "__iter__") (by rw [typeLookup_type, builtinLookup_eq_fast]; kernel_rfl) (by decide +kernel) (by decide +kernel) (by decide +kernel)
    (by first | exact .inl (by decide +kernel) | exact .inr (by decide +kernel)) (by rw [isSubtype_type]; kernel_rfl)
theorem ci_entry_next : entryFor table "callable_iterator.__next__" = some Builtin.«callable_iterator.__next__» := entryFor_of_fast (by kernel_rfl)
theorem ci_entry_iter : entryFor table "callable_iterator.__iter__" = some Builtin.«dict_keyiterator.__iter__» := entryFor_alias (id' := "dict_keyiterator.__iter__") (by kernel_rfl) rfl (by decide +kernel) (by kernel_rfl)
theorem ci_args_next (a : Value) : argsOk "callable_iterator.__next__" ⟨[a], []⟩ := by unfold argsOk; kernel_rfl
theorem ci_args_iter (a : Value) : argsOk "callable_iterator.__iter__" ⟨[a], []⟩ := by unfold argsOk; kernel_rfl
theorem iter_args2 (a b : Value) : argsOk "iter" ⟨[a, b], []⟩ := by unfold argsOk; kernel_rfl
theorem meth_call : typeLookup (.type "method") "__call__" = pure (some (.builtin "method.__call__")) := by rw [typeLookup_type, builtinLookup_eq_fast]; kernel_rfl
noncomputable abbrev ciObj (m t : Value) (b : Bool) : Obj := { cls := .type "callable_iterator", data := .fields #[m, t, .bool b] }
section
variable {prog : Program} {w : World} {A : Around} {E : Value → Shared → Prop} {s : Shared}
theorem wpAny_callBorrowed {M : Model} {f : Value} {pos : List Value} {Q : Value → Shared → Prop}
    (hc : codeAny M A (.call f ⟨pos, []⟩) (fun r s' => match r with | .ok (.ret v) => Q v s' | .ok _ => False | .error e => E e s') s) :
    wpAny M A (callBorrowed f pos) Q E s := fun Γ p hΓ => by
  unfold callBorrowed
  rw [Sem.wp_call]
  refine wpCode_mono ?_ (hc _ p rfl (hΓ.enter (.call f ⟨pos, []⟩) none p (by intro x; cases x)))
  intro r s' h
  match r, h with
  | .ok (.ret v), h => exact h
  | .error e, h => exact h
theorem call_iter2 {m : Addr} {f x b : Value} {Q : Value → Shared → Prop} (hm : s.heap.get? m = some (methodObj f x)) (hq : Q (.ref s.heap.objs.size) { s with heap := s.heap.push (ciObj (.ref m) b false) }) :
    wpAny (model prog w) A (call (.builtin "iter") [.ref m, b]) Q E s := by
  refine call_function_entry (by decide +kernel) (by decide +kernel) kdk_entry_iter (iter_args2 _ _) ?_
  unfold Builtin.«iter»
  refine wpAny_bind (m := someArgs "iter" 1 2 _) (wpAny_of_eq (a := [Value.ref m, b]) (by first | rfl | kernel_rfl!) ?_)
  show wpAny _ _ (specialOf (.ref m) "__call__" >>= _) _ _ _
  refine wpAny_bind (wpAny_specialOf (T := "method") ⟨_, hm, rfl⟩ meth_call ?_)
  refine wpAny_bind (wpAny_rule ?_)
  exact wpAny_bind (wpAny_newObj_type (wpAny_pure ⟨_, rfl, hq⟩) (by size_fits))
theorem ci_self {I : Addr} {m b : Value} {l : Bool} {Q : Value → Shared → Prop} (hI : s.heap.get? I = some (ciObj m b l)) (h : Q (.ref I) s) : wpAny (model prog w) A (pyIter (.ref I)) Q E s := by
  have hT : s.TypeIs (.ref I) "callable_iterator" := ⟨_, hI, rfl⟩
  refine wpAny_pyIter_slot hT ci_slot_iter (wpAny_call_entry ci_slot_iter hT ci_entry_iter ?_ (ci_args_iter _))
  show wpAny _ _ (ret (.ref I)) _ _ s
  exact wpAny_pure ⟨_, rfl, "callable_iterator", _, hT, ci_slot_next.lookup, h⟩
theorem borrows_meth {M : Model} {m f : Addr} {of : Obj} {fd : FuncData} {x : Value} {Q : Bool → Shared → Prop} (hm : s.heap.get? m = some (methodObj (.ref f) x)) (hf : s.heap.get? f = some of) (hfd : of.data = .func fd) (h : Q true s) :
    wpAny M A (borrowsExactly (.ref m)) Q E s := by
  unfold borrowsExactly
  refine wpAny_bind (wpAny_load hm ?_)
  show wpAny _ _ (if ((Value.type "method" : Value) == Value.type "method") = true then _ else _) _ _ _
  rw [if_pos (by decide)]
  show wpAny _ _ (load f >>= _) _ _ _
  refine wpAny_bind (wpAny_load hf ?_)
  obtain ⟨c, d, dt, sl⟩ := of
  cases hfd
  exact wpAny_pure h
theorem ci_next {I m f : Addr} {of : Obj} {fd : FuncData} {x : Value} {t : Tok} {Q : Option Value → Shared → Prop} (hI : s.heap.get? I = some (ciObj (.ref m) (.str Str.empty t) false)) (hm : s.heap.get? m = some (methodObj (.ref f) x)) (hf : s.heap.get? f = some of) (hfd : of.data = .func fd)
    (hc : codeAny (model prog w) A.in1 (.call (.ref f) ⟨[x], []⟩) (fun r s' => match r with | .ok (.ret v) => s'.heap.get? I = some (ciObj (.ref m) (.str Str.empty t) false) ∧ ∃ c u, v = .str c u ∧
      ((Str.empty == c) = false ∧ Q (some v) s' ∨ (Str.empty == c) = true ∧ A.handled = none ∧ s'.heap.get? m = some (methodObj (.ref f) x) ∧ s'.heap.get? f = some of ∧ ∀ h', h'.get? I = some (ciObj .none .none true) → Heap.ExtBut I s'.heap h' → Q none { s' with heap := h' }) | _ => False) s) :
    wpAny (model prog w) A (pyNext (.ref I)) Q E s := by
  have hT : s.TypeIs (.ref I) "callable_iterator" := ⟨_, hI, rfl⟩
  have hd : (ciObj (.ref m) (.str Str.empty t) false).data = .fields #[.ref m, .str Str.empty t, .bool false] := rfl
  unfold pyNext
  refine wpAny_bind (wpAny_attempt (wpAny_callSpecial?_slot (name := Str.ofString "__next__") hT ci_slot_next
    (wpAny_call_entry ci_slot_next hT ci_entry_next ?_ (ci_args_next _))))
  unfold Builtin.«callable_iterator.__next__»
  refine wpAny_bind (wpAny_pure ?_)
  refine wpAny_bind (wpAny_field hI hd (x := .bool false) rfl ?_)
  show wpAny _ _ (field (.ref I) 0 >>= _) _ _ s
  refine wpAny_bind (wpAny_field hI hd (x := .ref m) rfl ?_)
  refine wpAny_bind (wpAny_attempt ?_)
  unfold callOutOfASlot
  refine wpAny_bind (borrows_meth hm hf hfd ?_)
  rw [if_pos rfl]
  refine wpAny_callBorrowed (method_call hm (codeAny_mono hc fun r s' hr => ?_))
  match r, hr with
  | .ok (.ret v), hr =>
    obtain ⟨hI', c, u, rfl, hr⟩ := hr
    show wpAny _ _ (field (.ref I) 2 >>= _) _ _ s'
    refine wpAny_bind (wpAny_field hI' hd (x := .bool false) rfl ?_)
    show wpAny _ _ (field (.ref I) 1 >>= _) _ _ s'
    refine wpAny_bind (wpAny_field hI' hd (x := .str Str.empty t) rfl ?_)
    refine wpAny_bind (wpAny_holding (eqBool_str ?_))
    rcases hr with ⟨hne, hq⟩ | ⟨heq, hh, hm', hf', hq⟩
    · rw [hne]
      exact wpAny_pure ⟨_, rfl, wpAny_pure hq⟩
    · rw [heq]
      refine wpAny_bind (wpAny_rule ?_)
      refine wpAny_bind ?_
      obtain ⟨hp, g, d, tk, os⟩ := s'
      show wpAny _ _ (field (.ref I) 0 >>= _) _ _ _
      refine wpAny_bind (wpAny_field hI' hd (x := .ref m) rfl ?_)
      show wpAny _ _ (slotLetsGo _ (.ref m) _ >>= _) _ _ _
      refine wpAny_bind ?_
      unfold slotLetsGo
      refine wpAny_bind (borrows_meth hm' hf' hfd ?_)
      refine wpAny_pure ?_
      show wpAny _ _ (setField (.ref I) 0 .none >>= _) _ _ _
      refine wpAny_bind (wpAny_setField_rec hI' (by simp) fun h₂ he₂ hs₂ => ?_)
      replace he₂ : h₂.get? I = some (ciObj .none (.str Str.empty t) false) := he₂
      refine wpAny_bind (wpAny_setField_rec he₂ (by simp) fun h₃ he₃ hs₃ => ?_)
      replace he₃ : h₃.get? I = some (ciObj .none .none false) := he₃
      refine wpAny_setField_rec he₃ (by simp) fun h₄ he₄ hs₄ => ?_
      replace he₄ : h₄.get? I = some (ciObj .none .none true) := he₄
      show wpAny _ _ (newExc (.type "StopIteration") [] >>= _) _ _ _
      refine wpAny_bind ?_
      simp only [newExc, newTuple]
      refine wpAny_bind (wpAny_newObj_type ?_ (by size_fits))
      refine wpAny_bind (m := firstArgMember _ _) (wpAny_of_eq (a := Value.none) (by first | rfl | (simp only [firstArgMember]; rfl)) ?_)
      refine wpAny_newObj_type ?_ (by size_fits)
      simp only [raiseNew]
      refine wpAny_bind (wpAny_handled ?_)
      rw [show A.in1.handled = none from hh]
      refine wpAny_bind (wpAny_pure (wpAny_throw ?_))
      refine wpAny_bind (wpAny_isInstance (T := "StopIteration") (b := true) ⟨_, Heap.get?_push_size _ rfl, rfl⟩ isSubtype_stop ?_)
      exact wpAny_pure (hq _ (Heap.get?_push_of_some _ (Heap.get?_push_of_some _ he₄)) fun b o hb e => Heap.get?_push_of_some _ (Heap.get?_push_of_some _ (hs₄.extBut b o hb (hs₃.extBut b o hb (hs₂.extBut b o hb e)))))
theorem ci_ended {I : Addr} {Q : Option Value → Shared → Prop} (hh : A.handled = none) (hI : s.heap.get? I = some (ciObj .none .none true)) (hq : ∀ h', (∀ b o, s.heap.get? b = some o → h'.get? b = some o) → Q none { s with heap := h' }) :
    wpAny (model prog w) A (pyNext (.ref I)) Q E s := by
  have hT : s.TypeIs (.ref I) "callable_iterator" := ⟨_, hI, rfl⟩
  have hd : (ciObj .none .none true).data = .fields #[.none, .none, .bool true] := rfl
  unfold pyNext
  refine wpAny_bind (wpAny_attempt (wpAny_callSpecial?_slot (name := Str.ofString "__next__") hT ci_slot_next
    (wpAny_call_entry ci_slot_next hT ci_entry_next ?_ (ci_args_next _))))
  unfold Builtin.«callable_iterator.__next__»
  refine wpAny_bind (wpAny_pure ?_)
  refine wpAny_bind (wpAny_field hI hd (x := .bool true) rfl ?_)
  show wpAny _ _ (rule _ >>= _) _ _ _
  refine wpAny_bind (wpAny_rule ?_)
  obtain ⟨hp, g, d, tk, os⟩ := s
  refine wpAny_bind ?_
  show wpAny _ _ (newExc (.type "StopIteration") [] >>= _) _ _ _
  refine wpAny_bind ?_
  simp only [newExc, newTuple]
  refine wpAny_bind (wpAny_newObj_type ?_ (by size_fits))
  refine wpAny_bind (m := firstArgMember _ _) (wpAny_of_eq (a := Value.none) (by first | rfl | (simp only [firstArgMember]; rfl)) ?_)
  refine wpAny_newObj_type ?_ (by size_fits)
  simp only [raiseNew]
  refine wpAny_bind (wpAny_handled ?_)
  rw [show A.in1.handled = none from hh]
  refine wpAny_bind (wpAny_pure (wpAny_throw ?_))
  refine wpAny_bind (wpAny_isInstance (T := "StopIteration") (b := true) ⟨_, Heap.get?_push_size _ rfl, rfl⟩ isSubtype_stop ?_)
  exact wpAny_pure (hq _ fun b o e => Heap.get?_push_of_some _ (Heap.get?_push_of_some _ e))
end
variable {prog : Program} {w : World} {Γ Γ' : Cx} {K K' : Kp} {σ σ' : St} {ps qs : List (MV × Value)} {s s' : Shared} {F F' : Frz} {m cm : Str → Option Value} {fps : List (List Addr)}
variable {Q : MV → St → Prop} {QB : Bool → St → Prop} {QF : MF → St → Prop} {QU : St → Prop} {QL : List MV → St → Prop}
theorem sl_upto {xs : List MV} {b : Nat} (hz : xs.length ≤ sizeLine) (h : Q (.list (xs.take b)) σ) : WSl prog w Γ σ (.list xs) none (some (b : Int)) Q := by
  intro K ps v l u s R hl hu r hR
  obtain ⟨a, vs, n, rfl, hg, hvl, r'⟩ := r.listAt
  have hg' : (s.heap.push { cls := .type "slice", data := .fields #[partValue l, partValue u, .none] }).get? a = some (listO vs n) := Heap.get?_push_of_some _ hg
  obtain rfl : l = none := by cases l with | none => rfl | some x => cases hl
  obtain ⟨t, rfl⟩ : ∃ t, u = some ((b : Int), t) := by
    cases u with
    | none => cases hu
    | some x => obtain ⟨i, t⟩ := x; cases hu; exact ⟨t, rfl⟩
  refine ⟨"list", _, slot_list_getitem.lookup, ⟨_, hg', rfl⟩, wpAny_getItem_list_slice (items := vs.toArray) (lo := none) (hi := some (b : Int)) (st := none) ⟨_, hg', rfl, n, rfl⟩ ⟨_, Heap.get?_push_size _ rfl, rfl, rfl⟩ .none (.int _ _) .none (by simp) ?_ (by rw [List.size_toArray, hvl]; exact hz)⟩
  rw [slicePick_upto']
  refine hR _ _ _ _ h (Rel.mk_list (xs := xs.take b) (vs := vs.take b) (by simp [hvl]) ((r'.push s.toks).perm fun p hp => ?_))
  rcases List.mem_append.mp hp with q | q
  · refine List.mem_append_left _ ?_
    obtain ⟨i, hi⟩ := List.mem_iff_getElem?.mp q
    rw [List.getElem?_zip_eq_some, List.getElem?_take, List.getElem?_take] at hi
    by_cases hb : i < b
    · rw [if_pos hb, if_pos hb] at hi
      exact List.mem_iff_getElem?.mpr ⟨i, List.getElem?_zip_eq_some.mpr hi⟩
    · rw [if_neg hb] at hi; cases hi.1
  · exact List.mem_append_right _ q
variable {prog : Program} {w : World} {Γ Γ' : Cx} {K K' : Kp} {σ σ' : St} {ps qs : List (MV × Value)} {s s' : Shared} {F F' : Frz} {m cm : Str → Option Value} {fps : List (List Addr)}
variable {Q : MV → St → Prop} {QB : Bool → St → Prop} {QF : MF → St → Prop} {QU : St → Prop} {QL : List MV → St → Prop}
theorem Core.dropExt (C : Core prog w Γ K σ ps s F m cm fps) {k : Nat} {o : MO} {fp : List Addr} {h' : Heap} (hk : σ.objs[k]? = some (some o)) (hfp : fps[k]? = some fp) (hs : ∀ b x, b ∉ fp → s.heap.get? b = some x → h'.get? b = some x) (hsh : ∀ a ∈ fp, Γ.sh.heap.get? a = none) (t : Nat) (ht : s.toks ≤ t) :
    Core prog w Γ K { σ with objs := σ.objs.set k none } ps { s with heap := h', toks := t } F m cm fps := by
  have hsub : (Γ.hot (σ.objs.set k none) fps).Sublist (Γ.hot σ.objs fps) := List.Sublist.cons_cons _ (List.Sublist.append (List.Sublist.refl _) (alive_sub hk))
  have hm : ∀ a ∈ fp, a ∈ alive σ.objs fps := fun a ha => mem_alive hk hfp ha
  obtain ⟨n1, n2⟩ := List.nodup_cons.mp C.hot
  obtain ⟨n3, n4, n5⟩ := List.nodup_append.mp n2
  have key : ∀ {os : List (Option MO)} {fps : List (List Addr)} {k : Nat}, os[k]? = some (some o) → fps[k]? = some fp → (alive os fps).Nodup → ∀ a ∈ fp, a ∉ alive (os.set k none) fps := by
    intro os
    induction os with
    | nil => intro fps k h; simp at h
    | cons x os ih =>
      intro fps k h1 h2 h3 a ha
      cases fps with
      | nil => simp at h2
      | cons f fps =>
        cases k with
        | zero =>
          simp at h1 h2; subst h1 h2
          intro hm
          exact (List.nodup_append.mp h3).2.2 a ha a hm rfl
        | succ k =>
          have h1' : os[k]? = some (some o) := by simpa using h1
          have h2' : fps[k]? = some fp := by simpa using h2
          cases x with
          | none => exact ih h1' h2' h3 a ha
          | some o' =>
            intro hm
            have h3' := List.nodup_append.mp h3
            rcases List.mem_append.mp hm with hm | hm
            · exact h3'.2.2 a hm a (mem_alive h1' h2' ha) rfl
            · exact ih h1' h2' h3'.2.1 a ha hm
  have hnot : ∀ b ∈ Γ.hot (σ.objs.set k none) fps, b ∉ fp := fun b hb hf => by
    rcases List.mem_cons.mp hb with h | h
    · exact n1 (h ▸ List.mem_append_right _ (hm b hf))
    · rcases List.mem_append.mp h with h | h
      · exact n5 b h b (hm b hf) rfl
      · exact key hk hfp n4 b hf h
  refine { C with
    frz := fun b x e => hs b x (fun q => C.frzH b x e (C.mem_hot hk hfp q)) (C.frz b x e)
    frzH := fun b x e hb => C.frzH b x e (hsub.mem hb)
    kept := fun b x e => hs b x (fun q => C.keptH b x e (C.mem_hot hk hfp q)) (C.kept b x e)
    keptH := fun b x e hb => C.keptH b x e (hsub.mem hb)
    hot := C.hot.sublist hsub
    live := fun b hb => let ⟨x, e⟩ := C.live b (hsub.mem hb); ⟨x, hs b x (hnot b hb) e⟩
    ns := C.ns.at' fun x e => hs _ x (hnot _ (.head _)) e
    cell := fun n c e => by
      obtain ⟨x, e', d⟩ := C.cell n c e
      exact ⟨x, hs _ _ (hnot c (List.mem_cons_of_mem _ (List.mem_append_left _ (List.mem_map.mpr ⟨(n, c), mem_of_lookup e, rfl⟩)))) e', d⟩
    len := by rw [List.length_set]; exact C.len
    tok := Nat.le_trans C.tok ht
    trk := fun j x hj => ?_
    same := by obtain ⟨h, tk, e⟩ := C.same; exact ⟨h', t, by rw [e]⟩
    ext := fun b x e => ?_
    ownL := fun j xs fp' hj => ?_ }
  · rw [List.getElem?_set] at hj
    split at hj
    · split at hj <;> cases hj
    · rename_i q
      obtain ⟨fp', h1, h2⟩ := C.trk j x hj
      refine ⟨fp', h1, h2.stab fun a ha => ?_⟩
      obtain ⟨y, ey⟩ := C.live a (C.mem_hot hj h1 ha)
      rw [ey]; exact hs a y (alive_apart n4 hj h1 hk hfp (fun e => q e.symm) a ha) ey
  · obtain ⟨x', e'⟩ := C.ext b x e
    exact ⟨x', hs b x' (fun q => by rw [hsh b q] at e; cases e) e'⟩
  · rw [List.getElem?_set] at hj
    split at hj
    · split at hj <;> cases hj
    · exact C.ownL j xs fp' hj
noncomputable def enE (e it l : Addr) (xs : List MV) (i : Nat) : Ext where
  rel := fun w F _ fp h => fp = [e, it] ∧ e ≠ it ∧ (∃ old, IsEnum h e it i old) ∧ (∃ o, h.get? it = some o ∧ o.cls = .type "list_iterator" ∧ o.data = .fields #[.ref l, .int i 0]) ∧ ∃ vs n, F l = some (listO vs n) ∧ VRs w F noρ xs vs
  mono := fun w F F' _ _ _ _ hF _ r => by
    obtain ⟨r1, r2, r3, r4, vs, n, r5, r6⟩ := r
    exact ⟨r1, r2, r3, r4, vs, n, hF _ _ r5, r6.mono hF fun _ _ e => e⟩
  stab := fun _ _ _ _ _ _ hk r => by
    obtain ⟨rfl, r2, ⟨old, r3⟩, ⟨o, r4, r5⟩, r6⟩ := r
    exact ⟨rfl, r2, ⟨old, (hk _ (.head _)).trans r3⟩, ⟨o, (hk _ (.tail _ (.head _))).trans r4, r5⟩, r6⟩
  nor := fun _ _ _ _ _ r => r
section
variable {en it l : Addr} {xs : List MV} {i : Nat} {loc : List (Str × MV)} {objs : List (Option MO)} {Q : Option Value → Shared → Prop} {E : Value → Shared → Prop}
theorem forE_item {ts : List Expr} {tk : Nat} {tp : Pos} {Y : Value → Shared → Prop} {E' : Value → Shared → Prop} (r : Rel prog w Γ K ⟨loc, objs ++ [some (.ext (enE en it l xs i))]⟩ ps s') (hi : i < xs.length)
    (hQ : ∀ v s₁, wpAny (model prog w) Γ.A (letOwnedTupleGo (.Tuple ts tk tp) (.ref en) v) (fun _ s₂ => Y v s₂) E' s₁ → Q (some v) s₁)
    (hY : ∀ a s₂, Rel prog w Γ K ⟨loc, objs ++ [some (.ext (enE en it l xs (i + 1)))]⟩ ((.tup [.int i, xs[i]], .ref a) :: ps) s₂ → Y (.ref a) s₂) : wpAny (model prog w) Γ.A (pyNext (.ref en)) Q E s' := by
  obtain ⟨F', m', cm', fps', C'⟩ := r
  have hk' : (⟨loc, objs ++ [some (.ext (enE en it l xs i))]⟩ : St).objs[objs.length]? = some (some (.ext (enE en it l xs i))) := by simp
  obtain ⟨fp, hfp, hor⟩ := C'.trk _ _ hk'
  have hrel := (show (enE en it l xs i).rel w F' (rho fps') fp s'.heap by cases hor with | ext _ _ _ hh => exact hh)
  obtain ⟨rfl, hne, ⟨old, hEn⟩, hIt', vs', n₂, hFl', hvs'⟩ := hrel
  have hls : s'.heap.IsList l vs'.toArray := ⟨_, C'.frz _ _ hFl', rfl, n₂, rfl⟩
  have hiv : i < vs'.length := by rw [hvs'.1]; exact hi
  have hx : xs[i]? = some xs[i] := List.getElem?_eq_getElem hi
  have hv : vs'.toArray[i]? = some vs'[i] := by simp [hiv]
  have hxv := hvs'.2 i _ _ hx (List.getElem?_eq_getElem hiv)
  refine wpAny_pyNext_enum_item hEn hIt' hls hv hne fun h₁ o1 o2 o3 o4 o5 => ?_
  refine hQ _ _ (wpAny_letOwnedTupleGo_enum o1 fun h₂ he₂ hs₂ => ?_)
  have hTl : s'.heap.get? s'.heap.objs.size = none := get?_size _
  have nT := C'.newF hTl
  have helt : en < s'.heap.objs.size := Heap.lt_size hEn
  have hilt : it < s'.heap.objs.size := by obtain ⟨_, x, _⟩ := hIt'; exact Heap.lt_size x
  have hkeep : ∀ b o, b ∉ [en, it] → s'.heap.get? b = some o → h₂.get? b = some o := fun b o hb e => by
    simp only [List.mem_cons, List.not_mem_nil, or_false, not_or] at hb
    exact hs₂.extBut b o hb.1 (o5 b o hb.1 hb.2 e)
  have hT₂ : h₂.get? s'.heap.objs.size = some (tupO [.int i s'.toks, vs'[i]] 0) := hs₂.extBut _ _ (Nat.ne_of_gt helt) o3
  have hit₂ : ∃ o, h₂.get? it = some o ∧ o.cls = .type "list_iterator" ∧ o.data = .fields #[.ref l, .int ((i + 1 : Nat) : Int) 0] := by
    obtain ⟨o, a, b, c⟩ := o2
    exact ⟨o, hs₂.extBut it o hne.symm a, b, c⟩
  have hS := Frz.put_sub (o := tupO [.int i s'.toks, vs'[i]] 0) nT.1
  have hFn : ∀ b x, (F'.put s'.heap.objs.size (tupO [.int i s'.toks, vs'[i]] 0)) b = some x → F' b = some x ∨ s'.heap.get? b = none := fun b x e => by
    unfold Frz.put at e; split at e
    · rename_i q; subst q; exact .inr hTl
    · exact .inl e
  have hF₂ : ∀ b x, (F'.put s'.heap.objs.size (tupO [.int i s'.toks, vs'[i]] 0)) b = some x → h₂.get? b = some x := fun b x e => by
    unfold Frz.put at e; split at e
    · rename_i q; subst q; cases e; exact hT₂
    · exact hkeep b x (fun q => C'.frzH b x e (C'.mem_hot hk' hfp q)) (C'.frz b x e)
  have C₃ := C'.turnObj (h' := h₂) hk' hfp hkeep (fun a ha => by
    simp only [List.mem_cons, List.not_mem_nil, or_false] at ha
    obtain ⟨o, i1, _⟩ := hit₂
    rcases ha with rfl | rfl
    · exact ⟨_, he₂⟩
    · exact ⟨_, i1⟩) hS hF₂ hFn (.ext (enE en it l xs (i + 1)) [en, it] h₂ (show _ ∧ _ from ⟨rfl, hne, ⟨_, by rw [Int.natCast_add]; exact he₂⟩, hit₂, vs', n₂, hS _ _ hFl', hvs'.mono hS fun _ _ e => e⟩)) (fun _ e => by cases e) (s'.toks + 1) (Nat.le_succ _)
  have hset : (objs ++ [some (MO.ext (enE en it l xs i))]).set objs.length (some (.ext (enE en it l xs (i + 1)))) = objs ++ [some (.ext (enE en it l xs (i + 1)))] := by
    rw [List.set_append_right _ _ (Nat.le_refl _), Nat.sub_self]; rfl
  have C₄ : Core prog w Γ K ⟨loc, objs ++ [some (.ext (enE en it l xs (i + 1)))]⟩ ((.tup [.int i, xs[i]], .ref s'.heap.objs.size) :: ps) { s' with heap := h₂, toks := s'.toks + 1 } (F'.put s'.heap.objs.size (tupO [.int i s'.toks, vs'[i]] 0)) m' cm' fps' := by
    have := C₃.cons (x := .tup [.int i, xs[i]]) (v := .ref s'.heap.objs.size) (.tup _ _ [.int i s'.toks, vs'[i]] 0 Frz.put_self rfl fun j y u hy hu => by
      match j, hy, hu with
      | 0, hy, hu => cases hy; cases hu; exact .int _ _
      | 1, hy, hu => cases hy; cases hu; exact (hxv.mono (ρ' := rho fps') hS fun _ _ e => by cases e))
    rw [show ({ (⟨loc, objs ++ [some (.ext (enE en it l xs i))]⟩ : St) with objs := (⟨loc, objs ++ [some (.ext (enE en it l xs i))]⟩ : St).objs.set objs.length (some (.ext (enE en it l xs (i + 1)))) } : St) = ⟨loc, objs ++ [some (.ext (enE en it l xs (i + 1)))]⟩ from by rw [hset]] at this
    exact this
  exact hY _ _ ⟨_, m', cm', fps', C₄⟩
theorem forE_end (r : Rel prog w Γ K ⟨loc, objs ++ [some (.ext (enE en it l xs i))]⟩ ps s') (hi : i = xs.length) (hnew : Γ.sh.heap.get? en = none ∧ Γ.sh.heap.get? it = none)
    (hX : ∀ s₂, Rel prog w Γ K ⟨loc, objs ++ [none]⟩ ps s₂ → Q none s₂) : wpAny (model prog w) Γ.A (pyNext (.ref en)) Q E s' := by
  obtain ⟨F', m', cm', fps', C'⟩ := r
  have hk' : (⟨loc, objs ++ [some (.ext (enE en it l xs i))]⟩ : St).objs[objs.length]? = some (some (.ext (enE en it l xs i))) := by simp
  obtain ⟨fp, hfp, hor⟩ := C'.trk _ _ hk'
  have hrel := (show (enE en it l xs i).rel w F' (rho fps') fp s'.heap by cases hor with | ext _ _ _ hh => exact hh)
  obtain ⟨rfl, hne, ⟨old, hEn⟩, hIt', vs', n₂, hFl', hvs'⟩ := hrel
  have hls : s'.heap.IsList l vs'.toArray := ⟨_, C'.frz _ _ hFl', rfl, n₂, rfl⟩
  refine wpAny_pyNext_enum_end C'.ok.handled hEn hIt' hls (by rw [hi, ← hvs'.1]; simp) fun h₁ hx => ?_
  have C₃ := C'.dropExt (h' := h₁) hk' hfp (fun b x hb e => hx b x (fun q => hb (by simp [q])) e) (fun a ha => by
    simp only [List.mem_cons, List.not_mem_nil, or_false] at ha
    rcases ha with rfl | rfl
    · exact hnew.1
    · exact hnew.2) s'.toks (Nat.le_refl _)
  have hset : (objs ++ [some (MO.ext (enE en it l xs i))]).set objs.length none = objs ++ [none] := by
    rw [List.set_append_right _ _ (Nat.le_refl _), Nat.sub_self]; rfl
  have r₃ : Rel prog w Γ K ⟨loc, objs ++ [none]⟩ ps { s' with heap := h₁, toks := s'.toks } := by
    refine ⟨F', m', cm', fps', ?_⟩
    rw [show ({ (⟨loc, objs ++ [some (.ext (enE en it l xs i))]⟩ : St) with objs := (⟨loc, objs ++ [some (.ext (enE en it l xs i))]⟩ : St).objs.set objs.length none } : St) = ⟨loc, objs ++ [none]⟩ from by rw [hset]] at C₃
    exact C₃
  exact hX _ r₃
theorem forE_loop {kn xn : Str} {kp xp tp : Pos} {tk : Nat} {body : List Stmt} {QF : MF → St → Prop} (J : Nat → List (Str × MV) → List (Option MO) → Prop) (h0 : J 0 σ.loc σ.objs) (hnew : Γ.sh.heap.get? en = none ∧ Γ.sh.heap.get? it = none)
    (step : ∀ i x loc objs ex, xs[i]? = some x → objs.length = σ.objs.length → J i loc objs → WAL (fun σ' => WPs prog w Γ σ' body fun f σ₂ => f = .next ∧ ∃ objs', objs'.length = objs.length ∧ σ₂.objs = objs' ++ [some ex] ∧ J (i + 1) σ₂.loc objs') [.Name kn kp, .Name xn xp] [.int i, x] ⟨loc, objs ++ [some ex]⟩)
    (fin : ∀ loc objs, objs.length = σ.objs.length → J xs.length loc objs → QF .next ⟨loc, objs ++ [none]⟩) {R : Result → Shared → Prop} (hR : ∀ σ₂ s₂, QF .next σ₂ → Rel prog w Γ K σ₂ ps s₂ → R (.ok .next) s₂)
    (r : Rel prog w Γ K ⟨σ.loc, σ.objs ++ [some (.ext (enE en it l xs 0))]⟩ ps s) : codeAny (model prog w) Γ.A (.forLoop (.Tuple [.Name kn kp, .Name xn xp] tk tp) (.ref en) body [] Γ.env) R s := by
  refine codeAny_forLoop_any (fun n' s' => ∃ i loc objs, n' + i = xs.length + 1 ∧ i ≤ xs.length ∧ objs.length = σ.objs.length ∧ J i loc objs ∧ Rel prog w Γ K ⟨loc, objs ++ [some (.ext (enE en it l xs i))]⟩ ps s') (fun n' s' hI => ?_) (xs.length + 1) ⟨0, _, _, rfl, Nat.zero_le _, rfl, h0, r⟩
  obtain ⟨i, loc, objs, hni, hix, hlen, hJ, r'⟩ := hI
  by_cases hi : i < xs.length
  · refine forE_item r' hi (fun v s₁ h => h) fun a s₂ r₂ => ?_
    refine wpAny_mono (wa_tuple (step i xs[i] loc objs _ (List.getElem?_eq_getElem hi) hlen hJ) K ps (.ref a) _ (fun (_ : Unit) s₃ => wpAny (model prog w) Γ.A (execs body Γ.env) _ (fun _ _ => False) s₃) r₂ fun σ₃ s₃ h₃ r₃ => ?_) (fun _ s₃ h₃ => wpAny_mono h₃ (fun _ _ q => q) fun _ _ q => q.elim) fun _ _ q => q.elim
    refine h₃ K ps s₃ _ r₃ fun mf f σ₄ s₄ h₄ r₄ => ?_
    obtain ⟨rfl, objs', hl', ho', hJ'⟩ := h₄
    obtain ⟨rfl, r₄⟩ := r₄
    refine ⟨n' - 1, by (first | exact o21 hni hi | omega), i + 1, σ₄.loc, objs', by (first | exact o22 hni hi | omega), hi, by (first | exact o23 hlen hl' | omega), hJ', ?_⟩
    rw [← ho']
    exact r₄
  · have hil : i = xs.length := by (first | exact o24 hix hi | omega)
    exact forE_end r' hil hnew fun s₂ r₂ => wpAny_execs_nil (hR _ _ (fin loc objs hlen (hil ▸ hJ)) r₂)
end
theorem wx_forE {kn xn : Str} {kp xp ip p tp : Pos} {tk : Nat} {e : Expr} {body : List Stmt} {xs : List MV} {gl : List (Str × MV)} (J : Nat → List (Str × MV) → List (Option MO) → Prop) (hgl : Γ.glob = gl) (hn : Lk "enumerate" (.obj (.type "enumerate")) gl) (hxs : ∀ x ∈ xs, Closed x)
    (he : WPe prog w Γ σ e fun mv σ₁ => mv = .list xs ∧ σ₁ = σ) (h0 : J 0 σ.loc σ.objs)
    (step : ∀ i x loc objs ex, xs[i]? = some x → objs.length = σ.objs.length → J i loc objs → WAL (fun σ' => WPs prog w Γ σ' body fun f σ₂ => f = .next ∧ ∃ objs', objs'.length = objs.length ∧ σ₂.objs = objs' ++ [some ex] ∧ J (i + 1) σ₂.loc objs') [.Name kn kp, .Name xn xp] [.int i, x] ⟨loc, objs ++ [some ex]⟩)
    (fin : ∀ loc objs, objs.length = σ.objs.length → J xs.length loc objs → QF .next ⟨loc, objs ++ [none]⟩)
    (hc : ∀ env, eval (.Call (.Name "enumerate" ip) [e] [] p) env = (do callWith p (← eval (.Name "enumerate" ip) env) [] (backTo p (starEach [e] env)) (backToKw p (keywordEach [] env))))
    (hst : ∀ env, starEach [e] env = (false, eval e env) :: starEach [] env)
    (hs : ∀ env x, foldedSetIterable (.Call (.Name "enumerate" ip) [e] [] p) env x = pure x) {pst : Pos} :
    WPx prog w Γ σ (.For (.Tuple [.Name kn kp, .Name xn xp] tk tp) (.Call (.Name "enumerate" ip) [e] [] p) body [] pst) QF := by
  intro K ps s R r hR
  refine wpAny_For ?_ (hs _)
  rw [hc]
  refine wpAny_bind (wp_globE (Q := fun mv σ' => mv = .obj (.type "enumerate") ∧ σ' = σ) hgl hn ⟨rfl, rfl⟩ K ps s _ r fun fv v σ₁ s₁ h₁ r₁ => ?_)
  obtain ⟨rfl, rfl⟩ := h₁
  obtain rfl := r₁.obj
  refine callWith_of (P := Kept (.type "enumerate")) (by rw [hst]; rfl) (fun h k => k _) (evalArgs_list (by rw [hst]; rfl) ?_)
  refine wpAny_items_cons (he K ps s₁ _ r₁.drop fun mv u σ₂ s₂ hq r₂ => wpAny_items_nil ?_) (hst _)
  obtain ⟨rfl, rfl⟩ := hq
  obtain ⟨F, m, cm, fps, C⟩ := r₂
  have hu : VR w F (rho fps) (.list xs) u := C.ps (.list xs, u) (.head _)
  obtain ⟨l, vs, n, rfl, hFl, hvs⟩ : ∃ l vs n, u = .ref l ∧ F l = some (listO vs n) ∧ VRs w F noρ xs vs := by
    cases hu with
    | list a _ vs n h1 h2 h3 => exact ⟨a, vs, n, rfl, h1, h2, fun i x v hx hv => hxs x (List.mem_of_getElem? hx) w F _ v (h3 i x v hx hv)⟩
  have C := C.drop
  refine ⟨kept_type, call_enumerate_1 (l := l) (items := vs.toArray) (n := n) (C.frz _ _ hFl) fun h' hE hI hsz hk => ?_⟩
  have new : ∀ a, s₂.heap.objs.size ≤ a → s₂.heap.get? a = none := fun a ha => by
    cases q : s₂.heap.get? a with
    | none => rfl
    | some o => exact absurd (Heap.lt_size q) (Nat.not_lt.mpr ha)
  have ne := C.newF (new (s₂.heap.objs.size + 1) (Nat.le_succ _))
  have ni := C.newF (new s₂.heap.objs.size (Nat.le_refl _))
  have C₁ := C.grow (h' := h') hk (Sub.refl F) (fun b o e => hk _ _ (C.frz b o e)) (fun _ _ e => .inl e) s₂.toks
  have C₂ := C₁.addExt (e := enE (s₂.heap.objs.size + 1) s₂.heap.objs.size l xs 0) (fp := [s₂.heap.objs.size + 1, s₂.heap.objs.size]) (by simp) (fun a ha => by simp at ha; rcases ha with rfl | rfl; exact ne.1; exact ni.1) (fun a ha => by simp at ha; rcases ha with rfl | rfl; exact ne.2.1; exact ni.2.1)
    (fun a ha => by simp at ha; rcases ha with rfl | rfl; exact ne.2.2.1; exact ni.2.2.1) (fun a ha => by
      simp only [List.mem_cons, List.not_mem_nil, or_false] at ha
      obtain ⟨o, i1, _⟩ := hI
      rcases ha with rfl | rfl
      · exact ⟨_, hE⟩
      · exact ⟨_, i1⟩) (show _ ∧ _ from ⟨rfl, Nat.succ_ne_self _, ⟨_, hE⟩, hI, vs, n, hFl, hvs⟩)
  refine wpAny_pyIter_enum hE ?_
  exact forE_loop J h0 ⟨ne.2.2.2, ni.2.2.2⟩ step fin (fun σ₂ s₂ h r => hR .next .next σ₂ s₂ h ⟨rfl, r⟩) ⟨F, m, cm, _, C₂⟩
variable {prog : Program} {w : World} {Γ Γ' : Cx} {K K' : Kp} {σ σ' : St} {ps qs : List (MV × Value)} {s s' : Shared} {F F' : Frz} {m cm : Str → Option Value} {fps : List (List Addr)}
variable {Q : MV → St → Prop} {QB : Bool → St → Prop} {QF : MF → St → Prop} {QU : St → Prop} {QL : List MV → St → Prop}
theorem wc_chr {i : Int} (h0 : 0 ≤ i) (h1 : i ≤ 0x10FFFF) (h : Q (.str ⟨#[i.toNat]⟩) σ) : WPc prog w Γ σ (.builtin "chr") [.int i] Q := by
  intro K ps vs s R hl r hR
  obtain ⟨v, rfl, r⟩ := r.one hl
  obtain ⟨t, rfl⟩ := r.int
  have hi : (decide (i < 0) || decide (i > 0x10FFFF)) = false := by simp; (first | exact o25 h0 h1 | omega)
  exact ⟨kept_builtin, P.chr_of_int hi (hR _ _ _ _ h ((r.drop.toks _).flat (.str _ _)))⟩
theorem wc_ord {c : Nat} (h : Q (.int c) σ) : WPc prog w Γ σ (.builtin "ord") [.str ⟨#[c]⟩] Q := by
  intro K ps vs s R hl r hR
  obtain ⟨v, rfl, r⟩ := r.one hl
  obtain ⟨t, rfl⟩ := r.str
  exact ⟨kept_builtin, P.ord_of_char (hR _ _ _ _ h ((r.drop.toks _).flat (.int _ _)))⟩
noncomputable def findFrom (x y : Str) (i : Int) : Int := match Builtin.Str.occurrences x y (fromIndex x.length i) x.length 1 with | k :: _ => (k : Int) | [] => -1
theorem wc_find {x y : Str} {i : Int} (h : Q (.int (findFrom x y i)) σ) : WPc prog w Γ σ (.builtin "str.find") [.str x, .str y, .int i] Q := by
  intro K ps vs s R hl r hR
  obtain ⟨v, u, z, rfl, r⟩ := r.three hl
  obtain ⟨t, rfl⟩ := r.str; obtain ⟨t', rfl⟩ := r.drop.str; obtain ⟨t'', rfl⟩ := r.drop.drop.int
  exact ⟨kept_builtin, call_gives PySem.F.slot_str_find (typeIs_str s x t) PySem.F.entry_str_find (PySem.F.args_str_find_3 _ _ _) (gives_str_find_from x y i t t' t'') (hR _ _ _ _ h ((r.drop.drop.drop.toks _).flat (.int _ _)))⟩
theorem wc_index {x y : Str} {i : Nat} {rest : List Nat} (ho : Builtin.Str.occurrences x y 0 x.length 1 = i :: rest) (h : Q (.int i) σ) : WPc prog w Γ σ (.builtin "str.index") [.str x, .str y] Q := by
  intro K ps vs s R hl r hR
  obtain ⟨v, u, rfl, r⟩ := r.two hl
  obtain ⟨t, rfl⟩ := r.str; obtain ⟨t', rfl⟩ := r.drop.str
  exact ⟨kept_builtin, call_gives PySem.F.slot_str_index (typeIs_str s x t) PySem.F.entry_str_index (PySem.F.args_str_index_2 _ _) (gives_str_index x y t t' i rest ho) (hR _ _ _ _ h ((r.drop.drop.toks _).flat (.int _ _)))⟩
theorem wc_range3 {a b c : Int} (hc : c ≠ 0) (hp : Builtin.divisionGoesByPylong (b - a) c = false) (h : Q (.rng a b c) σ) : WPc prog w Γ σ (.type "range") [.int a, .int b, .int c] Q := by
  intro K ps vs s R hl r hR
  obtain ⟨v, u, z, rfl, r⟩ := r.three hl
  obtain ⟨t, rfl⟩ := r.int
  obtain ⟨t', rfl⟩ := r.drop.int
  obtain ⟨t'', rfl⟩ := r.drop.drop.int
  refine ⟨kept_type, call_range_3 hc (hR _ _ _ _ h ?_) (.inl hp)⟩
  obtain ⟨F, m, cm, fps, C⟩ := r.drop.drop.drop
  refine ⟨_, m, cm, fps, ((C.alloc { cls := .type "range", data := .fields #[.int a t, .int b t', .int c t''] }).toks s.toks).cons (.rng _ a b c _ _ _ Frz.put_self)⟩
noncomputable def intsBy (a c : Int) (n : Nat) : List MV := (List.range n).map fun i : Nat => .int (a + (i : Int) * c)
noncomputable def Itr.rngBy (prog : Program) (w : World) (a b c : Int) (n : Nat) (hs : Builtin.Range.small a b c = true) (hz : Builtin.Range.rangeSize a b c = n) : Itr prog w (.rng a b c) (intsBy a c n) where
  D := fun v i o => o = { cls := .type "range_iterator", dict := none, data := .fields #[rawInt (a + (i : Nat) * c), rawInt ((n : Int) - (i : Nat)), rawInt c], slots := #[] }
  opn := by
    intro A F ρ v s R hh hv hF hR
    cases hv with
    | rng r _ _ _ t u c h1 =>
      refine wpAny_pyIter_range (hF _ _ h1) hs (hR _ ?_ rfl)
      rw [hz]; simp
  wk := by
    intro A F ρ v I hh hv hI
    cases hv with
    | rng r _ _ _ t u c' h1 =>
      have hl : (intsBy a c n).length = n := by simp [intsBy]
      rw [hl]
      refine ⟨[I], _, _, Walks.range hh I a c n, fun b hb => .inl (by simpa using hb), fun i h o hk ho hD => by subst hD; exact ho, fun i h hs => ⟨_, hs, rfl⟩, fun i u hi ⟨t, e⟩ => ⟨.int (a + i * c), by simp [intsBy, hi], ?_⟩⟩
      subst e; exact .int _ _
  cls := fun v i o h => by subst h; exact ⟨_, _, rfl, rfl, rfl⟩
theorem wc_min2 {a b : Int} (h : Q (.int (if b < a then b else a)) σ) : WPc prog w Γ σ (.builtin "min") [.int a, .int b] Q := by
  intro K ps vs s R hl r hR
  obtain ⟨v, u, rfl, r⟩ := r.two hl
  obtain ⟨t, rfl⟩ := r.int; obtain ⟨t', rfl⟩ := r.drop.int
  refine ⟨kept_builtin, wpAny_with_toks (Nat.le_refl _) (min_two_ints r.handled fun h' tk hk ht => ?_)⟩
  have r' := r.drop.drop.grow (h' := h') hk tk ht
  by_cases q : b < a
  · rw [if_pos q]; rw [if_pos q] at h; exact hR _ _ _ _ h (r'.flat (.int _ _))
  · rw [if_neg q]; rw [if_neg q] at h; exact hR _ _ _ _ h (r'.flat (.int _ _))
theorem w2_inL {x : Str} {ys : List Str} (h : Q (.bool (ys.any (· == x))) σ) : WP2 prog w Γ σ (.str x) (.list (ys.map .str)) (compareOp .In) Q := by
  intro K ps v u s R r hR
  obtain ⟨t', rfl⟩ := r.drop.str
  obtain ⟨a, vs, n, rfl, hg, hl, r'⟩ := r.listAt
  obtain ⟨F, ρ, hz⟩ := r'.vrs hl
  exact in_list_strs ⟨_, hg, rfl, n, rfl⟩ (by simpa using strsAre_of hz) (hR _ _ _ _ h (r.drop.drop.flat (.bool _)))
theorem sl_from1 {xs : List MV} (hz : xs.length ≤ sizeLine) (h : Q (.list xs.tail) σ) : WSl prog w Γ σ (.list xs) (some 1) none Q := by
  intro K ps v l u s R hl hu r hR
  obtain ⟨a, vs, n, rfl, hg, hvl, r'⟩ := r.listAt
  have hg' : (s.heap.push { cls := .type "slice", data := .fields #[partValue l, partValue u, .none] }).get? a = some (listO vs n) := Heap.get?_push_of_some _ hg
  obtain rfl : u = none := by cases u with | none => rfl | some x => cases hu
  obtain ⟨t, rfl⟩ : ∃ t, l = some ((1 : Int), t) := by
    cases l with
    | none => cases hl
    | some x => obtain ⟨i, t⟩ := x; cases hl; exact ⟨t, rfl⟩
  refine ⟨"list", _, slot_list_getitem.lookup, ⟨_, hg', rfl⟩, wpAny_getItem_list_slice (items := vs.toArray) (lo := some (1 : Int)) (hi := none) (st := none) ⟨_, hg', rfl, n, rfl⟩ ⟨_, Heap.get?_push_size _ rfl, rfl, rfl⟩ (.int _ _) .none .none (by simp) ?_ (by rw [List.size_toArray, hvl]; exact hz)⟩
  have e : slicePick vs.toArray (some 1) none none = vs.tail.toArray := by
    rw [show (1 : Int) = ((1 : Nat) : Int) from rfl, slicePick_from', List.drop_one]
  rw [e]
  refine hR _ _ _ _ h (Rel.mk_list (xs := xs.tail) (vs := vs.tail) (by simp [hvl]) ((r'.push s.toks).perm fun p hp => ?_))
  rcases List.mem_append.mp hp with q | q
  · refine List.mem_append_left _ ?_
    cases xs with
    | nil => simp at q
    | cons x xs =>
      cases vs with
      | nil => simp at q
      | cons v vs => exact List.mem_cons_of_mem _ q
  · exact List.mem_append_right _ q
theorem Rel.muGet {k : Nat} {xs : List MV} {v : Value} (r : Rel prog w Γ K σ ((.mu k, v) :: ps) s) (hk : ObjAt σ k (.lst xs)) : ∃ a vs n, v = .ref a ∧ s.heap.get? a = some (listO vs n) ∧ vs.length = xs.length ∧
    ∀ (i : Nat) (z : MV), xs[i]? = some z → ∃ y, vs[i]? = some y ∧ Rel prog w Γ K σ ((z, y) :: (.mu k, v) :: ps) s := by
  obtain ⟨a, vs, n, rfl, hg, hl, _⟩ := r.muAt hk
  refine ⟨a, vs, n, rfl, hg, hl, fun i z hz => ?_⟩
  obtain ⟨F, m, cm, fps, C⟩ := r
  obtain ⟨fp, hfp, ho⟩ := C.trk k _ hk
  have hv : VRs w F (rho fps) xs vs := by
    cases ho with
    | lst b _ us n' _ hh hv =>
      have h2 : VR w F (rho fps) (.mu k) (.ref a) := C.ps (.mu k, .ref a) (.head _)
      cases h2 with
      | mu _ _ hb =>
        have : rho fps k = some b := by unfold rho; rw [hfp]; rfl
        rw [this] at hb; cases hb
        rw [hg] at hh
        have e : vs = us := by
          injection hh with e; injection e with _ _ e _; injection e with e _; exact congrArg Array.toList e
        subst e; exact hv
  obtain ⟨y, hy1, hy2⟩ := hv.get hz
  exact ⟨y, hy1, F, m, cm, fps, C.cons hy2⟩
theorem it_muN {k : Nat} {xs : List MV} {i : Int} {z : MV} (hk : ObjAt σ k (.lst xs)) (h0 : i < 0) (h1 : -(xs.length : Int) ≤ i) (hf : -9223372036854775808 ≤ i) (hz : xs[(i + xs.length).toNat]? = some z) (h : Q z σ) : WIt prog w Γ σ (.mu k) (.int i) Q := by
  intro value slice hp K ps v u s R r hR
  obtain ⟨t, rfl⟩ := r.int
  obtain ⟨a, vs, n, rfl, hg, hl, get⟩ := r.drop.muGet hk
  obtain ⟨y, hy1, r'⟩ := get _ z hz
  have hi : s.heap.IsList a vs.toArray := ⟨_, hg, rfl, n, rfl⟩
  have hsz : vs.toArray.size = xs.length := by simp [hl]
  refine subscriptTail_builtinR hi.typeIs slot_list_getitem.lookup (wpAny_getItem_list_neg hi h0 (by rw [hsz]; exact h1) hf (by rw [hsz]; simpa using hy1) ⟨rfl, hR _ _ _ _ h (r'.perm fun p hp => ?_)⟩) (hp _ _)
  rcases List.mem_cons.mp hp with q | q
  · rw [q]; exact .head _
  · exact .tail _ (.tail _ q)
theorem wx_augmuG {o i e : Expr} {p' p : Pos} {op : Operator} {k : Nat} {xs : List MV} {j : Int} {a b c : MV} (ho : WPe prog w Γ σ o fun x σ₁ => x = .mu k ∧ σ₁ = σ) (hi : WPe prog w Γ σ i fun x σ₁ => x = .int j ∧ σ₁ = σ) (hk : ObjAt σ k (.lst xs)) (hz : xs.length ≤ 1000) (h0 : 0 ≤ j) (hx : xs[j.toNat]? = some a)
    (he : WPe prog w Γ σ e fun x σ₁ => x = b ∧ σ₁ = σ) (h2 : WP2 prog w Γ σ a b (inplaceOp op) fun x σ₁ => x = c ∧ σ₁ = σ) (h : QF .next { σ with objs := σ.objs.set k (some (.lst (xs.set j.toNat c))) })
    (ha : ∀ ov iv new, augStore i ov iv new = (do holding [new, ov, iv] (setItem ov iv new); release [new, ov, iv] []; pure .next)) : WPx prog w Γ σ (.AugAssign (.Subscript o i p') op e p) QF := by
  intro K ps s R r hR
  have hj : j.toNat < xs.length := (List.getElem?_eq_some_iff.mp hx).1
  refine wpAny_AugAssign_Subscript_any (ho K ps s _ r fun x v σ₁ s₁ hq r₁ => ?_) ha
  obtain ⟨rfl, rfl⟩ := hq
  refine hi K _ s₁ _ r₁ fun y u σ₂ s₂ hq₂ r₂ => ?_
  obtain ⟨rfl, rfl⟩ := hq₂
  obtain ⟨t, rfl⟩ := r₂.int
  obtain ⟨A, vs, n, rfl, hg, hl, get⟩ := r₂.drop.muGet hk
  obtain ⟨y, hy, r₃⟩ := get _ a hx
  refine wpAny_getItem_list (items := vs.toArray) (x := y) ⟨_, hg, rfl, n, rfl⟩ h0 (by show j < 9223372036854775808; (first | exact o26 hz hj | omega)) (by simpa using hy) ?_
  refine he K _ s₂ _ r₃ fun z zv σ₃ s₃ hq₃ r₄ => ?_
  obtain ⟨rfl, rfl⟩ := hq₃
  refine h2 K _ _ _ s₃ _ r₄ fun x xv σ₄ s₄ hq₄ r₅ => ?_
  obtain ⟨rfl, rfl⟩ := hq₄
  obtain ⟨A', vs', n', e', hg', hl', go⟩ := r₅.drop.muAt hk
  cases e'
  obtain ⟨n'', e''⟩ : ∃ n'', Obj.mapSeq (·.setIfInBounds j.toNat xv) (listO vs' n') = listO (vs'.set j.toNat xv) n'' := ⟨_, by
    unfold Obj.mapSeq listO
    dsimp only
    rw [List.setIfInBounds_toArray]⟩
  refine ki_setAt (items := vs'.toArray) (n := n') hg' h0 (by show j < 9223372036854775808; (first | exact o26 hz hj | omega)) (by rw [List.size_toArray, hl']; (first | exact o27 hj | omega)) ?_
  have hob : (s₄.heap.update A (Obj.mapSeq (·.setIfInBounds j.toNat xv))).get? A = some (listO (vs'.set j.toNat xv) n'') := by
    rw [Heap.get?_update_self _ hg' (by rw [e'']; rfl), e'']
  have := go [(x, xv)] (xs.set j.toNat x) (vs'.set j.toNat xv) _ n'' r₅ (by simp [hl']) (fun q hq => ?_) (fun b' hb => (Heap.SameBut.update ..).2 b' hb) hob
  · exact hR .next .next _ _ h ⟨rfl, this⟩
  · rw [List.mem_iff_getElem?] at hq
    obtain ⟨i', hq⟩ := hq
    rw [List.getElem?_zip_eq_some] at hq
    rw [List.getElem?_set, List.getElem?_set] at hq
    by_cases q1 : j.toNat = i'
    · rw [if_pos q1, if_pos q1] at hq
      obtain ⟨q2, q3⟩ := hq
      split at q2 <;> split at q3 <;> simp_all
    · rw [if_neg q1, if_neg q1] at hq
      exact .inl (List.mem_iff_getElem?.mpr ⟨i', List.getElem?_zip_eq_some.mpr hq⟩)
variable {prog : Program} {w : World} {Γ Γ' : Cx} {K K' : Kp} {σ σ' : St} {ps qs : List (MV × Value)} {s s' : Shared} {F F' : Frz} {m cm : Str → Option Value} {fps : List (List Addr)}
variable {Q : MV → St → Prop} {QB : Bool → St → Prop} {QF : MF → St → Prop} {QU : St → Prop} {QL : List MV → St → Prop}
theorem swapsWith_of {value : Expr} {t : Option Expr} {n : Nat} {env : Env} {sc : Scope} {b : Bool} (h : env.scope = sc) (e : swapsWith value t n { scope := sc, locals := 0, globals := 0, cells := [] } = pure b) : swapsWith value t n env = pure b := by subst h; rw [← e]; rfl
theorem Rel.kpw (h : Rel prog w Γ K σ ps s) (hf : ∀ b o, K'.f b = some o → K.f b = some o) (hx : ∀ b ∈ K'.x, b ∈ K.x) (hk : (∀ b ∈ K'.x, ∃ o, K'.f b = some o) ∧ (∀ b o, Γ.hX b = some o → K'.f b = some o)) : Rel prog w Γ K' σ ps s := by
  obtain ⟨F, m, cm, fps, C⟩ := h
  exact ⟨F, m, cm, fps, { C with
    kept := fun b o e => C.kept b o (hf b o e)
    keptH := fun b o e => C.keptH b o (hf b o e)
    hx := hk.2
    held := fun b hb => let ⟨h1, _, h3⟩ := C.held b (hx b hb); ⟨h1, hk.1 b hb, h3⟩ }⟩
structure ItrK (prog : Program) (w : World) (K : Kp) (x : MV) (v : Value) (items : List MV) where
  D : Nat → Obj → Prop
  opn : ∀ {A : Around} {F : Frz} {ρ : Nat → Option Addr} {s : Shared} {R : Value → Shared → Prop}, A.handled = none → VR w F ρ x v → (∀ b o, F b = some o → s.heap.get? b = some o) → (∀ b o, K.f b = some o → s.heap.get? b = some o) →
    (∀ o, D 0 o → o.isFreed = false → R (.ref s.heap.objs.size) { s with heap := s.heap.push o }) → wpAny (model prog w) A (pyIter v) R (fun _ _ => False) s
  wk : ∀ {A : Around} {F : Frz} {ρ : Nat → Option Addr} {I : Addr}, A.handled = none → VR w F ρ x v → F I = none → K.f I = none → ∃ fp P St, Walks prog w A I fp [I] items.length P St ∧
    (∀ (i : Nat) (h : Heap) o, (∀ b o, F b = some o → h.get? b = some o) → (∀ b o, K.f b = some o → h.get? b = some o) → h.get? I = some o → D i o → St i h) ∧ (∀ i h, St i h → ∃ o, h.get? I = some o ∧ D i o) ∧ (∀ i u, i < items.length → P i u → ∃ y, items[i]? = some y ∧ VR w F ρ y u)
noncomputable def ItrK.of {x : MV} {items : List MV} (T : Itr prog w x items) (K : Kp) (v : Value) : ItrK prog w K x v items where
  D := T.D v
  opn := fun h1 h2 h3 _ h5 => T.opn h1 h2 h3 h5
  wk := fun h1 h2 h3 _ => let ⟨fp, P, St, W, _, a, b, c⟩ := T.wk h1 h2 h3; ⟨fp, P, St, W, fun i h o e _ => a i h o e, b, c⟩
theorem dictAt_of {es : List (Str × MV)} {d : Addr} {ds : Array DictEntry} {n : Nat} {h : Heap} (hg : h.get? d = some { cls := .type "dict", data := .dict ds n }) (hl : ds.size = es.length) (hnd : (es.map (·.1)).Nodup)
    (hk : ∀ (i : Nat) (x : Str × MV) (e : DictEntry), es[i]? = some x → ds[i]? = some e → (∃ t, e.key = .str x.1 t) ∧ e.hash = hashStr w x.1) :
    h.DictAt (strKind prog w) d ((es.zip ds.toList).map fun p => (p.1.1, p.2.val)) n := by
  have key : ∀ (l : List DictEntry) (es : List (Str × MV)), l.length = es.length → (∀ (i : Nat) (x : Str × MV) (e : DictEntry), es[i]? = some x → l[i]? = some e → (∃ t, e.key = .str x.1 t) ∧ e.hash = hashStr w x.1) →
      Pairs (strKind prog w) l ((es.zip l).map fun p => (p.1.1, p.2.val)) := by
    intro l
    induction l with
    | nil => intro es _ _; cases es <;> exact .nil
    | cons e l ih =>
      intro es hl hk
      cases es with
      | nil => simp at hl
      | cons x es =>
        obtain ⟨⟨t, e1⟩, _⟩ := hk 0 x e rfl rfl
        refine .cons (by rw [e1]; exact strKind_is prog w x.1 t) rfl (ih es (by simpa using hl) fun i y e' h1 h2 => hk (i + 1) y e' (by simpa using h1) (by simpa using h2))
  refine ⟨_, ds, hg, ⟨rfl, rfl, rfl⟩, rfl, fun e he => ?_, key ds.toList es (by simpa using hl) fun i x e h1 h2 => hk i x e h1 (by simpa using h2), ?_⟩
  · obtain ⟨i, hi, rfl⟩ := Array.mem_iff_getElem.mp he
    have hi' : i < es.length := by rw [← hl]; exact hi
    obtain ⟨⟨t, e1⟩, e2⟩ := hk i es[i] ds[i] (List.getElem?_eq_getElem hi') (Array.getElem?_eq_getElem hi)
    exact ⟨es[i].1, by rw [e1]; exact strKind_is prog w _ t, e2⟩
  · have : ((es.zip ds.toList).map fun p => (p.1.1, p.2.val)).map (·.1) = es.map (·.1) := by
      rw [List.map_map]
      have : ((·.1) ∘ fun p : (Str × MV) × DictEntry => (p.1.1, p.2.val)) = (·.1) ∘ Prod.fst := rfl
      rw [this, ← List.map_map, List.map_fst_zip (by simp [hl])]
    rw [this]; exact hnd
noncomputable def ItrK.dictS {es : List (Str × MV)} {d : Addr} {ds : Array DictEntry} {n : Nat} (hm : (d == sysModules) = false) (hl : ds.size = es.length) (hnd : (es.map (·.1)).Nodup)
    (hk : ∀ (i : Nat) (x : Str × MV) (e : DictEntry), es[i]? = some x → ds[i]? = some e → (∃ t, e.key = .str x.1 t) ∧ e.hash = hashStr w x.1)
    (K : Kp) (hK : K.f d = some { cls := .type "dict", data := .dict ds n }) : ItrK prog w K (.dictS es) (.ref d) (es.map fun e => .str e.1) where
  D := fun i o => o.cls = .type "dict_keyiterator" ∧ o.data = .fields #[.ref d, .int i 0, .int (es.length : Nat) 0, .int n 0]
  opn := by
    intro A F ρ s R hh hv hF hKs hR
    have hD : s.heap.DictAt (strKind prog w) d ((es.zip ds.toList).map fun p => (p.1.1, p.2.val)) n := dictAt_of (hKs _ _ hK) hl hnd hk
    have hlen : ((es.zip ds.toList).map fun p => (p.1.1, p.2.val)).length = es.length := by simp [hl]
    refine wpAny_pyIter_dict hm hD (hR _ ⟨rfl, ?_⟩ rfl)
    rw [hlen]; rfl
  wk := by
    intro A F ρ I hh hv hFI hKI
    have hne : d ≠ I := fun e => by rw [e, hKI] at hK; cases hK
    have hlen : ((es.zip ds.toList).map fun p => (p.1.1, p.2.val)).length = es.length := by simp [hl]
    have W := Walks.dictKeys (prog := prog) (w := w) (knd := strKind prog w) hh I d hne ((es.zip ds.toList).map fun p => (p.1.1, p.2.val)) n
    rw [hlen] at W
    rw [List.length_map]
    refine ⟨_, _, _, W, fun i h o hF hKh ho hD => ⟨⟨o, ho, hD.1, hD.2⟩, dictAt_of (hKh _ _ hK) hl hnd hk⟩, fun i h hs => ?_, fun i u hi hu => ?_⟩
    · obtain ⟨⟨o, ho, h1, h2⟩, _⟩ := hs; exact ⟨o, ho, h1, h2⟩
    · obtain ⟨k, x, h1, h2⟩ := hu
      rw [List.getElem?_map] at h1
      cases hz : (es.zip ds.toList)[i]? with
      | none => rw [hz] at h1; cases h1
      | some p =>
        rw [hz] at h1; cases h1
        obtain ⟨t, rfl⟩ := Value.isStrOf_shape h2
        have := (List.getElem?_zip_eq_some.mp hz).1
        exact ⟨.str p.1.1, by rw [List.getElem?_map, this]; rfl, .str _ _⟩
structure KD (prog : Program) (w : World) (κ : Type) [DecidableEq κ] where
  knd : KeyKind prog w κ
  key : κ → MV
  cl : ∀ k, Closed (key k)
  is : ∀ (F : Frz) (ρ : Nat → Option Addr) k v, VR w F ρ (key k) v → knd.is k v = true
  dict : List (κ × MV) → MV
  vr : ∀ (F : Frz) (ρ : Nat → Option Addr) a (es : List (κ × MV)) (ds : Array DictEntry) n, F a = some { cls := .type "dict", data := .dict ds n } → (a == sysModules) = false → ds.size = es.length →
    (∀ (i : Nat) (e : κ × MV) (d : DictEntry), es[i]? = some e → ds[i]? = some d → knd.is e.1 d.key = true ∧ d.hash = knd.hash e.1 ∧ VR w F ρ e.2 d.val) → VR w F ρ (dict es) (.ref a)
noncomputable def KD.str (prog : Program) (w : World) : KD prog w Str where
  knd := strKind prog w
  key := .str
  cl := fun _ => .str
  is := fun F ρ k v h => by cases h; exact strKind_is prog w k _
  dict := .dictS
  vr := fun F ρ a es ds n h1 h2 h3 h4 => .dictS a es ds n h1 h2 h3 (fun i e d a b => ⟨Value.isStrOf_shape (h4 i e d a b).1, (h4 i e d a b).2.1⟩) fun i e d a b => (h4 i e d a b).2.2
noncomputable def KD.int (prog : Program) (w : World) : KD prog w Int where
  knd := intKind prog w
  key := .int
  cl := fun _ => .int
  is := fun F ρ k v h => by cases h; simp [intKind, Value.isInt]
  dict := .dictI
  vr := fun F ρ a es ds n h1 h2 h3 h4 => .dictI a es ds n h1 h2 h3 (fun i e d a b => ⟨Value.isInt_shape (h4 i e d a b).1, (h4 i e d a b).2.1⟩) fun i e d a b => (h4 i e d a b).2.2
section
variable {κ : Type} [DecidableEq κ]
noncomputable def WPdc (prog : Program) (w : World) (X : KD prog w κ) (P : Cx → Prop) (tgt kx vx : Expr) (names : List Str) (Qc : List (κ × MV) → List (Option MO) → Prop) : List MV → List (κ × MV) → List (Option MO) → Prop
  | [], acc, objs => Qc acc objs
  | y :: ys, acc, objs => ∀ Γ', P Γ' → WU1 prog w Γ' ⟨names.map fun x => (x, .undef), mask objs⟩ y (assign tgt Γ'.env) fun σ' => WPe prog w Γ' σ' kx fun kr σ₁ => WPe prog w Γ' σ₁ vx fun vr σ₂ =>
      Closed vr ∧ ∃ k, kr = X.key k ∧ k ∉ acc.map (·.1) ∧ ∃ objs₁, Turned objs objs₁ ∧ σ₂.objs = mask objs₁ ∧ WPdc prog w X P tgt kx vx names Qc ys (acc ++ [(k, vr)]) objs₁
inductive DcInv (prog : Program) (w : World) (X : KD prog w κ) (Γ : Cx) (K : Kp) (σ : St) (ps : List (MV × Value)) (I D L : Addr) {x : MV} {v : Value} {items : List MV} (T : ItrK prog w K x v items) (WP : List MV → List (κ × MV) → List (Option MO) → Prop) : Nat → Shared → Prop
  | mk {s' : Shared} (i : Nat) (ys : List MV) (acc : List (κ × MV)) (kvs : List (κ × Value)) (objs : List (Option MO)) (oI' oD oL' : Obj) (mL' : Str → Option Value) (hil : i ≤ items.length) (hys : items.drop i = ys) (hai : acc.length ≤ i) (hkv : kvs.map (·.1) = acc.map (·.1)) (hnd : (acc.map (·.1)).Nodup)
      (hD : T.D i oI') (htu : Turned σ.objs objs) (hw : WP ys acc objs) (r : Rel prog w Γ (K.h3 I oI' D oD L oL') ⟨σ.loc, objs⟩ ((acc.map (·.2)).zip (kvs.map (·.2)) ++ (x, v) :: ps) s') (hd : s'.heap.DictOf X.knd D kvs) (hns : s'.heap.Ns L mL') : DcInv prog w X Γ K σ ps I D L T WP (ys.length + 1) s'
theorem dc_step {X : KD prog w κ} {kx vx : Expr} {tn : Str} {tp : Pos} {scope : Scope} {hB : Heap} {ℓ : Nat} {sc sc' : Scope} {gl cells globs : List (Str × MV)} {names : List Str} {cl : List (Str × Addr)}
    (hΓ : Γof sc Γ hB ℓ gl) (hre : relabel scope Γ.env = sc') (S : CompSc scope sc' names (cells.map (·.1))) (hglob : GlobOk prog w sc' hB globs)
    (hc : ∀ p ∈ cells, p ∈ σ.loc ∧ p.2.ok = true ∧ Closed p.2 ∧ Γ.env.kindOf p.1 = some .cell) (hcl : ∀ n c, (n, NameKind.free) ∈ scope.names → Γ.env.cells.lookup n = some c → cl.lookup n = some c)
    {x y : MV} {v u : Value} {items ys : List MV} {acc : List (κ × MV)} {kvs : List (κ × Value)} {objs : List (Option MO)} (T : ItrK prog w K x v items) (hz : items.length ≤ sizeLine) {Qc : List (κ × MV) → List (Option MO) → Prop} {NX : Shared → Prop}
    {I D L : Addr} {oI oD oL : Obj} {mL : Str → Option Value} {i : Nat} (hID : I ≠ D) (hDL : D ≠ L) (hXD : Γ.hX D = none) (hXL : Γ.hX L = none) (hi : i < items.length) (hys : items.drop i = y :: ys) (hai : acc.length ≤ i) (hkv : kvs.map (·.1) = acc.map (·.1)) (hnd : (acc.map (·.1)).Nodup) (hD : T.D (i + 1) oI) (htu : Turned σ.objs objs)
    (hw : WPdc prog w X (fun Γ' => Γof sc' Γ' hB ℓ (cells ++ globs)) (.Name tn tp) kx vx names Qc (y :: ys) acc objs)
    (hN : ∀ s₅, DcInv prog w X Γ K σ ps I D L T (WPdc prog w X (fun Γ' => Γof sc' Γ' hB ℓ (cells ++ globs)) (.Name tn tp) kx vx names Qc) (ys.length + 1) s₅ → NX s₅)
    {s' : Shared} (r : Rel prog w Γ (K.h3 I oI D oD L oL) ⟨σ.loc, objs⟩ ((y, u) :: ((acc.map (·.2)).zip (kvs.map (·.2)) ++ (x, v) :: ps)) s') (hd : s'.heap.DictOf X.knd D kvs) (hns : s'.heap.Ns L mL) :
    wpAny (model prog w) Γ.A (assign (.Name tn tp) (compEnvC scope cl L Γ.env) u) (fun _ s₂ => wpAny (model prog w) Γ.A (eval kx (compEnvC scope cl L Γ.env)) (fun kv s₄ => wpAny (model prog w) Γ.A (eval vx (compEnvC scope cl L Γ.env)) (fun vv s₅ =>
        wpAny (model prog w) Γ.A (dictSet D kv vv) (fun _ s₆ => NX s₆) (fun _ _ => False) s₅) (fun _ _ => False) s₄) (fun _ _ => False) s₂) (fun _ _ => False) s' := by
  obtain ⟨Γ', K', hΓ', hA, hE, rin, back⟩ := Rel.within (L := L) (K := (K.hold I oI).hold D oD) hΓ hre S hglob (σ := ⟨σ.loc, objs⟩) hc hcl r hXL hns (y := y) (v := u) (.head _)
  rw [← hA, ← hE]
  refine hw Γ' hΓ' K' [] u _ (fun (_ : Unit) s₂ => _) rin fun σ₂ s₂ h₂ r₂ => h₂ K' [] s₂ _ r₂ fun kr kv σ₃ s₃ h₃ r₃ => h₃ K' _ s₃ _ r₃ fun vr vv σ₄ s₄ h₄ r₄ => ?_
  obtain ⟨hz1, k, rfl, hno, objs₁, t1, t2, t3⟩ := h₄
  obtain ⟨oL₃, mL₃, n3, r₆, _⟩ := back σ₄ [(vr, vv), (X.key k, kv)] s₄ objs₁ t2 t1 (fun p hp => by
    simp only [List.mem_cons, List.not_mem_nil, or_false] at hp
    rcases hp with rfl | rfl
    · exact hz1
    · exact X.cl k) r₄
  have hDo : s₄.heap.get? D = some oD ∧ s'.heap.get? D = some oD ∧ X.knd.is k kv = true := by
    obtain ⟨F₆, _, _, fps₆, C₆⟩ := r₆
    obtain ⟨_, _, _, _, C₀⟩ := r
    exact ⟨C₆.kept D _ ((if_neg hDL).trans (if_pos rfl)), C₀.kept D _ ((if_neg hDL).trans (if_pos rfl)), X.is _ _ _ _ (C₆.ps (X.key k, kv) (.tail _ (.head _)))⟩
  have hd₄ : s₄.heap.DictOf X.knd D kvs := hd.at fun o e => by rw [hDo.2.1] at e; cases e; exact hDo.1
  have hlen : kvs.length = acc.length := by simpa using congrArg List.length hkv
  refine wpAny_dictSet_pairs (hsz := by (first | exact o28 hz hi hai hlen | omega)) hDo.2.2 hd₄ fun h₅ hl₅ hs₅ => ?_
  have e : stored kvs k vv = kvs ++ [(k, vv)] := by
    unfold stored
    have : kvs.any (fun p => p.1 = k) = false := by
      rw [List.any_eq_false]
      intro p hp hpk
      have hpk : p.1 = k := by simpa using hpk
      exact hno (hkv ▸ hpk ▸ List.mem_map.mpr ⟨p, hp, rfl⟩)
    rw [this]; rfl
  rw [e] at hl₅
  obtain ⟨oD', _, _, hoD', _⟩ := id hl₅
  have r₇ := r₆.renewD hDL hXD (fun b x hb e => hs₅.extBut b x hb e) hoD' (s₄.toks + 1)
  refine hN _ (.mk (i + 1) ys (acc ++ [(k, vr)]) (kvs ++ [(k, vv)]) objs₁ oI oD' oL₃ mL₃ hi (by rw [← List.tail_drop, hys]; rfl) (by simp; exact hai) (by simp [hkv]) ?_ hD (htu.trans t1) t3 (r₇.perm fun p hp => ?_) hl₅ (n3.at' fun o e => hs₅.extBut L o hDL.symm e))
  · rw [List.map_append]
    refine List.nodup_append.mpr ⟨hnd, by simp, fun a ha b hb => ?_⟩
    simp at hb; subst hb
    exact fun q => hno (q ▸ ha)
  · rw [List.map_append, List.map_append, List.zip_append (by simp [hlen])] at hp
    simp only [List.mem_append, List.mem_cons, List.map_cons, List.map_nil, List.zip_cons_cons, List.zip_nil_right, List.not_mem_nil, or_false] at hp ⊢
    rcases hp with (h | h) | h | h
    · exact .inr (.inr (.inl h))
    · exact .inl (.inl h)
    · exact .inr (.inr (.inr (.inl h)))
    · exact .inr (.inr (.inr (.inr h)))
theorem Rel.outD {I D L : Addr} {oI oD oL : Obj} {x : MV} {v : Value} {h' : Heap} (hID : I ≠ D) (hIL : I ≠ L) (hDL : D ≠ L) (hKI : K.f I = none) (hDK : K.f D = none) (hKL : K.f L = none)
    (kx : (∀ b ∈ K.x, ∃ o, K.f b = some o) ∧ (∀ b o, Γ.hX b = some o → K.f b = some o)) (r : Rel prog w Γ (K.h3 I oI D oD L oL) σ (qs ++ (x, v) :: ps) s)
    (hk : ∀ b x, b ≠ I → s.heap.get? b = some x → h'.get? b = some x) (tk : Nat) (ht : s.toks ≤ tk) : Rel prog w Γ ((K.hold L oL).hold D oD) σ (qs ++ ps) { s with heap := h', toks := tk } := by
  have hKLn : ∀ {b o}, K.f b = some o → ¬ b = L := fun e q => by rw [q, hKL] at e; cases e
  have hKDn : ∀ {b o}, K.f b = some o → ¬ b = D := fun e q => by rw [q, hDK] at e; cases e
  have hx : ∀ {b o}, Γ.hX b = some o → ¬ b = L ∧ ¬ b = D := fun e => ⟨hKLn (kx.2 _ _ e), hKDn (kx.2 _ _ e)⟩
  have r₅ : Rel prog w Γ (((K.hold D oD).hold L oL).hold I oI) σ (qs ++ (x, v) :: ps) s := r.kp (fun b => by
    dsimp only
    by_cases q : b = I
    · rw [if_pos q, q, if_neg hIL, if_neg hID, if_pos rfl]
    · rw [if_neg q, if_neg q]) (fun b hb => by simp only [List.mem_cons] at hb ⊢; rcases hb with q | q | q | q <;> simp [q])
  have r₆ := r₅.letgo (h' := h') ((if_neg hIL).trans ((if_neg hID).trans hKI)) hk (fun b hb => by
    rcases List.mem_cons.mp hb with q | q
    · exact ⟨_, if_pos q⟩
    · rcases List.mem_cons.mp q with q | q
      · exact ⟨_, (if_neg (q ▸ hDL)).trans (if_pos q)⟩
      · obtain ⟨o, e⟩ := kx.1 b q
        exact ⟨o, (if_neg (hKLn e)).trans ((if_neg (hKDn e)).trans e)⟩) (fun b o e => (if_neg (hx e).1).trans ((if_neg (hx e).2).trans (kx.2 b o e))) tk ht
  refine (r₆.kp (fun b => by
    dsimp only
    by_cases q : b = D
    · rw [if_pos q, q, if_neg hDL, if_pos rfl]
    · rw [if_neg q, if_neg q]) (fun b hb => by simp only [List.mem_cons] at hb ⊢; rcases hb with q | q | q <;> simp [q])).perm fun p hp => ?_
  rcases List.mem_append.mp hp with q | q
  · exact List.mem_append_left _ q
  · exact List.mem_append_right _ (.tail _ q)
structure DcEnd (X : KD prog w κ) (Γ : Cx) (K : Kp) (D L : Addr) (acc : List (κ × MV)) (kvs : List (κ × Value)) (h : Heap) : Prop where
  hd : h.DictOf X.knd D kvs
  keys : kvs.map (·.1) = acc.map (·.1)
  hm : (D == sysModules) = false
  dl : D ≠ L
  kl : K.f L = none
  kd : K.f D = none
  xl : Γ.hX L = none
  xd : Γ.hX D = none
theorem Rel.frzD {X : KD prog w κ} {D L : Addr} {oD oL : Obj} {acc : List (κ × MV)} {kvs : List (κ × Value)} (E : DcEnd X Γ K D L acc kvs s.heap) (kx : (∀ b ∈ K.x, ∃ o, K.f b = some o) ∧ (∀ b o, Γ.hX b = some o → K.f b = some o))
    (r : Rel prog w Γ ((K.hold L oL).hold D oD) σ ((acc.map (·.2)).zip (kvs.map (·.2)) ++ ps) s) : Rel prog w Γ (K.hold L oL) σ ((X.dict acc, .ref D) :: ps) s := by
  obtain ⟨ds, n, hg, hsz, hent⟩ := dict_entries E.hd
  have hoD : oD = { cls := .type "dict", data := .dict ds n } := by
    obtain ⟨_, _, _, _, C⟩ := r
    have := C.kept D _ (if_pos rfl)
    rw [hg] at this; exact (Option.some.inj this).symm
  have hlen : kvs.length = acc.length := by simpa using congrArg List.length E.keys
  have hKLn : ∀ {b o}, K.f b = some o → ¬ b = L := fun e q => by rw [q, E.kl] at e; cases e
  refine Rel.freezeAny (x := X.dict acc) r ((if_neg E.dl).trans E.kd) (fun b hb => ?_) (fun b o e => (if_neg (hKLn (kx.2 b o e))).trans (kx.2 b o e)) fun F' ρ hF hz => ?_
  · rcases List.mem_cons.mp hb with q | q
    · exact ⟨_, if_pos q⟩
    · obtain ⟨o, e⟩ := kx.1 b q
      exact ⟨o, (if_neg (hKLn e)).trans e⟩
  · rw [hoD] at hF
    have hz' := zip_vrs (by simp [hlen]) hz
    refine X.vr F' ρ D acc ds n hF E.hm (by rw [hsz, hlen]) fun i e d h1 h2 => ?_
    have hi : i < kvs.length := by rw [hlen]; exact (List.getElem?_eq_some_iff.mp h1).1
    have h3 : kvs[i]? = some kvs[i] := List.getElem?_eq_getElem hi
    have hke : kvs[i].1 = e.1 := by
      have := congrArg (·[i]?) E.keys
      simp only [List.getElem?_map, h3, h1, Option.map_some] at this
      exact Option.some.inj this
    obtain ⟨a, b, c⟩ := hent i _ d h3 h2
    rw [hke] at a b
    refine ⟨a, b, ?_⟩
    rw [c]
    exact hz'.2 i e.2 kvs[i].2 (by simp [h1]) (by simp [h3])
theorem dc_run {X : KD prog w κ} {kx vx iter : Expr} {tn : Str} {tp : Pos} {scope : Scope} {pos : Pos} {hB : Heap} {ℓ : Nat} {sc sc' : Scope} {gl cells globs : List (Str × MV)} {names : List Str} {cl : List (Str × Addr)}
    (hΓ : Γof sc Γ hB ℓ gl) (hre : relabel scope Γ.env = sc') (S : CompSc scope sc' names (cells.map (·.1))) (hglob : GlobOk prog w sc' hB globs)
    (hc : ∀ p ∈ cells, p ∈ σ.loc ∧ p.2.ok = true ∧ Closed p.2 ∧ Γ.env.kindOf p.1 = some .cell) (hcl : ∀ n c, (n, NameKind.free) ∈ scope.names → Γ.env.cells.lookup n = some c → cl.lookup n = some c)
    {x : MV} {v : Value} {items : List MV} (T : ItrK prog w K x v items) (hz : items.length ≤ sizeLine) {Qc : List (κ × MV) → List (Option MO) → Prop}
    (hw : WPdc prog w X (fun Γ' => Γof sc' Γ' hB ℓ (cells ++ globs)) (.Name tn tp) kx vx names Qc items [] σ.objs)
    {I D L : Addr} {oI oD oL : Obj} {mL : Str → Option Value} (hID : I ≠ D) (hIL : I ≠ L) (hDL : D ≠ L) (hKI : K.f I = none) (hDK' : K.f D = none) (hKLn : K.f L = none) (hXI : Γ.hX I = none) (hXD : Γ.hX D = none) (hXL : Γ.hX L = none)
    (kx' : (∀ b ∈ K.x, ∃ o, K.f b = some o) ∧ (∀ b o, Γ.hX b = some o → K.f b = some o)) (hm : (D == sysModules) = false) (hDI : T.D 0 oI) {RR : Value → Addr → Result → Shared → Prop}
    (hRR : ∀ acc kvs objs D oD L oL mL s', Qc acc objs → Rel prog w Γ ((K.hold L oL).hold D oD) ⟨σ.loc, objs⟩ ((acc.map (·.2)).zip (kvs.map (·.2)) ++ ps) s' → DcEnd X Γ K D L acc kvs s'.heap → s'.heap.Ns L mL → RR (.ref D) L (.ok .next) s')
    {s₄ : Shared} (r₄ : Rel prog w Γ (K.h3 I oI D oD L oL) σ ((x, v) :: ps) s₄) (hd₄ : s₄.heap.DictOf X.knd D []) (hns : s₄.heap.Ns L mL) :
    codeAny (model prog w) Γ.A (.compLoop (.DictComp kx vx [⟨.Name tn tp, iter, [], 0⟩] scope pos) 0 (.ref I) (.ref D) (compEnvC scope cl L Γ.env)) (RR (.ref D) L) s₄ := by
  refine codeAny_compLoop_testsD (DcInv prog w X Γ K σ ps I D L T (WPdc prog w X (fun Γ' => Γof sc' Γ' hB ℓ (cells ++ globs)) (.Name tn tp) kx vx names Qc)) (fun n s' hI => ?_)
    (items.length + 1) (.mk 0 items [] [] σ.objs oI oD oL _ (Nat.zero_le _) rfl (Nat.le_refl _) rfl (by simp) hDI (.refl _) hw r₄ hd₄ hns)
  obtain ⟨i, ys, acc, kvs, objs, oI', oD', oL', mL', hil, hys, hai, hkv, hnd, hD', htu, hw', r', hd', hns'⟩ := hI
  obtain ⟨F', m', cm', fps', C'⟩ := id r'
  have hKe : ∀ b o, K.f b = some o → s'.heap.get? b = some o := fun b o e => C'.kept b o (by
    show (if b = L then _ else if b = D then _ else if b = I then _ else _) = _
    rw [if_neg (fun q => by rw [q, hKLn] at e; cases e), if_neg (fun q => by rw [q, hDK'] at e; cases e), if_neg (fun q => by rw [q, hKI] at e; cases e)]; exact e)
  have hFI : F' I = none := (C'.held I (.tail _ (.tail _ (.head _)))).1
  have hIo : s'.heap.get? I = some oI' := C'.kept I _ (by show (if I = L then _ else if I = D then _ else if I = I then _ else _) = _; rw [if_neg hIL, if_neg hID, if_pos rfl])
  obtain ⟨fp, P, St, W, hst1, hst2, hP⟩ := T.wk (A := Γ.A) (I := I) r'.handled (C'.ps (x, v) (List.mem_append_right _ (.head _))) hFI hKI
  have hSt : St i s'.heap := hst1 i _ _ C'.frz hKe hIo hD'
  cases ys with
  | nil =>
    have hi : i = items.length := Nat.le_antisymm hil (by simpa using hys)
    refine wpAny_with_toks (Nat.le_refl _) (W.done s' _ _ (hi ▸ hSt) fun h' tk hk ht => ?_)
    have hk' : ∀ b x, b ≠ I → s'.heap.get? b = some x → h'.get? b = some x := fun b x hb e => hk b x (by simpa using hb) e
    exact hRR acc kvs objs D oD' L oL' mL' _ hw' (r'.outD hID hIL hDL hKI hDK' hKLn kx' hk' tk ht) ⟨hd'.at fun o e => hk' D o hID.symm e, hkv, hm, hDL, hKLn, hDK', hXL, hXD⟩ (hns'.at' fun o e => hk' L o hIL.symm e)
  | cons y ys =>
    have hi : i < items.length := by
      rcases Nat.lt_or_ge i items.length with q | q
      · exact q
      · rw [List.drop_eq_nil_of_le q] at hys; cases hys
    refine wpAny_with_toks (Nat.le_refl _) (W.item i s' _ _ hi hSt fun u h' tk hPu hSt' hk ht => ?_)
    obtain ⟨y', hy, hyv⟩ := hP i u hi hPu
    have hyy : y' = y := by
      have := congrArg List.head? hys
      rw [List.head?_drop, hy] at this; simpa using this
    subst hyy
    obtain ⟨oI'', ho'', hD''⟩ := hst2 _ _ hSt'
    have r₅ : Rel prog w Γ (K.h3 I oI'' D oD' L oL') ⟨σ.loc, objs⟩ ((y', u) :: ((acc.map (·.2)).zip (kvs.map (·.2)) ++ (x, v) :: ps)) { s' with heap := h', toks := tk } :=
      Rel.renewI ⟨F', m', cm', fps', C'.cons hyv⟩ hID hIL hXI (fun b x hb e => hk b x (by simpa using hb) e) ho'' tk ht
    have hns₅ : h'.Ns L mL' := hns'.at' fun o e => hk L o (by simpa using hIL.symm) e
    have hd₅ : h'.DictOf X.knd D kvs := hd'.at fun o e => hk D o (by simpa using hID.symm) e
    exact wpAny_mono (dc_step hΓ hre S hglob hc hcl T hz hID hDL hXD hXL hi hys hai hkv hnd hD'' htu hw' (NX := fun s₅ => ∃ m, m < (y' :: ys).length + 1 ∧ DcInv prog w X Γ K σ ps I D L T (WPdc prog w X (fun Γ' => Γof sc' Γ' hB ℓ (cells ++ globs)) (.Name tn tp) kx vx names Qc) m s₅) (fun s₅ h => ⟨_, Nat.lt_succ_self _, h⟩) r₅ hd₅ hns₅)
      (fun _ _ q => wpAny_pure (by rw [if_pos rfl]; exact wpAny_mono q (fun _ _ q => wpAny_mono q (fun _ _ q => wpAny_mono q (fun _ _ q => q) fun _ _ q => q.elim) fun _ _ q => q.elim) fun _ _ q => q.elim)) fun _ _ q => q.elim
theorem dc_end {X : KD prog w κ} {kx vx iter : Expr} {tn : Str} {tp : Pos} {scope : Scope} {pos : Pos} {hB : Heap} {ℓ : Nat} {sc sc' : Scope} {gl cells globs : List (Str × MV)} {names : List Str} {cl : List (Str × Addr)}
    (hΓ : Γof sc Γ hB ℓ gl) (hre : relabel scope Γ.env = sc') (S : CompSc scope sc' names (cells.map (·.1))) (hglob : GlobOk prog w sc' hB globs)
    (hc : ∀ p ∈ cells, p ∈ σ.loc ∧ p.2.ok = true ∧ Closed p.2 ∧ Γ.env.kindOf p.1 = some .cell) (hcl : ∀ n c, (n, NameKind.free) ∈ scope.names → Γ.env.cells.lookup n = some c → cl.lookup n = some c)
    {x : MV} {v : Value} {items : List MV} (T : ItrK prog w K x v items) (hz : items.length ≤ sizeLine) {Qc : List (κ × MV) → List (Option MO) → Prop}
    (hw : WPdc prog w X (fun Γ' => Γof sc' Γ' hB ℓ (cells ++ globs)) (.Name tn tp) kx vx names Qc items [] σ.objs)
    {I D L : Addr} {oI oD oL : Obj} {mL : Str → Option Value} (hID : I ≠ D) (hIL : I ≠ L) (hDL : D ≠ L) (hKI : K.f I = none) (hKD : (K.hold I oI).f D = none) (hKL : ((K.hold I oI).hold D oD).f L = none) (hXI : Γ.hX I = none) (hXD : Γ.hX D = none) (hXL : Γ.hX L = none)
    (kx' : (∀ b ∈ K.x, ∃ o, K.f b = some o) ∧ (∀ b o, Γ.hX b = some o → K.f b = some o)) (hm : (D == sysModules) = false) (hDI : T.D 0 oI) {RR : Value → Addr → Result → Shared → Prop}
    (hRR : ∀ acc kvs objs D oD L oL mL s', Qc acc objs → Rel prog w Γ ((K.hold L oL).hold D oD) ⟨σ.loc, objs⟩ ((acc.map (·.2)).zip (kvs.map (·.2)) ++ ps) s' → DcEnd X Γ K D L acc kvs s'.heap → s'.heap.Ns L mL → RR (.ref D) L (.ok .next) s')
    {s₄ : Shared} (r₄ : Rel prog w Γ (K.h3 I oI D oD L oL) σ ((x, v) :: ps) s₄) (hd₄ : s₄.heap.DictOf X.knd D []) (hns : s₄.heap.Ns L mL) :
    codeAny (model prog w) Γ.A (.compStart (.DictComp kx vx [⟨.Name tn tp, iter, [], 0⟩] scope pos) 0 (.ref I) (.ref D) (compEnvC scope cl L Γ.env)) (RR (.ref D) L) s₄ := by
  have hDK' : K.f D = none := (if_neg hID.symm).symm.trans hKD
  have hKLn : K.f L = none := (if_neg hIL.symm).symm.trans ((if_neg hDL.symm).symm.trans hKL)
  have loop := dc_run (iter := iter) (pos := pos) hΓ hre S hglob hc hcl T hz hw hID hIL hDL hKI hDK' hKLn hXI hXD hXL kx' hm hDI hRR r₄ hd₄ hns
  refine codeAny_compStart_dict loop ?_
  obtain ⟨F', m', cm', fps', C'⟩ := id r₄
  have hKe : ∀ b o, K.f b = some o → s₄.heap.get? b = some o := fun b o e => C'.kept b o (by
    show (if b = L then _ else if b = D then _ else if b = I then _ else _) = _
    rw [if_neg (fun q => by rw [q, hKLn] at e; cases e), if_neg (fun q => by rw [q, hDK'] at e; cases e), if_neg (fun q => by rw [q, hKI] at e; cases e)]; exact e)
  have hIo : s₄.heap.get? I = some oI := C'.kept I _ ((if_neg hIL).trans ((if_neg hID).trans (if_pos rfl)))
  obtain ⟨fp, P, St, W, hst1, hst2, hP⟩ := T.wk (A := Γ.A) (I := I) r₄.handled (C'.ps (x, v) (.head _)) (C'.held I (.tail _ (.tail _ (.head _)))).1 hKI
  exact W.self 0 _ _ _ (hst1 0 _ _ C'.frz hKe hIo hDI) loop
theorem dc_core {X : KD prog w κ} {mg mb : Str → Option Value} {kx vx iter : Expr} {tn : Str} {tp : Pos} {scope : Scope} {pos : Pos} {hB : Heap} {ℓ : Nat} {sc sc' : Scope} {gl cells globs : List (Str × MV)} {names : List Str} {cl : List (Str × Addr)}
    (hΓ : Γof sc Γ hB ℓ gl) (hre : relabel scope Γ.env = sc') (S : CompSc scope sc' names (cells.map (·.1))) (hglob : GlobOk prog w sc' hB globs)
    (hc : ∀ p ∈ cells, p ∈ σ.loc ∧ p.2.ok = true ∧ Closed p.2 ∧ Γ.env.kindOf p.1 = some .cell) (hcl : ∀ n c, (n, NameKind.free) ∈ scope.names → Γ.env.cells.lookup n = some c → cl.lookup n = some c)
    {x : MV} {v : Value} {items : List MV} (T : ItrK prog w K x v items) (hz : items.length ≤ sizeLine) {Qc : List (κ × MV) → List (Option MO) → Prop}
    (hw : WPdc prog w X (fun Γ' => Γof sc' Γ' hB ℓ (cells ++ globs)) (.Name tn tp) kx vx names Qc items [] σ.objs)
    (TF : TopF hB mg mb) (r : Rel prog w Γ K σ ((x, v) :: ps) s) {RR : Value → Addr → Result → Shared → Prop}
    (hRR : ∀ acc kvs objs D oD L oL mL s', Qc acc objs → Rel prog w Γ ((K.hold L oL).hold D oD) ⟨σ.loc, objs⟩ ((acc.map (·.2)).zip (kvs.map (·.2)) ++ ps) s' → DcEnd X Γ K D L acc kvs s'.heap → s'.heap.Ns L mL → RR (.ref D) L (.ok .next) s')
 :
    wpAny (model prog w) Γ.A (pyIter v) (fun it s₂ => wpAny (model prog w) Γ.A newDict (fun acc s₃ => wpAny (model prog w) Γ.A (newFunctionEnv scope Γ.env.globals cl [] Γ.env.qual none .none (some Γ.env)) (fun cenv s₄ =>
      codeAny (model prog w) Γ.A (.compStart (.DictComp kx vx [⟨.Name tn tp, iter, [], 0⟩] scope pos) 0 it acc { cenv with scope := relabel scope Γ.env }) (RR acc cenv.locals) s₄) (fun _ _ => False) s₃) (fun _ _ => False) s₂) (fun _ _ => False) s := by
  obtain ⟨F, m, cm, fps, C⟩ := id r
  refine T.opn r.handled (C.ps _ (.head _)) C.frz C.kept fun oI hDI hoI => ?_
  obtain ⟨r₁, hKI, hXI⟩ := r.hold hoI
  refine wpAny_newObj_type (hd := by size_fits) ?_
  obtain ⟨r₂, hKD, hXD⟩ := r₁.hold (o := { cls := .type "dict", data := .dict #[] }) rfl
  refine wpAny_newFunctionEnv S.nocell (by intro y hy; simp at hy) (fun h₁ hns₁ hsb₁ => ?_) S.kind
  obtain ⟨r₃, hKL, hXL⟩ := r₂.hold (o := { cls := .type "dict", data := .dict #[] }) rfl
  have hDs := Heap.size_push (h := s.heap) oI
  have hLs := Heap.size_push (h := s.heap.push oI) { cls := .type "dict", data := .dict #[] }
  obtain ⟨oL, _, _, hoL, _⟩ := id hns₁
  have r₄ := r₃.renew hXL (fun b x hb e => hsb₁.extBut b x hb e) hoL (s.toks + ([] : List (Str × Value)).length)
  have hID : s.heap.objs.size ≠ (s.heap.push oI).objs.size := by (first | exact fun q => o9 q hDs | omega)
  have hIL : s.heap.objs.size ≠ ((s.heap.push oI).push { cls := .type "dict", data := .dict #[] }).objs.size := by (first | exact fun q => o10 q hDs hLs | omega)
  have hDL : (s.heap.push oI).objs.size ≠ ((s.heap.push oI).push { cls := .type "dict", data := .dict #[] }).objs.size := by (first | exact fun q => o9 q hLs | omega)
  have hm : ((s.heap.push oI).objs.size == sysModules) = false := by
    obtain ⟨o, _, _, ho, _⟩ := TF.g
    have : mainGlobals < s.heap.objs.size := Heap.lt_size (C.frz _ _ (C.base _ _ (hΓ.2.1 _ _ ho)))
    refine beq_eq_false_iff_ne.mpr fun e => ?_
    have h3 : mainGlobals < (s.heap.push oI).objs.size := by rw [hDs]; exact Nat.lt_succ_of_lt this
    rw [e] at h3
    exact absurd h3 (by decide)
  have hd : h₁.DictOf X.knd (s.heap.push oI).objs.size [] := (Heap.DictOf.new (knd := X.knd) (s.heap.push oI)).at fun o e => hsb₁.extBut _ _ hDL (Heap.get?_push_of_some _ e)
  exact dc_end hΓ hre S hglob hc hcl T hz hw hID hIL hDL hKI hKD hKL hXI hXD hXL r.kx hm hDI hRR r₄ hd hns₁
inductive Src (prog : Program) (w : World) (x : MV) (items : List MV) : Prop
  | itr (T : Itr prog w x items) : Src prog w x items
  | keys (es : List (Str × MV)) (hnd : (es.map (·.1)).Nodup) (hx : x = .dictS es) (hi : items = es.map fun e => .str e.1) : Src prog w x items
theorem dc_src {X : KD prog w κ} {mg mb : Str → Option Value} {kx vx iter : Expr} {tn : Str} {tp : Pos} {scope : Scope} {pos : Pos} {hB : Heap} {ℓ : Nat} {sc sc' : Scope} {gl cells globs : List (Str × MV)} {names : List Str} {cl : List (Str × Addr)}
    (hΓ : Γof sc Γ hB ℓ gl) (hre : relabel scope Γ.env = sc') (S : CompSc scope sc' names (cells.map (·.1))) (hglob : GlobOk prog w sc' hB globs)
    (hc' : ∀ p ∈ cells, p ∈ σ.loc ∧ p.2.ok = true ∧ Closed p.2 ∧ Γ.env.kindOf p.1 = some .cell) (hcl : ∀ n c, (n, NameKind.free) ∈ scope.names → Γ.env.cells.lookup n = some c → cl.lookup n = some c)
    {x : MV} {v : Value} {items : List MV} (T : Src prog w x items) (hz : items.length ≤ sizeLine) {Qc : List (κ × MV) → List (Option MO) → Prop}
    (hw : WPdc prog w X (fun Γ' => Γof sc' Γ' hB ℓ (cells ++ globs)) (.Name tn tp) kx vx names Qc items [] σ.objs) (TF : TopF hB mg mb) (r₁ : Rel prog w Γ K σ ((x, v) :: ps) s) {RR : Value → Addr → Result → Shared → Prop}
    (hRR : ∀ acc objs D L oL mL s', Qc acc objs → Rel prog w Γ (K.hold L oL) ⟨σ.loc, objs⟩ ((X.dict acc, .ref D) :: ps) s' → s'.heap.Ns L mL → K.f L = none → Γ.hX L = none → RR (.ref D) L (.ok .next) s') :
    wpAny (model prog w) Γ.A (pyIter v) (fun it s₂ => wpAny (model prog w) Γ.A newDict (fun acc s₃ => wpAny (model prog w) Γ.A (newFunctionEnv scope Γ.env.globals cl [] Γ.env.qual none .none (some Γ.env)) (fun cenv s₄ =>
      codeAny (model prog w) Γ.A (.compStart (.DictComp kx vx [⟨.Name tn tp, iter, [], 0⟩] scope pos) 0 it acc { cenv with scope := relabel scope Γ.env }) (RR acc cenv.locals) s₄) (fun _ _ => False) s₃) (fun _ _ => False) s₂) (fun _ _ => False) s := by
  have kx' := r₁.kx
  cases T with
  | itr T =>
    refine dc_core hΓ hre S hglob hc' hcl (ItrK.of T K v) hz hw TF r₁ fun acc kvs objs D oD L oL mL s' hq r' E hn => ?_
    exact hRR acc objs D L oL mL s' hq (r'.frzD E kx') hn E.kl E.xl
  | keys es hnd hx hi =>
    subst hx hi
    obtain ⟨F, m, cm, fps, C⟩ := id r₁
    have hv : VR w F (rho fps) (.dictS es) v := C.ps (.dictS es, v) (.head _)
    cases hv with
    | dictS d _ ds n hF hm hl hk hh =>
      have r₂ : Rel prog w Γ ⟨fun b => if b = d then some { cls := .type "dict", data := .dict ds n } else K.f b, K.x⟩ σ ((.dictS es, .ref d) :: ps) s := ⟨F, m, cm, fps, { C with
        kept := fun b o e => by
          have e : (if b = d then some _ else K.f b) = some o := e
          split at e
          · rename_i q; rw [q]; cases e; exact C.frz _ _ hF
          · exact C.kept b o e
        keptH := fun b o e => by
          have e : (if b = d then some _ else K.f b) = some o := e
          split at e
          · rename_i q; rw [q]; exact C.frzH _ _ hF
          · exact C.keptH b o e
        hx := fun b o e => by
          show (if b = d then some _ else K.f b) = some o
          split
          · rename_i q
            have h1 := C.kept b o (C.hx b o e)
            rw [q, C.frz _ _ hF] at h1; exact h1
          · exact C.hx b o e
        held := fun b hb => by
          obtain ⟨g1, ⟨o, g2⟩, g3⟩ := C.held b hb
          exact ⟨g1, ⟨o, (if_neg (fun q => by rw [q, hF] at g1; cases g1)).trans g2⟩, g3⟩ }⟩
      refine dc_core hΓ hre S hglob hc' hcl (ItrK.dictS hm hl hnd hk _ (if_pos rfl)) hz hw TF r₂ fun acc kvs objs D oD L oL mL s' hq r' E hn => ?_
      have r' := r'.frzD E r₂.kx
      have hK := E.kl
      have hX := E.xl
      have hKL : K.f L = none ∧ L ≠ d := by
        have e : (if L = d then some _ else K.f L) = none := hK
        split at e
        · cases e
        · rename_i q; exact ⟨e, q⟩
      refine hRR acc objs D L oL mL s' hq (r'.kpw (K' := K.hold L oL) (fun b o e => ?_) (fun b hb => hb) ⟨fun b hb => ?_, fun b o e => ?_⟩) hn hKL.1 hX
      · have e : (if b = L then some oL else K.f b) = some o := e
        show (if b = L then some oL else if b = d then some _ else K.f b) = some o
        split
        · rename_i q; rw [if_pos q] at e; exact e
        · rename_i q; rw [if_neg q] at e
          split
          · rename_i q'
            have h1 := C.kept b o e
            rw [q', C.frz _ _ hF] at h1; exact h1
          · exact e
      · rcases List.mem_cons.mp hb with q | q
        · exact ⟨_, if_pos q⟩
        · obtain ⟨o, e⟩ := kx'.1 b q
          exact ⟨o, (if_neg (fun q => by rw [q, hKL.1] at e; cases e)).trans e⟩
      · exact (if_neg (fun q => by rw [q, hX] at e; cases e)).trans (kx'.2 b o e)
theorem wp_dcomp {X : KD prog w κ} {mg mb : Str → Option Value} {kx vx iter : Expr} {tn : Str} {tp : Pos} {scope : Scope} {pos : Pos} {hB : Heap} {ℓ : Nat} {sc : Scope} {gl : List (Str × MV)} (TF : TopF hB mg mb) (hΓ : Γof sc Γ hB ℓ gl) (sc' : Scope) (names : List Str) (cells globs : List (Str × MV)) (hre : relabel scope Γ.env = sc')
    (S : CompSc scope sc' names (cells.map (·.1))) (hglob : GlobOk prog w sc' hB globs) (hck : ∀ x ∈ cells.map (·.1), x ∈ σ.loc.map (·.1) ∧ sc.names.lookup x = some .cell)
    (h : WPe prog w Γ σ iter fun xv σ₁ => ∃ items, Src prog w xv items ∧ items.length ≤ sizeLine ∧ (∀ p ∈ cells, p ∈ σ₁.loc ∧ p.2.ok = true ∧ Closed p.2) ∧
      WPdc prog w X (fun Γ' => Γof sc' Γ' hB ℓ (cells ++ globs)) (.Name tn tp) kx vx names (fun acc objs => Q (X.dict acc) ⟨σ₁.loc, objs⟩) items [] σ₁.objs)
    (hs : ∀ env x, foldedSetIterable iter env x = pure x) : WPe prog w Γ σ (.DictComp kx vx [⟨.Name tn tp, iter, [], 0⟩] scope pos) Q := by
  intro K ps s R r hR
  obtain ⟨cl, hclos, hcl⟩ := comp_cl hΓ S hck r
  rw [arm_eval_DictComp]
  refine wpAny_comprehension_free (use := none) rfl (hs _) hclos S.kind S.loc ?_
  refine h K ps s _ r fun xv v σ₁ s₁ h₁ r₁ => ?_
  obtain ⟨items, T, hz, hc, hw⟩ := h₁
  have kx' := r.kx
  refine dc_src hΓ hre S hglob (fun p hp => ⟨(hc p hp).1, (hc p hp).2.1, (hc p hp).2.2, by have := (hck p.1 (List.mem_map.mpr ⟨p, hp, rfl⟩)).2; rw [← hΓ.1] at this; exact this⟩) hcl T hz hw TF r₁ (RR := compPost (model prog w) Γ.A (fun _ _ => False) none R) fun acc objs D L oL mL s' hq r' hn hK hX => ?_
  exact ⟨mL, hn, fun h' hs' => hR _ _ _ _ hq (r'.letgo hK (fun b x hb e => hs'.extBut b x hb e) kx'.1 kx'.2 s'.toks)⟩
theorem wx_dcomp {X : KD prog w κ} {mg mb : Str → Option Value} {kx vx iter : Expr} {tn y : Str} {tp py : Pos} {scope : Scope} {pos spos : Pos} {hB : Heap} {ℓ : Nat} {sc : Scope} {gl : List (Str × MV)} (TF : TopF hB mg mb) (hΓ : Γof sc Γ hB ℓ gl) (sc' : Scope) (names : List Str) (cells globs : List (Str × MV)) (hre : relabel scope Γ.env = sc')
    (S : CompSc scope sc' names (cells.map (·.1))) (hglob : GlobOk prog w sc' hB globs) (hck : ∀ x ∈ cells.map (·.1), x ∈ σ.loc.map (·.1) ∧ sc.names.lookup x = some .cell)
    (h : WPe prog w Γ σ iter fun xv σ₁ => ∃ items, Src prog w xv items ∧ items.length ≤ sizeLine ∧ (∀ p ∈ cells, p ∈ σ₁.loc ∧ p.2.ok = true ∧ Closed p.2) ∧
      WPdc prog w X (fun Γ' => Γof sc' Γ' hB ℓ (cells ++ globs)) (.Name tn tp) kx vx names (fun acc objs => PutQ y (X.dict acc) σ₁.loc fun l' => QF .next ⟨l', objs⟩) items [] σ₁.objs)
    (hs : ∀ env x, foldedSetIterable iter env x = pure x) (hsw : swapsWith (.DictComp kx vx [⟨.Name tn tp, iter, [], 0⟩] scope pos) (some (.Name y py)) spos.line Γ.env = pure true) :
    WPx prog w Γ σ (.Assign [.Name y py] (.DictComp kx vx [⟨.Name tn tp, iter, [], 0⟩] scope pos) spos) QF := by
  intro K ps s R r hR
  obtain ⟨cl, hclos, hcl⟩ := comp_cl hΓ S hck r
  rw [exec_Assign_Name_used _ _ _ _ hsw]
  refine wpAny_bind (wpAny_standAt (wpAny_bind ?_))
  show wpAny _ Γ.A (do let _ ← comprehension (.DictComp kx vx [⟨.Name tn tp, iter, [], 0⟩] scope pos) scope Γ.env _ newDict false (eval iter Γ.env) (some (assign (.Name y py) Γ.env))) _ _ s
  refine wpAny_bind (wpAny_mono (wpAny_comprehension_free (use := some (assign (.Name y py) Γ.env)) (Q := fun _ s' => R .next s') (E := fun _ _ => False) rfl (hs _) hclos S.kind S.loc ?_) (fun _ s' hq => wpAny_pure (wpAny_pure hq)) fun _ _ e => e)
  refine h K ps s _ r fun xv v σ₁ s₁ h₁ r₁ => ?_
  obtain ⟨items, T, hz, hc, hw⟩ := h₁
  have kx' := r.kx
  refine dc_src hΓ hre S hglob (fun p hp => ⟨(hc p hp).1, (hc p hp).2.1, (hc p hp).2.2, by have := (hck p.1 (List.mem_map.mpr ⟨p, hp, rfl⟩)).2; rw [← hΓ.1] at this; exact this⟩) hcl T hz hw TF r₁ (RR := compPost (model prog w) Γ.A (fun _ _ => False) (some (assign (.Name y py) Γ.env)) (fun _ s' => R .next s')) fun acc objs D L oL mL s' hq r' hn hK hX => ?_
  obtain ⟨l', hp, hq⟩ := hq
  refine wa_name (QU := fun σ => QF .next σ) (σ := ⟨σ₁.loc, objs⟩) hp hq _ ps (.ref D) s' _ r' fun σ₂ s₂ h₂ r₃ => ?_
  have hL : s₂.heap.get? L = some oL ∧ s'.heap.get? L = some oL := by
    obtain ⟨_, _, _, _, C₂⟩ := r₃
    obtain ⟨_, _, _, _, C'⟩ := r'
    exact ⟨C₂.kept L _ (if_pos rfl), C'.kept L _ (if_pos rfl)⟩
  refine ⟨mL, hn.at' fun o e => by rw [hL.2] at e; rw [hL.1]; exact e, fun h' hs' => hR .next .next σ₂ _ h₂ ⟨rfl, ?_⟩⟩
  exact r₃.letgo hK (fun b x hb e => hs'.extBut b x hb e) kx'.1 kx'.2 s₂.toks
end
variable {prog : Program} {w : World} {Γ Γ' : Cx} {K K' : Kp} {σ σ' : St} {ps qs : List (MV × Value)} {s s' : Shared} {F F' : Frz} {m cm : Str → Option Value} {fps : List (List Addr)}
variable {Q : MV → St → Prop} {QB : Bool → St → Prop} {QF : MF → St → Prop} {QU : St → Prop} {QL : List MV → St → Prop}
noncomputable def dicI (es : List (Int × MV)) : Ext where
  rel := fun w F _ fp h => ∃ d ds n, fp = [d] ∧ (d == sysModules) = false ∧ h.get? d = some { cls := .type "dict", data := .dict ds n } ∧ ds.size = es.length ∧
    ∀ (i : Nat) (e : Int × MV) (x : DictEntry), es[i]? = some e → ds[i]? = some x → (Value.isInt e.1 x.key = true ∧ x.hash = hashInt e.1) ∧ VR w F noρ e.2 x.val
  mono := fun w F F' _ _ _ _ hF _ r => by
    obtain ⟨d, ds, n, r1, r2, r3, r4, r5⟩ := r
    exact ⟨d, ds, n, r1, r2, r3, r4, fun i e x a b => ⟨(r5 i e x a b).1, (r5 i e x a b).2.mono hF fun _ _ e => e⟩⟩
  stab := fun _ _ _ _ _ _ hk r => by
    obtain ⟨d, ds, n, rfl, r2, r3, r4⟩ := r
    exact ⟨d, ds, n, rfl, r2, (hk _ (.head _)).trans r3, r4⟩
  nor := fun _ _ _ _ _ r => r
section
variable {κ : Type} [DecidableEq κ]
theorem dictOf_of {knd : KeyKind prog w κ} {es : List (κ × MV)} {d : Addr} {ds : Array DictEntry} {n : Nat} {h : Heap} (hg : h.get? d = some { cls := .type "dict", data := .dict ds n }) (hl : ds.size = es.length) (hnd : (es.map (·.1)).Nodup)
    (hk : ∀ (i : Nat) (x : κ × MV) (e : DictEntry), es[i]? = some x → ds[i]? = some e → knd.is x.1 e.key = true ∧ e.hash = knd.hash x.1) :
    h.DictOf knd d ((es.zip ds.toList).map fun p => (p.1.1, p.2.val)) := by
  have key : ∀ (l : List DictEntry) (es : List (κ × MV)), l.length = es.length → (∀ (i : Nat) (x : κ × MV) (e : DictEntry), es[i]? = some x → l[i]? = some e → knd.is x.1 e.key = true ∧ e.hash = knd.hash x.1) →
      Pairs knd l ((es.zip l).map fun p => (p.1.1, p.2.val)) := by
    intro l
    induction l with
    | nil => intro es _ _; cases es <;> exact .nil
    | cons e l ih =>
      intro es hl hk
      cases es with
      | nil => simp at hl
      | cons x es => exact .cons (hk 0 x e rfl rfl).1 rfl (ih es (by simpa using hl) fun i y e' h1 h2 => hk (i + 1) y e' (by simpa using h1) (by simpa using h2))
  refine ⟨_, ds, n, hg, ⟨rfl, rfl, rfl⟩, rfl, fun e he => ?_, key ds.toList es (by simpa using hl) fun i x e h1 h2 => hk i x e h1 (by simpa using h2), ?_⟩
  · obtain ⟨i, hi, rfl⟩ := Array.mem_iff_getElem.mp he
    have hi' : i < es.length := by rw [← hl]; exact hi
    obtain ⟨e1, e2⟩ := hk i es[i] ds[i] (List.getElem?_eq_getElem hi') (Array.getElem?_eq_getElem hi)
    exact ⟨es[i].1, e1, e2⟩
  · have : ((es.zip ds.toList).map fun p => (p.1.1, p.2.val)).map (·.1) = es.map (·.1) := by
      rw [List.map_map]
      have : ((·.1) ∘ fun p : (κ × MV) × DictEntry => (p.1.1, p.2.val)) = (·.1) ∘ Prod.fst := rfl
      rw [this, ← List.map_map, List.map_fst_zip (by simp [hl])]
    rw [this]; exact hnd
end
theorem Rel.heldExt {D : Addr} {oD : Obj} {e : Ext} (r : Rel prog w Γ (K.hold D oD) σ (qs ++ ps) s) (hD : K.f D = none) (hKx : ∀ b ∈ K.x, ∃ o, K.f b = some o) (hXK : ∀ b o, Γ.hX b = some o → K.f b = some o)
    (he : ∀ (F : Frz) (ρ : Nat → Option Addr), (∀ p ∈ qs, VR w F ρ p.1 p.2) → e.rel w F noρ [D] s.heap) : Rel prog w Γ K { σ with objs := σ.objs ++ [some (.ext e)] } ((.mu σ.objs.length, .ref D) :: ps) s := by
  have r₀ := r.kpw (K' := K) (fun b o e => (if_neg (fun q => by rw [q, hD] at e; cases e)).trans e) (fun b hb => .tail _ hb) ⟨hKx, hXK⟩
  obtain ⟨F, m, cm, fps, C⟩ := r
  have C₀ : Core prog w Γ K σ (qs ++ ps) s F m cm fps := { C with
    kept := fun b o e => C.kept b o ((if_neg (fun q => by rw [q, hD] at e; cases e)).trans e)
    keptH := fun b o e => C.keptH b o ((if_neg (fun q => by rw [q, hD] at e; cases e)).trans e)
    hx := hXK
    held := fun b hb => let ⟨h1, _, h3⟩ := C.held b (.tail _ hb); ⟨h1, hKx b hb, h3⟩ }
  have C₁ := C₀.addExt (e := e) (fp := [D]) (by simp) (fun a ha => by simp at ha; subst ha; exact (C.held _ (.head _)).1) (fun a ha => by simp at ha; subst ha; exact hD) (fun a ha => by simp at ha; subst ha; exact C.keptH _ oD (if_pos rfl))
    (fun a ha => by simp at ha; subst ha; exact ⟨oD, C.kept _ oD (if_pos rfl)⟩) (he F (rho fps) fun p hp => C.ps p (List.mem_append_left _ hp))
  refine ⟨F, m, cm, _, (C₁.setps fun p hp => C₁.ps p (List.mem_append_right _ hp)).cons (.mu _ D ?_)⟩
  unfold rho
  rw [← C.len, List.getElem?_append_right (Nat.le_refl _), Nat.sub_self]; rfl
section
variable {mg mb : Str → Option Value} {kx vx iter : Expr} {tn y : Str} {tp py : Pos} {scope : Scope} {pos spos : Pos} {hB : Heap} {ℓ : Nat} {sc : Scope} {gl : List (Str × MV)}
theorem wx_newdict (TF : TopF hB mg mb) (hΓ : Γof sc Γ hB ℓ gl) (sc' : Scope) (names : List Str) (cells globs : List (Str × MV)) (hre : relabel scope Γ.env = sc')
    (S : CompSc scope sc' names (cells.map (·.1))) (hglob : GlobOk prog w sc' hB globs) (hck : ∀ x ∈ cells.map (·.1), x ∈ σ.loc.map (·.1) ∧ sc.names.lookup x = some .cell)
    (h : WPe prog w Γ σ iter fun xv σ₁ => ∃ items, ∃ _ : Itr prog w xv items, items.length ≤ sizeLine ∧ (∀ p ∈ cells, p ∈ σ₁.loc ∧ p.2.ok = true ∧ Closed p.2) ∧
      WPdc prog w (KD.int prog w) (fun Γ' => Γof sc' Γ' hB ℓ (cells ++ globs)) (.Name tn tp) kx vx names (fun acc objs => (∀ p ∈ acc, Closed p.2) ∧ PutQ y (.mu objs.length) σ₁.loc fun l' => QF .next ⟨l', objs ++ [some (.ext (dicI acc))]⟩) items [] σ₁.objs)
    (hs : ∀ env x, foldedSetIterable iter env x = pure x) (hsw : swapsWith (.DictComp kx vx [⟨.Name tn tp, iter, [], 0⟩] scope pos) (some (.Name y py)) spos.line Γ.env = pure true) :
    WPx prog w Γ σ (.Assign [.Name y py] (.DictComp kx vx [⟨.Name tn tp, iter, [], 0⟩] scope pos) spos) QF := by
  intro K ps s R r hR
  obtain ⟨cl, hclos, hcl⟩ := comp_cl hΓ S hck r
  rw [exec_Assign_Name_used _ _ _ _ hsw]
  refine wpAny_bind (wpAny_standAt (wpAny_bind ?_))
  show wpAny _ Γ.A (do let _ ← comprehension (.DictComp kx vx [⟨.Name tn tp, iter, [], 0⟩] scope pos) scope Γ.env _ newDict false (eval iter Γ.env) (some (assign (.Name y py) Γ.env))) _ _ s
  refine wpAny_bind (wpAny_mono (wpAny_comprehension_free (use := some (assign (.Name y py) Γ.env)) (Q := fun _ s' => R .next s') (E := fun _ _ => False) rfl (hs _) hclos S.kind S.loc ?_) (fun _ s' hq => wpAny_pure (wpAny_pure hq)) fun _ _ e => e)
  refine h K ps s _ r fun xv v σ₁ s₁ h₁ r₁ => ?_
  obtain ⟨items, T, hz, hc, hw⟩ := h₁
  have kx' := r.kx
  refine dc_core hΓ hre S hglob (fun p hp => ⟨(hc p hp).1, (hc p hp).2.1, (hc p hp).2.2, by have := (hck p.1 (List.mem_map.mpr ⟨p, hp, rfl⟩)).2; rw [← hΓ.1] at this; exact this⟩) hcl (ItrK.of T K v) hz hw TF r₁ (RR := compPost (model prog w) Γ.A (fun _ _ => False) (some (assign (.Name y py) Γ.env)) (fun _ s' => R .next s')) fun acc kvs objs D oD L oL mL s' hq r' E hn => ?_
  obtain ⟨hcl', l', hp, hq⟩ := hq
  have hKLn : ∀ {b o}, K.f b = some o → ¬ b = L := fun e q => by rw [q, E.kl] at e; cases e
  have r₂ : Rel prog w Γ (K.hold L oL) ⟨σ₁.loc, objs ++ [some (.ext (dicI acc))]⟩ ((.mu objs.length, .ref D) :: ps) s' := by
    refine Rel.heldExt (e := dicI acc) r' ((if_neg E.dl).trans E.kd) (fun b hb => ?_) (fun b o e => (if_neg (hKLn (kx'.2 b o e))).trans (kx'.2 b o e)) fun F ρ hv => ?_
    · rcases List.mem_cons.mp hb with q | q
      · exact ⟨_, if_pos q⟩
      · obtain ⟨o, e⟩ := kx'.1 b q
        exact ⟨o, (if_neg (hKLn e)).trans e⟩
    · obtain ⟨ds, n, hg, hsz, hent⟩ := dict_entries E.hd
      have hlen : kvs.length = acc.length := by simpa using congrArg List.length E.keys
      have hz' := zip_vrs (by simp [hlen]) hv
      refine ⟨D, ds, n, rfl, E.hm, hg, by rw [hsz, hlen], fun i e d h1 h2 => ?_⟩
      have hi : i < kvs.length := by rw [hlen]; exact (List.getElem?_eq_some_iff.mp h1).1
      have h3 : kvs[i]? = some kvs[i] := List.getElem?_eq_getElem hi
      have hke : kvs[i].1 = e.1 := by
        have := congrArg (·[i]?) E.keys
        simp only [List.getElem?_map, h3, h1, Option.map_some] at this
        exact Option.some.inj this
      obtain ⟨a, b, c⟩ := hent i _ d h3 h2
      rw [hke] at a b
      refine ⟨⟨a, b⟩, ?_⟩
      rw [c]
      exact hcl' e (List.mem_of_getElem? h1) w F ρ _ (hz'.2 i e.2 kvs[i].2 (by simp [h1]) (by simp [h3]))
  refine wa_name (QU := fun σ => QF .next σ) (σ := ⟨σ₁.loc, objs ++ [some (.ext (dicI acc))]⟩) hp hq _ ps (.ref D) s' _ r₂ fun σ₂ s₂ h₂ r₃ => ?_
  have hL : s₂.heap.get? L = some oL ∧ s'.heap.get? L = some oL := by
    obtain ⟨_, _, _, _, C₂⟩ := r₃
    obtain ⟨_, _, _, _, C'⟩ := r₂
    exact ⟨C₂.kept L _ (if_pos rfl), C'.kept L _ (if_pos rfl)⟩
  refine ⟨mL, hn.at' fun o e => by rw [hL.2] at e; rw [hL.1]; exact e, fun h' hs' => hR .next .next σ₂ _ h₂ ⟨rfl, ?_⟩⟩
  exact r₃.letgo E.kl (fun b x hb e => hs'.extBut b x hb e) kx'.1 kx'.2 s₂.toks
end
theorem it_dictS {es : List (Str × MV)} {x : Str} {z : MV} (hz : mvAt es x = some z) (h : Q z σ) : WIt prog w Γ σ (.dictS es) (.str x) Q := by
  intro value slice hp K ps v u s R r hR
  obtain ⟨t, rfl⟩ := r.str
  obtain ⟨a, f, rfl, hm, hM, _, hf⟩ := r.drop.dictS
  rcases hf x with ⟨h1, _⟩ | ⟨mv, y, h1, h2, r'⟩
  · rw [hz] at h1; cases h1
  · rw [hz] at h1; cases h1
    exact subscriptTail_builtinR hM.typeIs slot_dict_getitem.lookup (wpAny_getItem_of (strKind_is prog w x t) hM h2 ⟨rfl, hR _ _ _ _ h (r'.toks _)⟩) (hp _ _)
theorem Rel.dicAt {k : Nat} {es : List (Int × MV)} {v : Value} (r : Rel prog w Γ K σ ((.mu k, v) :: ps) s) (hk : ObjAt σ k (.ext (dicI es))) : ∃ F m cm fps d ds n, Core prog w Γ K σ ((.mu k, v) :: ps) s F m cm fps ∧ v = .ref d ∧ fps[k]? = some [d] ∧ (d == sysModules) = false ∧ s.heap.get? d = some { cls := .type "dict", data := .dict ds n } ∧ ds.size = es.length ∧
    ∀ (i : Nat) (e : Int × MV) (x : DictEntry), es[i]? = some e → ds[i]? = some x → (Value.isInt e.1 x.key = true ∧ x.hash = hashInt e.1) ∧ VR w F noρ e.2 x.val := by
  obtain ⟨F, m, cm, fps, C⟩ := r
  obtain ⟨fp, hfp, ho⟩ := C.trk k _ hk
  cases ho with | ext _ _ _ hh =>
  obtain ⟨d, ds, n, rfl, h2, h3, h4, h5⟩ := hh
  have h1 : VR w F (rho fps) (.mu k) v := C.ps (.mu k, v) (.head _)
  cases h1 with
  | mu _ a ha =>
    have : rho fps k = some d := by unfold rho; rw [hfp]; rfl
    rw [this] at ha; cases ha
    exact ⟨F, m, cm, fps, d, ds, n, C, rfl, hfp, h2, h3, h4, h5⟩
theorem wm_dic {k : Nat} {es : List (Int × MV)} {name : Str} {id : String} {QM : Value → List MV → St → Prop} (hk : ObjAt σ k (.ext (dicI es))) (slot : Slot "dict" name id) (hty : typeOf (.builtin id) = pure (.type "method_descriptor")) (h : QM (.builtin id) [.mu k] σ) : WPm prog w Γ σ (.mu k) name QM := by
  intro pl K ps v s R r hR
  obtain ⟨F, m, cm, fps, d, ds, n, C, rfl, _, _, hg, _, _⟩ := r.dicAt hk
  exact getMethod_builtin ⟨_, hg, rfl⟩ PySem.F.plainAttrs_dict slot hty (fun b e => by cases e; exact ⟨_, hg, rfl⟩) (hR _ [.mu k] [.ref d] _ _ h rfl r)
theorem wc_getX {k : Nat} {es : List (Int × MV)} {i : Int} {dv : MV} (hk : ObjAt σ k (.ext (dicI es))) (h : Q ((mvAt es i).getD dv) σ) : WPc prog w Γ σ (.builtin "dict.get") [.mu k, .int i, dv] Q := by
  intro K ps vs s R hl r hR
  obtain ⟨v, u, y, rfl, r⟩ := r.three hl
  obtain ⟨t, rfl⟩ := r.drop.int
  obtain ⟨F, m, cm, fps, d, ds, n, C, rfl, _, hm, hg, hsz, hent⟩ := r.dicAt hk
  obtain ⟨hM, hf⟩ := map_of (prog := prog) (knd := intKind prog w) (F := F) (ρ := noρ) hg hsz fun i e x a b => ⟨(hent i e x a b).1.1, (hent i e x a b).1.2, (hent i e x a b).2⟩
  have hki : (intKind prog w).is i (.int i t) = true := by simp [intKind, Value.isInt]
  refine ⟨kept_builtin, call_meetsIn PySem.F.slot_dict_get hM.typeIs PySem.F.entry_dict_get (PySem.F.args_dict_get_3 _ _ _) (meets_dict_get_default (intKind prog w) d hki hm y) ⟨_, hM, ?_⟩⟩
  rcases hf i with ⟨h1, h2⟩ | ⟨mv, u, h1, h2, h3⟩
  · rw [h1] at h; rw [h2]
    exact hR _ _ _ _ h (r.drop.drop.toks _)
  · rw [h1] at h; rw [h2]
    have r' : Rel prog w Γ K σ ((mv, u) :: ps) s := ⟨F, m, cm, fps, C.drop.drop.drop.cons (h3.mono (Sub.refl F) fun _ _ e => by cases e)⟩
    exact hR _ _ _ _ h (r'.toks _)
theorem wc_update {k : Nat} {es es₂ : List (Int × MV)} (hk : ObjAt σ k (.ext (dicI es))) (hnd : ((es ++ es₂).map (·.1)).Nodup) (hcl : ∀ p ∈ es₂, Closed p.2) (hz : es.length + es₂.length ≤ sizeLine) (h : Q .none { σ with objs := σ.objs.set k (some (.ext (dicI (es ++ es₂)))) }) :
    WPc prog w Γ σ (.builtin "dict.update") [.mu k, .dictI es₂] Q := by
  intro K ps vs s R hl r hR
  obtain ⟨v, u, rfl, r⟩ := r.two hl
  obtain ⟨F, m, cm, fps, d, ds, n, C, rfl, hfp, hm, hg, hsz, hent⟩ := r.dicAt hk
  have h2 : VR w F (rho fps) (.dictI es₂) u := C.ps (.dictI es₂, u) (.tail _ (.head _))
  rw [List.map_append] at hnd
  obtain ⟨nd1, nd2, nd3⟩ := List.nodup_append.mp hnd
  cases h2 with
  | dictI o _ ds₂ n₂ hF hm₂ hl₂ hk₂ hh₂ =>
    have hdo : d ≠ o := fun e => C.frzH o _ hF (C.mem_hot hk hfp (by rw [e]; exact .head _))
    have D₁ := dictOf_of (knd := intKind prog w) hg hsz nd1 fun i e x a b => (hent i e x a b).1
    have D₂ := dictOf_of (knd := intKind prog w) (C.frz _ _ hF) hl₂ nd2 fun i e x a b => by
      obtain ⟨⟨t, e1⟩, e2⟩ := hk₂ i e x a b
      exact ⟨by rw [e1]; simp [intKind, Value.isInt], e2⟩
    have hk1 : ((es.zip ds.toList).map fun p => (p.1.1, p.2.val)).map (·.1) = es.map (·.1) := by
      rw [List.map_map]
      have : ((·.1) ∘ fun p : (Int × MV) × DictEntry => (p.1.1, p.2.val)) = (·.1) ∘ Prod.fst := rfl
      rw [this, ← List.map_map, List.map_fst_zip (by simp [hsz])]
    have hk2 : ((es₂.zip ds₂.toList).map fun p => (p.1.1, p.2.val)).map (·.1) = es₂.map (·.1) := by
      rw [List.map_map]
      have : ((·.1) ∘ fun p : (Int × MV) × DictEntry => (p.1.1, p.2.val)) = (·.1) ∘ Prod.fst := rfl
      rw [this, ← List.map_map, List.map_fst_zip (by simp [hl₂])]
    refine ⟨kept_builtin, call_meetsIn PySem.F.slot_dict_update D₁.typeIs PySem.F.entry_dict_update (PySem.F.args_dict_update_2 _ _) (meets_dict_update (intKind prog w) d o hdo hm₂) ⟨_, _, D₁, D₂, by simp [hsz, hl₂]; (first | exact o29 hz | omega), fun h' hd' ho' hs' => ?_⟩⟩
    rw [merged_nodup _ _ (by rw [List.map_append, hk1, hk2]; exact hnd)] at hd'
    obtain ⟨ds', n', hg', hsz', hent'⟩ := dict_entries hd'
    have hs : ∀ b x, b ∉ [d] → s.heap.get? b = some x → h'.get? b = some x := fun b x hb e => hs'.extBut b x (by simpa using hb) e
    have hrel : (dicI (es ++ es₂)).rel w F (rho fps) [d] h' := by
      refine ⟨d, ds', n', rfl, hm, hg', by rw [hsz']; simp [hsz, hl₂], fun i e x a b => ?_⟩
      rcases Nat.lt_or_ge i es.length with q | q
      · rw [List.getElem?_append_left q] at a
        have q' : i < ds.toList.length := by simpa [hsz] using q
        have hz1 : ((es.zip ds.toList).map fun p => (p.1.1, p.2.val))[i]? = some (e.1, ds.toList[i].val) := by
          rw [List.getElem?_map, show (es.zip ds.toList)[i]? = some (e, ds.toList[i]) from List.getElem?_zip_eq_some.mpr ⟨a, List.getElem?_eq_getElem q'⟩]; rfl
        obtain ⟨g1, g2, g3⟩ := hent' i _ x (by rw [List.getElem?_append_left (by simp [hsz]; (first | exact o30 q | omega))]; exact hz1) b
        refine ⟨⟨g1, g2⟩, ?_⟩
        rw [g3]
        exact (hent i e ds.toList[i] a (by simp)).2
      · rw [List.getElem?_append_right q] at a
        have q' : i - es.length < ds₂.toList.length := by
          have := (List.getElem?_eq_some_iff.mp a).1
          simpa [hl₂] using this
        have hz1 : ((es₂.zip ds₂.toList).map fun p => (p.1.1, p.2.val))[i - es.length]? = some (e.1, ds₂.toList[i - es.length].val) := by
          rw [List.getElem?_map, show (es₂.zip ds₂.toList)[i - es.length]? = some (e, ds₂.toList[i - es.length]) from List.getElem?_zip_eq_some.mpr ⟨a, List.getElem?_eq_getElem q'⟩]; rfl
        have hlen1 : ((es.zip ds.toList).map fun p => (p.1.1, p.2.val)).length = es.length := by simp [hsz]
        obtain ⟨g1, g2, g3⟩ := hent' i _ x (by rw [List.getElem?_append_right (by rw [hlen1]; exact q), hlen1]; exact hz1) b
        refine ⟨⟨g1, g2⟩, ?_⟩
        rw [g3]
        exact hcl e (List.mem_of_getElem? a) w F (rho fps) _ (hh₂ _ e ds₂.toList[i - es.length] a (by simp))
    have C₂ := (C.drop.drop).turnObj (h' := h') hk hfp hs (fun a ha => by simp at ha; subst ha; exact ⟨_, hg'⟩) (Sub.refl F) (fun b x e => hs b x (fun q => C.frzH b x e (C.mem_hot hk hfp q)) (C.frz b x e)) (fun _ _ e => .inl e) (.ext (dicI (es ++ es₂)) [d] h' hrel) (fun _ e => by cases e) s.toks (Nat.le_refl _)
    exact hR _ _ _ _ h ⟨F, m, cm, fps, C₂.cons .none⟩
theorem wp_dictD {κ : Type} [DecidableEq κ] {X : KD prog w κ} {mg mb : Str → Option Value} {hB : Heap} {ℓ : Nat} {sc : Scope} {gl : List (Str × MV)} {keys : List (Option Expr)} {values : List Expr} {pos : Pos} (hΓ : Γof sc Γ hB ℓ gl) (T : TopF hB mg mb) (hall : keys.all (·.isSome) = true) (hl : keys.length = values.length) (h0 : keys ≠ []) (hlen : keys.length ≤ 15)
    (h : WPd prog w Γ σ keys values fun xs σ₁ => ∃ es : List (κ × MV), xs = es.map (fun e => (X.key e.1, e.2)) ∧ (es.map (·.1)).Nodup ∧ Q (X.dict es) σ₁) : WPe prog w Γ σ (.Dict keys values pos) Q := by
  intro K ps s R r hR
  obtain ⟨r₁, hK, hX⟩ := r.hold (o := { cls := .type "dict", data := .dict #[] }) rfl
  have kx := r.kx
  have hm : (s.heap.objs.size == sysModules) = false := by
    obtain ⟨F, m, cm, fps, C⟩ := r
    obtain ⟨o, _, _, ho, _⟩ := T.g
    have : mainGlobals < s.heap.objs.size := Heap.lt_size (C.frz _ _ (C.base _ _ (hΓ.2.1 _ _ ho)))
    refine beq_eq_false_iff_ne.mpr fun e => ?_
    rw [e] at this
    exact absurd this (by decide)
  refine wpAny_Dict_walk (knd := X.knd) hall hl h0 hlen (h pos _ ps _ _ r₁ fun xs vs σ₁ s₁ h₁ hvl r₂ => ?_)
  obtain ⟨es, rfl, hnd, h₁⟩ := h₁
  have hlen' : es.length = vs.length := by simpa using hvl.symm
  obtain ⟨F, m, cm, fps, C⟩ := id r₂
  have hkeys : ∀ (i : Nat) (e : κ × MV) (v : Value × Value), es[i]? = some e → vs[i]? = some v → X.knd.is e.1 v.1 = true := fun i e v h1 h2 => by
    refine X.is F (rho fps) e.1 v.1 (C.ps (X.key e.1, v.1) (List.mem_append_left _ (List.mem_append_left _ (List.mem_iff_getElem?.mpr ⟨i, List.getElem?_zip_eq_some.mpr ⟨by simp [h1], by simp [h2]⟩⟩))))
  have hcar : ∀ (es : List (κ × MV)) (vs : List (Value × Value)), es.length = vs.length → (∀ (i : Nat) (e : κ × MV) (v : Value × Value), es[i]? = some e → vs[i]? = some v → X.knd.is e.1 v.1 = true) → Carries X.knd vs ((es.zip vs).map fun p => (p.1.1, p.2.2)) := by
    intro es
    induction es with
    | nil => intro vs hl _; have : vs = [] := List.length_eq_zero_iff.mp hl.symm
             subst this; trivial
    | cons e es ih =>
      intro vs hl hk
      cases vs with
      | nil => simp at hl
      | cons v vs => exact ⟨hk 0 e v rfl rfl, rfl, ih vs (by simpa using hl) fun i e v a b => hk (i + 1) e v (by simpa using a) (by simpa using b)⟩
  have hfst : ((es.zip vs).map fun p => (p.1.1, p.2.2)).map (·.1) = es.map (·.1) := by
    rw [List.map_map]
    have : (((·.1) : κ × Value → κ) ∘ fun p : (κ × MV) × (Value × Value) => (p.1.1, p.2.2)) = (·.1) ∘ Prod.fst := rfl
    rw [this, ← List.map_map, List.map_fst_zip (by (first | exact o31 hlen' | omega))]
  refine ⟨_, hcar es vs hlen' hkeys, ?_, fun h' hd hs => ?_⟩
  · have := C.kept s.heap.objs.size _ (if_pos rfl)
    exact ⟨_, #[], 0, this, ⟨rfl, rfl, rfl⟩, rfl, fun e he => by simp at he, .nil, by simp⟩
  · rw [merged_nodup _ [] (by rw [List.nil_append, hfst]; exact hnd), List.nil_append] at hd
    obtain ⟨ds, n, hg, hsz, hent⟩ := dict_entries hd
    have r₃ := r₂.renew hX (fun b x hb e => hs.extBut b x hb e) hg (s₁.toks + vs.length)
    have hkl : ((es.zip vs).map fun p => (p.1.1, p.2.2)).length = es.length := by simp [hlen']
    refine hR (X.dict es) (.ref s.heap.objs.size) _ _ h₁ (Rel.freezeAny (qs := ((es.map fun e => (X.key e.1, e.2)).map (·.2)).zip (vs.map (·.2))) (r₃.perm fun p hp => by
      rcases List.mem_append.mp hp with q | q
      · exact List.mem_append_left _ (List.mem_append_right _ q)
      · exact List.mem_append_right _ q) hK kx.1 kx.2 fun F' ρ hF hz => ?_)
    have hz' := zip_vrs (by simp [hvl]) hz
    refine X.vr F' ρ _ es ds n hF hm (by rw [hsz, hkl]) fun i e d h1 h2 => ?_
    have hi : i < vs.length := by rw [← hlen']; exact (List.getElem?_eq_some_iff.mp h1).1
    obtain ⟨a, b, c⟩ := hent i (e.1, vs[i].2) d (by
      rw [List.getElem?_map, show (es.zip vs)[i]? = some (e, vs[i]) from List.getElem?_zip_eq_some.mpr ⟨h1, List.getElem?_eq_getElem hi⟩]; rfl) h2
    refine ⟨a, b, ?_⟩
    rw [c]
    exact hz'.2 i e.2 vs[i].2 (by simp [h1]) (by simp [hi])
theorem wp_dictS {mg mb : Str → Option Value} {hB : Heap} {ℓ : Nat} {sc : Scope} {gl : List (Str × MV)} {keys : List (Option Expr)} {values : List Expr} {pos : Pos} (hΓ : Γof sc Γ hB ℓ gl) (T : TopF hB mg mb) (hall : keys.all (·.isSome) = true) (hl : keys.length = values.length) (h0 : keys ≠ []) (hlen : keys.length ≤ 15)
    (h : WPd prog w Γ σ keys values fun xs σ₁ => ∃ es : List (Str × MV), xs = es.map (fun e => (.str e.1, e.2)) ∧ (es.map (·.1)).Nodup ∧ Q (.dictS es) σ₁) : WPe prog w Γ σ (.Dict keys values pos) Q :=
  wp_dictD (X := KD.str prog w) hΓ T hall hl h0 hlen h
theorem dc_map {κ : Type} [DecidableEq κ] {X : KD prog w κ} {P : Cx → Prop} {tgt kx vx : Expr} {names : List Str} {Qc : List (κ × MV) → List (Option MO) → Prop} (fk : MV → κ) (fv : MV → MV) : ∀ (items : List MV) (acc : List (κ × MV)) (objs : List (Option MO)), (∀ y ∈ items, Closed (fv y)) → (acc.map (·.1) ++ items.map fk).Nodup →
    (∀ y ∈ items, ∀ Γ', P Γ' → WU1 prog w Γ' ⟨names.map fun x => (x, .undef), mask objs⟩ y (assign tgt Γ'.env) fun σ' => WPe prog w Γ' σ' kx fun kr σ₁ => kr = X.key (fk y) ∧ WPe prog w Γ' σ₁ vx fun vr σ₂ => vr = fv y ∧ σ₂.objs = mask objs) →
    Qc (acc ++ items.map fun y => (fk y, fv y)) objs → WPdc prog w X P tgt kx vx names Qc items acc objs
  | [], acc, objs, _, _, _, hQ => Eq.mp (congrArg (fun l => Qc l objs) (List.append_nil acc)) hQ
  | y :: ys, acc, objs, hcl, hnd, h, hQ => by
    intro Γ' hP K ps v s R r hR
    have hno : fk y ∉ acc.map (·.1) := fun q => by
      rw [List.map_cons] at hnd
      exact (List.nodup_append.mp hnd).2.2 _ q _ (.head _) rfl
    have hnd' : ((acc ++ [(fk y, fv y)]).map (·.1) ++ ys.map fk).Nodup := by simpa using hnd
    have ih := dc_map (X := X) (P := P) (tgt := tgt) (kx := kx) (vx := vx) (names := names) (Qc := Qc) fk fv ys (acc ++ [(fk y, fv y)]) objs (fun z hz => hcl z (.tail _ hz)) hnd' (fun z hz => h z (.tail _ hz)) (by simpa using hQ)
    refine h y (.head _) Γ' hP K ps v s R r fun σ' s' q r' => hR σ' s' ?_ r'
    intro K ps s R r hR
    refine q K ps s R r fun kr kv σ₁ s₁ q₁ r₁ => hR kr kv σ₁ s₁ ?_ r₁
    obtain ⟨rfl, q₁⟩ := q₁
    intro K ps s R r hR
    refine q₁ K ps s R r fun vr vv σ₂ s₂ q₂ r₂ => hR vr vv σ₂ s₂ ?_ r₂
    obtain ⟨rfl, q₂⟩ := q₂
    exact ⟨hcl y (.head _), fk y, rfl, hno, objs, .refl _, q₂, ih⟩
noncomputable def strs1 (x : Str) : List Str := x.cps.toList.map fun c => ⟨#[c]⟩
local macro_rules | `(tactic| tm_at "lk") => `(tactic| first | exact Lk.here _ | (apply Lk.there; tm_at "lk"))
local macro_rules | `(tactic| tm_at "t0") => `(tactic| k_dflt (intro _; rfl))
local macro_rules | `(tactic| tm_at "t1") => `(tactic| k_dflt (intro _ _; rfl))
local macro_rules | `(tactic| tm_at "t2") => `(tactic| k_dflt exact rfl)
local macro_rules | `(tactic| tm_at "t3") => `(tactic| ((try dsimp only); tm_at "lk"))
local macro_rules | `(tactic| tm_at "t4") => `(tactic| assumption)
local macro_rules | `(tactic| tm_at "t5") => `(tactic| k_dflt exact Nat.le_of_ble_eq_true rfl)
local macro_rules | `(tactic| tm_at "x1") => do
  let mut arms := #[]
  for e in "then_next,_ ws_cons,_ ws_nil,_ wp_name,t3,t2,_ wp_globE,t4,lk,_ wp_int,_ wp_str,_ wp_none,_ wp_bool,_ wp_binop,_ wp_tuple,_ wp_list,_ wp_ifexp,_ wp_slice,_,t1 wp_item,t1,_ wp_method,_,t1,t0 wp_call,_,t1,t0 wl_cons,_,t0 wl_nil,_ wo_none,_ wo_some,_ int_intro,_ obj_intro,_ none_intro,_ wx_assign,_,t0 wx_expr,_,t0 wx_aug,t3,t2,_ wx_if,_ wx_return,_ wx_continue,_ wp_compare,_,t2 wt_compare,_,t2 wt_not,_ wall_and_cons,_ wall_or_cons,_ wall_and_nil,_ wall_or_nil,_ w2_add,_ w2_iadd,_ w2_isub,_ turn_next,_ And.intro,t5,_ w2_lt,_ w2_gt,_ w2_eq,_ w2_ne,_ w2_eqs,_ w2_inTup,_ w2_nes,_ wb_bool,_ putq_here,_ putq_there,_ tup2_intro,_ tup_intro,_ wal_cons,_ wal_nil,_".splitOn " " do
    let mut hs : Array Lean.Term := #[]
    let mut tl := #[]
    for x in (e.splitOn ",").tail do
      if x == "_" then hs := hs.push (← `(?_))
      else
        hs := hs.push (← `(?$(Lean.mkIdent x.toName)))
        tl := tl.push (← `(tactic| case $(Lean.mkIdent x.toName):ident => tm_at $(Lean.quote x):str))
    let t ← `($(Lean.mkIdent ((e.splitOn ",").headD "").toName) $hs*)
    arms := arms.push (← if tl.isEmpty then `(Lean.Parser.Tactic.tacticSeq| refine $t) else `(Lean.Parser.Tactic.tacticSeq| (refine' $t; $tl;*)))
  `(tactic| with_reducible first $[| $arms:tacticSeq]*)
local macro_rules | `(tactic| tm_at "x") => `(tactic| repeat' (tm_at "x1"))
noncomputable def esc0 : List (Str × Str) := [(("&" : Str), ("&amp;" : Str)), (("<" : Str), ("&lt;" : Str)), ((">" : Str), ("&gt;" : Str))]
theorem sE0 : ScopeOk (fScope bEsc0) ((["text"] : List Str) ++ ([] : List Str)) := ⟨rfl, by decide +kernel, by decide +kernel, by decide +kernel⟩
theorem bE0 (qual : Str) : ∀ doc pm cdv ct vs, vs.length = (["text"] : List Str).length → bindArgs (fnOf (fName bEsc0) qual (fArgs bEsc0) (fBody bEsc0) (fScope bEsc0) .none .none doc pm none cdv ct) ⟨vs, []⟩ = pure ((["text"] : List Str).zip vs) := by intro doc pm cdv ct vs h; obtain ⟨v, rfl⟩ := len1 h; rfl
theorem pf_esc0 {w : World} {hB : Heap} {mg mb : Str → Option Value} (T : TopF hB mg mb) {f : Addr} {qual : Str} (hf : IsFn hB f qual bEsc0) {x : Str} (hx : fitsS x esc0) : PureFn pr w 1 hB (.ref f) [.str x] (fun v => v = .str (escS x esc0)) := by
  refine PureFn.of_stmt T hf ["text"] [] [] (bE0 qual) rfl sE0 nofun rfl rfl ?_
  intro Γ hΓ
  show WPs pr w Γ ⟨[("text", .str x)], []⟩ _ _
  obtain ⟨f0, f1, f2, _⟩ := hx
  refine ws_cons (wx_try ?_)
  (refine ws_cons ?_; refine' wx_esc ?a ?b ?_ ?c ?d; (case a => decide +kernel); (case b => assumption); (case c => intro _; rfl); (case d => intro _; rfl); refine then_next ?_)
  (refine ws_cons ?_; refine' wx_esc ?a ?b ?_ ?c ?d; (case a => decide +kernel); (case b => assumption); (case c => intro _; rfl); (case d => intro _; rfl); refine then_next ?_)
  (refine ws_cons ?_; refine' wx_esc ?a ?b ?_ ?c ?d; (case a => decide +kernel); (case b => assumption); (case c => intro _; rfl); (case d => intro _; rfl); refine then_next ?_)
  tm_at "x"
  exact ⟨.str, rfl⟩
noncomputable def esc1 : List (Str × Str) := [(("&" : Str), ("&amp;" : Str)), (("<" : Str), ("&lt;" : Str)), ((">" : Str), ("&gt;" : Str)), (("\"" : Str), ("&quot;" : Str)), (("\r" : Str), ("&#13;" : Str)), (("\n" : Str), ("&#10;" : Str)), (("\t" : Str), ("&#09;" : Str))]
theorem sE1 : ScopeOk (fScope bEsc1) ((["text"] : List Str) ++ ([] : List Str)) := ⟨rfl, by decide +kernel, by decide +kernel, by decide +kernel⟩
theorem bE1 (qual : Str) : ∀ doc pm cdv ct vs, vs.length = (["text"] : List Str).length → bindArgs (fnOf (fName bEsc1) qual (fArgs bEsc1) (fBody bEsc1) (fScope bEsc1) .none .none doc pm none cdv ct) ⟨vs, []⟩ = pure ((["text"] : List Str).zip vs) := by intro doc pm cdv ct vs h; obtain ⟨v, rfl⟩ := len1 h; rfl
theorem pf_esc1 {w : World} {hB : Heap} {mg mb : Str → Option Value} (T : TopF hB mg mb) {f : Addr} {qual : Str} (hf : IsFn hB f qual bEsc1) {x : Str} (hx : fitsS x esc1) : PureFn pr w 1 hB (.ref f) [.str x] (fun v => v = .str (escS x esc1)) := by
  refine PureFn.of_stmt T hf ["text"] [] [] (bE1 qual) rfl sE1 nofun rfl rfl ?_
  intro Γ hΓ
  show WPs pr w Γ ⟨[("text", .str x)], []⟩ _ _
  obtain ⟨f0, f1, f2, f3, f4, f5, f6, _⟩ := hx
  refine ws_cons (wx_try ?_)
  (refine ws_cons ?_; refine' wx_esc ?a ?b ?_ ?c ?d; (case a => decide +kernel); (case b => assumption); (case c => intro _; rfl); (case d => intro _; rfl); refine then_next ?_)
  (refine ws_cons ?_; refine' wx_esc ?a ?b ?_ ?c ?d; (case a => decide +kernel); (case b => assumption); (case c => intro _; rfl); (case d => intro _; rfl); refine then_next ?_)
  (refine ws_cons ?_; refine' wx_esc ?a ?b ?_ ?c ?d; (case a => decide +kernel); (case b => assumption); (case c => intro _; rfl); (case d => intro _; rfl); refine then_next ?_)
  (refine ws_cons ?_; refine' wx_esc ?a ?b ?_ ?c ?d; (case a => decide +kernel); (case b => assumption); (case c => intro _; rfl); (case d => intro _; rfl); refine then_next ?_)
  (refine ws_cons ?_; refine' wx_esc ?a ?b ?_ ?c ?d; (case a => decide +kernel); (case b => assumption); (case c => intro _; rfl); (case d => intro _; rfl); refine then_next ?_)
  (refine ws_cons ?_; refine' wx_esc ?a ?b ?_ ?c ?d; (case a => decide +kernel); (case b => assumption); (case c => intro _; rfl); (case d => intro _; rfl); refine then_next ?_)
  (refine ws_cons ?_; refine' wx_esc ?a ?b ?_ ?c ?d; (case a => decide +kernel); (case b => assumption); (case c => intro _; rfl); (case d => intro _; rfl); refine then_next ?_)
  tm_at "x"
  exact ⟨.str, rfl⟩
noncomputable def esc2 : List (Str × Str) := [(("&" : Str), ("&amp;" : Str)), ((">" : Str), ("&gt;" : Str)), (("\"" : Str), ("&quot;" : Str))]
theorem sE2 : ScopeOk (fScope bEsc2) ((["text"] : List Str) ++ ([] : List Str)) := ⟨rfl, by decide +kernel, by decide +kernel, by decide +kernel⟩
theorem bE2 (qual : Str) : ∀ doc pm cdv ct vs, vs.length = (["text"] : List Str).length → bindArgs (fnOf (fName bEsc2) qual (fArgs bEsc2) (fBody bEsc2) (fScope bEsc2) .none .none doc pm none cdv ct) ⟨vs, []⟩ = pure ((["text"] : List Str).zip vs) := by intro doc pm cdv ct vs h; obtain ⟨v, rfl⟩ := len1 h; rfl
theorem pf_esc2 {w : World} {hB : Heap} {mg mb : Str → Option Value} (T : TopF hB mg mb) {f : Addr} {qual : Str} (hf : IsFn hB f qual bEsc2) {x : Str} (hx : fitsS x esc2) : PureFn pr w 1 hB (.ref f) [.str x] (fun v => v = .str (escS x esc2)) := by
  refine PureFn.of_stmt T hf ["text"] [] [] (bE2 qual) rfl sE2 nofun rfl rfl ?_
  intro Γ hΓ
  show WPs pr w Γ ⟨[("text", .str x)], []⟩ _ _
  obtain ⟨f0, f1, f2, _⟩ := hx
  refine ws_cons (wx_try ?_)
  (refine ws_cons ?_; refine' wx_esc ?a ?b ?_ ?c ?d; (case a => decide +kernel); (case b => assumption); (case c => intro _; rfl); (case d => intro _; rfl); refine then_next ?_)
  (refine ws_cons ?_; refine' wx_esc ?a ?b ?_ ?c ?d; (case a => decide +kernel); (case b => assumption); (case c => intro _; rfl); (case d => intro _; rfl); refine then_next ?_)
  (refine ws_cons ?_; refine' wx_esc ?a ?b ?_ ?c ?d; (case a => decide +kernel); (case b => assumption); (case c => intro _; rfl); (case d => intro _; rfl); refine then_next ?_)
  tm_at "x"
  exact ⟨.str, rfl⟩
noncomputable def esc3 : List (Str × Str) := [(("&" : Str), ("&amp;" : Str)), (("<" : Str), ("&lt;" : Str)), ((">" : Str), ("&gt;" : Str)), (("\r" : Str), ("&#xD;" : Str))]
theorem sE3 : ScopeOk (fScope bEsc3) ((["text"] : List Str) ++ ([] : List Str)) := ⟨rfl, by decide +kernel, by decide +kernel, by decide +kernel⟩
theorem bE3 (qual : Str) : ∀ doc pm cdv ct vs, vs.length = (["text"] : List Str).length → bindArgs (fnOf (fName bEsc3) qual (fArgs bEsc3) (fBody bEsc3) (fScope bEsc3) .none .none doc pm none cdv ct) ⟨vs, []⟩ = pure ((["text"] : List Str).zip vs) := by intro doc pm cdv ct vs h; obtain ⟨v, rfl⟩ := len1 h; rfl
theorem pf_esc3 {w : World} {hB : Heap} {mg mb : Str → Option Value} (T : TopF hB mg mb) {f : Addr} {qual : Str} (hf : IsFn hB f qual bEsc3) {x : Str} (hx : fitsS x esc3) : PureFn pr w 1 hB (.ref f) [.str x] (fun v => v = .str (escS x esc3)) := by
  refine PureFn.of_stmt T hf ["text"] [] [] (bE3 qual) rfl sE3 nofun rfl rfl ?_
  intro Γ hΓ
  show WPs pr w Γ ⟨[("text", .str x)], []⟩ _ _
  obtain ⟨f0, f1, f2, f3, _⟩ := hx
  refine ws_cons (wx_try ?_)
  (refine ws_cons ?_; refine' wx_esc ?a ?b ?_ ?c ?d; (case a => decide +kernel); (case b => assumption); (case c => intro _; rfl); (case d => intro _; rfl); refine then_next ?_)
  (refine ws_cons ?_; refine' wx_esc ?a ?b ?_ ?c ?d; (case a => decide +kernel); (case b => assumption); (case c => intro _; rfl); (case d => intro _; rfl); refine then_next ?_)
  (refine ws_cons ?_; refine' wx_esc ?a ?b ?_ ?c ?d; (case a => decide +kernel); (case b => assumption); (case c => intro _; rfl); (case d => intro _; rfl); refine then_next ?_)
  (refine ws_cons ?_; refine' wx_esc ?a ?b ?_ ?c ?d; (case a => decide +kernel); (case b => assumption); (case c => intro _; rfl); (case d => intro _; rfl); refine then_next ?_)
  tm_at "x"
  exact ⟨.str, rfl⟩
noncomputable def esc4 : List (Str × Str) := [(("&" : Str), ("&amp;" : Str)), (("<" : Str), ("&lt;" : Str)), (("\"" : Str), ("&quot;" : Str)), (("\t" : Str), ("&#x9;" : Str)), (("\n" : Str), ("&#xA;" : Str)), (("\r" : Str), ("&#xD;" : Str))]
theorem sE4 : ScopeOk (fScope bEsc4) ((["text"] : List Str) ++ ([] : List Str)) := ⟨rfl, by decide +kernel, by decide +kernel, by decide +kernel⟩
theorem bE4 (qual : Str) : ∀ doc pm cdv ct vs, vs.length = (["text"] : List Str).length → bindArgs (fnOf (fName bEsc4) qual (fArgs bEsc4) (fBody bEsc4) (fScope bEsc4) .none .none doc pm none cdv ct) ⟨vs, []⟩ = pure ((["text"] : List Str).zip vs) := by intro doc pm cdv ct vs h; obtain ⟨v, rfl⟩ := len1 h; rfl
theorem pf_esc4 {w : World} {hB : Heap} {mg mb : Str → Option Value} (T : TopF hB mg mb) {f : Addr} {qual : Str} (hf : IsFn hB f qual bEsc4) {x : Str} (hx : fitsS x esc4) : PureFn pr w 1 hB (.ref f) [.str x] (fun v => v = .str (escS x esc4)) := by
  refine PureFn.of_stmt T hf ["text"] [] [] (bE4 qual) rfl sE4 nofun rfl rfl ?_
  intro Γ hΓ
  show WPs pr w Γ ⟨[("text", .str x)], []⟩ _ _
  obtain ⟨f0, f1, f2, f3, f4, f5, _⟩ := hx
  refine ws_cons (wx_try ?_)
  (refine ws_cons ?_; refine' wx_esc ?a ?b ?_ ?c ?d; (case a => decide +kernel); (case b => assumption); (case c => intro _; rfl); (case d => intro _; rfl); refine then_next ?_)
  (refine ws_cons ?_; refine' wx_esc ?a ?b ?_ ?c ?d; (case a => decide +kernel); (case b => assumption); (case c => intro _; rfl); (case d => intro _; rfl); refine then_next ?_)
  (refine ws_cons ?_; refine' wx_esc ?a ?b ?_ ?c ?d; (case a => decide +kernel); (case b => assumption); (case c => intro _; rfl); (case d => intro _; rfl); refine then_next ?_)
  (refine ws_cons ?_; refine' wx_esc ?a ?b ?_ ?c ?d; (case a => decide +kernel); (case b => assumption); (case c => intro _; rfl); (case d => intro _; rfl); refine then_next ?_)
  (refine ws_cons ?_; refine' wx_esc ?a ?b ?_ ?c ?d; (case a => decide +kernel); (case b => assumption); (case c => intro _; rfl); (case d => intro _; rfl); refine then_next ?_)
  (refine ws_cons ?_; refine' wx_esc ?a ?b ?_ ?c ?d; (case a => decide +kernel); (case b => assumption); (case c => intro _; rfl); (case d => intro _; rfl); refine then_next ?_)
  tm_at "x"
  exact ⟨.str, rfl⟩
noncomputable def escT : Nat → List (Str × Str)
  | 0 => esc0 | 1 => esc1 | 2 => esc2 | 3 => esc3 | _ => esc4
theorem sW : ScopeOk (fScope bWritten) ((["text", "hand"] : List Str) ++ (["hands"] : List Str)) := ⟨rfl, by decide +kernel, by decide +kernel, by decide +kernel⟩
theorem bW : ∀ doc pm cdv ct vs, vs.length = (["text", "hand"] : List Str).length → bindArgs (fnOf (fName bWritten) "_law_written" (fArgs bWritten) (fBody bWritten) (fScope bWritten) .none .none doc pm none cdv ct) ⟨vs, []⟩ = pure ((["text", "hand"] : List Str).zip vs) := by intro doc pm cdv ct vs h; obtain ⟨v, u, rfl⟩ := len2 h; rfl
noncomputable abbrev glW (e : Nat → Addr) : List (Str × MV) := [("_escape_cdata", .obj (.ref (e 0))), ("_escape_attrib", .obj (.ref (e 1))), ("_escape_attrib_html", .obj (.ref (e 2))), ("_escape_cdata_c14n", .obj (.ref (e 3))), ("_escape_attrib_c14n", .obj (.ref (e 4)))]
structure EscAt (hB : Heap) (e : Nat → Addr) : Prop where
  a0 : IsFn hB (e 0) "_escape_cdata" bEsc0
  a1 : IsFn hB (e 1) "_escape_attrib" bEsc1
  a2 : IsFn hB (e 2) "_escape_attrib_html" bEsc2
  a3 : IsFn hB (e 3) "_escape_cdata_c14n" bEsc3
  a4 : IsFn hB (e 4) "_escape_attrib_c14n" bEsc4
theorem EscAt.pick {w : World} {hB : Heap} {mg mb : Str → Option Value} (T : TopF hB mg mb) {e : Nat → Addr} (H : EscAt hB e) {x : Str} : ∀ h, h < 5 → fitsS x (escT h) → ∃ q st, IsFn hB (e h) q st ∧ PureFn pr w 1 hB (.ref (e h)) [.str x] (fun v => v = .str (escS x (escT h))) := fun h hh =>
  five_case (p := fun h => fitsS x (escT h) → ∃ q st, IsFn hB (e h) q st ∧ PureFn pr w 1 hB (.ref (e h)) [.str x] (fun v => v = .str (escS x (escT h)))) (fun hx => ⟨_, _, H.a0, pf_esc0 T H.a0 hx⟩) (fun hx => ⟨_, _, H.a1, pf_esc1 T H.a1 hx⟩) (fun hx => ⟨_, _, H.a2, pf_esc2 T H.a2 hx⟩) (fun hx => ⟨_, _, H.a3, pf_esc3 T H.a3 hx⟩) (fun hx => ⟨_, _, H.a4, pf_esc4 T H.a4 hx⟩) hh
theorem esc_get (e : Nat → Addr) : ∀ h, h < 5 → ([.obj (.ref (e 0)), .obj (.ref (e 1)), .obj (.ref (e 2)), .obj (.ref (e 3)), .obj (.ref (e 4))] : List MV)[h]? = some (.obj (.ref (e h))) := fun h hh =>
  five_case (p := fun h => ([.obj (.ref (e 0)), .obj (.ref (e 1)), .obj (.ref (e 2)), .obj (.ref (e 3)), .obj (.ref (e 4))] : List MV)[h]? = some (.obj (.ref (e h)))) rfl rfl rfl rfl rfl hh
theorem pf_written {w : World} {hB : Heap} {mg mb : Str → Option Value} (T : TopF hB mg mb) {f : Addr} {e : Nat → Addr} (hf : IsFn hB f "_law_written" bWritten) (H : EscAt hB e) (hg : ∀ p ∈ glW e, GlobAt w hB mg mb (fScope bWritten) p) {x : Str} {h : Nat} (hh : h < 5) (hx : fitsS x (escT h)) :
    PureFn pr w 2 hB (.ref f) [.str x, .int h] (fun v => v = .str (escS x (escT h))) := by
  refine PureFn.of_stmt T hf ["text", "hand"] ["hands"] (glW e) bW rfl sW hg rfl rfl ?_
  intro Γ hΓ
  have hgl := hΓ.2.2.1
  obtain ⟨q, st, h1, h2⟩ := H.pick (w := w) T h hh hx
  have hget := esc_get e h hh
  show WPs pr w Γ ⟨[("text", .str x), ("hand", .int h), ("hands", .undef)], []⟩ _ _
  refine ws_cons ?_
  tm_at "x"
  refine it_list (by (first | exact o32 | omega)) (by (first | exact o33 hh | omega)) (z := .obj (.ref (e h))) (by simpa using hget) ?_
  tm_at "x"
  refine wc_pure hΓ h2 h1 (by decide) (fun y hy => by simp at hy; subst hy; exact .str) fun v hv => ?_
  subst hv
  tm_at "x"
  exact ⟨.str, rfl⟩
noncomputable def bLexer : Stmt := stAt pr 65
noncomputable def rhs : Option Stmt → Expr
  | some (.Assign _ e _) => e
  | _ => .Constant .none 0 ⟨0, 0, 0, 0⟩
noncomputable def lamE : Expr := rhs (fBody bLexer)[2]?
noncomputable def lamArgs : Arguments := match lamE with | .Lambda a _ _ _ => a | _ => ⟨[], [], none, [], [], none, []⟩
noncomputable def lamBody : Expr := match lamE with | .Lambda _ b _ _ => b | _ => .Constant .none 0 ⟨0, 0, 0, 0⟩
noncomputable def lamScope : Scope := match lamE with | .Lambda _ _ s _ => s | _ => default
noncomputable def lamPos : Pos := match lamE with | .Lambda _ _ _ p => p | _ => ⟨0, 0, 0, 0⟩
theorem strsD (xs : List Str) : IsD (.list (xs.map .str)) (.list (xs.map .str)) := .list _ _ (by simp) fun i x d a b => by
  rw [List.getElem?_map] at a b
  cases h : xs[i]? with
  | none => rw [h] at a; cases a
  | some n => rw [h] at a b; cases a; cases b; exact .str n
theorem lay_strsA : ∀ ns : List Str, (∀ x ∈ ns, PyData.canLay0 (.str x) = true) → PyData.canLayAll0 (ns.map .str) = true
  | [], _ => rfl
  | n :: ns, h => by
    show (PyData.canLay0 (.str n) && PyData.canLayAll0 (ns.map .str)) = true
    rw [lay_strsA ns fun x hx => h x (.tail _ hx), h n (.head _)]; rfl
theorem depth_strsA : ∀ ns : List Str, PyData.depthAll (ns.map .str) ≤ 1
  | [] => by decide
  | n :: ns => by
    have := depth_strsA ns
    simp only [List.map_cons, PyData.depthAll, PyData.depth]
    (first | exact o34 this | omega)
theorem eqvS_nil (ns : List Str) : PyData.eqv (.list (ns.map .str)) (.list []) = ns.isEmpty := by
  cases ns <;> rfl
section
variable {w : World} {A : Around} {E : Value → Shared → Prop} {s : Shared} {env : Env}
theorem lam_body {cel S : Addr} {vs : List Value} {n : Nat} {xs : List Str} {m : Str → Option Value} {t : Tok} {Q : Value → Shared → Prop} (hk : env.scope.kind = .function) (hks : env.kindOf "signs" = some .free) (hkc : env.kindOf "count" = some .local) (hcl : env.cells.lookup ("signs" : Str) = some cel)
    (hcell : s.heap.IsCell cel (some (.ref S))) (hS : s.heap.get? S = some (listO vs n)) (hv : VRs w (fun _ => none) noρ (xs.map .str) vs) (hns : s.heap.Ns env.locals m) (hm : m "count" = some (.int 1 t)) (hu : A.units + 10 < cLine) (hsz : xs.length ≤ sizeLine) (hlay : ∀ x ∈ xs, PyData.canLay0 (.str x) = true)
    (hnil : ∀ h' tk t', xs = [] → s.toks ≤ tk → (∀ b o, s.heap.get? b = some o → h'.get? b = some o) → Q (.str Str.empty t') { s with heap := h', toks := tk })
    (hcons : ∀ h' tk t' x xs' vs' n', xs = x :: xs' → s.toks ≤ tk → (∀ b o, b ≠ S → s.heap.get? b = some o → h'.get? b = some o) → h'.get? S = some (listO vs' n') → VRs w (fun _ => none) noρ (xs'.map .str) vs' → Q (.str x t') { s with heap := h', toks := tk }) :
    wpAny (model pr w) A (eval lamBody env) Q E s := by
  show wpAny _ _ (eval (.IfExp _ _ _ _) env) _ _ _
  refine wpAny_IfExp (wpAny_isTrue_BoolOp (wpAny_allTrue_And_cons (wpAny_isTrue_Compare1 (wpAny_Name (wpAny_loadName_free hk hks hcl hcell (wpAny_List (wpAny_items_nil ⟨Nat.zero_le _, ?_⟩))) rfl) (by rfl))))
  have hS' : (s.heap.push (listO [] 0)).get? S = some (listO vs n) := Heap.get?_push_of_some _ hS
  obtain ⟨as, ra⟩ := (strsD xs).reads (w := w) (ρ := noρ) (F := fun b => if b = S then some (listO vs n) else none) (h := s.heap.push (listO [] 0)) (v := .ref S) (fun b o e => by split at e <;> cases e; rename_i q; rw [q]; exact hS') (.list S _ vs n (if_pos rfl) hv.1 fun i x v h1 h2 => (hv.2 i x v h1 h2).mono (fun _ _ e => by cases e) fun _ _ e => by cases e)
  have hne : (s.heap.push (listO [] 0)).get? s.heap.objs.size = some (listO [] 0) := Heap.get?_push_size _ rfl
  refine SeqAt.compareNe_reads ra (Reads.list hne rfl rfl (by exact ReadsAll.nil)) (lay_strsA xs hlay) rfl (by have := depth_strsA xs; simp only [PyData.depth]; (first | exact o35 hu this | omega)) ?_
  refine wpAny_truthy_bool ?_
  rw [eqvS_nil]
  cases xs with
  | nil =>
    rw [if_neg (by simp), if_neg (by simp)]
    exact wpAny_Constant_str (hnil _ _ _ rfl (Nat.le_succ _) fun b o e => Heap.get?_push_of_some _ e)
  | cons x xs' =>
    rw [if_pos (show (!(x :: xs').isEmpty) = true from rfl)]
    refine wpAny_allTrue_And_cons (wpAny_isTrue_Compare1 (wpAny_Name (wpAny_loadName_local hk hkc (hns.push _) hm (wpAny_Constant_int (wpAny_eq_int (wpAny_truthy_bool ?_)))) rfl) (by rfl))
    rw [if_pos (by rfl)]
    refine wpAny_allTrue_And_nil ?_
    rw [if_pos rfl]
    obtain ⟨y, vs', rfl⟩ : ∃ y vs', vs = y :: vs' := by
      cases vs with
      | nil => have := hv.1; simp at this
      | cons y vs' => exact ⟨y, vs', rfl⟩
    have hy : VR w (fun _ => none) noρ (.str x) y := VRs.head hv
    have hvt := VRs.tail (xs := xs'.map MV.str) hv
    obtain ⟨t', rfl⟩ : ∃ t', y = .str x t' := by cases hy; exact ⟨_, rfl⟩
    refine methodCall_KW (wpAny_Name (wpAny_loadName_free hk hks hcl (hcell.keeps fun b o e => Heap.get?_push_of_some _ e) ?_) rfl) rfl
    refine getMethod_list_of (items := (Value.str x t' :: vs').toArray) PySem.F.slot_list_pop PySem.F.type_list_pop ⟨_, hS', rfl, n, rfl⟩ ⟨_, hS', rfl⟩ ?_
    refine callWith_of (P := Kept (.builtin "list.pop")) rfl (fun h k => k _) (evalArgs_list rfl ?_)
    refine wpAny_items_cons (wpAny_Constant_int (wpAny_items_nil ?_)) rfl
    refine ⟨kept_builtin, ?_⟩
    refine call_meets PySem.F.slot_list_pop ⟨_, hS', rfl⟩ PySem.F.entry_list_pop (PySem.F.args_list_pop_2 _ _) (MeetsSeq.list_pop_at S (Value.str x t' :: vs').toArray n 0 _ 0 (.str x t') (by decide) (by unfold seqIndex?; simp) (by simp) (by have := hv.1; simp at this; show _ ≤ 16777216; simp; have : (x :: xs').length ≤ 16777216 := hsz; simp at this; (first | exact o36 (by assumption) this | omega))) ⟨hS', ?_⟩
    obtain ⟨n', e'⟩ : ∃ n', Obj.mapSeq (fun xs => xs.eraseIdxIfInBounds 0) (listO (Value.str x t' :: vs') n) = listO vs' n' := ⟨_, by
      unfold Obj.mapSeq listO
      dsimp only
      rw [show (Value.str x t' :: vs').toArray.eraseIdxIfInBounds 0 = vs'.toArray by simp [Array.eraseIdxIfInBounds]]⟩
    refine hcons _ _ t' x xs' vs' n' rfl (Nat.le_trans (Nat.le_succ s.toks) (Nat.le_succ (s.toks + 1))) (fun b o hb e => ?_) ?_ hvt
    · exact ((Heap.SameBut.update ..).2 b hb).trans (Heap.get?_push_of_some _ e)
    · rw [Heap.get?_update_self _ hS' (by rw [e']; rfl), e']
end
noncomputable def InsAt (C : Addr) (h : Heap) (x d : Addr) (mA : Str → Option Value) : Prop :=
  (∃ o, h.get? x = some o ∧ o.cls = .ref C ∧ (∀ c, o.data ≠ .cls c) ∧ o.dict = some d) ∧ d ≠ x ∧ h.Ns1 d mA ∧ h.ExactDictFk d
theorem InsAt.fk {C : Addr} {h : Heap} {x d : Addr} {mA : Str → Option Value} (I : InsAt C h x d mA) : h.InstFk x C mA :=
  let ⟨⟨o, h1, h2, h3, h4⟩, h5, h6, h7⟩ := I; ⟨o, h1, h2, h3, .inr ⟨d, h4, h5, h6, h7⟩⟩
theorem InsAt.at {C : Addr} {h h' : Heap} {x d : Addr} {mA : Str → Option Value} (I : InsAt C h x d mA) (hx : ∀ o, h.get? x = some o → h'.get? x = some o) (hd : ∀ o, h.get? d = some o → h'.get? d = some o) : InsAt C h' x d mA :=
  let ⟨⟨o, h1, h2, h3, h4⟩, h5, h6, h7⟩ := I; ⟨⟨o, hx _ h1, h2, h3, h4⟩, h5, h6.at hd, h7.at hd⟩
structure LX where
  x : Addr
  d : Addr
  P : Addr
  st : Addr
  sd : Addr
  S : Addr
  cel : Addr
  lam : Addr
  cd : Addr
  co : Obj
noncomputable def LX.fp (X : LX) : List Addr := [X.x, X.d, X.P, X.st, X.sd, X.S, X.cel, X.lam]
noncomputable def CodeOk (o : Obj) (q : Str) : Prop := ∃ vs t, o.data = .fields vs ∧ vs[1]? = some (.str q t)
noncomputable def wsLex : Str := "\n\t\r "
noncomputable def lexNames : List Str := ["lineno", "instream", "whitespace", "pushback"]
structure LexMap (X : LX) (line : Int) (m : Str → Option Value) : Prop where
  line : ∃ t, m "lineno" = some (.int line t)
  ins : m "instream" = some (.ref X.st)
  ws : ∃ t, m "whitespace" = some (.str wsLex t)
  push : m "pushback" = some (.ref X.P)
  none : ∀ n, n ∉ lexNames → m n = none
structure LexAt (C : Addr) (w : World) (h : Heap) (X : LX) (line : Int) (push xs : List Str) : Prop where
  nodup : X.fp.Nodup
  ins : ∃ m, InsAt C h X.x X.d m ∧ LexMap X line m
  str : ∃ m, InsAt C h X.st X.sd m ∧ m "read" = some (.ref X.lam)
  push : ∃ vs n, h.get? X.P = some (listO vs n) ∧ VRs w (fun _ => none) noρ (push.map .str) vs
  chars : ∃ vs n, h.get? X.S = some (listO vs n) ∧ VRs w (fun _ => none) noρ (xs.map .str) vs
  cell : h.IsCell X.cel (some (.ref X.S))
  lam : ∃ qual pm ctv, h.get? X.lam = some (kla_obj "<lambda>" qual lamArgs lamBody lamScope [("signs", X.cel)] pm X.cd ctv) ∧ CodeOk X.co qual
theorem LexAt.at {C : Addr} {w : World} {h h' : Heap} {X : LX} {line : Int} {push xs : List Str} (L : LexAt C w h X line push xs) (hk : ∀ a ∈ X.fp, h'.get? a = h.get? a) : LexAt C w h' X line push xs := by
  have k : ∀ a ∈ X.fp, ∀ o, h.get? a = some o → h'.get? a = some o := fun a ha o e => (hk a ha).trans e
  obtain ⟨m, i1, i2⟩ := L.ins
  obtain ⟨m', j1, j2⟩ := L.str
  obtain ⟨vs, n, p1, p2⟩ := L.push
  obtain ⟨us, n', c1, c2⟩ := L.chars
  obtain ⟨o, e1, e2⟩ := L.cell
  obtain ⟨q, pm, ctv, l1, l2⟩ := L.lam
  exact ⟨L.nodup, ⟨m, i1.at (k _ (by simp [LX.fp])) (k _ (by simp [LX.fp])), i2⟩, ⟨m', j1.at (k _ (by simp [LX.fp])) (k _ (by simp [LX.fp])), j2⟩, ⟨vs, n, k _ (by simp [LX.fp]) _ p1, p2⟩, ⟨us, n', k _ (by simp [LX.fp]) _ c1, c2⟩,
    ⟨o, k _ (by simp [LX.fp]) _ e1, e2⟩, ⟨q, pm, ctv, k _ (by simp [LX.fp]) _ l1, l2⟩⟩
noncomputable def lexE (C : Addr) (X : LX) (line : Int) (push xs : List Str) : Ext where
  rel := fun w F _ fp h => fp = X.fp ∧ LexAt C w h X line push xs ∧ F X.cd = some X.co
  mono := fun _ _ _ _ _ _ _ hF _ r => ⟨r.1, r.2.1, hF _ _ r.2.2⟩
  stab := fun _ _ _ _ _ _ hk r => ⟨r.1, r.2.1.at fun a ha => hk a (r.1 ▸ ha), r.2.2⟩
  nor := fun _ _ _ _ _ r => r
structure LexCls (hB : Heap) (C N fi fr fg fq : Addr) (mN : Str → Option Value) : Prop where
  cls : ClsAt hB C N mN
  quiet : ∀ n ∈ (["__getattribute__", "__getattr__", "__setattr__", "lineno", "instream", "whitespace", "pushback", "read"] : List Str), mN n = none
  mi : mN "__init__" = some (.ref fi)
  mr : mN "_read_char" = some (.ref fr)
  mg : mN "get_token" = some (.ref fg)
  mq : mN "push_token" = some (.ref fq)
noncomputable def IsFnC (hB : Heap) (f : Addr) (qual : Str) (st : Stmt) : Prop := ∃ od osl pm cdv ct doc,
  hB.get? f = some ⟨.type "function", od, .func (fnOf (fName st) qual (fArgs st) (fBody st) (fScope st) .none .none doc pm none cdv ct), osl⟩ ∧ hB.CodeRec cdv qual
theorem IsFnC.fn {hB : Heap} {f : Addr} {qual : Str} {st : Stmt} (h : IsFnC hB f qual st) : IsFn hB f qual st := let ⟨od, osl, pm, cdv, ct, doc, h1, h2⟩ := h; ⟨_, od, osl, pm, cdv, ct, doc, h1, h2⟩
section
variable {prog : Program} {w : World} {Γ : Cx} {K : Kp} {σ : St} {ps : List (MV × Value)} {s : Shared} {C : Addr} {X : LX} {line : Int} {push xs : List Str} {k : Nat}
theorem Rel.lex (r : Rel prog w Γ K σ ps s) (hk : ObjAt σ k (.ext (lexE C X line push xs))) : LexAt C w s.heap X line push xs ∧ (∀ b o, Γ.hB b = some o → s.heap.get? b = some o) ∧ (∀ b o, Γ.hB b = some o → b ∉ X.fp) ∧ Γ.Ok prog w := by
  obtain ⟨F, m, cm, fps, C'⟩ := r
  obtain ⟨fp, hfp, hor⟩ := C'.trk k _ hk
  cases hor with
  | ext _ _ _ hh =>
    obtain ⟨rfl, hL, _⟩ := hh
    exact ⟨hL, fun b o e => C'.frz b o (C'.base b o e), fun b o e hb => C'.frzH b o (C'.base b o e) (C'.mem_hot hk hfp hb), C'.ok⟩
theorem Rel.lexCode (r : Rel prog w Γ K σ ps s) (hk : ObjAt σ k (.ext (lexE C X line push xs))) : s.heap.get? X.cd = some X.co := by
  obtain ⟨F, m, cm, fps, C'⟩ := r
  obtain ⟨fp, hfp, hor⟩ := C'.trk k _ hk
  cases hor with
  | ext _ _ _ hh => exact C'.frz _ _ hh.2.2
theorem Rel.lexTo (r : Rel prog w Γ K σ ps s) (hk : ObjAt σ k (.ext (lexE C X line push xs))) {line' : Int} {push' xs' : List Str} {h' : Heap} (hs : ∀ b x, b ∉ X.fp → s.heap.get? b = some x → h'.get? b = some x) (hl : LexAt C w h' X line' push' xs') (t : Nat) (ht : s.toks ≤ t) :
    Rel prog w Γ K { σ with objs := σ.objs.set k (some (.ext (lexE C X line' push' xs'))) } ps { s with heap := h', toks := t } := by
  obtain ⟨F, m, cm, fps, C'⟩ := r
  obtain ⟨fp, hfp, hor⟩ := C'.trk k _ hk
  cases hor with
  | ext _ _ _ hh =>
    obtain ⟨rfl, hL, hcd⟩ := hh
    have hF : ∀ b x, F b = some x → h'.get? b = some x := fun b x e => hs b x (fun q => C'.frzH b x e (C'.mem_hot hk hfp q)) (C'.frz b x e)
    refine ⟨F, m, cm, fps, C'.turnObj hk hfp hs (fun a ha => ?_) (Sub.refl F) hF (fun _ _ e => .inl e) (.ext (lexE C X line' push' xs') X.fp h' (show _ ∧ _ ∧ _ from ⟨rfl, hl, hcd⟩)) (fun _ e => by cases e) t ht⟩
    have : ∀ a ∈ X.fp, ∃ x, h'.get? a = some x := by
      obtain ⟨m, ⟨⟨o, i1, _⟩, _, ⟨o2, _, _, i2, _⟩, _⟩, _⟩ := hl.ins
      obtain ⟨m', ⟨⟨o3, i3, _⟩, _, ⟨o4, _, _, i4, _⟩, _⟩, _⟩ := hl.str
      obtain ⟨vs, n, p1, _⟩ := hl.push
      obtain ⟨us, n', c1, _⟩ := hl.chars
      obtain ⟨o5, e1, _⟩ := hl.cell
      obtain ⟨q, pm, ctv, l1, l2⟩ := hl.lam
      intro a ha
      simp only [LX.fp, List.mem_cons, List.not_mem_nil, or_false] at ha
      rcases ha with rfl | rfl | rfl | rfl | rfl | rfl | rfl | rfl
      · exact ⟨_, i1⟩
      · exact ⟨_, i2⟩
      · exact ⟨_, p1⟩
      · exact ⟨_, i3⟩
      · exact ⟨_, i4⟩
      · exact ⟨_, c1⟩
      · exact ⟨_, e1⟩
      · exact ⟨_, l1⟩
    exact this a ha
noncomputable abbrev lexGet (X : LX) (line : Int) : List (Str × MV) := [("lineno", .int line), ("instream", .obj (.ref X.st)), ("whitespace", .str wsLex), ("pushback", .obj (.ref X.P))]
theorem lexGet_val {m : Str → Option Value} (M : LexMap X line m) {name : Str} {mv : MV} (hm : Lk name mv (lexGet X line)) : ∃ v, m name = some v ∧ handedOut v = pure v ∧ Flat1 mv v ∧ name ∈ lexNames := by
  rcases hm with _ | ⟨_, _ | ⟨_, _ | ⟨_, _ | ⟨_, h⟩⟩⟩⟩
  · obtain ⟨t, e⟩ := M.line; exact ⟨_, e, rfl, .int _ _, by decide⟩
  · exact ⟨_, M.ins, rfl, .obj _, by decide⟩
  · obtain ⟨t, e⟩ := M.ws; exact ⟨_, e, rfl, .str _ _, by decide⟩
  · exact ⟨_, M.push, rfl, .obj _, by decide⟩
  · cases h
theorem obj_lookup : ∀ n ∈ (["lineno", "instream", "whitespace", "pushback", "read", "_read_char", "get_token", "push_token"] : List Str), typeLookup (.type "object") n = pure none := by
  intro n hn
  simp only [List.mem_cons, List.not_mem_nil, or_false] at hn
  rcases hn with rfl | rfl | rfl | rfl | rfl | rfl | rfl | rfl <;> (rw [typeLookup_type, builtinLookup_eq_fast]; kernel_rfl)
theorem lexNames_sub : ∀ n ∈ lexNames, n ∈ (["__getattribute__", "__getattr__", "__setattr__", "lineno", "instream", "whitespace", "pushback", "read"] : List Str) ∧ n ∈ (["lineno", "instream", "whitespace", "pushback", "read", "_read_char", "get_token", "push_token"] : List Str) := by decide
variable {hB : Heap} {N fi fr fg fq : Addr} {mN : Str → Option Value} {Q : MV → St → Prop} {QB : Bool → St → Prop} {QF : MF → St → Prop}
theorem wp_lexAttr {n name : Str} {np pos : Pos} {mv : MV} (L : LexCls hB C N fi fr fg fq mN) (hΓ : ∀ b o, hB.get? b = some o → Γ.hB b = some o) (hk : ObjAt σ k (.ext (lexE C X line push xs))) (hn : Lk n (.obj (.ref X.x)) σ.loc) (hm : Lk name mv (lexGet X line)) (h : Q mv σ) :
    WPe prog w Γ σ (.Attribute (.Name n np) name pos) Q := by
  intro K ps s R r hR
  refine Attribute_name ((wp_name (Q := fun mv σ' => mv = .obj (.ref X.x) ∧ σ' = σ) hn rfl ⟨rfl, rfl⟩) K ps s _ r fun mv' v σ' s₁ hq r₁ => ?_)
  obtain ⟨rfl, rfl⟩ := hq
  obtain rfl := r₁.obj
  obtain ⟨A, hF, _, _⟩ := r₁.lex hk
  obtain ⟨m, I, M⟩ := A.ins
  obtain ⟨v, e1, e2, e3, e4⟩ := lexGet_val M hm
  have X' := L.cls.keeps fun b o e => hF b o (hΓ b o e)
  obtain ⟨nm, q, bs, sn, sub, col, dd, k0, k1, k2, k3, k5, hC⟩ := X'.obj
  obtain ⟨q1, q2⟩ := lexNames_sub _ e4
  have r₂ := (r₁.drop.toks (s₁.toks + 1)).flat e3
  obtain ⟨hp, g, d, t, os⟩ := s₁
  exact load_attrFk hC X'.ns (L.quiet _ (by decide)) (L.quiet _ q1) (obj_lookup _ q2) I.fk e1 e2 (hR _ _ _ _ h r₂)
theorem wm_read {QM : Value → List MV → St → Prop} (L : LexCls hB C N fi fr fg fq mN) (hΓ : ∀ b o, hB.get? b = some o → Γ.hB b = some o) (hk : ObjAt σ k (.ext (lexE C X line push xs))) (h : QM (.ref X.lam) [] σ) : WPm prog w Γ σ (.obj (.ref X.st)) "read" QM := by
  intro pl K ps v s R r hR
  obtain rfl := r.obj
  obtain ⟨A, hF, _, _⟩ := r.lex hk
  obtain ⟨m, I, e1⟩ := A.str
  have X' := L.cls.keeps fun b o e => hF b o (hΓ b o e)
  obtain ⟨nm, q, bs, sn, sub, col, dd, k0, k1, k2, k3, k5, hC⟩ := X'.obj
  have r₂ := r.drop.toks (s.toks + 1)
  obtain ⟨hp, g, d, t, os⟩ := s
  exact gm_own hC X'.ns (L.quiet _ (by decide)) (L.quiet _ (by decide)) (L.quiet _ (by decide)) (obj_lookup _ (by decide)) I.fk e1 rfl (hR _ [] [] _ _ h rfl r₂)
theorem wm_meth {QM : Value → List MV → St → Prop} {name : Str} {f : Addr} {qual : Str} {st : Stmt} (L : LexCls hB C N fi fr fg fq mN) (hΓ : ∀ b o, hB.get? b = some o → Γ.hB b = some o) (hk : ObjAt σ k (.ext (lexE C X line push xs))) (hf : mN name = some (.ref f)) (hfo : IsFnC hB f qual st) (hn : name ∉ lexNames) (hB' : typeLookup (.type "object") name = pure none)
    (h : QM (.ref f) [.obj (.ref X.x)] σ) : WPm prog w Γ σ (.obj (.ref X.x)) name QM := by
  intro pl K ps v s R r hR
  obtain rfl := r.obj
  obtain ⟨A, hF, _, _⟩ := r.lex hk
  obtain ⟨m, I, M⟩ := A.ins
  have X' := L.cls.keeps fun b o e => hF b o (hΓ b o e)
  obtain ⟨nm, q, bs, sn, sub, col, dd, k0, k1, k2, k3, k5, hC⟩ := X'.obj
  obtain ⟨od, osl, pm, cdv, ct, doc, h1, h2⟩ := hfo
  have r₂ := r
  obtain ⟨hp, g, d, t, os⟩ := s
  exact method_ofFk hC X'.ns (L.quiet _ (by decide)) (L.quiet _ (by decide)) hf (hF _ _ (hΓ _ _ h1)) rfl hB' I.fk (M.none _ hn) (hR _ [.obj (.ref X.x)] [.ref X.x] _ _ h rfl r₂)
end
section
variable {w : World} {Γ : Cx} {K : Kp} {σ : St} {ps : List (MV × Value)} {s : Shared} {C : Addr} {X : LX} {line : Int} {push xs : List Str} {k : Nat}
variable {hB : Heap} {N fi fr fg fq : Addr} {mN : Str → Option Value} {Q : MV → St → Prop} {QB : Bool → St → Prop} {QF : MF → St → Prop}
theorem LX.ne {X : LX} (h : X.fp.Nodup) {i j : Nat} {a b : Addr} (hi : X.fp[i]? = some a) (hj : X.fp[j]? = some b) (hij : i ≠ j) : a ≠ b := fun e => hij (by
  subst e
  exact (List.getElem?_inj (by rw [List.getElem?_eq_some_iff] at hi; exact hi.1) h).mp (hi.trans hj.symm))
theorem LexAt.setP {h h' : Heap} (A : LexAt C w h X line push xs) {push' : List Str} {vs : List Value} {n : Nat} (hs : ∀ b o, b ≠ X.P → h.get? b = some o → h'.get? b = some o) (hP : h'.get? X.P = some (listO vs n)) (hv : VRs w (fun _ => none) noρ (push'.map .str) vs) : LexAt C w h' X line push' xs := by
  have ne : ∀ i a, X.fp[i]? = some a → i ≠ 2 → a ≠ X.P := fun i a hi h2 => LX.ne A.nodup hi rfl h2
  obtain ⟨m, i1, i2⟩ := A.ins
  obtain ⟨m', j1, j2⟩ := A.str
  obtain ⟨us, n', c1, c2⟩ := A.chars
  obtain ⟨o, e1, e2⟩ := A.cell
  obtain ⟨q, pm, ctv, l1, l2⟩ := A.lam
  exact ⟨A.nodup, ⟨m, i1.at (fun o e => hs _ o (ne 0 _ rfl (by decide)) e) (fun o e => hs _ o (ne 1 _ rfl (by decide)) e), i2⟩, ⟨m', j1.at (fun o e => hs _ o (ne 3 _ rfl (by decide)) e) (fun o e => hs _ o (ne 4 _ rfl (by decide)) e), j2⟩, ⟨vs, n, hP, hv⟩, ⟨us, n', hs _ _ (ne 5 _ rfl (by decide)) c1, c2⟩,
    ⟨o, hs _ _ (ne 6 _ rfl (by decide)) e1, e2⟩, ⟨q, pm, ctv, hs _ _ (ne 7 _ rfl (by decide)) l1, l2⟩⟩
theorem LexAt.setS {h h' : Heap} (A : LexAt C w h X line push xs) {xs' : List Str} {vs : List Value} {n : Nat} (hs : ∀ b o, b ≠ X.S → h.get? b = some o → h'.get? b = some o) (hP : h'.get? X.S = some (listO vs n)) (hv : VRs w (fun _ => none) noρ (xs'.map .str) vs) : LexAt C w h' X line push xs' := by
  have ne : ∀ i a, X.fp[i]? = some a → i ≠ 5 → a ≠ X.S := fun i a hi h2 => LX.ne A.nodup hi rfl h2
  obtain ⟨m, i1, i2⟩ := A.ins
  obtain ⟨m', j1, j2⟩ := A.str
  obtain ⟨us, n', c1, c2⟩ := A.push
  obtain ⟨o, e1, e2⟩ := A.cell
  obtain ⟨q, pm, ctv, l1, l2⟩ := A.lam
  exact ⟨A.nodup, ⟨m, i1.at (fun o e => hs _ o (ne 0 _ rfl (by decide)) e) (fun o e => hs _ o (ne 1 _ rfl (by decide)) e), i2⟩, ⟨m', j1.at (fun o e => hs _ o (ne 3 _ rfl (by decide)) e) (fun o e => hs _ o (ne 4 _ rfl (by decide)) e), j2⟩, ⟨us, n', hs _ _ (ne 2 _ rfl (by decide)) c1, c2⟩, ⟨vs, n, hP, hv⟩,
    ⟨o, hs _ _ (ne 6 _ rfl (by decide)) e1, e2⟩, ⟨q, pm, ctv, hs _ _ (ne 7 _ rfl (by decide)) l1, l2⟩⟩
theorem LexAt.grow {h h' : Heap} (A : LexAt C w h X line push xs) (hs : ∀ b o, h.get? b = some o → h'.get? b = some o) : LexAt C w h' X line push xs := by
  obtain ⟨us, n', c1, c2⟩ := A.push
  exact A.setP (fun b o _ => hs b o) (hs _ _ c1) c2
theorem LexAt.sizes {h : Heap} (A : LexAt C w h X line push xs) : ∃ vs n, h.get? X.P = some (listO vs n) ∧ vs.length = push.length ∧ VRs w (fun _ => none) noρ (push.map .str) vs := by
  obtain ⟨us, n', c1, c2⟩ := A.push
  exact ⟨us, n', c1, by simpa using c2.1, c2⟩
theorem wb_push (hz : push.length ≤ 1000) (hk : ObjAt σ k (.ext (lexE C X line push xs))) (h : QB (!push.isEmpty) σ) : WB1 pr w Γ σ (.obj (.ref X.P)) truthy QB := by
  intro K ps v s R r hR
  obtain rfl := r.obj
  obtain ⟨A, _, _, _⟩ := r.lex hk
  obtain ⟨vs, n, h1, h2, _⟩ := A.sizes
  refine wpAny_truthy_list (items := vs.toArray) ⟨_, h1, rfl, n, rfl⟩ (by rw [List.size_toArray, h2]; omega) ?_
  rw [show (!vs.toArray.isEmpty) = !push.isEmpty by cases vs <;> cases push <;> simp_all]
  exact hR _ _ _ h (r.drop.toks _)
theorem wm_list {QM : Value → List MV → St → Prop} {name : Str} {id : String} (hk : ObjAt σ k (.ext (lexE C X line push xs))) (slot : Slot "list" name id) (hty : typeOf (.builtin id) = pure (.type "method_descriptor")) (h : QM (.builtin id) [.obj (.ref X.P)] σ) : WPm pr w Γ σ (.obj (.ref X.P)) name QM := by
  intro pl K ps v s R r hR
  obtain rfl := r.obj
  obtain ⟨A, _, _, _⟩ := r.lex hk
  obtain ⟨vs, n, h1, h2, _⟩ := A.sizes
  exact getMethod_list_of (items := vs.toArray) slot hty ⟨_, h1, rfl, n, rfl⟩ ⟨_, h1, rfl⟩ (hR _ [.obj (.ref X.P)] [.ref X.P] _ _ h rfl r)
theorem wc_pop0 {x : Str} {push' : List Str} (hz : push.length ≤ 1000) (hp : push = x :: push') (hk : ObjAt σ k (.ext (lexE C X line push xs))) (h : Q (.str x) { σ with objs := σ.objs.set k (some (.ext (lexE C X line push' xs))) }) : WPc pr w Γ σ (.builtin "list.pop") [.obj (.ref X.P), .int 0] Q := by
  intro K ps vs s R hl r hR
  obtain ⟨v, u, rfl, r⟩ := r.two hl
  obtain rfl := r.obj
  obtain ⟨t, rfl⟩ := r.drop.int
  obtain ⟨A, _, _, _⟩ := r.lex hk
  obtain ⟨vs, n, h1, h2, h3⟩ := A.sizes
  subst hp
  obtain ⟨y, vs', rfl⟩ : ∃ y vs', vs = y :: vs' := by
    cases vs with
    | nil => simp at h2
    | cons y vs' => exact ⟨y, vs', rfl⟩
  have hy : VR w (fun _ => none) noρ (.str x) y := VRs.head h3
  have hvt := VRs.tail (xs := push'.map MV.str) h3
  obtain ⟨t', rfl⟩ : ∃ t', y = .str x t' := by cases hy; exact ⟨_, rfl⟩
  refine ⟨kept_builtin, call_meets PySem.F.slot_list_pop ⟨_, h1, rfl⟩ PySem.F.entry_list_pop (PySem.F.args_list_pop_2 _ _) (MeetsSeq.list_pop_at X.P (Value.str x t' :: vs').toArray n 0 _ 0 (.str x t') (by decide) (by unfold seqIndex?; simp) (by simp) (by show _ ≤ 16777216; simp at h2 hz ⊢; (first | exact o37 h2 hz | omega))) ⟨h1, ?_⟩⟩
  obtain ⟨n', e'⟩ : ∃ n', Obj.mapSeq (fun xs => xs.eraseIdxIfInBounds 0) (listO (Value.str x t' :: vs') n) = listO vs' n' := ⟨_, by
    unfold Obj.mapSeq listO
    dsimp only
    rw [show (Value.str x t' :: vs').toArray.eraseIdxIfInBounds 0 = vs'.toArray by simp [Array.eraseIdxIfInBounds]]⟩
  have hs : ∀ b o, b ≠ X.P → s.heap.get? b = some o → (s.heap.update X.P (Obj.mapSeq fun xs => xs.eraseIdxIfInBounds 0)).get? b = some o := fun b o hb e => ((Heap.SameBut.update ..).2 b hb).trans e
  refine hR (.str x) (.str x t') _ _ h ((r.drop.drop.lexTo hk (fun b o hb e => hs b o (fun q => hb (by simp [LX.fp, q])) e) (A.setP hs (by rw [Heap.get?_update_self _ h1 (by rw [e']; rfl), e']) hvt) s.toks (Nat.le_refl _)).flat (.str x t'))
theorem wc_app {x : Str} (hz : push.length ≤ 1000) (hk : ObjAt σ k (.ext (lexE C X line push xs))) (h : Q .none { σ with objs := σ.objs.set k (some (.ext (lexE C X line (push ++ [x]) xs))) }) : WPc pr w Γ σ (.builtin "list.append") [.obj (.ref X.P), .str x] Q := by
  intro K ps vs s R hl r hR
  obtain ⟨v, u, rfl, r⟩ := r.two hl
  obtain rfl := r.obj
  obtain ⟨t, rfl⟩ := r.drop.str
  obtain ⟨A, _, _, _⟩ := r.lex hk
  obtain ⟨vs, n, h1, h2, h3⟩ := A.sizes
  refine ⟨kept_builtin, wpAny_list_append_plain (items := vs.toArray) ⟨n, h1⟩ (fun h' hp hs => ?_) (by show _ ≤ 16777216; rw [List.size_toArray, h2]; (first | exact o38 hz | omega))⟩
  obtain ⟨n', ho⟩ := hp
  rw [List.push_toArray] at ho
  have hs' : ∀ b o, b ≠ X.P → s.heap.get? b = some o → h'.get? b = some o := fun b o hb e => hs.extBut b o hb e
  exact hR .none .none _ _ h ((r.drop.drop.lexTo hk (fun b o hb e => hs' b o (fun q => hb (by simp [LX.fp, q])) e) (A.setP hs' ho (by rw [List.map_append]; exact h3.snoc (.str x t))) s.toks (Nat.le_refl _)).flat .none)
end
section
variable {w : World} {Γ : Cx} {K : Kp} {σ : St} {ps : List (MV × Value)} {s : Shared} {C : Addr} {X : LX} {line : Int} {push xs : List Str} {k : Nat}
variable {hB : Heap} {N fi fr fg fq : Addr} {mN : Str → Option Value} {Q : MV → St → Prop} {QB : Bool → St → Prop} {QF : MF → St → Prop}
theorem wc_lam (hlim : hB.NoLimit) (hΓ : ∀ b o, hB.get? b = some o → Γ.hB b = some o) (hu : Γ.A.units + 20 < cLine) (hk : ObjAt σ k (.ext (lexE C X line push xs))) (hz : xs.length ≤ 100000) (hlay : ∀ x ∈ xs, PyData.canLay0 (.str x) = true)
    (h0 : xs = [] → Q (.str Str.empty) σ) (h1 : ∀ x xs', xs = x :: xs' → Q (.str x) { σ with objs := σ.objs.set k (some (.ext (lexE C X line push xs'))) }) : WPc pr w Γ σ (.ref X.lam) [.int 1] Q := by
  intro K ps vs s R hl r hR
  obtain ⟨v, rfl, r⟩ := r.one hl
  obtain ⟨t, rfl⟩ := r.int
  obtain ⟨A, hF, _, ok⟩ := r.lex hk
  obtain ⟨qual, pm, ctv, l1, cvs, cvt, l2, l3⟩ := A.lam
  have l2 : s.heap.CodeRec (.ref X.cd) qual := ⟨_, _, cvs, cvt, rfl, r.lexCode hk, l2, l3⟩
  have r := r.drop
  refine ⟨kept_fn l1 rfl, wpAny_call (kla_callFunE ok.room l1 rfl rfl rfl rfl l2 ?_)⟩
  rw [show bindArgs (kla_fn "<lambda>" qual lamArgs lamBody lamScope [("signs", X.cel)] pm (.ref X.cd) ctv) ⟨[Value.int 1 t], []⟩ = pure [(("count" : Str), Value.int 1 t)] from rfl]
  refine wpAny_pure (wpAny_newFunctionEnv (show ∀ x ∈ lamScope.names, x.2 ≠ .cell by decide +kernel) (by intro x hx; simp at hx; subst hx; show lamScope.names.lookup ("count" : Str) = _; decide +kernel) (fun h₁ hns hsb => ⟨(hlim.keeps fun b o e => hF b o (hΓ b o e)).fresh _ hsb, ?_⟩) (show lamScope.kind = _ by decide +kernel))
  have hk₁ : ∀ b o, s.heap.get? b = some o → h₁.get? b = some o := fun b o e => hsb.extBut b o (Nat.ne_of_lt (Heap.lt_size e)) (Heap.get?_push_of_some _ e)
  show codeAny _ _ (.expr lamBody (envX qual lamScope s.heap.objs.size X.lam (.ref X.cd) [("signs", X.cel)])) _ _
  have A₁ := A.grow hk₁
  obtain ⟨us, n', c1, c2⟩ := A₁.chars
  have r₁ : Rel pr w Γ K σ ps { s with heap := h₁, toks := s.toks + 1 } := r.grow hk₁ (s.toks + 1)
  have hz' : xs.length ≤ sizeLine := Nat.le_trans hz (by decide)
  refine kla_codeExpr (lam_body (t := t) (xs := xs) (vs := us) (n := n') (S := X.S) (cel := X.cel) (m := fun x => ([("count", .int 1 t)] : List (Str × Value)).reverse.lookup x) rfl (show lamScope.names.lookup ("signs" : Str) = _ by decide +kernel) (show lamScope.names.lookup ("count" : Str) = _ by decide +kernel) rfl A₁.cell c1 c2 hns rfl (by show Γ.A.units + 3 + 10 < cLine; (first | exact o39 hu | omega)) hz' hlay (fun h' tk t' hnil ht hk₂ => ?_) fun h' tk t' x xs' vs' n'' hx ht hk₂ hS hv => ?_)
  · exact hR (.str Str.empty) _ _ _ (h0 hnil) (((r₁.grow (h' := h') hk₂ tk (by have : s.toks + 1 ≤ tk := ht; show s.toks + 1 ≤ tk; (first | exact o40 this | omega)))).flat (.str _ t'))
  · exact hR (.str x) _ _ _ (h1 x xs' hx) ((r₁.lexTo hk (h' := h') (fun b o hb e => hk₂ b o (fun q => hb (by simp [LX.fp, q])) e) (A₁.setS hk₂ hS hv) tk ht).flat (.str _ t'))
theorem wx_lineno {n : Str} {np ta p pc : Pos} {kc : Nat} (L : LexCls hB C N fi fr fg fq mN) (hΓ : ∀ b o, hB.get? b = some o → Γ.hB b = some o) (hk : ObjAt σ k (.ext (lexE C X line push xs))) (hn : Lk n (.obj (.ref X.x)) σ.loc)
    (h : QF .next { σ with objs := σ.objs.set k (some (.ext (lexE C X (line + 1) push xs))) }) : WPx pr w Γ σ (.AugAssign (.Attribute (.Name n np) "lineno" ta) .Add (.Constant (.int 1) kc pc) p) QF := by
  intro K ps s R r hR
  refine wpAny_AugAssign_AttributeAny ((wp_name (Q := fun mv σ' => mv = .obj (.ref X.x) ∧ σ' = σ) hn rfl ⟨rfl, rfl⟩) K ps s _ r fun mv' v σ' s₁ hq r₁ => ?_)
  obtain ⟨rfl, rfl⟩ := hq
  obtain rfl := r₁.obj
  obtain ⟨A, hF, hnot, _⟩ := r₁.lex hk
  obtain ⟨m, I, M⟩ := A.ins
  obtain ⟨t₀, e1⟩ := M.line
  have X' := L.cls.keeps fun b o e => hF b o (hΓ b o e)
  obtain ⟨nm, q, bs, sn, sub, col, dd, k0, k1, k2, k3, k5, hC⟩ := X'.obj
  have hxC : X.x ≠ C := by
    rintro e
    obtain ⟨nm, q, bs, sn, sub, col, dd, k0, k1, k2, k3, k5, hC₀⟩ := L.cls.obj
    exact hnot C _ (hΓ _ _ hC₀) (by rw [← e]; simp [LX.fp])
  have r₁ := r₁.drop
  obtain ⟨hp, g, d, t, os⟩ := s₁
  refine load_attrFk hC X'.ns (L.quiet _ (by decide)) (L.quiet _ (by decide)) (obj_lookup _ (by decide)) I.fk e1 rfl ?_
  refine wpAny_Constant_int (iadd_int ?_)
  refine wpAny_with_toks (Nat.le_refl _) (store_attrFk (ns := lexNames) PySem.F.store_object hC X'.ns (L.quiet _ (by decide)) (L.quiet _ (by decide)) (obj_lookup _ (by decide)) hxC I.fk (fun h' tk' I' hk' hsame => ?_) (fun y hy => Classical.byContradiction fun q => hy (M.none y q)) (by decide))
  intro ht
  obtain ⟨⟨o, i1, i2, i3, i4⟩, i5, i6, i7⟩ := I
  have hs : ∀ b o, b ≠ X.x → b ≠ X.d → hp.get? b = some o → h'.get? b = some o := fun b o h1 h2 e => hk' b o h1 (fun o₀ d' e₀ ed => by
    obtain rfl := Option.some.inj (i1.symm.trans e₀); obtain rfl := Option.some.inj (i4.symm.trans ed); exact h2) e
  obtain ⟨o₁, s1, s2, s3, s4, s5⟩ := hsame o i1
  have I₁ : InsAt C h' X.x X.d (fun y => if y = "lineno" then some (.int (line + 1) (t + 1 + 1)) else m y) := by
    obtain ⟨o₂, j1, j2, j3, j4⟩ := I'
    obtain rfl := Option.some.inj (s1.symm.trans j1)
    rcases j4 with ⟨j4, _⟩ | ⟨d', j4, j5, j6, j7⟩
    · rw [s5 _ i4] at j4; cases j4
    · obtain rfl := Option.some.inj ((s5 _ i4).symm.trans j4)
      exact ⟨⟨o₁, s1, j2, j3, j4⟩, j5, j6, j7⟩
  have ne : ∀ i a, X.fp[i]? = some a → i ≠ 0 → i ≠ 1 → a ≠ X.x ∧ a ≠ X.d := fun i a hi h2 h3 => ⟨LX.ne A.nodup hi rfl h2, LX.ne A.nodup hi rfl h3⟩
  have A' : LexAt C w h' X (line + 1) push xs := by
    obtain ⟨m', j1, j2⟩ := A.str
    obtain ⟨vs, n, p1, p2⟩ := A.push
    obtain ⟨us, n', c1, c2⟩ := A.chars
    obtain ⟨o, e1, e2⟩ := A.cell
    obtain ⟨q, pm, ctv, l1, l2⟩ := A.lam
    have go : ∀ i a o, X.fp[i]? = some a → i ≠ 0 → i ≠ 1 → hp.get? a = some o → h'.get? a = some o := fun i a o hi h2 h3 e => hs a o (ne i a hi h2 h3).1 (ne i a hi h2 h3).2 e
    refine ⟨A.nodup, ⟨_, I₁, ?_⟩, ⟨m', j1.at (fun o e => go 3 _ o rfl (by decide) (by decide) e) (fun o e => go 4 _ o rfl (by decide) (by decide) e), j2⟩, ⟨vs, n, go 2 _ _ rfl (by decide) (by decide) p1, p2⟩, ⟨us, n', go 5 _ _ rfl (by decide) (by decide) c1, c2⟩,
      ⟨o, go 6 _ _ rfl (by decide) (by decide) e1, e2⟩, ⟨q, pm, ctv, go 7 _ _ rfl (by decide) (by decide) l1, l2⟩⟩
    obtain ⟨t₂, w2⟩ := M.ws
    exact ⟨⟨_, if_pos rfl⟩, (if_neg (by decide)).trans M.ins, ⟨t₂, (if_neg (by decide)).trans w2⟩, (if_neg (by decide)).trans M.push, fun n hn => (if_neg (fun q => hn (by rw [q]; decide))).trans (M.none n hn)⟩
  exact hR .next .next _ _ h ⟨rfl, r₁.lexTo hk (h' := h') (fun b o hb e => hs b o (fun q => hb (by simp [LX.fp, q])) (fun q => hb (by simp [LX.fp, q])) e) A' tk' (by
    have : t + 1 + 1 + 1 ≤ tk' := ht
    show t ≤ tk'; (first | exact o41 this | omega))⟩
end
noncomputable def nlS : Str := "\n"
noncomputable def lineOf (line : Int) (c : Str) : Int := if c == nlS then line + 1 else line
theorem sR : ScopeOk (fScope bRead) ((["self"] : List Str) ++ (["ch"] : List Str)) := ⟨rfl, by decide +kernel, by decide +kernel, by decide +kernel⟩
theorem bR : ∀ doc pm cdv ct vs, vs.length = (["self"] : List Str).length → bindArgs (fnOf (fName bRead) "_netrclex._read_char" (fArgs bRead) (fBody bRead) (fScope bRead) .none .none doc pm none cdv ct) ⟨vs, []⟩ = pure ((["self"] : List Str).zip vs) := by intro doc pm cdv ct vs h; obtain ⟨v, rfl⟩ := len1 h; rfl
section
variable {w : World} {hB : Heap} {mg mb : Str → Option Value} {C N fi fr fg fq : Addr} {mN : Str → Option Value} {X : LX} {line : Int} {push xs : List Str}
noncomputable def hd1 : List Str → Str
  | [] => Str.empty
  | x :: _ => x
theorem xf_read (T : TopF hB mg mb) (L : LexCls hB C N fi fr fg fq mN) (hf : IsFn hB fr "_netrclex._read_char" bRead) (hz : xs.length ≤ 100000) (hlay : ∀ x ∈ xs, PyData.canLay0 (.str x) = true) :
    ExtFn pr w 3 hB (.ref fr) [.obj (.ref X.x)] (lexE C X line push xs) (fun v e => v = .str (hd1 xs) ∧ e = lexE C X (lineOf line (hd1 xs)) push xs.tail) := by
  refine ExtFn.of_stmt T hf ["self"] ["ch"] [] bR rfl sR nofun rfl rfl ?_
  intro Γ hΓ
  have hg := hΓ.2.1
  have hu : Γ.A.units + 20 < cLine := by have := hΓ.2.2.2.2.1; (first | exact o42 this | omega)
  show WPs pr w Γ ⟨[("self", .obj (.ref X.x)), ("ch", .undef)], [some (.ext (lexE C X line push xs))]⟩ _ _
  have hk : ∀ loc line xs, ObjAt ⟨loc, [some (.ext (lexE C X line push xs))]⟩ 0 (.ext (lexE C X line push xs)) := fun _ _ _ => rfl
  have rest : ∀ c xs', hd1 xs = c → xs.tail = xs' → WPs pr w Γ ⟨[("self", .obj (.ref X.x)), ("ch", .str c)], [some (.ext (lexE C X line push xs'))]⟩ ((fBody bRead).drop 1) (fun fl σ => ∃ e' l, σ.objs = some (.ext e') :: l ∧ match fl with | .ret mv => Closed mv ∧ (mv = .str (hd1 xs) ∧ e' = lexE C X (lineOf line (hd1 xs)) push xs.tail) | .next => (MV.none = .str (hd1 xs) ∧ e' = lexE C X (lineOf line (hd1 xs)) push xs.tail) | _ => False) := by
    intro c xs' hc hx
    show WPs pr w Γ _ [_, _] _
    tm_at "x"
    refine ⟨fun hb => ?_, fun hb => ?_⟩
    · refine ws_cons (wx_lineno L hg (hk _ _ _) (by tm_at "lk") ?_)
      tm_at "x"
      exact ⟨_, _, rfl, .str, by rw [hc], by rw [hc, hx]; unfold lineOf; rw [if_pos (show (c == nlS) = true from hb)]⟩
    · tm_at "x"
      exact ⟨_, _, rfl, .str, by rw [hc], by rw [hc, hx]; unfold lineOf; rw [if_neg (by rw [show (c == nlS) = false from hb]; simp)]⟩
  refine ws_cons ?_
  refine' wx_assign ?_ ?hs
  case hs => intro _; rfl
  refine' wp_method ?_ ?he ?hc
  case he => intro _ _; rfl
  case hc => intro _; rfl
  refine wp_lexAttr L hg (hk _ _ _) (by tm_at "lk") (mv := .obj (.ref X.st)) (by tm_at "lk") ?_
  refine wm_read L hg (hk _ _ _) ?_
  tm_at "x"
  refine wc_lam T.nolimit hg hu (hk _ _ _) hz hlay (fun h => ?_) fun x xs' h => ?_
  · subst h
    exact putq_there (putq_here (then_next (rest Str.empty [] rfl rfl)))
  · subst h
    exact putq_there (putq_here (then_next (rest x xs' rfl rfl)))
end
noncomputable def itE (fr x I m : Addr) (live : Bool) : Ext where
  rel := fun _ _ _ fp h => fp = [I, m] ∧ (∃ t, h.get? I = some (if live = true then ciObj (.ref m) (.str Str.empty t) false else ciObj .none .none true)) ∧ h.get? m = some (methodObj (.ref fr) (.ref x))
  mono := fun _ _ _ _ _ _ _ _ _ r => r
  stab := fun _ _ _ _ _ _ hk r => by
    obtain ⟨rfl, ⟨t, r1⟩, r2⟩ := r
    exact ⟨rfl, ⟨t, (hk _ (.head _)).trans r1⟩, (hk _ (.tail _ (.head _))).trans r2⟩
  nor := fun _ _ _ _ _ r => r
section
variable {w : World} {Γ : Cx} {K : Kp} {σ : St} {ps : List (MV × Value)} {s : Shared} {C : Addr} {X : LX} {line : Int} {push xs : List Str} {k : Nat}
variable {hB : Heap} {mg mb : Str → Option Value} {N fi fr fg fq : Addr} {mN : Str → Option Value} {Q : MV → St → Prop} {QB : Bool → St → Prop} {QF : MF → St → Prop}
theorem wx_iter {y n b : Str} (hb : b = Str.empty) {np pa pi pc p py pst : Pos} {kc : Nat} (L : LexCls hB C N fi fr fg fq mN) (hf : IsFnC hB fr "_netrclex._read_char" bRead) (hΓ : ∀ b o, hB.get? b = some o → Γ.hB b = some o) (hk : ObjAt σ k (.ext (lexE C X line push xs))) (hn : Lk n (.obj (.ref X.x)) σ.loc) {gl : List (Str × MV)} (hgl : Γ.glob = gl) (hi : Lk "iter" (.obj (.builtin "iter")) gl)
    (h : ∀ I m, PutQ y (.obj (.ref I)) σ.loc fun l' => QF .next ⟨l', σ.objs ++ [some (.ext (itE fr X.x I m true))]⟩)
    (hc : ∀ env, eval (.Call (.Name "iter" pi) [.Attribute (.Name n np) "_read_char" pa, .Constant (.str b) kc pc] [] p) env = (do callWith p (← eval (.Name "iter" pi) env) [] (backTo p (starEach [.Attribute (.Name n np) "_read_char" pa, .Constant (.str b) kc pc] env)) (backToKw p (keywordEach [] env))))
    (hst : ∀ env, starEach [.Attribute (.Name n np) "_read_char" pa, .Constant (.str b) kc pc] env = (false, eval (.Attribute (.Name n np) "_read_char" pa) env) :: starEach [.Constant (.str b) kc pc] env)
    (hs : ∀ env, swapsWith (.Call (.Name "iter" pi) [.Attribute (.Name n np) "_read_char" pa, .Constant (.str b) kc pc] [] p) (some (.Name y py)) pst.line env = pure false) :
    WPx pr w Γ σ (.Assign [.Name y py] (.Call (.Name "iter" pi) [.Attribute (.Name n np) "_read_char" pa, .Constant (.str b) kc pc] [] p) pst) QF := by
  subst hb
  intro K ps s R r hR
  refine wpAny_Assign_Name ?_ (hs _)
  rw [hc]
  refine wpAny_bind (wp_globE (Q := fun mv σ' => mv = .obj (.builtin "iter") ∧ σ' = σ) hgl hi ⟨rfl, rfl⟩ K ps s _ r fun fv v σ₁ s₁ h₁ r₁ => ?_)
  obtain ⟨rfl, rfl⟩ := h₁
  obtain rfl := r₁.obj
  have r₁ := r₁.drop
  refine callWith_of (P := Kept (.builtin "iter")) (by rw [hst]; rfl) (fun h k => k _) (evalArgs_list (by rw [hst]; rfl) ?_)
  refine wpAny_items_cons (Attribute_name ((wp_name (Q := fun mv σ' => mv = .obj (.ref X.x) ∧ σ' = σ₁) hn rfl ⟨rfl, rfl⟩) K ps s₁ _ r₁ fun mv' v σ₂ s₂ hq r₂ => ?_)) (hst _)
  obtain ⟨rfl, rfl⟩ := hq
  obtain rfl := r₂.obj
  have r₂ := r₂.drop
  obtain ⟨A, hF, _, _⟩ := r₂.lex hk
  obtain ⟨m, I, M⟩ := A.ins
  have X' := L.cls.keeps fun b o e => hF b o (hΓ b o e)
  obtain ⟨nm, q, bs, sn, sub, col, dd, k0, k1, k2, k3, k5, hC⟩ := X'.obj
  obtain ⟨od, osl, pm, cdv, ct, doc, f1, f2⟩ := hf
  obtain ⟨hp, g, d, t, os⟩ := s₂
  refine ga_bound hC X'.ns (L.quiet _ (by decide)) (L.quiet _ (by decide)) L.mr (hF _ _ (hΓ _ _ f1)) rfl (obj_lookup _ (by decide)) I.fk (fun o e => by obtain ⟨⟨o', i1, _, _, i4⟩, _⟩ := I; rw [i1] at e; cases e; rw [i4]; simp) (by decide) (M.none _ (by decide)) ?_
  refine wpAny_items_cons (wpAny_Constant_str (wpAny_items_nil ?_)) rfl
  refine ⟨kept_builtin, call_iter2 (m := hp.objs.size) (f := .ref fr) (x := .ref X.x) (Heap.get?_push_size _ rfl) ?_⟩
  obtain ⟨F, m, cm, fps, Co⟩ := r₂
  obtain ⟨l', hput, h₁⟩ := h ((hp.push (methodObj (.ref fr) (.ref X.x))).objs.size) hp.objs.size
  have hsz : (hp.push (methodObj (.ref fr) (.ref X.x))).objs.size = hp.objs.size + 1 := Heap.size_push ..
  have hnone : ∀ b, hp.objs.size ≤ b → hp.get? b = none := fun b hb => by
    cases q : hp.get? b with
    | none => rfl
    | some o => exact absurd (Heap.lt_size q) (Nat.not_lt.mpr hb)
  have g1 : ((hp.push (methodObj (.ref fr) (.ref X.x))).push (ciObj (.ref hp.objs.size) (.str Str.empty (t + 1)) false)).get? (hp.push (methodObj (.ref fr) (.ref X.x))).objs.size = some (ciObj (.ref hp.objs.size) (.str Str.empty (t + 1)) false) := Heap.get?_push_size _ rfl
  have g2 : ((hp.push (methodObj (.ref fr) (.ref X.x))).push (ciObj (.ref hp.objs.size) (.str Str.empty (t + 1)) false)).get? hp.objs.size = some (methodObj (.ref fr) (.ref X.x)) := Heap.get?_push_of_some _ (Heap.get?_push_size _ rfl)
  have C' := Co.addObj (o := .ext (itE fr X.x ((hp.push (methodObj (.ref fr) (.ref X.x))).objs.size) hp.objs.size true)) (fp := [(hp.push (methodObj (.ref fr) (.ref X.x))).objs.size, hp.objs.size]) (h' := (hp.push (methodObj (.ref fr) (.ref X.x))).push (ciObj (.ref hp.objs.size) (.str Str.empty (t + 1)) false)) (fun b x e => Heap.get?_push_of_some _ (Heap.get?_push_of_some _ e)) (by simp [hsz]) (fun a ha => by
      simp only [List.mem_cons, List.not_mem_nil, or_false] at ha
      rcases ha with rfl | rfl
      · exact hnone _ (by rw [hsz]; exact Nat.le_succ _)
      · exact hnone _ (Nat.le_refl _))
    (fun a ha => by
      simp only [List.mem_cons, List.not_mem_nil, or_false] at ha
      rcases ha with rfl | rfl
      · exact ⟨_, g1⟩
      · exact ⟨_, g2⟩) (.ext _ _ _ (show _ ∧ _ ∧ _ from ⟨rfl, ⟨t + 1, by rw [if_pos rfl]; exact g1⟩, g2⟩)) (t + 1 + 1)
  exact WP1.to_store (σ := { σ₂ with objs := σ₂.objs ++ [some (.ext (itE fr X.x _ _ true))] }) (mv := .obj _) (QU := fun σ => QF .next σ) hput h₁ K ps _ _ _ ⟨F, m, cm, _, C'.cons (.obj _)⟩ fun σ₃ s₃ h₃ r₃ => hR .next .next σ₃ s₃ h₃ ⟨rfl, r₃⟩
end
section
variable {w : World} {Γ : Cx} {K : Kp} {σ : St} {ps : List (MV × Value)} {s : Shared}
variable {hB : Heap} {mg mb : Str → Option Value} {C N fi fr fg fq : Addr} {mN : Str → Option Value} {X : LX} {push : List Str} {QF : MF → St → Prop}
noncomputable def WPfC (w : World) (Γ : Cx) (C : Addr) (X : LX) (fr : Addr) (push : List Str) (I m : Addr) (k kI : Nat) (y : Str) (body : List Stmt) (QF : MF → St → Prop) : Nat → St → Prop
  | 0, _ => False
  | n + 1, σ => ∃ line xs live, ObjAt σ k (.ext (lexE C X line push xs)) ∧ ObjAt σ kI (.ext (itE fr X.x I m live)) ∧ xs.length ≤ 100000 ∧ (∀ x ∈ xs, PyData.canLay0 (.str x) = true ∧ (Str.empty == x) = false) ∧
      (live = false → QF .next σ) ∧
      (live = true → xs = [] → QF .next ⟨σ.loc, σ.objs.set kI (some (.ext (itE fr X.x I m false)))⟩) ∧
      (live = true → ∀ x xs', xs = x :: xs' → PutQ y (.str x) σ.loc fun l' => WPs pr w Γ ⟨l', σ.objs.set k (some (.ext (lexE C X (lineOf line x) push xs')))⟩ body (turn (WPfC w Γ C X fr push I m k kI y body QF n) QF))
theorem set_same {os : List (Option MO)} {k : Nat} {o : MO} (h : os[k]? = some (some o)) : os.set k (some o) = os := by
  refine List.ext_getElem? fun i => ?_
  rw [List.getElem?_set]
  split
  · rename_i e; subst e
    have : k < os.length := (List.getElem?_eq_some_iff.mp h).1
    rw [if_pos this, h]
  · rfl
theorem forC_next {ℓ : Nat} {sc : Scope} {gl : List (Str × MV)} {I m : Addr} {k kI : Nat} (T : TopF hB mg mb) (L : LexCls hB C N fi fr fg fq mN) (hf : IsFnC hB fr "_netrclex._read_char" bRead) (hΓ : Γof sc Γ hB ℓ gl) (hℓ : 4 ≤ ℓ) (hki : k ≠ kI)
    {line : Int} {xs : List Str} {live : Bool} (o1 : ObjAt σ k (.ext (lexE C X line push xs))) (o2 : ObjAt σ kI (.ext (itE fr X.x I m live))) (hz : xs.length ≤ 100000) (hlay : ∀ x ∈ xs, PyData.canLay0 (.str x) = true ∧ (Str.empty == x) = false) (r : Rel pr w Γ K σ ps s) {Q : Option Value → Shared → Prop} {E : Value → Shared → Prop}
    (q1 : live = false → ∀ s₂, Rel pr w Γ K σ ps s₂ → Q none s₂) (q2 : live = true → xs = [] → ∀ s₂, Rel pr w Γ K ⟨σ.loc, σ.objs.set kI (some (.ext (itE fr X.x I m false)))⟩ ps s₂ → Q none s₂)
    (q3 : live = true → ∀ x xs', xs = x :: xs' → ∀ u s₂ o, s₂.heap.get? I = some o → (∃ T fs, o.cls = .type T ∧ o.data = .fields fs ∧ owners.contains T = false) → Rel pr w Γ K ⟨σ.loc, σ.objs.set k (some (.ext (lexE C X (lineOf line x) push xs')))⟩ ((.str x, .str x u) :: ps) s₂ → Q (some (.str x u)) s₂) :
    wpAny (model pr w) Γ.A (pyNext (.ref I)) Q E s := by
  obtain ⟨g1, g2, g3, g4, g5, g6, g7⟩ := hΓ
  obtain ⟨F, m', cm, fps, Co⟩ := id r
  obtain ⟨fpI, hfpI, horI⟩ := Co.trk kI _ o2
  have hIr : fpI = [I, m] ∧ (∃ t, s.heap.get? I = some (if live = true then ciObj (.ref m) (.str Str.empty t) false else ciObj .none .none true)) ∧ s.heap.get? m = some (methodObj (.ref fr) (.ref X.x)) := by cases horI with | ext _ _ _ hh => exact hh
  obtain ⟨rfl, ⟨t, hIo⟩, hmo⟩ := hIr
  cases live with
  | false =>
    rw [if_neg (by decide)] at hIo
    exact ci_ended Co.ok.handled hIo fun h' hk' => q1 rfl _ (r.grow hk' s.toks)
  | true =>
    rw [if_pos rfl] at hIo
    obtain ⟨od, osl, pm, cdv, ct, doc, f1, f2⟩ := id hf
    have hfo : s.heap.get? fr = some _ := Co.frz _ _ (Co.base _ _ (g2 _ _ f1))
    obtain ⟨fpL, hfpL, horL⟩ := Co.trk k _ o1
    have hfpX : fpL = X.fp := by cases horL with | ext _ _ _ hh => exact hh.1
    subst hfpX
    obtain ⟨n1, n2⟩ := List.nodup_cons.mp Co.hot
    have apart := alive_apart (List.nodup_append.mp n2).2.1 o2 hfpI o1 hfpL (fun q => hki q.symm)
    have frL : fr ∉ X.fp := fun q => Co.frzH fr _ (Co.base _ _ (g2 _ _ f1)) (Co.mem_hot o1 hfpL q)
    refine ci_next hIo hmo hfo rfl (Core.callExt Co (A := Γ.A.in1) (ℓ := 3) (by show Γ.A.depth + 3 < _; (first | exact o43 hℓ g4 | omega)) (by show Γ.A.units + 1 + 20 * 3 < _; (first | exact o44 hℓ g5 | omega)) Co.ok.handled g2 (xf_read T L hf.fn hz fun x hx => (hlay x hx).1) (fun y hy => by simp at hy; subst hy; exact .obj) o1 hfpL (VRs.cons (.obj _) VRs.nil) fun mv v e' s₂ F' hP C' hk₂ => ?_)
    obtain ⟨rfl, rfl⟩ := hP
    have hI₂ := hk₂ I _ (apart I (.head _)) hIo
    have hm₂ := hk₂ m _ (apart m (.tail _ (.head _))) hmo
    have hf₂ := hk₂ fr _ frL hfo
    obtain ⟨u, rfl⟩ : ∃ u, v = .str (hd1 xs) u := by
      have : VR w F' (rho fps) (.str (hd1 xs)) v := C'.ps (.str (hd1 xs), v) (.head _)
      cases this; exact ⟨_, rfl⟩
    refine ⟨hI₂, hd1 xs, u, rfl, ?_⟩
    cases xs with
    | nil =>
      refine .inr ⟨by decide, Co.ok.handled, hm₂, hf₂, fun h' hI' hx' => ?_⟩
      refine q2 rfl rfl _ ⟨F', m', cm, fps, ?_⟩
      have e0 : lineOf line (hd1 []) = line := by unfold lineOf; rw [if_neg (by decide)]
      have C₂ := C'.drop
      rw [e0, show ([] : List Str).tail = [] from rfl] at C₂
      have C₃ : Core pr w Γ K σ ps s₂ F' m' cm fps := by
        have := set_same o1
        rw [this] at C₂; exact C₂
      have hs : ∀ b x, b ∉ [I, m] → s₂.heap.get? b = some x → h'.get? b = some x := fun b x hb e => hx' b x (fun q => hb (by simp [q])) e
      have hmI : m ≠ I := fun q => by
        rw [q, hI₂] at hm₂
        have e : Value.type "callable_iterator" = Value.type "method" := congrArg Obj.cls (Option.some.inj hm₂)
        injection e with e
        exact absurd e (by decide)
      have hm' : h'.get? m = some (methodObj (.ref fr) (.ref X.x)) := hx' m _ hmI hm₂
      exact C₃.turnObj o2 hfpI hs (fun a ha => by
        simp only [List.mem_cons, List.not_mem_nil, or_false] at ha
        rcases ha with rfl | rfl
        · exact ⟨_, hI'⟩
        · exact ⟨_, hm'⟩) (Sub.refl F') (fun b x e => hs b x (fun q => C₃.frzH b x e (C₃.mem_hot o2 hfpI q)) (C₃.frz b x e)) (fun _ _ e => .inl e) (.ext (itE fr X.x I m false) [I, m] h' (show _ ∧ _ ∧ _ from ⟨rfl, ⟨t, by rw [if_neg (by decide)]; exact hI'⟩, hm'⟩)) (fun _ e => by cases e) s₂.toks (Nat.le_refl _)
    | cons x xs' =>
      exact .inl ⟨(hlay x (.head _)).2, q3 rfl x xs' rfl u s₂ _ hI₂ ⟨"callable_iterator", _, rfl, rfl, rfl⟩ ⟨F', m', cm, fps, C'⟩⟩
theorem wx_forC {ℓ : Nat} {sc : Scope} {gl : List (Str × MV)} {x0 y : Str} {tp ip p : Pos} {body : List Stmt} {I m : Addr} {k kI : Nat} (T : TopF hB mg mb) (L : LexCls hB C N fi fr fg fq mN) (hf : IsFnC hB fr "_netrclex._read_char" bRead) (hΓ : Γof sc Γ hB ℓ gl) (hℓ : 4 ≤ ℓ) (hki : k ≠ kI) (hn : Lk x0 (.obj (.ref I)) σ.loc)
    (hit : ObjAt σ kI (.ext (itE fr X.x I m true)) ∨ ObjAt σ kI (.ext (itE fr X.x I m false))) (n : Nat) (h : WPfC w Γ C X fr push I m k kI y body QF n σ) (hs : ∀ env x, foldedSetIterable (.Name x0 ip) env x = pure x := by intro _ _; rfl) :
    WPx pr w Γ σ (.For (.Name y tp) (.Name x0 ip) body [] p) QF := by
  intro K ps s R r hR
  refine wpAny_For ((wp_name (Q := fun mv σ' => mv = .obj (.ref I) ∧ σ' = σ) hn rfl ⟨rfl, rfl⟩) K ps s _ r fun mv' v σ₁ s₁ hq r₁ => ?_) (hs _)
  obtain ⟨rfl, rfl⟩ := hq
  obtain rfl := r₁.obj
  have r₁ := r₁.drop
  have self : ∀ (R' : Value → Shared → Prop), R' (.ref I) s₁ → wpAny (model pr w) Γ.A (pyIter (.ref I)) R' (fun _ _ => False) s₁ := fun R' h' => by
    obtain ⟨F, m', cm, fps, Co⟩ := r₁
    rcases hit with hit | hit <;>
    · obtain ⟨fp, hfp, hor⟩ := Co.trk kI _ hit
      cases hor with | ext _ _ _ hh =>
      obtain ⟨_, ⟨t, e⟩, _⟩ := hh
      first | (rw [if_pos rfl] at e; exact ci_self e h') | (rw [if_neg (by decide)] at e; exact ci_self e h')
  refine self _ ?_
  refine codeAny_forLoop_any (fun n s' => ∃ σ', WPfC w Γ C X fr push I m k kI y body QF n σ' ∧ Rel pr w Γ K σ' ps s') (fun n s' hI => ?_) n ⟨σ₁, h, r₁⟩
  obtain ⟨σ', hw, r'⟩ := hI
  cases n with
  | zero => exact hw.elim
  | succ n =>
    obtain ⟨line, xs, live, o1, o2, hz, hlay, q1, q2, q3⟩ := hw
    refine forC_next T L hf hΓ hℓ hki o1 o2 hz hlay r' (fun e s₂ r₂ => wpAny_execs_nil (hR .next .next σ' _ (q1 e) ⟨rfl, r₂⟩)) (fun e e' s₂ r₂ => wpAny_execs_nil (hR .next .next _ _ (q2 e e') ⟨rfl, r₂⟩)) fun e x xs' e' u s₂ o ho hc r₂ => go_own ho hc ?_
    obtain ⟨l', hput, hb⟩ := q3 e x xs' e'
    refine wpAny_mono (wa_name (Γ := Γ) (σ := { σ' with objs := σ'.objs.set k (some (.ext (lexE C X (lineOf line x) push xs'))) }) (mv := .str x) (QU := fun σ => WPs pr w Γ σ body (turn (WPfC w Γ C X fr push I m k kI y body QF n) QF)) hput hb K ps (.str x u) s₂ (fun (_ : Unit) s₃ => wpAny (model pr w) Γ.A (execs body Γ.env) _ (fun _ _ => False) s₃) r₂ fun σ₃ s₃ h₃ r₃ => ?_) (fun _ s₃ h₃ => wpAny_mono h₃ (fun _ _ q => q) fun _ _ q => q.elim) fun _ _ q => q.elim
    refine h₃ K ps s₃ _ r₃ fun mf f σ₄ s₄ h₄ r₄ => ?_
    cases mf with
    | next => obtain ⟨rfl, r₄⟩ := r₄; exact ⟨n, Nat.lt_succ_self n, σ₄, h₄, r₄⟩
    | cont => obtain ⟨rfl, r₄⟩ := r₄; exact ⟨n, Nat.lt_succ_self n, σ₄, h₄, r₄⟩
    | brk => obtain ⟨rfl, r₄⟩ := r₄; exact hR .next .next σ₄ s₄ h₄ ⟨rfl, r₄⟩
    | ret z => obtain ⟨z', rfl, r₄⟩ := r₄; exact hR (.ret z) _ σ₄ s₄ h₄ ⟨z', rfl, r₄⟩
end
noncomputable def sgl (x : Str) : Prop := PyData.canLay0 (.str x) = true ∧ (Str.empty == x) = false ∧ x.length = 1
noncomputable def isWs (x : Str) : Bool := hasS wsLex x
noncomputable def lexQ : Nat → Int → List Str → Str → Bool × Int × List Str × Str
  | 0, line, xs, tok => (false, line, xs, tok)
  | _ + 1, line, [], tok => (false, line, [], tok)
  | n + 1, line, x :: xs, tok => if x == "\"" then (true, lineOf line x, xs, tok) else if x == "\\" then lexQ n (lineOf (lineOf line x) (hd1 xs)) xs.tail (tok ++ hd1 xs) else lexQ n (lineOf line x) xs (tok ++ x)
noncomputable def lexB : Nat → Int → List Str → Str → Bool × Int × List Str × Str
  | 0, line, xs, tok => (false, line, xs, tok)
  | _ + 1, line, [], tok => (false, line, [], tok)
  | n + 1, line, x :: xs, tok => if isWs x then (true, lineOf line x, xs, tok) else if x == "\\" then lexB n (lineOf (lineOf line x) (hd1 xs)) xs.tail (tok ++ hd1 xs) else lexB n (lineOf line x) xs (tok ++ x)
noncomputable def lexO : Nat → Int → List Str → Int × List Str × Str
  | 0, line, xs => (line, xs, Str.empty)
  | _ + 1, line, [] => (line, [], Str.empty)
  | n + 1, line, x :: xs => if isWs x then lexO n (lineOf line x) xs else if x == "\"" then (lexQ n (lineOf line x) xs Str.empty).2 else if x == "\\" then (lexB n (lineOf (lineOf line x) (hd1 xs)) xs.tail (Str.empty ++ hd1 xs)).2 else (lexB n (lineOf line x) xs (Str.empty ++ x)).2
theorem sG : ScopeOk (fScope bGet) ((["self"] : List Str) ++ (["token", "fiter", "ch"] : List Str)) := ⟨rfl, by decide +kernel, by decide +kernel, by decide +kernel⟩
theorem bG : ∀ doc pm cdv ct vs, vs.length = (["self"] : List Str).length → bindArgs (fnOf (fName bGet) "_netrclex.get_token" (fArgs bGet) (fBody bGet) (fScope bGet) .none .none doc pm none cdv ct) ⟨vs, []⟩ = pure ((["self"] : List Str).zip vs) := by intro doc pm cdv ct vs h; obtain ⟨v, rfl⟩ := len1 h; rfl
noncomputable abbrev glG : List (Str × MV) := [("iter", .obj (.builtin "iter"))]
noncomputable abbrev locG (X : LX) (I : Addr) (tok : Str) (z : MV) : List (Str × MV) := [("self", .obj (.ref X.x)), ("token", .str tok), ("fiter", .obj (.ref I)), ("ch", z)]
noncomputable def forBody : Option Stmt → List Stmt
  | some (.For _ _ b _ _) => b
  | _ => []
noncomputable def thenB : Option Stmt → List Stmt
  | some (.If _ b _ _) => b
  | _ => []
noncomputable def elseB : Option Stmt → List Stmt
  | some (.If _ _ b _) => b
  | _ => []
noncomputable def outB : List Stmt := forBody (fBody bGet)[3]?
noncomputable def quoB : List Stmt := forBody (thenB outB[1]?)[0]?
noncomputable def barB : List Stmt := forBody (elseB outB[1]?)[2]?
section
variable {w : World} {hB : Heap} {mg mb : Str → Option Value} {C N fi fr fg fq : Addr} {mN : Str → Option Value} {X : LX}
theorem sgl_hd {xs : List Str} (h : ∀ x ∈ xs, sgl x) : (hd1 xs).length ≤ 1 ∧ ∀ x ∈ xs.tail, sgl x := by
  cases xs with
  | nil => exact ⟨Nat.zero_le _, fun _ h => nomatch h⟩
  | cons x xs => exact ⟨Nat.le_of_eq (h x (.head _)).2.2, fun y hy => h y (.tail _ hy)⟩
theorem wx_readch {Γ : Cx} {push : List Str} {line : Int} {xs : List Str} {I m : Addr} {live : Bool} {tok : Str} {z : MV} {q1 q2 q3 q4 q5 : Pos} {QF : MF → St → Prop} (T : TopF hB mg mb) (L : LexCls hB C N fi fr fg fq mN) (hf : IsFnC hB fr "_netrclex._read_char" bRead) {sc : Scope} {gl : List (Str × MV)} (hΓ : Γof sc Γ hB 5 gl) (hz : xs.length ≤ 100000) (hs : ∀ x ∈ xs, sgl x)
    (h : QF .next ⟨locG X I tok (.str (hd1 xs)), [some (.ext (lexE C X (lineOf line (hd1 xs)) push xs.tail)), some (.ext (itE fr X.x I m live))]⟩)
    (hc : ∀ env, eval (.Call (.Attribute (.Name "self" q2) "_read_char" q3) [] [] q4) env = (do
      let ov ← eval (.Name "self" q2) env
      standAt q3.atName
      let (f, first) ← holding [ov] (getMethod ov "_read_char" (do return (← importBound (.Name "self" q2) env).getD true))
      callWith q4 f first (backTo q4 (starEach [] env)) (backToKw q4 (keywordEach [] env))))
    (hsw : ∀ env, swapsWith (.Call (.Attribute (.Name "self" q2) "_read_char" q3) [] [] q4) (some (.Name "ch" q1)) q5.line env = pure false) :
    WPx pr w Γ ⟨locG X I tok z, [some (.ext (lexE C X line push xs)), some (.ext (itE fr X.x I m live))]⟩ (.Assign [.Name "ch" q1] (.Call (.Attribute (.Name "self" q2) "_read_char" q3) [] [] q4) q5) QF := by
  refine wx_assign ?_ hsw
  refine wp_method ?_ (fun _ _ => rfl) hc
  tm_at "x"
  refine wm_meth L hΓ.2.1 (k := 0) (show ObjAt _ 0 _ from rfl) L.mr hf (by decide) (obj_lookup _ (by decide)) ?_
  refine wl_nil ?_
  refine wc_ext hΓ (xf_read T L hf.fn hz fun x hx => (hs x hx).1) hf.fn (by decide) (fun y hy => by simp at hy; subst hy; exact .obj) (k := 0) (show ObjAt _ 0 _ from rfl) fun mv e' hP => ?_
  obtain ⟨rfl, rfl⟩ := hP
  refine putq_there (putq_there (putq_there (putq_here ?_)))
  exact h
theorem quo_loop {Γ : Cx} {push : List Str} {I m : Addr} {QF : MF → St → Prop} (T : TopF hB mg mb) (L : LexCls hB C N fi fr fg fq mN) (hf : IsFnC hB fr "_netrclex._read_char" bRead) (hΓ : Γof (fScope bGet) Γ hB 5 glG) : ∀ (n : Nat) (line : Int) (xs : List Str) (tok : Str) (z : MV), xs.length < n → tok.length + xs.length ≤ 100000 → (∀ x ∈ xs, sgl x) →
    (∀ z line' xs' tok', lexQ n line xs tok = (true, line', xs', tok') → QF (.ret (.str tok')) ⟨locG X I tok' z, [some (.ext (lexE C X line' push xs')), some (.ext (itE fr X.x I m true))]⟩) →
    (∀ z line' xs' tok', lexQ n line xs tok = (false, line', xs', tok') → xs' = [] → QF .next ⟨locG X I tok' z, [some (.ext (lexE C X line' push [])), some (.ext (itE fr X.x I m false))]⟩) →
    WPfC w Γ C X fr push I m 0 1 "ch" quoB QF n ⟨locG X I tok z, [some (.ext (lexE C X line push xs)), some (.ext (itE fr X.x I m true))]⟩ := by
  intro n
  induction n with
  | zero => intro line xs tok z h; exact absurd h (Nat.not_lt_zero _)
  | succ n ih =>
    intro line xs tok z hn hz hs hret hend
    refine ⟨line, xs, true, rfl, rfl, by (first | exact o45 hz | omega), fun x hx => ⟨(hs x hx).1, (hs x hx).2.1⟩, (fun e => by cases e), fun _ e => ?_, fun _ x xs' e => ?_⟩
    · subst e
      exact hend z line [] tok rfl rfl
    · subst e
      have hx := hs x (.head _)
      have hs' : ∀ y ∈ xs', sgl y := fun y hy => hs y (.tail _ hy)
      have hh := sgl_hd hs'
      refine putq_there (putq_there (putq_there (putq_here ?_)))
      show WPs pr w Γ ⟨locG X I tok (.str x), [some (.ext (lexE C X (lineOf line x) push xs')), some (.ext (itE fr X.x I m true))]⟩ [_, _] _
      simp only [List.length_cons] at hn hz
      unfold lexQ at hret hend
      tm_at "x"
      refine ⟨fun hb => ?_, fun hb => ?_⟩
      · rw [if_pos (show (x == ("\"" : Str)) = true from hb)] at hret
        tm_at "x"
        exact hret _ _ _ _ rfl
      · rw [if_neg (show ¬ (x == ("\"" : Str)) = true from by rw [show (x == ("\"" : Str)) = false from hb]; simp)] at hret hend
        tm_at "x"
        refine ⟨fun hb => ?_, fun hb => ?_⟩
        · rw [if_pos (show (x == ("\\" : Str)) = true from hb)] at hret hend
          refine ws_cons (wx_readch T L hf hΓ (by (first | exact o46 hz | omega)) hs' ?_ (fun _ => rfl) (fun _ => rfl))
          tm_at "x"
          refine w2_icat (by show _ ≤ 16777216; (first | exact o47 hz hh | omega)) ?_
          tm_at "x"
          have hl : xs'.tail.length ≤ xs'.length := by rw [List.length_tail]; (first | exact o48 | omega)
          exact ih _ _ _ _ (by (first | exact o49 hn hl | omega)) (by rw [Str.length_append]; cases xs' with
            | nil => have : (hd1 []).length = 0 := rfl; simp; (first | exact o50 hz this | omega)
            | cons y ys => simp at hh ⊢; simp at hz; (first | exact o51 hz hh | omega)) hh.2 hret hend
        · rw [if_neg (show ¬ (x == ("\\" : Str)) = true from by rw [show (x == ("\\" : Str)) = false from hb]; simp)] at hret hend
          tm_at "x"
          refine w2_icat (by show _ ≤ 16777216; rw [hx.2.2]; (first | exact o52 hz | omega)) ?_
          tm_at "x"
          exact ih _ _ _ _ (by (first | exact o53 hn | omega)) (by rw [Str.length_append, hx.2.2]; (first | exact o54 hz | omega)) hs' hret hend
theorem bar_loop {Γ : Cx} {push : List Str} {I m : Addr} {QF : MF → St → Prop} (T : TopF hB mg mb) (L : LexCls hB C N fi fr fg fq mN) (hf : IsFnC hB fr "_netrclex._read_char" bRead) (hΓ : Γof (fScope bGet) Γ hB 5 glG) : ∀ (n : Nat) (line : Int) (xs : List Str) (tok : Str) (z : MV), xs.length < n → tok.length + xs.length ≤ 100000 → (∀ x ∈ xs, sgl x) →
    (∀ z line' xs' tok', lexB n line xs tok = (true, line', xs', tok') → QF (.ret (.str tok')) ⟨locG X I tok' z, [some (.ext (lexE C X line' push xs')), some (.ext (itE fr X.x I m true))]⟩) →
    (∀ z line' xs' tok', lexB n line xs tok = (false, line', xs', tok') → xs' = [] → QF .next ⟨locG X I tok' z, [some (.ext (lexE C X line' push [])), some (.ext (itE fr X.x I m false))]⟩) →
    WPfC w Γ C X fr push I m 0 1 "ch" barB QF n ⟨locG X I tok z, [some (.ext (lexE C X line push xs)), some (.ext (itE fr X.x I m true))]⟩ := by
  intro n
  induction n with
  | zero => intro line xs tok z h; exact absurd h (Nat.not_lt_zero _)
  | succ n ih =>
    intro line xs tok z hn hz hs hret hend
    refine ⟨line, xs, true, rfl, rfl, by (first | exact o45 hz | omega), fun x hx => ⟨(hs x hx).1, (hs x hx).2.1⟩, (fun e => by cases e), fun _ e => ?_, fun _ x xs' e => ?_⟩
    · subst e
      exact hend z line [] tok rfl rfl
    · subst e
      have hx := hs x (.head _)
      have hs' : ∀ y ∈ xs', sgl y := fun y hy => hs y (.tail _ hy)
      have hh := sgl_hd hs'
      refine putq_there (putq_there (putq_there (putq_here ?_)))
      show WPs pr w Γ ⟨locG X I tok (.str x), [some (.ext (lexE C X (lineOf line x) push xs')), some (.ext (itE fr X.x I m true))]⟩ [_, _] _
      simp only [List.length_cons] at hn hz
      unfold lexB at hret hend
      tm_at "x"
      refine wp_lexAttr L hΓ.2.1 (k := 0) (show ObjAt _ 0 _ from rfl) (by tm_at "lk") (mv := .str wsLex) (by tm_at "lk") (w2_inStr (wb_bool ?_))
      refine ⟨fun hb => ?_, fun hb => ?_⟩
      · rw [if_pos (show isWs x = true from hb)] at hret
        tm_at "x"
        exact hret _ _ _ _ rfl
      · rw [if_neg (show ¬ isWs x = true from by rw [show isWs x = false from hb]; simp)] at hret hend
        tm_at "x"
        refine ⟨fun hb => ?_, fun hb => ?_⟩
        · rw [if_pos (show (x == ("\\" : Str)) = true from hb)] at hret hend
          refine ws_cons (wx_readch T L hf hΓ (by (first | exact o46 hz | omega)) hs' ?_ (fun _ => rfl) (fun _ => rfl))
          tm_at "x"
          refine w2_icat (by show _ ≤ 16777216; (first | exact o47 hz hh | omega)) ?_
          tm_at "x"
          have hl : xs'.tail.length ≤ xs'.length := by rw [List.length_tail]; (first | exact o48 | omega)
          exact ih _ _ _ _ (by (first | exact o49 hn hl | omega)) (by rw [Str.length_append]; cases xs' with
            | nil => have : (hd1 []).length = 0 := rfl; simp; (first | exact o50 hz this | omega)
            | cons y ys => simp at hh ⊢; simp at hz; (first | exact o51 hz hh | omega)) hh.2 hret hend
        · rw [if_neg (show ¬ (x == ("\\" : Str)) = true from by rw [show (x == ("\\" : Str)) = false from hb]; simp)] at hret hend
          tm_at "x"
          refine w2_icat (by show _ ≤ 16777216; rw [hx.2.2]; (first | exact o52 hz | omega)) ?_
          tm_at "x"
          exact ih _ _ _ _ (by (first | exact o53 hn | omega)) (by rw [Str.length_append, hx.2.2]; (first | exact o54 hz | omega)) hs' hret hend
theorem out_loop {Γ : Cx} {push : List Str} {I m : Addr} {QF : MF → St → Prop} (T : TopF hB mg mb) (L : LexCls hB C N fi fr fg fq mN) (hf : IsFnC hB fr "_netrclex._read_char" bRead) (hΓ : Γof (fScope bGet) Γ hB 5 glG) : ∀ (n : Nat) (line : Int) (xs : List Str) (z : MV), xs.length < n → xs.length ≤ 90000 → (∀ x ∈ xs, sgl x) →
    (∀ z line' xs' tok' live, lexO n line xs = (line', xs', tok') → QF (.ret (.str tok')) ⟨locG X I tok' z, [some (.ext (lexE C X line' push xs')), some (.ext (itE fr X.x I m live))]⟩) →
    (∀ z line' tok', lexO n line xs = (line', [], tok') → QF .next ⟨locG X I tok' z, [some (.ext (lexE C X line' push [])), some (.ext (itE fr X.x I m false))]⟩) →
    WPfC w Γ C X fr push I m 0 1 "ch" outB QF (n + 1) ⟨locG X I Str.empty z, [some (.ext (lexE C X line push xs)), some (.ext (itE fr X.x I m true))]⟩ := by
  intro n
  induction n with
  | zero => intro line xs z h; exact absurd h (Nat.not_lt_zero _)
  | succ n ih =>
    intro line xs z hn hz hs hret hend
    have fin : ∀ k z line' tok', lexO (n + 1) line xs = (line', [], tok') → WPfC w Γ C X fr push I m 0 1 "ch" outB QF (k + 1) ⟨locG X I tok' z, [some (.ext (lexE C X line' push [])), some (.ext (itE fr X.x I m false))]⟩ := fun k z line' tok' e =>
      ⟨line', [], false, rfl, rfl, Nat.zero_le _, (fun _ h => nomatch h), fun _ => hend z line' tok' e, (fun e => by cases e), fun e => by cases e⟩
    refine ⟨line, xs, true, rfl, rfl, by (first | exact o55 hz | omega), fun x hx => ⟨(hs x hx).1, (hs x hx).2.1⟩, (fun e => by cases e), fun _ e => ?_, fun _ x xs' e => ?_⟩
    · subst e
      exact hend z line Str.empty rfl
    · subst e
      have hx := hs x (.head _)
      have hs' : ∀ y ∈ xs', sgl y := fun y hy => hs y (.tail _ hy)
      have hh := sgl_hd hs'
      refine putq_there (putq_there (putq_there (putq_here ?_)))
      show WPs pr w Γ ⟨locG X I Str.empty (.str x), [some (.ext (lexE C X (lineOf line x) push xs')), some (.ext (itE fr X.x I m true))]⟩ [_, _] _
      simp only [List.length_cons] at hn hz
      unfold lexO at hret hend fin
      refine ws_cons (wx_if (wt_compare (wp_name (by tm_at "lk") rfl (wp_lexAttr L hΓ.2.1 (k := 0) (show ObjAt _ 0 _ from rfl) (by tm_at "lk") (mv := .str wsLex) (by tm_at "lk") (w2_inStr (wb_bool ?_)))) rfl))
      refine ⟨fun hb => ?_, fun hb => ?_⟩
      · rw [if_pos (show isWs x = true from hb)] at hret hend
        tm_at "x"
        exact ih _ _ _ (by (first | exact o53 hn | omega)) (by (first | exact o56 hz | omega)) hs' hret hend
      · rw [if_neg (show ¬ isWs x = true from by rw [show isWs x = false from hb]; simp)] at hret hend fin
        refine ws_nil (then_next (ws_cons (wx_if ?_)))
        tm_at "x"
        refine ⟨fun hb => ?_, fun hb => ?_⟩
        · rw [if_pos (show (x == ("\"" : Str)) = true from hb)] at hret hend fin
          refine ws_cons (wx_forC T L hf hΓ (by decide) (k := 0) (kI := 1) (by decide) (by tm_at "lk") (.inl rfl) n (quo_loop T L hf hΓ n _ xs' Str.empty _ (by (first | exact o53 hn | omega)) (by show 0 + _ ≤ _; (first | exact o57 hz | omega)) hs' (fun z line' xs'' tok' e => ?_) fun z line' xs'' tok' e e2 => ?_))
          · exact hret _ _ _ _ _ (by rw [e])
          · refine then_next (ws_nil (then_next (ws_nil (turn_next (fin n _ _ _ (by rw [e, e2]))))))
        · rw [if_neg (show ¬ (x == ("\"" : Str)) = true from by rw [show (x == ("\"" : Str)) = false from hb]; simp)] at hret hend fin
          tm_at "x"
          refine ⟨fun hb => ?_, fun hb => ?_⟩
          · rw [if_pos (show (x == ("\\" : Str)) = true from hb)] at hret hend fin
            refine ws_cons (wx_readch T L hf hΓ (by (first | exact o58 hz | omega)) hs' ?_ (fun _ => rfl) (fun _ => rfl))
            refine then_next (ws_nil (then_next (ws_cons ?_)))
            tm_at "x"
            refine w2_icat (by show 0 + _ ≤ 16777216; (first | exact o59 hh | omega)) ?_
            refine putq_there (putq_here (then_next ?_))
            have hl : xs'.tail.length ≤ xs'.length := by rw [List.length_tail]; (first | exact o48 | omega)
            refine ws_cons (wx_forC T L hf hΓ (by decide) (k := 0) (kI := 1) (by decide) (by tm_at "lk") (.inl rfl) n (bar_loop T L hf hΓ n _ _ _ _ (by (first | exact o49 hn hl | omega)) (by rw [Str.length_append]; show 0 + _ + _ ≤ _; (first | exact o60 hz hh hl | omega)) hh.2 (fun z line' xs'' tok' e => ?_) fun z line' xs'' tok' e e2 => ?_))
            · exact hret _ _ _ _ _ (by rw [e])
            · refine then_next (ws_nil (then_next (ws_nil (turn_next (fin n _ _ _ (by rw [e, e2]))))))
          · rw [if_neg (show ¬ (x == ("\\" : Str)) = true from by rw [show (x == ("\\" : Str)) = false from hb]; simp)] at hret hend fin
            refine ws_nil (then_next (ws_cons ?_))
            tm_at "x"
            refine w2_icat (by show 0 + _ ≤ 16777216; rw [hx.2.2]; (first | exact o61 | omega)) ?_
            refine putq_there (putq_here (then_next ?_))
            refine ws_cons (wx_forC T L hf hΓ (by decide) (k := 0) (kI := 1) (by decide) (by tm_at "lk") (.inl rfl) n (bar_loop T L hf hΓ n _ _ _ _ (by (first | exact o53 hn | omega)) (by rw [Str.length_append, hx.2.2]; show 0 + _ + _ ≤ _; (first | exact o62 hz | omega)) hs' (fun z line' xs'' tok' e => ?_) fun z line' xs'' tok' e e2 => ?_))
            · exact hret _ _ _ _ _ (by rw [e])
            · refine then_next (ws_nil (then_next (ws_nil (turn_next (fin n _ _ _ (by rw [e, e2]))))))
end
section
variable {w : World} {hB : Heap} {mg mb : Str → Option Value} {C N fi fr fg fq : Addr} {mN : Str → Option Value} {X : LX}
noncomputable def lexG (line : Int) (xs : List Str) : Int × List Str × Str := lexO (xs.length + 1) line xs
theorem xf_get {line : Int} {push xs : List Str} (T : TopF hB mg mb) (L : LexCls hB C N fi fr fg fq mN) (hf : IsFnC hB fr "_netrclex._read_char" bRead) (hg : IsFnC hB fg "_netrclex.get_token" bGet) (hgl : ∀ p ∈ glG, GlobAt w hB mg mb (fScope bGet) p) (hp : push.length ≤ 1000) (hz : xs.length ≤ 90000) (hs : ∀ x ∈ xs, sgl x) :
    ExtFn pr w 6 hB (.ref fg) [.obj (.ref X.x)] (lexE C X line push xs) (fun v e => match push with
      | p :: push' => v = .str p ∧ e = lexE C X line push' xs
      | [] => v = .str (lexG line xs).2.2 ∧ e = lexE C X (lexG line xs).1 [] (lexG line xs).2.1) := by
  refine ExtFn.of_stmt T hg.fn ["self"] ["token", "fiter", "ch"] glG bG rfl sG hgl rfl rfl ?_
  intro Γ hΓ
  have hgb := hΓ.2.1
  have hgg : Γ.glob = glG := hΓ.2.2.1
  show WPs pr w Γ ⟨[("self", .obj (.ref X.x)), ("token", .undef), ("fiter", .undef), ("ch", .undef)], [some (.ext (lexE C X line push xs))]⟩ _ _
  refine ws_cons (wx_if (wt_value (wp_lexAttr L hgb (k := 0) (show ObjAt _ 0 _ from rfl) (by tm_at "lk") (mv := .obj (.ref X.P)) (by tm_at "lk") (wb_push hp (k := 0) (show ObjAt _ 0 _ from rfl) ?_)) (fun _ _ => rfl)))
  cases push with
  | cons q push' =>
    refine ⟨fun _ => ?_, fun e => by cases e⟩
    refine ws_cons (wx_return ?_)
    refine' wp_method ?_ ?he ?hc
    case he => intro _ _; rfl
    case hc => intro _; rfl
    refine wp_lexAttr L hgb (k := 0) (show ObjAt _ 0 _ from rfl) (by tm_at "lk") (mv := .obj (.ref X.P)) (by tm_at "lk") ?_
    refine wm_list (k := 0) (show ObjAt _ 0 _ from rfl) PySem.F.slot_list_pop PySem.F.type_list_pop ?_
    tm_at "x"
    refine wc_pop0 hp rfl (k := 0) (show ObjAt _ 0 _ from rfl) ?_
    exact then_ret (then_ret ⟨_, _, rfl, .str, rfl, rfl⟩)
  | nil =>
    refine ⟨fun e => (by cases e), fun _ => ?_⟩
    refine ws_nil (then_next (ws_cons (wx_assign (wp_str (putq_there (putq_here (then_next (ws_cons ?_))))) (fun _ => rfl))))
    refine' wx_iter rfl L hf hgb (k := 0) (show ObjAt _ 0 _ from rfl) (by tm_at "lk") hgg (by tm_at "lk") (fun I m => ?_) ?hc ?hst ?hs
    case hc => intro _; rfl
    case hst => intro _; rfl
    case hs => intro _; rfl
    refine putq_there (putq_there (putq_here (then_next (ws_cons ?_))))
    refine wx_forC T L hf hΓ (by decide) (k := 0) (kI := 1) (by decide) (by tm_at "lk") (.inl rfl) (xs.length + 1 + 1) (out_loop T L hf hΓ (xs.length + 1) line xs _ (Nat.lt_succ_self _) hz hs (fun z line' xs' tok' live e => ?_) fun z line' tok' e => ?_)
    · refine then_ret ⟨_, _, rfl, .str, ?_, ?_⟩ <;> (unfold lexG; rw [e])
    · refine then_next ?_
      tm_at "x"
      refine ⟨_, _, rfl, .str, ?_, ?_⟩ <;> (unfold lexG; rw [e])
theorem sQ : ScopeOk (fScope bPush) ((["self", "token"] : List Str) ++ ([] : List Str)) := ⟨rfl, by decide +kernel, by decide +kernel, by decide +kernel⟩
theorem bQ : ∀ doc pm cdv ct vs, vs.length = (["self", "token"] : List Str).length → bindArgs (fnOf (fName bPush) "_netrclex.push_token" (fArgs bPush) (fBody bPush) (fScope bPush) .none .none doc pm none cdv ct) ⟨vs, []⟩ = pure ((["self", "token"] : List Str).zip vs) := by intro doc pm cdv ct vs h; obtain ⟨v, u, rfl⟩ := len2 h; rfl
theorem xf_push {line : Int} {push xs : List Str} {x : Str} (T : TopF hB mg mb) (L : LexCls hB C N fi fr fg fq mN) (hq : IsFnC hB fq "_netrclex.push_token" bPush) (hp : push.length ≤ 1000) :
    ExtFn pr w 1 hB (.ref fq) [.obj (.ref X.x), .str x] (lexE C X line push xs) (fun v e => v = .none ∧ e = lexE C X line (push ++ [x]) xs) := by
  refine ExtFn.of_stmt T hq.fn ["self", "token"] [] [] bQ rfl sQ nofun rfl rfl ?_
  intro Γ hΓ
  have hgb := hΓ.2.1
  show WPs pr w Γ ⟨[("self", .obj (.ref X.x)), ("token", .str x)], [some (.ext (lexE C X line push xs))]⟩ [_] _
  refine ws_cons ?_
  refine' wx_expr ?_ ?hs
  case hs => intro _; rfl
  refine' wp_method ?_ ?he ?hc
  case he => intro _ _; rfl
  case hc => intro _; rfl
  refine wp_lexAttr L hgb (k := 0) (show ObjAt _ 0 _ from rfl) (by tm_at "lk") (mv := .obj (.ref X.P)) (by tm_at "lk") ?_
  refine wm_list (k := 0) (show ObjAt _ 0 _ from rfl) PySem.F.slot_list_append PySem.F.type_list_append ?_
  tm_at "x"
  refine wc_app hp (k := 0) (show ObjAt _ 0 _ from rfl) ?_
  tm_at "x"
  exact ⟨_, _, rfl, rfl, rfl⟩
end
noncomputable def strE (S : Addr) (xs : List Str) : Ext where
  rel := fun w _ _ fp h => fp = [S] ∧ ∃ vs n, h.get? S = some (listO vs n) ∧ VRs w (fun _ => none) noρ (xs.map .str) vs
  mono := fun _ _ _ _ _ _ _ _ _ r => r
  stab := fun _ _ _ _ _ _ hk r => by obtain ⟨rfl, vs, n, r1, r2⟩ := r; exact ⟨rfl, vs, n, (hk _ (.head _)).trans r1, r2⟩
  nor := fun _ _ _ _ _ r => r
noncomputable def insE (C x d : Addr) (m : Str → Option Value) : Ext where
  rel := fun _ _ _ fp h => fp = [x, d] ∧ InsAt C h x d m
  mono := fun _ _ _ _ _ _ _ _ _ r => r
  stab := fun _ _ _ _ _ _ hk r => by obtain ⟨rfl, r1⟩ := r; exact ⟨rfl, r1.at (fun o e => (hk _ (.head _)).trans e) (fun o e => (hk _ (.tail _ (.head _))).trans e)⟩
  nor := fun _ _ _ _ _ r => r
noncomputable def lamQ : Str := "_law_lexer.<locals>.<lambda>"
noncomputable def tabIs (F : Frz) : Option (Addr × Obj) → Option Obj → Prop
  | none, o => o = some (tabObj #[])
  | some (c, co), o => o = some (tabObj #[rawInt lamPos.line, rawInt lamPos.col, .ref c]) ∧ F c = some co ∧ CodeOk co lamQ
noncomputable def tabE (P : Addr) (o : Option (Addr × Obj)) : Ext where
  rel := fun _ F _ fp h => fp = [P] ∧ tabIs F o (h.get? P)
  mono := fun _ F F' _ _ _ _ hF _ r => ⟨r.1, by
    obtain ⟨_, r⟩ := r
    cases o with
    | none => exact r
    | some p => obtain ⟨c, co⟩ := p; exact ⟨r.1, hF _ _ r.2.1, r.2.2⟩⟩
  stab := fun _ _ _ _ _ _ hk r => by obtain ⟨rfl, r1⟩ := r; exact ⟨rfl, by rw [hk _ (.head _)]; exact r1⟩
  nor := fun _ _ _ _ _ r => r
noncomputable def lamX (lam cd : Addr) (co : Obj) (cel : Addr) : Ext where
  rel := fun _ F _ fp h => fp = [lam] ∧ (∃ qual pm ctv, h.get? lam = some (kla_obj "<lambda>" qual lamArgs lamBody lamScope [("signs", cel)] pm cd ctv) ∧ CodeOk co qual) ∧ F cd = some co
  mono := fun _ _ _ _ _ _ _ hF _ r => ⟨r.1, r.2.1, hF _ _ r.2.2⟩
  stab := fun _ _ _ _ _ _ hk r => by
    obtain ⟨rfl, ⟨q, pm, ctv, r1, l2⟩, l3⟩ := r
    exact ⟨rfl, ⟨q, pm, ctv, (hk _ (.head _)).trans r1, l2⟩, l3⟩
  nor := fun _ _ _ _ _ r => r
section
variable {prog : Program} {w : World} {Γ : Cx} {K : Kp} {σ : St} {ps : List (MV × Value)} {s : Shared} {C x d : Addr} {m : Str → Option Value} {k : Nat} {hB : Heap} {N fi fr fg fq : Addr} {mN : Str → Option Value} {QF : MF → St → Prop}
theorem set_core {name : Str} {mv : MV} {v : Value} {ns : List Str} {R : Unit → Shared → Prop} (X : ClsAt hB C N mN) (hns : mN "__setattr__" = none) (hna : mN name = none) (hob : typeLookup (.type "object") name = pure none) (hΓ : ∀ b o, hB.get? b = some o → Γ.hB b = some o)
    (hk : ObjAt σ k (.ext (insE C x d m))) (hw : PySem.Within m ns) (hsz : ns.length ≤ sizeLine) (r : Rel prog w Γ K σ ((mv, v) :: ps) s)
    (hR : ∀ s', Rel prog w Γ K { σ with objs := σ.objs.set k (some (.ext (insE C x d fun y => if y = name then some v else m y))) } ps s' → R () s') :
    wpAny (model prog w) Γ.A (setAttr (.ref x) name v) R (fun _ _ => False) s := by
  obtain ⟨F, m', cm, fps, Co⟩ := r.drop
  obtain ⟨fp, hfp, hor⟩ := Co.trk k _ hk
  have hrel : fp = [x, d] ∧ InsAt C s.heap x d m := by cases hor with | ext _ _ _ hh => exact hh
  obtain ⟨rfl, I⟩ := hrel
  have hF : ∀ b o, hB.get? b = some o → s.heap.get? b = some o := fun b o e => Co.frz b o (Co.base b o (hΓ b o e))
  have X' := X.keeps hF
  obtain ⟨nm, q, bs, sn, sub, col, dd, k0, k1, k2, k3, k5, hC⟩ := X'.obj
  have hxC : x ≠ C := by
    rintro rfl
    obtain ⟨nm, q, bs, sn, sub, col, dd, k0, k1, k2, k3, k5, hC₀⟩ := X.obj
    exact Co.frzH x _ (Co.base _ _ (hΓ _ _ hC₀)) (Co.mem_hot hk hfp (.head _))
  obtain ⟨hp, g, dr, t, os⟩ := s
  refine wpAny_with_toks (Nat.le_refl _) (store_attrFk PySem.F.store_object hC X'.ns hns hna hob hxC I.fk (fun h' tk' I' hk' hsame => ?_) hw hsz)
  intro ht
  obtain ⟨⟨o, i1, i2, i3, i4⟩, i5, i6, i7⟩ := I
  have hs : ∀ b o, b ∉ [x, d] → hp.get? b = some o → h'.get? b = some o := fun b o hb e => hk' b o (fun q => hb (by simp [q])) (fun o₀ d' e₀ ed => by
    obtain rfl := Option.some.inj (i1.symm.trans e₀); obtain rfl := Option.some.inj (i4.symm.trans ed); exact fun q => hb (by simp [q])) e
  obtain ⟨o₁, s1, s2, s3, s4, s5⟩ := hsame o i1
  have I₁ : InsAt C h' x d (fun y => if y = name then some v else m y) := by
    obtain ⟨o₂, j1, j2, j3, j4⟩ := I'
    obtain rfl := Option.some.inj (s1.symm.trans j1)
    rcases j4 with ⟨j4, _⟩ | ⟨d', j4, j5, j6, j7⟩
    · rw [s5 _ i4] at j4; cases j4
    · obtain rfl := Option.some.inj ((s5 _ i4).symm.trans j4)
      exact ⟨⟨o₁, s1, j2, j3, j4⟩, j5, j6, j7⟩
  refine hR _ ⟨F, m', cm, fps, Co.turnObj hk hfp hs (fun a ha => ?_) (Sub.refl F) (fun b x e => hs b x (fun q => Co.frzH b x e (Co.mem_hot hk hfp q)) (Co.frz b x e)) (fun _ _ e => .inl e) (.ext (insE C x d _) [x, d] h' (show _ ∧ _ from ⟨rfl, I₁⟩)) (fun _ e => by cases e) tk' ht⟩
  simp only [List.mem_cons, List.not_mem_nil, or_false] at ha
  rcases ha with rfl | rfl
  · exact ⟨_, s1⟩
  · obtain ⟨_, _, ⟨od, _, _, e, _⟩, _⟩ := I₁; exact ⟨_, e⟩
theorem wx_setattr {n name : Str} {np ta p : Pos} {e : Expr} {ns : List Str} (X : ClsAt hB C N mN) (hns : mN "__setattr__" = none) (hna : mN name = none) (hob : typeLookup (.type "object") name = pure none) (hΓ : ∀ b o, hB.get? b = some o → Γ.hB b = some o)
    (hk : ObjAt σ k (.ext (insE C x d m))) (hw : PySem.Within m ns) (hsz : ns.length ≤ sizeLine) (hn : Lk n (.obj (.ref x)) σ.loc)
    (h : WPe prog w Γ σ e fun mv σ₁ => σ₁ = σ ∧ ∀ v, (∃ F ρ, VR w F ρ mv v) → QF .next { σ with objs := σ.objs.set k (some (.ext (insE C x d fun y => if y = name then some v else m y))) })
    (hs : ∀ env, swapsWith e (some (.Attribute (.Name n np) name ta)) p.line env = pure false) : WPx prog w Γ σ (.Assign [.Attribute (.Name n np) name ta] e p) QF := by
  intro K ps s R r hR
  refine plainObj_wpAny_Assign_Attribute (h K ps s _ r fun mv v σ₁ s₁ hq r₁ => ?_) (hs _)
  obtain ⟨rfl, hq⟩ := hq
  refine (wp_name (Q := fun mv σ' => mv = .obj (.ref x) ∧ σ' = σ₁) hn rfl ⟨rfl, rfl⟩) K _ s₁ _ r₁ fun mv' u σ₂ s₂ hq₂ r₂ => ?_
  obtain ⟨rfl, rfl⟩ := hq₂
  obtain rfl := r₂.obj
  have hv : ∃ F ρ, VR w F ρ mv v := let ⟨F, _, _, fps, Co⟩ := r₂; ⟨F, _, Co.ps (mv, v) (.tail _ (.head _))⟩
  exact set_core X hns hna hob hΓ hk hw hsz r₂.drop fun s' r' => hR .next .next _ s' (hq v hv) ⟨rfl, r'⟩
theorem wx_setnew {n name : Str} {np ta p pl : Pos} {ns : List Str} (X : ClsAt hB C N mN) (hns : mN "__setattr__" = none) (hna : mN name = none) (hob : typeLookup (.type "object") name = pure none) (hΓ : ∀ b o, hB.get? b = some o → Γ.hB b = some o)
    (hk : ObjAt σ k (.ext (insE C x d m))) (hw : PySem.Within m ns) (hsz : ns.length ≤ sizeLine) (hn : Lk n (.obj (.ref x)) σ.loc)
    (h : ∀ P, Γ.sh.heap.get? P = none → QF .next { σ with objs := (σ.objs ++ [some (MO.ext (strE P []))]).set k (some (MO.ext (insE C x d fun y => if y = name then some (.ref P) else m y))) }) : WPx prog w Γ σ (.Assign [.Attribute (.Name n np) name ta] (.List [] pl) p) QF := by
  intro K ps s R r hR
  refine plainObj_wpAny_Assign_Attribute (wpAny_List (wpAny_items_nil ⟨Nat.zero_le _, ?_⟩)) rfl
  obtain ⟨F, m', cm, fps, Co⟩ := r
  have C' := Co.addObj (o := .ext (strE s.heap.objs.size [])) (fp := [s.heap.objs.size]) (h' := s.heap.push (listO [] 0)) (fun b x e => Heap.get?_push_of_some _ e) (by simp) (fun a ha => by simp at ha; subst ha; exact get?_size _)
    (fun a ha => by simp at ha; subst ha; exact ⟨_, Heap.get?_push_size _ rfl⟩) (.ext _ _ _ (show _ ∧ _ from ⟨rfl, [], 0, Heap.get?_push_size _ rfl, VRs.nil⟩)) s.toks
  have hf : Γ.sh.heap.get? s.heap.objs.size = none := by
    cases q : Γ.sh.heap.get? s.heap.objs.size with
    | none => rfl
    | some o => obtain ⟨o', e⟩ := Co.ext _ o q; rw [get?_size] at e; cases e
  have hkl : k < σ.objs.length := (List.getElem?_eq_some_iff.mp hk).1
  have r₁ : Rel prog w Γ K { σ with objs := σ.objs ++ [some (MO.ext (strE s.heap.objs.size []))] } ((.obj (.ref s.heap.objs.size), .ref s.heap.objs.size) :: ps) { s with heap := s.heap.push (listO [] 0) } := ⟨F, m', cm, _, C'.cons (.obj _)⟩
  refine (wp_name (σ := { σ with objs := σ.objs ++ [some (MO.ext (strE s.heap.objs.size []))] }) (Q := fun mv σ' => mv = .obj (.ref x) ∧ σ' = { σ with objs := σ.objs ++ [some (MO.ext (strE s.heap.objs.size []))] }) hn rfl ⟨rfl, rfl⟩) K _ _ _ r₁ fun mv' u σ₂ s₂ hq₂ r₂ => ?_
  obtain ⟨rfl, rfl⟩ := hq₂
  obtain rfl := r₂.obj
  have hk2 : ObjAt { σ with objs := σ.objs ++ [some (MO.ext (strE s.heap.objs.size []))] } k (.ext (insE C x d m)) := by
    show (σ.objs ++ [some (MO.ext (strE s.heap.objs.size []))])[k]? = some (some (.ext (insE C x d m)))
    rw [List.getElem?_append_left hkl]; exact hk
  exact set_core X hns hna hob hΓ hk2 hw hsz r₂.drop fun s' r' => hR .next .next _ s' (h _ hf) ⟨rfl, r'⟩
end
structure InitMap (v : Value) (P : Addr) (m : Str → Option Value) : Prop where
  line : ∃ t, m "lineno" = some (.int 1 t)
  ins : m "instream" = some v
  ws : ∃ t, m "whitespace" = some (.str wsLex t)
  push : m "pushback" = some (.ref P)
  none : ∀ n, n ∉ lexNames → m n = none
theorem sI : ScopeOk (fScope bInit) ((["self", "fp"] : List Str) ++ ([] : List Str)) := ⟨rfl, by decide +kernel, by decide +kernel, by decide +kernel⟩
theorem bI : ∀ doc pm cdv ct vs, vs.length = (["self", "fp"] : List Str).length → bindArgs (fnOf (fName bInit) "_netrclex.__init__" (fArgs bInit) (fBody bInit) (fScope bInit) .none .none doc pm none cdv ct) ⟨vs, []⟩ = pure ((["self", "fp"] : List Str).zip vs) := by intro doc pm cdv ct vs h; obtain ⟨v, u, rfl⟩ := len2 h; rfl
section
variable {w : World} {hB : Heap} {mg mb : Str → Option Value} {C N fi fr fg fq : Addr} {mN : Str → Option Value}
theorem init_call {A : Around} {F : Frz} {s : Shared} {x d : Addr} {v : Value} {R : Result → Shared → Prop} (T : TopF hB mg mb) (L : LexCls hB C N fi fr fg fq mN) (hi : IsFnC hB fi "_netrclex.__init__" bInit)
    (hd : A.depth + 1 < recursionLimit) (hu : A.units + 20 < cLine) (hh : A.handled = none) (htk : 1 ≤ s.toks) (hB1 : ∀ b o, hB.get? b = some o → F b = some o) (hF : ∀ b o, F b = some o → s.heap.get? b = some o)
    (I : InsAt C s.heap x d fun _ => none) (hFx : F x = none) (hFd : F d = none)
    (hR : ∀ P m n h' tk, s.toks ≤ tk → (∀ b o, b ≠ x → b ≠ d → s.heap.get? b = some o → h'.get? b = some o) → s.heap.get? P = none → InsAt C h' x d m → InitMap v P m → h'.get? P = some (listO [] n) → R (.ok (.ret .none)) { s with heap := h', toks := tk }) :
    codeAny (model pr w) A (.call (.ref fi) ⟨[.ref x, v], []⟩) R s := by
  obtain ⟨od, osl, pm, cdv, ct, doc, h1, h2⟩ := hi
  have hxd : d ≠ x := I.2.1
  refine call_core (ℓ := 0) (fp := [x, d]) (e := insE C x d fun _ => none) (params := ["self", "fp"]) (rest := []) (args := [.obj (.ref x), .obj v]) (glob := []) (QF := fun Γ mf σ => mf = .next ∧ ∃ m P, σ.objs = [some (.ext (insE C x d m)), some (.ext (strE P []))] ∧ InitMap v P m ∧ Γ.sh.heap.get? P = none)
    h1 h2 T.nolimit rfl rfl rfl rfl (bI doc pm cdv ct) rfl sI (fun _ _ h => nomatch h) rfl rfl hd hu hh htk hB1 hF (VRs.cons (.obj _) (VRs.cons (.obj _) VRs.nil)) (show _ ∧ _ from ⟨rfl, I⟩) (by simp [hxd.symm]) (fun a ha => by simp at ha; rcases ha with rfl | rfl <;> assumption) (fun a ha => ?_) (fun Γ hΓ fr _ => ?_) (fun Γ mf fl σ' s' fr hq hr => ?_)
  · simp only [List.mem_cons, List.not_mem_nil, or_false] at ha
    obtain ⟨⟨o, i1, _⟩, _, ⟨od, _, _, i2, _⟩, _⟩ := I
    rcases ha with rfl | rfl
    · exact ⟨_, i1⟩
    · exact ⟨_, i2⟩
  · have hg := hΓ.2.1
    show WPs pr w Γ ⟨[("self", .obj (.ref x)), ("fp", .obj v)], [some (.ext (insE C x d fun _ => none))]⟩ [_, _, _, _] _
    refine ws_cons (wx_setattr L.cls (L.quiet _ (by decide)) (L.quiet _ (by decide)) (obj_lookup _ (by decide)) hg (k := 0) (show ObjAt _ 0 _ from rfl) (ns := []) (fun y hy => absurd rfl hy) (by decide) (by tm_at "lk") (wp_int ⟨rfl, fun v1 hv1 => then_next (ws_cons ?_)⟩) (fun _ => rfl))
    refine wx_setattr L.cls (L.quiet _ (by decide)) (L.quiet _ (by decide)) (obj_lookup _ (by decide)) hg (k := 0) (show ObjAt _ 0 _ from rfl) (PySem.Within.cons _ _ (fun y hy => absurd rfl hy : PySem.Within (fun _ => none) [])) (by decide) (by tm_at "lk") (wp_name (by tm_at "lk") rfl ⟨rfl, fun v2 hv2 => then_next (ws_cons ?_)⟩) (fun _ => rfl)
    refine wx_setattr L.cls (L.quiet _ (by decide)) (L.quiet _ (by decide)) (obj_lookup _ (by decide)) hg (k := 0) (show ObjAt _ 0 _ from rfl) (PySem.Within.cons _ _ (PySem.Within.cons _ _ (fun y hy => absurd rfl hy : PySem.Within (fun _ => none) []))) (by decide) (by tm_at "lk") (wp_str ⟨rfl, fun v3 hv3 => then_next (ws_cons ?_)⟩) (fun _ => rfl)
    refine wx_setnew L.cls (L.quiet _ (by decide)) (L.quiet _ (by decide)) (obj_lookup _ (by decide)) hg (k := 0) (show ObjAt _ 0 _ from rfl) (PySem.Within.cons _ _ (PySem.Within.cons _ _ (PySem.Within.cons _ _ (fun y hy => absurd rfl hy : PySem.Within (fun _ => none) [])))) (by decide) (by tm_at "lk") (fun P hP => then_next (ws_nil ?_))
    obtain ⟨_, _, hv1⟩ := hv1
    obtain ⟨_, _, hv2⟩ := hv2
    obtain ⟨_, _, hv3⟩ := hv3
    cases hv1 with | int _ t1 =>
    cases hv2
    cases hv3 with | str _ t3 =>
    refine ⟨rfl, _, P, rfl, ⟨⟨t1, ?_⟩, ?_, ⟨t3, ?_⟩, ?_, fun n hn => ?_⟩, hP⟩
    · rw [if_neg (by decide), if_neg (by decide), if_neg (by decide), if_pos rfl]
    · rw [if_neg (by decide), if_neg (by decide), if_pos rfl]
    · rw [if_neg (by decide), if_pos rfl]; rfl
    · rw [if_pos rfl]
    · simp only [lexNames, List.mem_cons, List.not_mem_nil, or_false, not_or] at hn
      rw [if_neg hn.2.2.2, if_neg hn.2.2.1, if_neg hn.2.1, if_neg hn.1]
  · obtain ⟨rfl, m, P, ho, hm, hP⟩ := hq
    obtain ⟨rfl, F', m', cm, fps, Co⟩ := hr
    obtain ⟨h', tk', es⟩ := Co.same
    obtain ⟨lf, elf⟩ := Co.pre
    have hlen := Co.len
    rw [ho, elf, fr.fps0] at hlen
    obtain ⟨fpP, rfl⟩ : ∃ fpP, lf = [fpP] := by
      match lf, hlen with
      | [q], _ => exact ⟨q, rfl⟩
    obtain ⟨fp1, e1, or1⟩ := Co.trk 0 _ (by rw [ho]; rfl)
    obtain ⟨fp2, e2, or2⟩ := Co.trk 1 _ (by rw [ho]; rfl)
    have r1 : fp1 = [x, d] ∧ InsAt C s'.heap x d m := by cases or1 with | ext _ _ _ hh => exact hh
    have r2 : fp2 = [P] ∧ ∃ vs n, s'.heap.get? P = some (listO vs n) ∧ VRs w (fun _ => none) noρ (([] : List Str).map MV.str) vs := by cases or2 with | ext _ _ _ hh => exact hh
    obtain ⟨_, vs, n, p1, p2⟩ := r2
    have : vs = [] := List.length_eq_zero_iff.mp p2.1
    subst this
    have htk' := Co.tok
    have hkept := Co.kept
    rw [fr.sh] at es hP
    rw [fr.lo] at htk'
    rw [es] at r1 p1 htk' hkept ⊢
    exact hR P m n h' tk' htk' (fun b o hx hd e => hkept b o ((if_neg (by simp [hx, hd])).trans e)) hP r1.2 hm p1
end
section
variable {prog : Program} {w : World} {Γ : Cx} {K : Kp} {σ : St} {ps : List (MV × Value)} {s : Shared} {F : Frz} {m cm : Str → Option Value} {fps : List (List Addr)}
theorem kept_cls {h : Heap} {C N : Addr} {mN : Str → Option Value} (X : ClsAt h C N mN) : Kept (.ref C) h := fun M => ⟨.machine, .inr (.inl rfl), by
  intro A Q E s k q
  obtain ⟨nm, qq, bs, sn, sub, col, dd, k0, k1, k2, k3, k5, hC⟩ := X.obj
  obtain ⟨hp, g, d, t, os⟩ := s
  exact wpAny_keeperOf_exc (k _ _ hC) q⟩
end
section
variable {w : World} {Γ : Cx} {σ : St} {hB : Heap} {mg mb : Str → Option Value} {C N fi fr fg fq : Addr} {mN : Str → Option Value} {Q : MV → St → Prop}
theorem wp_mkins {sc : Scope} {ℓ : Nat} {gl gl' : List (Str × MV)} {e : Expr} {pi p : Pos} {mv₀ : MV} {v₀ : Value} (T : TopF hB mg mb) (L : LexCls hB C N fi fr fg fq mN) (hi : IsFnC hB fi "_netrclex.__init__" bInit) (hΓ : Γof sc Γ hB ℓ gl') (hℓ : 3 ≤ ℓ) (hgl : Γ.glob = gl) (hn : Lk "_netrclex" (.obj (.ref C)) gl)
    (harg : WPe pr w Γ σ e fun mv σ₁ => mv = mv₀ ∧ σ₁ = σ) (hv : ∀ F ρ u, VR w F ρ mv₀ u → u = v₀)
    (h : ∀ x d P m, InitMap v₀ P m → Γ.sh.heap.get? x = none → Γ.sh.heap.get? d = none → Γ.sh.heap.get? P = none → Q (.obj (.ref x)) ⟨σ.loc, σ.objs ++ [some (.ext (insE C x d m))] ++ [some (.ext (strE P []))]⟩)
    (hc : ∀ env, eval (.Call (.Name "_netrclex" pi) [e] [] p) env = (do callWith p (← eval (.Name "_netrclex" pi) env) [] (backTo p (starEach [e] env)) (backToKw p (keywordEach [] env))))
    (hst : ∀ env, starEach [e] env = (false, eval e env) :: starEach [] env) : WPe pr w Γ σ (.Call (.Name "_netrclex" pi) [e] [] p) Q := by
  intro K ps s R r hR
  rw [hc]
  refine wpAny_bind (wp_globE (Q := fun mv σ' => mv = .obj (.ref C) ∧ σ' = σ) hgl hn ⟨rfl, rfl⟩ K ps s _ r fun fv v σ₁ s₁ h₁ r₁ => ?_)
  obtain ⟨rfl, rfl⟩ := h₁
  obtain rfl := r₁.obj
  have r₁ := r₁.drop
  refine callWith_of (P := Kept (.ref C)) (by rw [hst]; rfl) (fun h k => k _) (evalArgs_list (by rw [hst]; rfl) ?_)
  refine wpAny_items_cons (harg K ps s₁ _ r₁ fun mv u σ₂ s₂ hq r₂ => wpAny_items_nil ?_) (hst _)
  obtain ⟨rfl, rfl⟩ := hq
  obtain ⟨g1, g2, g3, g4, g5, g6, g7⟩ := hΓ
  obtain ⟨F, m', cm, fps, Co⟩ := r₂
  obtain rfl : u = v₀ := hv _ _ _ (Co.ps _ (.head _))
  have Co := Co.drop
  have hF : ∀ b o, hB.get? b = some o → s₂.heap.get? b = some o := fun b o e => Co.frz b o (Co.base b o (g2 b o e))
  have X' := L.cls.keeps hF
  obtain ⟨nm, q, bs, sn, sub, col, dd, k0, k1, k2, k3, k5, hC⟩ := X'.obj
  refine ⟨kept_cls X', ?_⟩
  obtain ⟨od, osl, pm, cdv, ct, doc, f1, f2⟩ := id hi
  have hh := Co.ok.handled
  have hlo : 1 ≤ s₂.toks := Nat.le_trans Co.ok.lo1 Co.tok
  obtain ⟨hp, g, dr, t, os⟩ := s₂
  refine wpAny_call_obj_initFk PySem.F.objNew hC X'.ns L.mi (hF _ _ f1) rfl fun h' x d Mk => ?_
  have I : InsAt C h' x d fun _ => none := by
    obtain ⟨o, i1, i2, i3, i4⟩ := Mk.inst
    have hd := Mk.dict o i1
    rcases i4 with ⟨i4, _⟩ | ⟨d', i4, i5, i6, i7⟩
    · rw [hd] at i4; cases i4
    · obtain rfl := Option.some.inj (hd.symm.trans i4)
      exact ⟨⟨o, i1, i2, i3, hd⟩, i5, i6, i7⟩
  have nx := Co.newF (a := x) Mk.newX
  have nd := Co.newF (a := d) Mk.newD
  refine wpAny_call (init_call (F := F) T L hi (by show Γ.A.depth + 1 + 1 < _; (first | exact o63 hℓ g4 | omega)) (by show Γ.A.units + 1 + 20 < _; (first | exact o64 hℓ g5 | omega)) hh hlo (fun b o e => Co.base b o (g2 b o e)) (fun b o e => Mk.keeps _ _ (Co.frz b o e)) I nx.1 nd.1 fun P m n h'' tk ht hk hP I' hm hPo => ?_)
  refine ⟨rfl, ?_⟩
  have hk2 : ∀ b o, hp.get? b = some o → h''.get? b = some o := fun b o e => hk b o (fun q => by rw [q, Mk.newX] at e; cases e) (fun q => by rw [q, Mk.newD] at e; cases e) (Mk.keeps _ _ e)
  have hPs : hp.get? P = none := by
    cases q : hp.get? P with
    | none => rfl
    | some o => have hP : h'.get? P = none := hP
                rw [Mk.keeps _ _ q] at hP; cases hP
  have nP := Co.newF (a := P) hPs
  have C₁ := Co.grow (h' := h'') hk2 (Sub.refl F) (fun b o e => hk2 b o (Co.frz b o e)) (fun _ _ e => .inl e) tk ht
  have hxd : d ≠ x := I.2.1
  have hxo : ∃ o, h'.get? x = some o := let ⟨⟨o, i1, _⟩, _⟩ := I; ⟨o, i1⟩
  have hdo : ∃ o, h'.get? d = some o := let ⟨_, _, ⟨o, _, _, i1, _⟩, _⟩ := I; ⟨o, i1⟩
  have hPx : P ≠ x := fun q => by obtain ⟨o, e⟩ := hxo; rw [← q] at e; rw [show h'.get? P = none from hP] at e; cases e
  have hPd : P ≠ d := fun q => by obtain ⟨o, e⟩ := hdo; rw [← q] at e; rw [show h'.get? P = none from hP] at e; cases e
  have C₂ := C₁.addExt (e := insE C x d m) (fp := [x, d]) (by simp [hxd.symm]) (fun a ha => by simp at ha; rcases ha with rfl | rfl; exact nx.1; exact nd.1) (fun a ha => by simp at ha; rcases ha with rfl | rfl; exact nx.2.1; exact nd.2.1)
    (fun a ha => by simp at ha; rcases ha with rfl | rfl; exact nx.2.2.1; exact nd.2.2.1) (fun a ha => by
      simp only [List.mem_cons, List.not_mem_nil, or_false] at ha
      obtain ⟨⟨o, i1, _⟩, _, ⟨od, _, _, i2, _⟩, _⟩ := I'
      rcases ha with rfl | rfl
      · exact ⟨_, i1⟩
      · exact ⟨_, i2⟩) (show _ ∧ _ from ⟨rfl, I'⟩)
  have C₃ := C₂.addExt (e := strE P []) (fp := [P]) (by simp) (fun a ha => by simp at ha; subst ha; exact nP.1) (fun a ha => by simp at ha; subst ha; exact nP.2.1) (fun a ha hh => by
      simp only [List.mem_cons, List.not_mem_nil, or_false] at ha
      subst ha
      have : Γ.hot (σ₂.objs ++ [some (.ext (insE C x d m))]) (fps ++ [[x, d]]) = Γ.hot σ₂.objs fps ++ [x, d] := by unfold Cx.hot; rw [alive_snoc C₁.len]; simp
      rw [show ({ σ₂ with objs := σ₂.objs ++ [some (MO.ext (insE C x d m))] } : St).objs = σ₂.objs ++ [some (.ext (insE C x d m))] from rfl, this] at hh
      rcases List.mem_append.mp hh with q | q
      · exact nP.2.2.1 q
      · simp at q; exact q.elim hPx hPd) (fun a ha => by simp at ha; subst ha; exact ⟨_, hPo⟩) (show _ ∧ _ from ⟨rfl, [], n, hPo, VRs.nil⟩)
  exact hR (.obj (.ref x)) (.ref x) _ _ (h x d P m hm nx.2.2.2 nd.2.2.2 nP.2.2.2) ⟨F, m', cm, _, C₃.cons (.obj _)⟩
end
section
variable {w : World} {Γ : Cx} {σ : St} {hB : Heap} {mg mb : Str → Option Value} {C N fi fr fg fq : Addr} {mN : Str → Option Value} {QF : MF → St → Prop}
theorem strs1_vr {x : Str} {acc : Array Value} (h : ItemsOf (SignAt x) acc x.cps.size) : VRs w (fun _ => none) noρ ((strs1 x).map .str) acc.toList := by
  refine ⟨by simp [strs1, h.1], fun i y v hy hv => ?_⟩
  obtain ⟨c, u, hc, rfl⟩ := h.2 i v (by simpa using hv)
  unfold strs1 at hy
  rw [List.getElem?_map, List.getElem?_map, Array.getElem?_toList, hc] at hy
  cases hy
  exact .str _ _
theorem wx_listof {y : Str} {gl : List (Str × MV)} {e : Expr} {x : Str} {py pi p pst : Pos} (hgl : Γ.glob = gl) (hn : Lk "list" (.obj (.type "list")) gl) (hx : x.length ≤ 1000000) (he : WPe pr w Γ σ e fun mv σ₁ => mv = .str x ∧ σ₁ = σ)
    (h : ∀ S, Γ.sh.heap.get? S = none → PutQ y (.obj (.ref S)) σ.loc fun l' => QF .next ⟨l', σ.objs ++ [some (.ext (strE S (strs1 x)))]⟩)
    (hc : ∀ env, eval (.Call (.Name "list" pi) [e] [] p) env = (do callWith p (← eval (.Name "list" pi) env) [] (backTo p (starEach [e] env)) (backToKw p (keywordEach [] env))))
    (hst : ∀ env, starEach [e] env = (false, eval e env) :: starEach [] env)
    (hs : ∀ env, swapsWith (.Call (.Name "list" pi) [e] [] p) (some (.Name y py)) pst.line env = pure false) : WPx pr w Γ σ (.Assign [.Name y py] (.Call (.Name "list" pi) [e] [] p) pst) QF := by
  intro K ps s R r hR
  refine wpAny_Assign_Name ?_ (hs _)
  rw [hc]
  refine wpAny_bind (wp_globE (Q := fun mv σ' => mv = .obj (.type "list") ∧ σ' = σ) hgl hn ⟨rfl, rfl⟩ K ps s _ r fun fv v σ₁ s₁ h₁ r₁ => ?_)
  obtain ⟨rfl, rfl⟩ := h₁
  obtain rfl := r₁.obj
  refine callWith_of (P := Kept (.type "list")) (by rw [hst]; rfl) (fun h k => k _) (evalArgs_list (by rw [hst]; rfl) ?_)
  refine wpAny_items_cons (he K ps s₁ _ r₁.drop fun mv u σ₂ s₂ hq r₂ => wpAny_items_nil ?_) (hst _)
  obtain ⟨rfl, rfl⟩ := hq
  obtain ⟨t, rfl⟩ := r₂.str
  have hh := r₂.handled
  refine ⟨kept_type, wpAny_with_toks (Nat.le_refl _) (call_list_str hh x t (fun h' tk acc c' hk hg hi => ?_) (Nat.le_trans hx (by decide)))⟩
  intro ht
  obtain ⟨F, m, cm, fps, Co⟩ := r₂.drop
  have nS := Co.newF (a := s₂.heap.objs.size) (get?_size _)
  have C₁ := Co.grow (h' := h') hk (Sub.refl F) (fun b o e => hk _ _ (Co.frz b o e)) (fun _ _ e => .inl e) tk ht
  have C₂ := C₁.addExt (e := strE s₂.heap.objs.size (strs1 x)) (fp := [s₂.heap.objs.size]) (by simp) (fun a ha => by simp at ha; subst ha; exact nS.1) (fun a ha => by simp at ha; subst ha; exact nS.2.1) (fun a ha => by simp at ha; subst ha; exact nS.2.2.1) (fun a ha => by simp at ha; subst ha; exact ⟨_, hg⟩) (show _ ∧ _ from ⟨rfl, acc.toList, c', by rw [hg], strs1_vr hi⟩)
  obtain ⟨l', hput, hq⟩ := h _ nS.2.2.2
  exact WP1.to_store (σ := { σ₂ with objs := σ₂.objs ++ [some (.ext (strE s₂.heap.objs.size (strs1 x)))] }) (mv := .obj _) (QU := fun σ => QF .next σ) hput hq K ps _ _ _ ⟨F, m, cm, _, C₂.cons (.obj _)⟩ fun σ₃ s₃ h₃ r₃ => hR .next .next σ₃ s₃ h₃ ⟨rfl, r₃⟩
theorem lam_clos {env : Env} {cel : Addr} (h : env.cells.lookup ("signs" : Str) = some cel) : closureFor lamScope env = pure [(("signs" : Str), cel)] := by
  unfold closureFor
  rw [show lamScope.names = [(("count" : Str), NameKind.local), (("signs" : Str), NameKind.free)] from by decide +kernel]
  simp only [List.forIn_cons, List.forIn_nil]
  unfold cellOf
  rw [h]; rfl
theorem setlam_end {n : Str} {np : Pos} {x d P0 cel c : Addr} {co : Obj} {m : Str → Option Value} {k : Nat} {o : Option (Addr × Obj)} {F F₂ : Frz} {m' cm : Str → Option Value} {fps : List (List Addr)} {h' : Heap} {tk : Nat} {pm ctv : Value} {K : Kp} {ps : List (MV × Value)} {s : Shared} {R : Unit → Shared → Prop} (L : LexCls hB C N fi fr fg fq mN) (g2 : ∀ b o, hB.get? b = some o → Γ.hB b = some o) (hq : Γ.env.qual ++ "<lambda>" = lamQ)
    (hk0 : ObjAt σ 0 (.ext (tabE P0 o))) (hk : ObjAt σ (k + 1) (.ext (insE C x d m))) (hw : PySem.Within m lexNames) (hn : Lk n (.obj (.ref x)) σ.loc) (Co : Core pr w Γ K σ ps s F m' cm fps) (hfp : fps[0]? = some [P0])
    (hx : ∀ b o, b ≠ P0 → s.heap.get? b = some o → h'.get? b = some o) (hge : s.heap.objs.size ≤ h'.objs.size) (htb : h'.get? P0 = some (tabObj #[rawInt lamPos.line, rawInt lamPos.col, .ref c])) (hS : Sub F F₂) (hF₂ : ∀ b x, F₂ b = some x → h'.get? b = some x) (hN : ∀ b x, F₂ b = some x → F b = some x ∨ s.heap.get? b = none) (hc : F₂ c = some co) (hco : CodeOk co lamQ) (ht : s.toks ≤ tk)
    (h : ∀ lam, Γ.sh.heap.get? lam = none → ∀ s', Rel pr w Γ K ⟨σ.loc, ((σ.objs.set 0 (some (MO.ext (tabE P0 (some (c, co)))))) ++ [some (MO.ext (lamX lam c co cel))]).set (k + 1) (some (MO.ext (insE C x d fun y => if y = "read" then some (.ref lam) else m y)))⟩ ps s' → R () s') :
    wpAny (model pr w) Γ.A (eval (.Name n np) Γ.env) (fun o s₂ => wpAny (model pr w) Γ.A (setAttr o "read" (.ref h'.objs.size)) R (fun _ _ => False) s₂) (fun _ _ => False) { s with heap := h'.push (kla_obj "<lambda>" (Γ.env.qual ++ "<lambda>") lamArgs lamBody lamScope [("signs", cel)] pm c ctv), toks := tk } := by
  have hnone : ∀ b, s.heap.objs.size ≤ b → s.heap.get? b = none := fun b hb => by
    cases q : s.heap.get? b with
    | none => rfl
    | some o => exact absurd (Heap.lt_size q) (Nat.not_lt.mpr hb)
  have nl := Co.newF (hnone _ hge)
  have hlam : F₂ h'.objs.size = none := by
    cases q : F₂ h'.objs.size with
    | none => rfl
    | some o => exact absurd (Heap.lt_size (hF₂ _ _ q)) (Nat.lt_irrefl _)
  have hsx : ∀ b x, b ∉ [P0] → s.heap.get? b = some x → (h'.push (kla_obj "<lambda>" (Γ.env.qual ++ "<lambda>") lamArgs lamBody lamScope [("signs", cel)] pm c ctv)).get? b = some x := fun b x hb e => Heap.get?_push_of_some _ (hx b x (fun q => hb (by simp [q])) e)
  have C₁ := Co.turnObj (F' := F₂) hk0 hfp hsx (fun a ha => by simp at ha; subst ha; exact ⟨_, Heap.get?_push_of_some _ htb⟩) hS (fun b x e => Heap.get?_push_of_some _ (hF₂ b x e)) hN (.ext (tabE P0 (some (c, co))) [P0] _ (show _ ∧ _ ∧ _ ∧ _ from ⟨rfl, Heap.get?_push_of_some _ htb, hc, hco⟩)) (fun _ e => by cases e) tk ht
  have hot1 : Γ.hot (σ.objs.set 0 (some (MO.ext (tabE P0 (some (c, co)))))) fps = Γ.hot σ.objs fps := by unfold Cx.hot; rw [alive_set hk0]
  have C₂ := C₁.addExt (e := lamX h'.objs.size c co cel) (fp := [h'.objs.size]) (by simp) (fun a ha => by simp at ha; subst ha; exact hlam) (fun a ha => by simp at ha; subst ha; exact nl.2.1)
    (fun a ha => by rw [show ({ σ with objs := σ.objs.set 0 (some (MO.ext (tabE P0 (some (c, co))))) } : St).objs = σ.objs.set 0 (some (MO.ext (tabE P0 (some (c, co))))) from rfl, hot1]; simp at ha; subst ha; exact nl.2.2.1)
    (fun a ha => by simp at ha; subst ha; exact ⟨_, Heap.get?_push_size _ rfl⟩) (show _ ∧ _ ∧ _ from ⟨rfl, ⟨_, _, ctv, Heap.get?_push_size _ rfl, hq ▸ hco⟩, hc⟩)
  have r₂ : Rel pr w Γ K _ ((.obj (.ref h'.objs.size), .ref h'.objs.size) :: ps) _ := ⟨F₂, m', cm, _, C₂.cons (.obj _)⟩
  have hkl : k + 1 < σ.objs.length := (List.getElem?_eq_some_iff.mp hk).1
  refine (wp_name (σ := ⟨σ.loc, σ.objs.set 0 (some (MO.ext (tabE P0 (some (c, co))))) ++ [some (MO.ext (lamX h'.objs.size c co cel))]⟩) (Q := fun mv σ' => mv = .obj (.ref x) ∧ σ' = ⟨σ.loc, σ.objs.set 0 (some (MO.ext (tabE P0 (some (c, co))))) ++ [some (MO.ext (lamX h'.objs.size c co cel))]⟩) hn rfl ⟨rfl, rfl⟩) K _ _ _ r₂ fun mv' u σ₂ s₂ hq₂ r₃ => ?_
  obtain ⟨rfl, rfl⟩ := hq₂
  obtain rfl := r₃.obj
  have hk2 : ObjAt ⟨σ.loc, σ.objs.set 0 (some (MO.ext (tabE P0 (some (c, co))))) ++ [some (MO.ext (lamX h'.objs.size c co cel))]⟩ (k + 1) (.ext (insE C x d m)) := by
    show (σ.objs.set 0 _ ++ [_])[k + 1]? = some (some (.ext (insE C x d m)))
    rw [List.getElem?_append_left (by rw [List.length_set]; exact hkl), List.getElem?_set_ne (by (first | exact fun q => o65 q | omega))]; exact hk
  exact set_core L.cls (L.quiet _ (by decide)) (L.quiet _ (by decide)) (obj_lookup _ (by decide)) g2 hk2 hw (by decide) r₃.drop fun s' r' => h _ nl.2.2.2 s' r'
theorem wx_setlam {n : Str} {np ta p : Pos} {x d P0 cd0 cel : Addr} {m : Str → Option Value} {k : Nat} {e : Expr} {o : Option (Addr × Obj)} (T : TopF hB mg mb) (L : LexCls hB C N fi fr fg fq mN) {sc : Scope} {ℓ : Nat} {gl : List (Str × MV)} (hΓ : Γof sc Γ hB ℓ gl) (he : e = .Lambda lamArgs lamBody lamScope lamPos)
    (hcode : Γ.env.code = .ref cd0) (hq : Γ.env.qual ++ "<lambda>" = lamQ) (hhd : CodeHd hB cd0 P0) (hbt : hB.BuiltinsAt mg P0) (hcel : Γ.oc.lookup ("signs" : Str) = some cel) (hk0 : ObjAt σ 0 (.ext (tabE P0 o))) (hk : ObjAt σ (k + 1) (.ext (insE C x d m))) (hw : PySem.Within m lexNames) (hn : Lk n (.obj (.ref x)) σ.loc)
    (h : ∀ lam c co, Γ.sh.heap.get? lam = none → QF .next ⟨σ.loc, ((σ.objs.set 0 (some (MO.ext (tabE P0 (some (c, co)))))) ++ [some (MO.ext (lamX lam c co cel))]).set (k + 1) (some (MO.ext (insE C x d fun y => if y = "read" then some (.ref lam) else m y)))⟩)
    (hs : ∀ env, swapsWith e (some (.Attribute (.Name n np) "read" ta)) p.line env = pure false) : WPx pr w Γ σ (.Assign [.Attribute (.Name n np) "read" ta] e p) QF := by
  subst he
  intro K ps s R r hR
  refine plainObj_wpAny_Assign_Attribute ?_ (hs _)
  obtain ⟨F, m', cm, fps, Co⟩ := r
  obtain ⟨g1, g2, g3, g4, g5, g6, g7⟩ := hΓ
  obtain ⟨fp, hfp, hor⟩ := Co.trk 0 _ hk0
  have hrel : fp = [P0] ∧ tabIs F o (s.heap.get? P0) := by cases hor with | ext _ _ _ hh => exact hh
  obtain ⟨rfl, hP0⟩ := hrel
  have hF : ∀ b o, hB.get? b = some o → s.heap.get? b = some o := fun b o e => Co.frz b o (Co.base b o (g2 b o e))
  have hnot : ∀ b o, hB.get? b = some o → b ≠ P0 := fun b o e q => Co.frzH b o (Co.base b o (g2 b o e)) (Co.mem_hot hk0 hfp (by simp [q]))
  have hgP : mainGlobals ≠ P0 := by obtain ⟨o, _, _, e, _⟩ := T.g; exact hnot _ _ e
  obtain ⟨bm, ob, b1, b2, b3, b4, b5, b6⟩ := hbt
  have hnone : ∀ b, s.heap.objs.size ≤ b → s.heap.get? b = none := fun b hb => by
    cases q : s.heap.get? b with
    | none => rfl
    | some o => exact absurd (Heap.lt_size q) (Nat.not_lt.mpr hb)
  cases o with
  | none =>
    have hP0 : s.heap.get? P0 = some (tabObj #[]) := hP0
    refine kla_eval rfl (wpAny_with_toks (Nat.le_refl _) (kla_makeFunction (mg := mg) (lam_clos (Co.ok.ocs _ _ hcel)) g6 (T.g.keeps hF) hcode (hhd.keeps hF) hP0 (show TriplesOk [] from trivial) rfl hgP ⟨bm, ob, b1, b2, b3, hnot _ _ b5, hF _ _ b5, b6⟩ fun c' ctv h' tk hx hge hlt hrec htb => ?_))
    intro ht
    obtain ⟨c, co, fs, t, l2, l3, l4, l5⟩ := hrec
    cases l2
    have nc := Co.newF (hnone _ hge)
    refine setlam_end (P0 := P0) (F₂ := F.put c' co) L g2 hq hk0 hk hw hn Co hfp hx (Nat.le_of_lt (Nat.lt_of_le_of_lt hge hlt)) htb (Frz.put_sub nc.1) (fun b x e => ?_) (fun b x e => ?_) Frz.put_self ⟨fs, t, l4, hq ▸ l5⟩ ht fun lam hl s' r' => hR .next .next _ s' (h _ _ _ hl) ⟨rfl, r'⟩
    · unfold Frz.put at e; split at e
      · rename_i q; subst q; cases e; exact l3
      · exact hx b x (fun q => Co.frzH b x e (Co.mem_hot hk0 hfp (by simp [q]))) (Co.frz b x e)
    · unfold Frz.put at e; split at e
      · rename_i q; subst q; exact .inr (hnone _ hge)
      · exact .inl e
  | some p =>
    obtain ⟨c, co⟩ := p
    obtain ⟨hP0, hc, hco⟩ := (show _ ∧ _ ∧ _ from hP0)
    refine kla_eval rfl (wpAny_with_toks (Nat.le_refl _) (kla_makeFunctionHit (mg := mg) (cv := .ref c) (lam_clos (Co.ok.ocs _ _ hcel)) g6 (T.g.keeps hF) hcode (hhd.keeps hF) hP0 (show TriplesOk [_, _, _] from trivial) (by show (if (_ == _ && _ == _) = true then _ else _) = _; rw [beq_self_eq_true, beq_self_eq_true]; rfl) ⟨bm, ob, b1, b2, b3, hnot _ _ b5, hF _ _ b5, b6⟩ fun ctv h' tk hx hge => ?_))
    intro ht
    exact setlam_end (P0 := P0) (F₂ := F) L g2 hq hk0 hk hw hn Co hfp (fun b o _ e => hx b o e) hge (hx _ _ hP0) (Sub.refl F) (fun b x e => hx _ _ (Co.frz b x e)) (fun _ _ e => .inl e) hc hco ht fun lam hl s' r' => hR .next .next _ s' (h _ _ _ hl) ⟨rfl, r'⟩
end
theorem sLx : ScopeOk (fScope bLx) ((["text"] : List Str) ++ (["signs", "stream"] : List Str)) := ⟨rfl, by decide +kernel, by decide +kernel, by decide +kernel⟩
theorem bLxB : ∀ doc pm cdv ct vs, vs.length = (["text"] : List Str).length → bindArgs (fnOf (fName bLx) "_law_lexer" (fArgs bLx) (fBody bLx) (fScope bLx) .none .none doc pm none cdv ct) ⟨vs, []⟩ = pure ((["text"] : List Str).zip vs) := by intro doc pm cdv ct vs h; obtain ⟨v, rfl⟩ := len1 h; rfl
noncomputable abbrev glLx (C : Addr) : List (Str × MV) := [("list", .obj (.type "list")), ("_netrclex", .obj (.ref C))]
structure LxLeft (C P0 : Addr) (text : Str) (Γ : Cx) (mf : MF) (σ : St) (S x d P lam cd x' d' P' cel : Addr) (m m' : Str → Option Value) (co : Obj) : Prop where
  ret : mf = .ret (.obj (.ref x'))
  objs : σ.objs = [some (.ext (tabE P0 (some (cd, co)))), some (.ext (strE S (strs1 text))), some (.ext (insE C x d m)), some (.ext (strE P [])), some (.ext (lamX lam cd co cel)), some (.ext (insE C x' d' m')), some (.ext (strE P' []))]
  loc : (("signs" : Str), MV.obj (.ref S)) ∈ σ.loc
  cel : Γ.oc.lookup ("signs" : Str) = some cel
  kind : Γ.env.kindOf ("signs" : Str) = some .cell
  m : m "read" = some (.ref lam)
  m' : InitMap (.ref x) P' m'
  fresh : ∀ a ∈ [S, x, d, P, lam, x', d', P'], Γ.sh.heap.get? a = none
inductive LxEnd (C P0 : Addr) (text : Str) (Γ : Cx) (mf : MF) (σ : St) : Prop
  | mk (S x d P lam cd x' d' P' cel : Addr) (m m' : Str → Option Value) (co : Obj) (Z : LxLeft C P0 text Γ mf σ S x d P lam cd x' d' P' cel m m' co) : LxEnd C P0 text Γ mf σ
theorem nodup8 {P0 S x d P lam x' d' P' cel : Nat} (n : [P0, S, x, d, P, lam, x', d', P'].Nodup) (hc : ∀ b ∈ [P0, S, x, d, P, lam, x', d', P'], cel ≠ b) : [x', d', P', x, d, S, cel, lam].Nodup := by
  have h : [cel, P0, S, x, d, P, lam, x', d', P'].Nodup := List.nodup_cons.mpr ⟨fun h => hc _ h rfl, n⟩
  have h2 : ([cel] ++ ([S] ++ ([x, d] ++ ([lam] ++ [x', d', P'])))).Nodup := by
    refine h.sublist ?_
    exact .cons_cons _ (.cons _ (.cons_cons _ (.cons_cons _ (.cons_cons _ (.cons _ (.cons_cons _ (.cons_cons _ (.cons_cons _ (.cons_cons _ .slnil)))))))))
  have p : ([cel] ++ ([S] ++ ([x, d] ++ ([lam] ++ [x', d', P'])))).Perm ([x', d', P'] ++ ([x, d] ++ ([S] ++ ([cel] ++ [lam])))) := by
    refine List.perm_iff_count.mpr fun a => ?_
    simp only [List.count_append]
    (first | exact o66 | omega)
  exact (p.nodup_iff).mp h2
theorem ws_cel {prog : Program} {w : World} {Γ : Cx} {σ : St} {QF : MF → St → Prop} {x : Str} {bs : List Stmt} (hx : x ∈ σ.loc.map (·.1)) (hk : Γ.env.kindOf x = some .cell) (h : ∀ c, Γ.oc.lookup x = some c → WPs prog w Γ σ bs QF) : WPs prog w Γ σ bs QF := by
  intro K ps s R r hR
  obtain ⟨F, m, cm, fps, C⟩ := r
  obtain ⟨_, h2⟩ := C.ok.kinds x (C.keys ▸ hx)
  rcases h2 with h2 | ⟨_, c, hc⟩
  · rw [hk] at h2; cases h2
  · exact h c hc K ps s R ⟨F, m, cm, fps, C⟩ hR
section
variable {w : World} {hB : Heap} {mg mb : Str → Option Value} {C N fi fr fg fq : Addr} {mN : Str → Option Value}
theorem mk_lexer {A : Around} {F : Frz} {s : Shared} {fl cd0 P0 : Addr} {v : Value} {text : Str} {o : Option (Addr × Obj)} {R : Result → Shared → Prop} (T : TopF hB mg mb) (L : LexCls hB C N fi fr fg fq mN) (hi : IsFnC hB fi "_netrclex.__init__" bInit)
    {oc : Value} {od : Option Addr} {osl : Array (Option Value)} {pm ct doc : Value} (ho : hB.get? fl = some ⟨oc, od, .func (fnOf (fName bLx) "_law_lexer" (fArgs bLx) (fBody bLx) (fScope bLx) .none .none doc pm none (.ref cd0) ct), osl⟩) (hcr : hB.CodeRec (.ref cd0) "_law_lexer") (hhd : CodeHd hB cd0 P0) (hbt : hB.BuiltinsAt mg P0)
    (hgl : ∀ p ∈ glLx C, GlobAt w hB mg mb (fScope bLx) p) (hx : text.length ≤ 100000)
    (hd : A.depth + 4 < recursionLimit) (hu : A.units + 80 < cLine) (hh : A.handled = none) (htk : 1 ≤ s.toks) (hB1 : ∀ b o, hB.get? b = some o → F b = some o) (hF : ∀ b o, F b = some o → s.heap.get? b = some o)
    (hv : VR w F noρ (.str text) v) (hP0 : tabIs F o (s.heap.get? P0)) (hFP : F P0 = none)
    (hR : ∀ (X : LX) h' tk, s.toks ≤ tk → (∀ b o, b ≠ P0 → s.heap.get? b = some o → h'.get? b = some o) → h'.get? P0 = some (tabObj #[rawInt lamPos.line, rawInt lamPos.col, .ref X.cd]) → CodeOk X.co lamQ → h'.get? X.cd = some X.co → (F X.cd = some X.co ∨ s.heap.get? X.cd = none) → X.cd ∉ P0 :: X.fp → (∀ a ∈ X.fp, s.heap.get? a = none) → LexAt C w h' X 1 [] (strs1 text) → R (.ok (.ret (.ref X.x))) { s with heap := h', toks := tk }) :
    codeAny (model pr w) A (.call (.ref fl) ⟨[v], []⟩) R s := by
  have hPo : ∃ o', s.heap.get? P0 = some o' := by
    cases o with
    | none => exact ⟨_, hP0⟩
    | some p => obtain ⟨c, co⟩ := p; exact ⟨_, hP0.1⟩
  refine call_core (ℓ := 3) (fp := [P0]) (e := tabE P0 o) (params := ["text"]) (rest := ["signs", "stream"]) (args := [.str text]) (glob := glLx C) (QF := fun Γ mf σ => LxEnd C P0 text Γ mf σ)
    ho hcr T.nolimit rfl rfl rfl rfl (bLxB doc pm (.ref cd0) ct) rfl sLx (GlobOk.of T rfl hgl) rfl rfl hd hu hh htk hB1 hF (VRs.cons hv VRs.nil) (show _ ∧ _ from ⟨rfl, hP0⟩) (by simp) (fun a ha => by simp at ha; subst ha; exact hFP) (fun a ha => by simp at ha; subst ha; exact hPo) (fun Γ hΓ fr hcode => ?_) (fun Γ mf fl' σ' s' fr hq hr => ?_)
  · have hgl' : Γ.glob = glLx C := hΓ.2.2.1
    have hcode' : Γ.env.code = .ref cd0 := hcode.1
    have hq : Γ.env.qual ++ "<lambda>" = lamQ := by rw [hcode.2]; show ("_law_lexer" : Str) ++ ".<locals>." ++ "<lambda>" = lamQ; decide +kernel
    show WPs pr w Γ ⟨[("text", .str text), ("signs", .undef), ("stream", .undef)], [some (.ext (tabE P0 o))]⟩ [_, _, _, _] _
    have hkind : Γ.env.kindOf ("signs" : Str) = some .cell := by
      show Γ.env.scope.names.lookup _ = _; rw [hΓ.1]; show (fScope bLx).names.lookup _ = _; decide +kernel
    refine ws_cel (x := "signs") (by simp) hkind fun cel hcel => ?_
    refine ws_cons (wx_listof hgl' (by tm_at "lk") (Nat.le_trans hx (by decide)) (wp_name (by tm_at "lk") rfl ⟨rfl, rfl⟩) (fun S hS => ?_) (fun _ => rfl) (fun _ => rfl) (fun _ => rfl))
    refine putq_there (putq_here (then_next (ws_cons (wx_assign ?_ (fun _ => rfl)))))
    refine wp_mkins T L hi hΓ (by decide) hgl' (by tm_at "lk") (mv₀ := .none) (v₀ := .none) (wp_none ⟨rfl, rfl⟩) (fun F ρ u h => by cases h; rfl) (fun x d P m hm fx fd fP => ?_) (fun _ => rfl) (fun _ => rfl)
    refine putq_there (putq_there (putq_here (then_next (ws_cons ?_))))
    refine wx_setlam T L hΓ rfl hcode' hq hhd hbt hcel (k := 1) (show ObjAt _ 0 _ from rfl) (show ObjAt _ 2 _ from rfl) (fun y hy => Classical.byContradiction fun q => hy (hm.none y q)) (by tm_at "lk") (fun lam cd co fl => ?_) (fun _ => rfl)
    refine then_next (ws_cons (wx_return ?_))
    refine wp_mkins T L hi hΓ (by decide) hgl' (by tm_at "lk") (mv₀ := .obj (.ref x)) (v₀ := .ref x) (wp_name (by tm_at "lk") rfl ⟨rfl, rfl⟩) (fun F ρ u h => by cases h; rfl) (fun x' d' P' m' hm' fx' fd' fP' => ?_) (fun _ => rfl) (fun _ => rfl)
    refine then_ret ⟨S, x, d, P, lam, cd, x', d', P', cel, _, m', co, rfl, rfl, .tail _ (.head _), hcel, hkind, if_pos rfl, hm', fun a ha => ?_⟩
    simp only [List.mem_cons, List.not_mem_nil, or_false] at ha
    rcases ha with rfl | rfl | rfl | rfl | rfl | rfl | rfl | rfl <;> assumption
  · obtain ⟨S, x, d, P, lam, cd, x', d', P', cel, m, m', co, Z⟩ := hq
    obtain ⟨z1, z2, z3, z4, hkc, z5, z6, z7⟩ := Z
    subst z1
    obtain ⟨u, rfl, F', mm, cm, fps, Co⟩ := hr
    obtain rfl : u = .ref x' := by
      have : VR w F' (rho fps) (.obj (.ref x')) u := Co.ps (.obj (.ref x'), u) (.head _)
      cases this; rfl
    obtain ⟨h', tk', es⟩ := Co.same
    have tr : ∀ (k : Nat) (e : Ext), σ'.objs[k]? = some (some (MO.ext e)) → ∃ fp, fps[k]? = some fp ∧ e.rel w F' (rho fps) fp s'.heap := fun k e he => by
      obtain ⟨fp, h1, h2⟩ := Co.trk k _ he
      cases h2 with | ext _ _ _ hh => exact ⟨fp, h1, hh⟩
    obtain ⟨f0, a0, b0, c0, t1, t2⟩ := tr 0 (tabE P0 (some (cd, co))) (by rw [z2]; rfl)
    obtain ⟨f1, a1, b1, v1, n1, c1, d1⟩ := tr 1 (strE S (strs1 text)) (by rw [z2]; rfl)
    obtain ⟨f2, a2, b2, c2⟩ := tr 2 (insE C x d m) (by rw [z2]; rfl)
    obtain ⟨f3, a3, b3, c3⟩ := tr 3 (strE P []) (by rw [z2]; rfl)
    obtain ⟨f4, a4, b4, c4, t3⟩ := tr 4 (lamX lam cd co cel) (by rw [z2]; rfl)
    obtain ⟨f5, a5, b5, c5⟩ := tr 5 (insE C x' d' m') (by rw [z2]; rfl)
    obtain ⟨f6, a6, b6, v6, n6, c6, d6⟩ := tr 6 (strE P' []) (by rw [z2]; rfl)
    have hfps : ∃ l, fps = [P0] :: [S] :: [x, d] :: [P] :: [lam] :: [x', d'] :: [P'] :: l := by
      rw [← b0, ← b1, ← b2, ← b3, ← b4, ← b5, ← b6]
      exact take7 a0 a1 a2 a3 a4 a5 a6
    obtain ⟨l, hfps⟩ := hfps
    have hot := Co.hot
    have hcm : cel ∈ Γ.oc.map (·.2) := List.mem_map.mpr ⟨(_, cel), mem_of_lookup z4, rfl⟩
    have hal : alive σ'.objs fps = [P0, S, x, d, P, lam, x', d', P'] := by
      rw [z2, hfps]; cases l <;> rfl
    have hcell : s'.heap.IsCell cel (some (.ref S)) := by
      have h1 := Co.cell _ _ z4
      obtain ⟨u, g1, g2, g3⟩ := (Co.loc _ _ z3).resolve_left (by intro q; cases q)
      rw [g2 hkc] at h1
      have : u = .ref S := by cases g3; rfl
      rw [this] at h1; exact h1
    obtain ⟨n1', n2'⟩ := List.nodup_cons.mp hot
    obtain ⟨n3', n4', n5'⟩ := List.nodup_append.mp n2'
    rw [hal] at n4' n5'
    have hnc : ∀ b ∈ [P0, S, x, d, P, lam, x', d', P'], cel ≠ b := fun b hb => n5' cel hcm b hb
    have hcg := Co.frz _ _ t1
    have hcl := Co.lim _ _ t1
    have hch := Co.frzH _ _ t1
    have hcA : cd ∉ [P0, S, x, d, P, lam, x', d', P'] := fun q => hch (List.mem_cons_of_mem _ (List.mem_append_right _ (hal ▸ q)))
    have hcO : cd ∉ Γ.oc.map (·.2) := fun q => hch (List.mem_cons_of_mem _ (List.mem_append_left _ q))
    rw [fr.F0] at hcl
    have htk' := Co.tok
    have hkept := Co.kept
    rw [fr.sh] at es z7 hcl
    rw [fr.lo] at htk'
    rw [es] at c0 c1 c2 c3 c4 c5 c6 hcell hcg htk' hkept ⊢
    refine hR ⟨x', d', P', x, d, S, cel, lam, cd, co⟩ h' tk' htk' (fun b o hb e => hkept b o ((if_neg (by simp [hb])).trans e)) c0 t2 hcg hcl (fun hm => ?_) (fun a ha => ?_) ⟨?_, ⟨m', c5, ?_⟩, ⟨m, c2, z5⟩, ⟨v6, n6, c6, d6⟩, ⟨v1, n1, c1, d1⟩, hcell, c4⟩
    · have hm : cd ∈ P0 :: LX.fp ⟨x', d', P', x, d, S, cel, lam, cd, co⟩ := hm
      simp only [LX.fp, List.mem_cons, List.not_mem_nil, or_false] at hm
      rcases hm with q | q | q | q | q | q | q | q | q
      · exact hcA (by rw [q]; simp)
      · exact hcA (by rw [q]; simp)
      · exact hcA (by rw [q]; simp)
      · exact hcA (by rw [q]; simp)
      · exact hcA (by rw [q]; simp)
      · exact hcA (by rw [q]; simp)
      · exact hcA (by rw [q]; simp)
      · exact hcO (q ▸ hcm)
      · exact hcA (by rw [q]; simp)
    · simp only [LX.fp, List.mem_cons, List.not_mem_nil, or_false] at ha
      rcases ha with rfl | rfl | rfl | rfl | rfl | rfl | rfl | rfl
      · exact z7 _ (by simp)
      · exact z7 _ (by simp)
      · exact z7 _ (by simp)
      · exact z7 _ (by simp)
      · exact z7 _ (by simp)
      · exact z7 _ (by simp)
      · exact fr.oc _ _ z4
      · exact z7 _ (by simp)
    · exact nodup8 n4' hnc
    · exact ⟨z6.line, z6.ins, z6.ws, z6.push, z6.none⟩
end
local macro_rules | `(tactic| tm_at "q") => `(tactic| repeat' (with_reducible first | refine wal_cons ?_ | refine wal_nil ?_ | refine putq_here ?_ | refine putq_there ?_))
local macro_rules | `(tactic| tm_at "d") => `(tactic| repeat' (with_reducible first | refine wd_cons ?_ | refine wd_nil ?_ | tm_at "x1"))
section
variable {w : World} {hB : Heap} {mg mb : Str → Option Value} {C N fi fr fg fq : Addr} {mN : Str → Option Value}
structure LxFn (w : World) (hB : Heap) (mg mb : Str → Option Value) (C fl cd0 P0 : Addr) : Prop where
  fn : ∃ oc od osl pm ct doc, hB.get? fl = some ⟨oc, od, .func (fnOf (fName bLx) "_law_lexer" (fArgs bLx) (fBody bLx) (fScope bLx) .none .none doc pm none (.ref cd0) ct), osl⟩
  rec_ : hB.CodeRec (.ref cd0) "_law_lexer"
  hd : CodeHd hB cd0 P0
  bt : hB.BuiltinsAt mg P0
  gl : ∀ p ∈ glLx C, GlobAt w hB mg mb (fScope bLx) p
theorem wc_mklex {Γ : Cx} {σ : St} {Q : MV → St → Prop} {sc : Scope} {ℓ k : Nat} {gl : List (Str × MV)} {fl cd0 P0 : Addr} {text : Str} {o : Option (Addr × Obj)} (T : TopF hB mg mb) (L : LexCls hB C N fi fr fg fq mN) (hi : IsFnC hB fi "_netrclex.__init__" bInit) (X0 : LxFn w hB mg mb C fl cd0 P0) (hx : text.length ≤ 100000)
    (hΓ : Γof sc Γ hB ℓ gl) (hℓ : 5 ≤ ℓ) (hk : ObjAt σ k (.ext (tabE P0 o))) (h : ∀ X o', Q (.obj (.ref X.x)) ⟨σ.loc, (σ.objs.set k (some (.ext (tabE P0 o')))) ++ [some (.ext (lexE C X 1 [] (strs1 text)))]⟩) : WPc pr w Γ σ (.ref fl) [.str text] Q := by
  intro K ps vs s R hl r hR
  obtain ⟨v, rfl, r⟩ := r.one hl
  obtain ⟨F, m, cm, fps, Co⟩ := r
  obtain ⟨g1, g2, g3, g4, g5, g6, g7⟩ := hΓ
  obtain ⟨oc, od, osl, pm, ct, doc, ho⟩ := X0.fn
  have hfs := Co.frz fl _ (Co.base fl _ (g2 fl _ ho))
  have hv : VR w F noρ (.str text) v := by
    have : VR w F (rho fps) (.str text) v := Co.ps (.str text, v) (.head _)
    exact Closed.str w F _ v this
  have Co := Co.drop
  obtain ⟨fp, hfp, hor⟩ := Co.trk k _ hk
  have hrel : fp = [P0] ∧ tabIs F o (s.heap.get? P0) := by cases hor with | ext _ _ _ hh => exact hh
  obtain ⟨rfl, hP0⟩ := hrel
  have hFP : F P0 = none := by
    cases q : F P0 with
    | none => rfl
    | some o => exact absurd (Co.mem_hot hk hfp (.head _)) (Co.frzH P0 o q)
  refine ⟨kept_fn hfs rfl, wpAny_call (mk_lexer (F := F) T L hi ho X0.rec_ X0.hd X0.bt X0.gl hx (by (first | exact o67 hℓ g4 | omega)) (by (first | exact o68 hℓ g5 | omega)) Co.ok.handled (Nat.le_trans Co.ok.lo1 Co.tok) (fun b o e => Co.base b o (g2 b o e)) Co.frz hv hP0 hFP fun X h' tk ht hk2 hP hco hcg hcl hcn hfr hL => ?_)⟩
  have hs : ∀ b x, b ∉ [P0] → s.heap.get? b = some x → h'.get? b = some x := fun b x hb e => hk2 b x (fun q => hb (by simp [q])) e
  have hS : Sub F (F.put X.cd X.co) := fun b x e => by
    unfold Frz.put
    split
    · rename_i q
      rcases hcl with g | g
      · rw [q, g] at e; exact e
      · have := Co.frz b x e; rw [q, g] at this; cases this
    · exact e
  have hF₂ : ∀ b x, (F.put X.cd X.co) b = some x → h'.get? b = some x := fun b x e => by
    unfold Frz.put at e; split at e
    · rename_i q; rw [q]; cases e; exact hcg
    · exact hs b x (fun q => Co.frzH b x e (Co.mem_hot hk hfp q)) (Co.frz b x e)
  have hN : ∀ b x, (F.put X.cd X.co) b = some x → F b = some x ∨ s.heap.get? b = none := fun b x e => by
    unfold Frz.put at e; split at e
    · rename_i q; cases e; rw [q]; exact hcl
    · exact .inl e
  have hput : ∀ a, a ∈ X.fp → (F.put X.cd X.co) a = none := fun a ha => by
    have hne : ¬ a = X.cd := fun q => hcn (List.mem_cons_of_mem _ (by rw [← q]; exact ha))
    exact (if_neg hne).trans (Co.newF (hfr a ha)).1
  have C₁ := Co.turnObj (F' := F.put X.cd X.co) hk hfp hs (fun a ha => by simp at ha; subst ha; exact ⟨_, hP⟩) hS hF₂ hN (.ext (tabE P0 (some (X.cd, X.co))) [P0] _ (show _ ∧ _ ∧ _ ∧ _ from ⟨rfl, hP, Frz.put_self, hco⟩)) (fun _ e => by cases e) tk ht
  have hot1 : Γ.hot (σ.objs.set k (some (.ext (tabE P0 (some (X.cd, X.co)))))) fps = Γ.hot σ.objs fps := by unfold Cx.hot; rw [alive_set hk]
  have hliv : ∀ a ∈ X.fp, ∃ x, h'.get? a = some x := by
    obtain ⟨m, ⟨⟨o, i1, _⟩, _, ⟨o2, _, _, i2, _⟩, _⟩, _⟩ := hL.ins
    obtain ⟨m', ⟨⟨o3, i3, _⟩, _, ⟨o4, _, _, i4, _⟩, _⟩, _⟩ := hL.str
    obtain ⟨vs, n, p1, _⟩ := hL.push
    obtain ⟨us, n', c1, _⟩ := hL.chars
    obtain ⟨o5, e1, _⟩ := hL.cell
    obtain ⟨q, pm, ctv, l1, l2⟩ := hL.lam
    intro a ha
    simp only [LX.fp, List.mem_cons, List.not_mem_nil, or_false] at ha
    rcases ha with rfl | rfl | rfl | rfl | rfl | rfl | rfl | rfl
    · exact ⟨_, i1⟩
    · exact ⟨_, i2⟩
    · exact ⟨_, p1⟩
    · exact ⟨_, i3⟩
    · exact ⟨_, i4⟩
    · exact ⟨_, c1⟩
    · exact ⟨_, e1⟩
    · exact ⟨_, l1⟩
  have C₂ := C₁.addExt (e := lexE C X 1 [] (strs1 text)) (fp := X.fp) hL.nodup hput (fun a ha => (Co.newF (hfr a ha)).2.1) (fun a ha => by
    show a ∉ Γ.hot (σ.objs.set k (some (.ext (tabE P0 (some (X.cd, X.co)))))) fps
    rw [hot1]; exact (Co.newF (hfr a ha)).2.2.1) hliv (show _ ∧ _ ∧ _ from ⟨rfl, hL, Frz.put_self⟩)
  exact hR (.obj (.ref X.x)) (.ref X.x) _ _ (h X _) ⟨F.put X.cd X.co, m, cm, _, C₂.cons (.obj _)⟩
end
theorem swapped_of {ts : List Expr} {v : Expr} {env : Env} {sc : Scope} {r : Option (List Str)} (h : env.scope = sc) (e : swappedStores ts v { scope := sc, locals := 0, globals := 0, cells := [] } = pure r) : swappedStores ts v env = pure r := by
  subst h; rw [← e]; rfl
noncomputable abbrev opsS : Str := "( ) [ ] : , ; + - * / | & < > = . % { } == != <= >= ~ ^ << >> ** += -= *= /= %= &= |= ^= <<= >>= **= // //= @ @= -> ... := !"
noncomputable def ops : List Str := List.map Str.ofString ["(", ")", "[", "]", ":", ",", ";", "+", "-", "*", "/", "|", "&", "<", ">", "=", ".", "%", "{", "}", "==", "!=", "<=", ">=", "~", "^", "<<", ">>", "**", "+=", "-=", "*=", "/=", "%=", "&=", "|=", "^=", "<<=", ">>=", "**=", "//", "//=", "@", "@=", "->", "...", ":=", "!"]
theorem ops_split : splitS opsS " " = ops := by decide +kernel
theorem sOps : ScopeOk (fScope bOps) (([] : List Str) ++ ([] : List Str)) := ⟨rfl, by decide +kernel, by decide +kernel, by decide +kernel⟩
theorem bOpsB : ∀ doc pm cdv ct vs, vs.length = ([] : List Str).length → bindArgs (fnOf (fName bOps) "_law_operators" (fArgs bOps) (fBody bOps) (fScope bOps) .none .none doc pm none cdv ct) ⟨vs, []⟩ = pure (([] : List Str).zip vs) := by intro doc pm cdv ct vs h; cases List.length_eq_zero_iff.mp h; rfl
section
variable {w : World} {hB : Heap} {mg mb : Str → Option Value}
theorem pf_ops (T : TopF hB mg mb) {f : Addr} (hf : IsFn hB f "_law_operators" bOps) : PureFn pr w 1 hB (.ref f) [] (fun v => v = .list (ops.map .str)) := by
  refine PureFn.of_stmt T hf [] [] [] bOpsB rfl sOps nofun rfl rfl ?_
  intro Γ hΓ
  show WPs pr w Γ ⟨[], []⟩ [_] _
  tm_at "x"
  refine wm_str PySem.F.slot_str_split PySem.F.type_str_split ?_
  tm_at "x"
  refine wc_split rfl (by decide +kernel) (by rw [show splitS _ _ = ops from ops_split]; decide +kernel) ?_
  rw [show splitS _ _ = ops from ops_split]
  exact ⟨Closed.list fun y hy => by obtain ⟨x, _, rfl⟩ := List.mem_map.mp hy; exact .str, rfl⟩
noncomputable def spS : Nat → List (Str × Str)
  | 0 => [("&", "amp"), ("<", "lt"), (">", "gt")]
  | 1 => [("&", "amp"), ("<", "lt"), (">", "gt"), ("\"", "quot"), ("\r", "#13"), ("\n", "#10"), ("\t", "#09")]
  | 2 => [("&", "amp"), (">", "gt"), ("\"", "quot")]
  | 3 => [("&", "amp"), ("<", "lt"), (">", "gt"), ("\r", "#xD")]
  | _ => [("&", "amp"), ("<", "lt"), ("\"", "quot"), ("\r", "#xD"), ("\n", "#xA"), ("\t", "#x9")]
noncomputable def spT (h : Nat) : List (Str × MV) := (spS h).map fun e => (e.1, .str e.2)
theorem sSpl : ScopeOk (fScope bSpl) ((["hand"] : List Str) ++ (["tables"] : List Str)) := ⟨rfl, by decide +kernel, by decide +kernel, by decide +kernel⟩
theorem bSplB : ∀ doc pm cdv ct vs, vs.length = (["hand"] : List Str).length → bindArgs (fnOf (fName bSpl) "_law_spelled" (fArgs bSpl) (fBody bSpl) (fScope bSpl) .none .none doc pm none cdv ct) ⟨vs, []⟩ = pure ((["hand"] : List Str).zip vs) := by intro doc pm cdv ct vs h; obtain ⟨v, rfl⟩ := len1 h; rfl
theorem spT_cl (h : Nat) : Closed (.dictS (spT h)) := by
  refine Closed.dictS fun x hx => ?_
  obtain ⟨e, _, rfl⟩ := List.mem_map.mp hx
  exact .str
theorem spl_get (h : Nat) (hh : h < 5) : ([.dictS (spT 0), .dictS (spT 1), .dictS (spT 2), .dictS (spT 3), .dictS (spT 4)] : List MV)[h]? = some (.dictS (spT h)) :=
  match h, hh with
  | 0, _ => rfl
  | 1, _ => rfl
  | 2, _ => rfl
  | 3, _ => rfl
  | 4, _ => rfl
theorem pf_spl (T : TopF hB mg mb) {f : Addr} (hf : IsFn hB f "_law_spelled" bSpl) {h : Nat} (hh : h < 5) : PureFn pr w 1 hB (.ref f) [.int h] (fun v => v = .dictS (spT h)) := by
  refine PureFn.of_stmt T hf ["hand"] ["tables"] [] bSplB rfl sSpl nofun rfl rfl ?_
  intro Γ hΓ
  show WPs pr w Γ ⟨[("hand", .int h), ("tables", .undef)], []⟩ [_, _] _
  tm_at "x"
  with_reducible refine' wp_dictS hΓ T ?a ?b ?c ?d ?_
  case a => rfl
  case b => rfl
  case c => exact nofun
  case d => decide
  tm_at "d"
  refine ⟨spT 0, by kernel_rfl, by decide +kernel, ?_⟩
  tm_at "x"
  with_reducible refine' wp_dictS hΓ T ?a ?b ?c ?d ?_
  case a => rfl
  case b => rfl
  case c => exact nofun
  case d => decide
  tm_at "d"
  refine ⟨spT 1, by kernel_rfl, by decide +kernel, ?_⟩
  tm_at "x"
  with_reducible refine' wp_dictS hΓ T ?a ?b ?c ?d ?_
  case a => rfl
  case b => rfl
  case c => exact nofun
  case d => decide
  tm_at "d"
  refine ⟨spT 2, by kernel_rfl, by decide +kernel, ?_⟩
  tm_at "x"
  with_reducible refine' wp_dictS hΓ T ?a ?b ?c ?d ?_
  case a => rfl
  case b => rfl
  case c => exact nofun
  case d => decide
  tm_at "d"
  refine ⟨spT 3, by kernel_rfl, by decide +kernel, ?_⟩
  tm_at "x"
  with_reducible refine' wp_dictS hΓ T ?a ?b ?c ?d ?_
  case a => rfl
  case b => rfl
  case c => exact nofun
  case d => decide
  tm_at "d"
  refine ⟨spT 4, by kernel_rfl, by decide +kernel, ?_⟩
  tm_at "x"
  refine it_list (z := .dictS (spT h)) (by (first | exact o32 | omega)) (by (first | exact o33 hh | omega)) ?_ ⟨spT_cl h, rfl⟩
  rw [Int.toNat_natCast]
  exact spl_get h hh
end
noncomputable def pcs : List Str := List.map Str.ofString ["x", " ", "\n", "\t", "\r", "\"", "\\", "&", "<", ">", "=", "-", "!", ";", "#", "", "\" ", "lt;", "amp;", "<<=", "\\\"", "x\n"]
noncomputable def pieceOf (c : Int) : Str := if c.fmod 24 = 22 then ⟨#[(9 + (c.fdiv 24).fmod 55287).toNat]⟩ else if c.fmod 24 = 23 then ops.getD ((c.fdiv 24).fmod 48).toNat Str.empty else pcs.getD (c.fmod 24).toNat Str.empty
noncomputable def textsN (cs : List Int) : Nat → Str × Str
  | 0 => (Str.empty, Str.empty)
  | i + 1 => if i + 1 < 6 then ((textsN cs i).1 ++ pieceOf (cs.getD (i + 1) 0), (textsN cs i).2) else ((textsN cs i).1, (textsN cs i).2 ++ pieceOf (cs.getD (i + 1) 0))
theorem getD_len {l : List Str} {n : Nat} (h : l.all (fun x => decide (x.length ≤ n)) = true) (j : Nat) : (l.getD j Str.empty).length ≤ n := by
  rw [List.getD_eq_getElem?_getD]
  cases e : l[j]? with
  | none => exact Nat.zero_le _
  | some x => exact of_decide_eq_true (List.all_eq_true.mp h x (List.mem_of_getElem? e))
theorem piece_len (c : Int) : (pieceOf c).length ≤ 4 := by
  unfold pieceOf
  split
  · exact (by decide : 1 ≤ 4)
  · split
    · exact getD_len (by decide +kernel) _
    · exact getD_len (by decide +kernel) _
theorem texts_len (cs : List Int) : ∀ i, (textsN cs i).1.length ≤ 4 * i ∧ (textsN cs i).2.length ≤ 4 * i
  | 0 => ⟨Nat.le_refl _, Nat.le_refl _⟩
  | i + 1 => by
    obtain ⟨h1, h2⟩ := texts_len cs i
    have h3 := piece_len (cs.getD (i + 1) 0)
    unfold textsN
    split
    · refine ⟨?_, Nat.le_trans h2 (by (first | exact o69 | omega))⟩; rw [Str.length_append]; (first | exact o70 h1 h3 | omega)
    · refine ⟨Nat.le_trans h1 (by (first | exact o69 | omega)), ?_⟩; rw [Str.length_append]; (first | exact o70 h2 h3 | omega)
theorem sTxt : ScopeOk (fScope bTxt) ((["cells"] : List Str) ++ (["pieces", "texts", "k", "kind", "more"] : List Str)) := ⟨rfl, by decide +kernel, by decide +kernel, by decide +kernel⟩
theorem bTxtB : ∀ doc pm cdv ct vs, vs.length = (["cells"] : List Str).length → bindArgs (fnOf (fName bTxt) "_law_texts" (fArgs bTxt) (fBody bTxt) (fScope bTxt) .none .none doc pm none cdv ct) ⟨vs, []⟩ = pure ((["cells"] : List Str).zip vs) := by intro doc pm cdv ct vs h; obtain ⟨v, rfl⟩ := len1 h; rfl
noncomputable abbrev glT (fo : Addr) : List (Str × MV) := [("range", .obj (.type "range")), ("chr", .obj (.builtin "chr")), ("_law_operators", .obj (.ref fo))]
noncomputable abbrev locT (cs : List Int) (z1 z2 z3 : MV) : List (Str × MV) := [("cells", .list (cs.map .int)), ("pieces", .list (pcs.map .str)), ("texts", .mu 0), ("k", z1), ("kind", z2), ("more", z3)]
theorem strs_cl (l : List Str) : Closed (.list (l.map .str)) := Closed.list fun y hy => by obtain ⟨i, _, rfl⟩ := List.mem_map.mp hy; exact .str
theorem ints_cl (l : List Int) : Closed (.list (l.map .int)) := Closed.list fun y hy => by obtain ⟨i, _, rfl⟩ := List.mem_map.mp hy; exact .int
theorem two_get {a b : MV} {j : Nat} (h : j < 2) : ([a, b] : List MV)[j]? = some (if j = 0 then a else b) := match j, h with
  | 0, _ => rfl
  | 1, _ => rfl
theorem getD_some {l : List Str} {j : Nat} (h : j < l.length) : (l.map MV.str)[j]? = some (.str (l.getD j Str.empty)) := by
  rw [List.getElem?_map, List.getD_eq_getElem?_getD, List.getElem?_eq_getElem h]; rfl
theorem texts_set (cs : List Int) (i : Nat) : ([.str (textsN cs i).1, .str (textsN cs i).2] : List MV).set (if i + 1 < 6 then 0 else 1) (.str ((if i + 1 < 6 then (textsN cs i).1 else (textsN cs i).2) ++ pieceOf (cs.getD (i + 1) 0))) = [.str (textsN cs (i + 1)).1, .str (textsN cs (i + 1)).2] := by
  rw [textsN]
  split <;> rfl
section
variable {w : World} {hB : Heap} {mg mb : Str → Option Value}
theorem txt_aug {Γ : Cx} {cs : List Int} {i : Nat} {z2 z3 : MV} {QF : MF → St → Prop} {p1 p2 p3 p4 p5 p6 : Pos} {n6 : Nat} {e : Expr} (hi : i < 10)
    (he : WPe pr w Γ ⟨locT cs (.int (1 + (i : Int))) z2 z3, [some (.lst [.str (textsN cs i).1, .str (textsN cs i).2])]⟩ e fun x σ₁ => x = .str (pieceOf (cs.getD (i + 1) 0)) ∧ σ₁ = ⟨locT cs (.int (1 + (i : Int))) z2 z3, [some (.lst [.str (textsN cs i).1, .str (textsN cs i).2])]⟩)
    (h : QF .next ⟨locT cs (.int (1 + (i : Int))) z2 z3, [some (.lst [.str (textsN cs (i + 1)).1, .str (textsN cs (i + 1)).2])]⟩)
    (ha : ∀ ov iv new, augStore (.BinOp (.Name "k" p2) .FloorDiv (.Constant (.int 6) n6 p3) p4) ov iv new = (do holding [new, ov, iv] (setItem ov iv new); release [new, ov, iv] []; pure .next)) :
    WPx pr w Γ ⟨locT cs (.int (1 + (i : Int))) z2 z3, [some (.lst [.str (textsN cs i).1, .str (textsN cs i).2])]⟩ (.AugAssign (.Subscript (.Name "texts" p1) (.BinOp (.Name "k" p2) .FloorDiv (.Constant (.int 6) n6 p3) p4) p5) .Add e p6) QF := by
  have hl := texts_len cs i
  have hp := piece_len (cs.getD (i + 1) 0)
  have hj : (1 + (i : Int)).fdiv 6 = ((if i + 1 < 6 then 0 else 1 : Nat) : Int) := by
    exact (by decide : ∀ i : Nat, i < 10 → (1 + (i : Int)).fdiv 6 = ((if i + 1 < 6 then 0 else 1 : Nat) : Int)) i hi
  have h01 : (if i + 1 < 6 then 0 else 1 : Nat) < 2 := by split <;> (first | exact o71 | exact o72 | omega)
  refine wx_augmuG (k := 0) (xs := [.str (textsN cs i).1, .str (textsN cs i).2]) (j := ((if i + 1 < 6 then 0 else 1 : Nat) : Int)) (a := .str (if i + 1 < 6 then (textsN cs i).1 else (textsN cs i).2)) (b := .str (pieceOf (cs.getD (i + 1) 0))) (c := .str ((if i + 1 < 6 then (textsN cs i).1 else (textsN cs i).2) ++ pieceOf (cs.getD (i + 1) 0)))
    (wp_name (by tm_at "lk") rfl ⟨rfl, rfl⟩) ?_ rfl (by show 2 ≤ 1000; decide) (Int.natCast_nonneg _) ?_ he ?_ ?_ ha
  · tm_at "x"
    refine w2_div (by decide) (by decide) ?_
    rw [hj]
    exact ⟨rfl, rfl⟩
  · rw [Int.toNat_natCast, two_get h01]
    split <;> rfl
  · refine w2_icat ?_ ⟨rfl, rfl⟩
    show _ ≤ 16777216
    split <;> (first | exact o73 hl hp (by assumption) | exact o74 hi hl hp | omega)
  · rw [Int.toNat_natCast, texts_set]
    exact h
theorem pf_txt (T : TopF hB mg mb) {f fo : Addr} (hf : IsFn hB f "_law_texts" bTxt) (hfo : IsFn hB fo "_law_operators" bOps) (hg : ∀ p ∈ glT fo, GlobAt w hB mg mb (fScope bTxt) p) {cs : List Int} (hc : cs.length = 11) :
    PureFn pr w 2 hB (.ref f) [.list (cs.map .int)] (fun v => v = .list [.str (textsN cs 10).1, .str (textsN cs 10).2]) := by
  refine PureFn.of_stmt T hf ["cells"] ["pieces", "texts", "k", "kind", "more"] (glT fo) bTxtB rfl sTxt hg rfl rfl ?_
  intro Γ hΓ
  have hgl : Γ.glob = glT fo := hΓ.2.2.1
  show WPs pr w Γ ⟨[("cells", .list (cs.map .int)), ("pieces", .undef), ("texts", .undef), ("k", .undef), ("kind", .undef), ("more", .undef)], []⟩ [_, _, _, _] _
  refine ws_cons ?_
  iterate 51 (tm_at "x1")
  refine ws_cons ?_
  show WPx pr w Γ ⟨[("cells", .list (cs.map .int)), ("pieces", .list (pcs.map .str)), ("texts", .undef), ("k", .undef), ("kind", .undef), ("more", .undef)], []⟩ _ _
  refine wx_new (wl_cons (wp_str (wl_cons (wp_str (wl_nil ⟨by show 2 ≤ 16777216; decide, ?_⟩)) (fun _ => rfl))) (fun _ => rfl))
  tm_at "q"
  refine then_next (ws_cons ?_)
  refine wx_for ?_ (fun _ _ => rfl)
  tm_at "x"
  refine wc_range2 ?_
  refine ⟨_, Itr.rng _ _ 1 11 rfl rfl, ?_⟩
  refine wpf_inv (fun ys σ => ∃ i z1 z2 z3, i ≤ 10 ∧ ys = (intsOf 1 11).drop i ∧ σ = ⟨locT cs z1 z2 z3, [some (.lst [.str (textsN cs i).1, .str (textsN cs i).2])]⟩) (fun y ys σ hI => ?_) (fun σ hI => ?_) _ _ ⟨0, .undef, .undef, .undef, by decide, rfl, rfl⟩
  · obtain ⟨i, z1, z2, z3, hi, hys, rfl⟩ := hI
    have hi' : i < 10 := by
      rcases Nat.lt_or_ge i 10 with q | q
      · exact q
      · rw [List.drop_eq_nil_of_le (by show (intsOf 1 11).length ≤ i; exact q)] at hys; cases hys
    obtain ⟨rfl, rfl⟩ : y = .int (1 + (i : Int)) ∧ ys = (intsOf 1 11).drop (i + 1) := by
      have h1 : (intsOf 1 11)[i]? = some (.int (1 + (i : Int))) := by unfold intsOf; simp [hi']
      have h2 := congrArg List.head? hys
      rw [List.head?_drop, h1] at h2
      have h3 := congrArg List.tail hys
      rw [List.tail_drop] at h3
      exact ⟨Option.some.inj h2, h3⟩
    refine wa_name (.there _ (.there _ (.there _ (.here _ _)))) ?_
    show WPs pr w Γ ⟨locT cs (.int (1 + (i : Int))) z2 z3, _⟩ [_, _] _
    have hcell : (cs.map MV.int)[((1 + (i : Int))).toNat]? = some (.int (cs.getD (i + 1) 0)) := by
      have e1 : (1 + (i : Int)).toNat = i + 1 := by (first | exact o75 | omega)
      rw [e1, List.getElem?_map, List.getD_eq_getElem?_getD, List.getElem?_eq_getElem (by (first | exact o76 hc hi' | omega))]; rfl
    have hb0 : (0 : Int) ≤ 1 + (i : Int) := by (first | exact o77 | omega)
    have hb1 : 1 + (i : Int) < 9223372036854775808 := by (first | exact o78 hi' | omega)
    generalize hC : cs.getD (i + 1) 0 = C at hcell
    refine ws_cons ?_
    refine' wx_swap2 "kind" "more" ?_ ?hs ?hw
    case hs => intro _; rfl
    case hw => exact swapped_of hΓ.1 rfl
    tm_at "x"
    refine it_list hb0 hb1 hcell ?_
    tm_at "x"
    refine w2_mod (by decide) ?_
    tm_at "x"
    refine it_list hb0 hb1 hcell ?_
    tm_at "x"
    refine w2_div (by decide) (by decide) ?_
    tm_at "x"
    have hpc : pieceOf C = if C.fmod 24 = 22 then ⟨#[(9 + (C.fdiv 24).fmod 55287).toNat]⟩ else if C.fmod 24 = 23 then ops.getD ((C.fdiv 24).fmod 48).toNat Str.empty else pcs.getD (C.fmod 24).toNat Str.empty := rfl
    have m0 := Int.fmod_nonneg_of_pos C (b := 24) (by decide)
    have m1 := Int.fmod_lt_of_pos C (b := 24) (by decide)
    have b0 := Int.fmod_nonneg_of_pos (C.fdiv 24) (b := 55287) (by decide)
    have b1 := Int.fmod_lt_of_pos (C.fdiv 24) (b := 55287) (by decide)
    have o0 := Int.fmod_nonneg_of_pos (C.fdiv 24) (b := 48) (by decide)
    have o1 := Int.fmod_lt_of_pos (C.fdiv 24) (b := 48) (by decide)
    have again : ∀ z2 z3, (fun ys σ => ∃ i z1 z2 z3, i ≤ 10 ∧ ys = (intsOf 1 11).drop i ∧ σ = (⟨locT cs z1 z2 z3, [some (.lst [.str (textsN cs i).1, .str (textsN cs i).2])]⟩ : St)) ((intsOf 1 11).drop (i + 1)) ⟨locT cs (.int (1 + (i : Int))) z2 z3, [some (.lst [.str (textsN cs (i + 1)).1, .str (textsN cs (i + 1)).2])]⟩ := fun z2 z3 => ⟨i + 1, _, z2, z3, hi', rfl, rfl⟩
    refine ⟨fun hc => ?_, fun hc => ?_⟩
    · have hc : C.fmod 24 = 22 := by simpa using hc
      rw [if_pos hc] at hpc
      refine ws_cons (txt_aug hi' ?_ (then_next (ws_nil (then_next (ws_nil (again _ _))))) (fun _ _ _ => rfl))
      rw [hC, hpc]
      tm_at "x"
      refine w2_mod (by decide) ?_
      tm_at "x"
      refine wc_chr (by (first | exact o79 b0 | omega)) (by (first | exact o80 b1 | omega)) ⟨rfl, rfl⟩
    · have hc : C.fmod 24 ≠ 22 := by simpa using hc
      rw [if_neg hc] at hpc
      refine ws_cons (wx_if ?_)
      tm_at "x"
      refine ⟨fun hc2 => ?_, fun hc2 => ?_⟩
      · have hc2 : C.fmod 24 = 23 := by simpa using hc2
        rw [if_pos hc2] at hpc
        refine ws_cons (txt_aug hi' ?_ (then_next (ws_nil (then_next (ws_nil (then_next (ws_nil (again _ _))))))) (fun _ _ _ => rfl))
        rw [hC, hpc]
        tm_at "x"
        refine wc_pure hΓ (pf_ops T hfo) hfo (by decide) (fun y hy => nomatch hy) fun v hv => ?_
        subst hv
        tm_at "x"
        refine w2_mod (by decide) ?_
        refine it_list o0 (by (first | exact o81 o1 | omega)) (getD_some (by rw [show ops.length = 48 by decide +kernel]; (first | exact o82 o0 o1 | omega))) ⟨rfl, rfl⟩
      · have hc2 : C.fmod 24 ≠ 23 := by simpa using hc2
        rw [if_neg hc2] at hpc
        refine ws_cons (txt_aug hi' ?_ (then_next (ws_nil (then_next (ws_nil (then_next (ws_nil (again _ _))))))) (fun _ _ _ => rfl))
        rw [hC, hpc]
        tm_at "x"
        refine it_list m0 (by (first | exact o83 m1 | omega)) (getD_some (by rw [show pcs.length = 22 by decide +kernel]; (first | exact o84 m0 m1 hc hc2 | omega))) ⟨rfl, rfl⟩
  · obtain ⟨i, z1, z2, z3, hi, hys, rfl⟩ := hI
    have : i = 10 := by
      rcases Nat.lt_or_ge i 10 with q | q
      · exfalso
        have := congrArg List.length hys
        simp [intsOf] at this
        (first | exact o85 q this | omega)
      · (first | exact o86 hi q | omega)
    subst this
    refine then_next ?_
    refine ws_freeze (x := "texts") (k := 0) (xs := [.str (textsN cs 10).1, .str (textsN cs 10).2]) (by tm_at "lk") rfl ?_
    tm_at "q"
    tm_at "x"
    exact ⟨Closed.list fun y hy => by simp only [List.mem_cons, List.not_mem_nil, or_false] at hy; rcases hy with rfl | rfl <;> exact .str, rfl⟩
end
noncomputable def txO (l : List Nat) : Str := ⟨l.toArray⟩
theorem txO_len (l : List Nat) : (txO l).length = l.length := by show l.toArray.size = _; simp
theorem txO_cps (x : Str) : txO x.cps.toList = x := by cases x; simp [txO]
theorem slice_run (l : List Nat) (a b : Nat) (hab : a ≤ b) (ha : a ≤ l.length) : Txt.slice (txO l) (some (a : Int)) (some ((b : Nat) : Int)) = txO ((l.drop a).take (b - a)) := by
  have key : ∀ j : Nat, a ≤ j → j ≤ l.length → Txt.slice (txO l) (some (a : Int)) (some (j : Int)) = txO ((l.drop a).take (j - a)) := fun j h1 h2 => by
    have h := beq_iff_eq.mp (slice_closesL (x := txO l) (i := (a : Int)) (j := (j : Int)) (by (first | exact o32 | omega)) (by (first | exact o87 h1 | omega)) (by rw [txO_len]; (first | exact o87 h2 | omega)))
    rw [h]
    unfold txO
    have e : ((j : Int) - (a : Int)).toNat = j - a := by (first | exact o88 h1 | omega)
    simp [e]
  by_cases h : b ≤ l.length
  · exact key b hab h
  · have : Txt.slice (txO l) (some (a : Int)) (some (b : Int)) = Txt.slice (txO l) (some (a : Int)) (some (l.length : Int)) := by
      have e : Builtin.Str.strSliceIndices (some (a : Int)) (some (b : Int)) 1 (txO l).length = Builtin.Str.strSliceIndices (some (a : Int)) (some (l.length : Int)) 1 (txO l).length := by
        rw [txO_len]
        have a1 : ¬ (b : Int) < 0 := by (first | exact fun q => o89 q | omega)
        have a2 : ¬ ((l.length : Int) < 0) := by (first | exact fun q => o89 q | omega)
        have e1 : max (0 : Int) (min (b : Int) (l.length : Int)) = l.length := by omega
        have e2 : max (0 : Int) (min (l.length : Int) (l.length : Int)) = l.length := by omega
        simp [Builtin.Str.strSliceIndices]
        rw [if_neg a1, if_neg a2, e1, e2]
      show StrLaws.sliceText _ _ _ = StrLaws.sliceText _ _ _
      unfold StrLaws.sliceText
      rw [e]
    rw [this, key _ ha (Nat.le_refl _), List.take_of_length_le (by simp), List.take_of_length_le (by simp; (first | exact o90 h | omega))]
theorem down_ok {n : Nat} (h : n ≤ 1000000) : Builtin.Range.small ((n : Int) - 1) (-1) (-1) = true ∧ Builtin.Range.rangeSize ((n : Int) - 1) (-1) (-1) = n ∧ Builtin.divisionGoesByPylong (-1 - ((n : Int) - 1)) (-1) = false := by
  have hs : Builtin.Range.rangeSize ((n : Int) - 1) (-1) (-1) = n := by
    unfold Builtin.Range.rangeSize
    simp only [show ¬ ((-1 : Int) > 0) by decide, if_false, show -(-1 : Int) = 1 from rfl, Int.ediv_one]
    split <;> (first | exact o91 | exact o92 (by assumption) | omega)
  refine ⟨?_, hs, PyProof.noPylong_small (by omega)⟩
  unfold Builtin.Range.small
  rw [hs]
  simp only [Builtin.Range.rangeFitsLong, Bool.and_eq_true, Bool.or_eq_true, decide_eq_true_eq, beq_iff_eq, show ¬ ((-1 : Int) > 0) by decide, if_false]
  omega
theorem wpf_down {prog : Program} {w : World} {Γ : Cx} {σ : St} {tgt : Expr} {b : List Stmt} {QF : MF → St → Prop} {n : Nat} (I : Nat → St → Prop) (h : I n σ)
    (step : ∀ a σ, a < n → I (a + 1) σ → WU1 prog w Γ σ (.int a) (assign tgt Γ.env) fun σ₁ => WPs prog w Γ σ₁ b (turn (I a) QF)) (fin : ∀ σ, I 0 σ → QF .next σ) : WPf prog w Γ tgt b QF (intsBy ((n : Int) - 1) (-1) n) σ := by
  have hlen : (intsBy ((n : Int) - 1) (-1) n).length = n := by simp [intsBy]
  refine wpf_inv (fun ys σ => ∃ j, j ≤ n ∧ ys = (intsBy ((n : Int) - 1) (-1) n).drop j ∧ I (n - j) σ) (fun y ys σ hI => ?_) (fun σ hI => ?_) _ _ ⟨0, Nat.zero_le _, rfl, h⟩
  · obtain ⟨j, hj, hys, hI⟩ := hI
    have hj' : j < n := by
      rcases Nat.lt_or_ge j n with q | q
      · exact q
      · rw [List.drop_eq_nil_of_le (by rw [hlen]; exact q)] at hys; cases hys
    have h1 : (intsBy ((n : Int) - 1) (-1) n)[j]? = some (.int ((n - 1 - j : Nat) : Int)) := by
      unfold intsBy
      simp only [List.getElem?_map, List.getElem?_range hj', Option.map_some]
      congr 2; (first | exact o93 hj' | omega)
    have h2 := congrArg List.head? hys
    rw [List.head?_drop, h1] at h2
    have h3 := congrArg List.tail hys
    rw [List.tail_drop] at h3
    obtain rfl : y = .int ((n - 1 - j : Nat) : Int) := Option.some.inj h2
    have e : n - j = (n - 1 - j) + 1 := by (first | exact o94 hj' | omega)
    rw [e] at hI
    intro K ps v s R r hR
    refine step (n - 1 - j) σ (by (first | exact o95 hj' | omega)) hI K ps v s R r fun σ' s' q r' => hR σ' s' (q.mono (turn_mono fun σ' q => ⟨j + 1, hj', h3, ?_⟩)) r'
    have e2 : n - (j + 1) = n - 1 - j := by (first | exact o96 hj' | omega)
    rw [e2]; exact q
  · obtain ⟨j, hj, hys, hI⟩ := hI
    have := congrArg List.length hys
    simp [hlen] at this
    have e : n - j = 0 := by (first | exact o97 this | omega)
    rw [e] at hI
    exact fin σ hI
noncomputable abbrev T3 := List Str × List Str × List Str
noncomputable def t0 : T3 := ([], [Str.empty], [Str.empty])
noncomputable def one (c : Nat) : Str := ⟨#[c]⟩
noncomputable def isWsC (c : Nat) : Bool := c == 32 || c == 10 || c == 9 || c == 13
noncomputable def leadW (c : Nat) (nx : Option Nat) : Str := if c = 92 then (match nx with | some d => one d | none => Str.empty) else one c
noncomputable def stepT (sp : Str → Bool) (c : Nat) (lead : Str) (t : T3) : T3 :=
  let bo := (lead ++ t.2.1.headD Str.empty) :: t.2.1.tail
  let qo := (lead ++ t.2.2.headD Str.empty) :: t.2.2.tail
  if (isWsC c && !sp (one c)) = true then (t.1, Str.empty :: t.1, qo) else if (c == 34 && !sp (one c)) = true then (t.2.2, bo, Str.empty :: t.1) else (bo, bo, qo)
noncomputable def stepW (sp : Str → Bool) (c : Nat) (nx : Option Nat) (a b : T3) : T3 := stepT sp c (leadW c nx) (if c = 92 ∧ nx ≠ none then b else a)
noncomputable def tolds (sp : Str → Bool) : List Nat → List T3
  | [] => [t0]
  | c :: r => stepW sp c r.head? ((tolds sp r).headD t0) ((tolds sp r).tail.headD t0) :: tolds sp r
noncomputable def t3MV (t : T3) : MV := .tup [.list (t.1.map .str), .list (t.2.1.map .str), .list (t.2.2.map .str)]
structure Bt (m : Nat) (t : T3) : Prop where
  l1 : t.1.length ≤ m + 1
  l2 : t.2.1.length ≤ m + 1
  l3 : t.2.2.length ≤ m + 1
  n2 : t.2.1 ≠ []
  n3 : t.2.2 ≠ []
  s1 : ∀ y ∈ t.1, y.length ≤ m
  s2 : ∀ y ∈ t.2.1, y.length ≤ m
  s3 : ∀ y ∈ t.2.2, y.length ≤ m
theorem bt0 (m : Nat) : Bt m t0 := ⟨Nat.zero_le _, Nat.le_add_left _ _, Nat.le_add_left _ _, nofun, nofun, nofun, fun y hy => by simp [t0] at hy; subst hy; exact Nat.zero_le _, fun y hy => by simp [t0] at hy; subst hy; exact Nat.zero_le _⟩
theorem Bt.mono {m n : Nat} {t : T3} (h : Bt m t) (e : m ≤ n) : Bt n t := ⟨by have := h.l1; (first | exact o98 e this | omega), by have := h.l2; (first | exact o98 e this | omega), by have := h.l3; (first | exact o98 e this | omega), h.n2, h.n3, fun y hy => Nat.le_trans (h.s1 y hy) e, fun y hy => Nat.le_trans (h.s2 y hy) e, fun y hy => Nat.le_trans (h.s3 y hy) e⟩
theorem lead_len (c : Nat) (nx : Option Nat) : (leadW c nx).length ≤ 1 := by
  unfold leadW
  split
  · cases nx with
    | none => exact Nat.zero_le _
    | some d => exact Nat.le_refl _
  · exact Nat.le_refl _
theorem on_ok {m : Nat} {l : List Str} {x : Str} (hx : x.length ≤ 1) (hn : l ≠ []) (hl : l.length ≤ m + 1) (hs : ∀ y ∈ l, y.length ≤ m) : ((x ++ l.headD Str.empty) :: l.tail).length ≤ m + 2 ∧ (∀ y ∈ (x ++ l.headD Str.empty) :: l.tail, y.length ≤ m + 1) := by
  cases l with
  | nil => exact absurd rfl hn
  | cons z l =>
    refine ⟨by simp at hl ⊢; (first | exact o99 hl | omega), fun y hy => ?_⟩
    rcases List.mem_cons.mp hy with rfl | hy
    · have := hs z (.head _)
      show (x ++ z).length ≤ _
      rw [Str.length_append]; (first | exact o100 hx this | omega)
    · have := hs y (.tail _ hy); (first | exact o99 this | omega)
theorem step_bt (sp : Str → Bool) (c : Nat) (nx : Option Nat) {m : Nat} {a b : T3} (ha : Bt m a) (hb : Bt m b) : Bt (m + 1) (stepW sp c nx a b) := by
  have ht : Bt m (if c = 92 ∧ nx ≠ none then b else a) := by split <;> assumption
  unfold stepW stepT
  generalize (if c = 92 ∧ nx ≠ none then b else a) = t at ht
  obtain ⟨b1, b2⟩ := on_ok (lead_len c nx) ht.n2 ht.l2 ht.s2
  obtain ⟨q1, q2⟩ := on_ok (lead_len c nx) ht.n3 ht.l3 ht.s3
  have h1 := ht.l1
  have h3 := ht.l3
  have e1 : (Str.empty :: t.1).length ≤ m + 2 := by simp; (first | exact o101 h1 | omega)
  have e2 : ∀ y ∈ Str.empty :: t.1, y.length ≤ m + 1 := fun y hy => by
    rcases List.mem_cons.mp hy with rfl | hy
    · exact Nat.zero_le _
    · have := ht.s1 y hy; (first | exact o99 this | omega)
  dsimp only
  split
  · exact ⟨by show t.1.length ≤ _; (first | exact o102 h1 | omega), e1, q1, nofun, nofun, fun y hy => by have := ht.s1 y hy; (first | exact o99 this | omega), e2, q2⟩
  · split
    · exact ⟨by show t.2.2.length ≤ _; (first | exact o102 h3 | omega), b1, e1, nofun, nofun, fun y hy => by have := ht.s3 y hy; (first | exact o99 this | omega), b2, e2⟩
    · exact ⟨b1, b1, q1, nofun, nofun, b2, b2, q2⟩
theorem headD_mem {l : List T3} {P : T3 → Prop} (h : ∀ t ∈ l, P t) (h0 : P t0) : P (l.headD t0) := by
  cases l with
  | nil => exact h0
  | cons x l => exact h x (.head _)
theorem tolds_bt (sp : Str → Bool) : ∀ (r : List Nat), ∀ t ∈ tolds sp r, Bt r.length t
  | [], t, h => by simp [tolds] at h; subst h; exact bt0 _
  | c :: r, t, h => by
    have ih := tolds_bt sp r
    rcases List.mem_cons.mp h with rfl | h
    · exact step_bt sp c _ (headD_mem ih (bt0 _)) (headD_mem (fun t ht => ih t (List.mem_of_mem_tail ht)) (bt0 _))
    · exact (ih t h).mono (Nat.le_succ _)
theorem tolds_len (sp : Str → Bool) : ∀ r : List Nat, (tolds sp r).length = r.length + 1
  | [] => rfl
  | c :: r => by simp [tolds, tolds_len sp r]
theorem sWrd : ScopeOk (fScope bWrd) ((["text", "spelled"] : List Str) ++ (["told", "at", "idle", "bare", "quoted", "sign", "lead", "bare_on", "quoted_on"] : List Str)) := ⟨rfl, by decide +kernel, by decide +kernel, by decide +kernel⟩
theorem bWrdB : ∀ doc pm cdv ct vs, vs.length = (["text", "spelled"] : List Str).length → bindArgs (fnOf (fName bWrd) "_law_words" (fArgs bWrd) (fBody bWrd) (fScope bWrd) .none .none doc pm none cdv ct) ⟨vs, []⟩ = pure ((["text", "spelled"] : List Str).zip vs) := by intro doc pm cdv ct vs h; obtain ⟨v, u, rfl⟩ := len2 h; rfl
noncomputable abbrev glW1 : List (Str × MV) := [("len", .obj (.builtin "len")), ("range", .obj (.type "range"))]
noncomputable abbrev locW (l : List Nat) (h : Nat) (z1 z2 z3 z4 z5 z6 z7 z8 : MV) : List (Str × MV) := [("text", .str (txO l)), ("spelled", .dictS (spT h)), ("told", .mu 0), ("at", z1), ("idle", z2), ("bare", z3), ("quoted", z4), ("sign", z5), ("lead", z6), ("bare_on", z7), ("quoted_on", z8)]
noncomputable def isSp (h : Nat) (y : Str) : Bool := (mvAt (spT h) y).isSome
noncomputable abbrev toldW (h : Nat) (r : List Nat) : List MV := (tolds (isSp h) r).reverse.map t3MV
theorem told_one (h : Nat) (r : List Nat) : (toldW h r)[(-1 + ((toldW h r).length : Int)).toNat]? = some (t3MV ((tolds (isSp h) r).headD t0)) := by
  have hl := tolds_len (isSp h) r
  cases e : tolds (isSp h) r with
  | nil => rw [e] at hl; cases hl
  | cons x L =>
    unfold toldW
    rw [e]
    have : (-1 + ((((x :: L).reverse).map t3MV).length : Int)).toNat = L.length := by simp; (first | exact o103 | omega)
    rw [this]
    simp
theorem told_two (h : Nat) (d : Nat) (r : List Nat) : (toldW h (d :: r))[(-2 + ((toldW h (d :: r)).length : Int)).toNat]? = some (t3MV ((tolds (isSp h) r).headD t0)) := by
  have hl := tolds_len (isSp h) r
  cases e : tolds (isSp h) r with
  | nil => rw [e] at hl; cases hl
  | cons x L =>
    unfold toldW tolds
    rw [e]
    generalize stepW _ _ _ _ _ = y
    have : (-2 + ((((y :: x :: L).reverse).map t3MV).length : Int)).toNat = L.length := by simp; (first | exact o104 | omega)
    rw [this]
    simp
theorem told_snoc (h : Nat) (c : Nat) (r : List Nat) : toldW h r ++ [t3MV (stepW (isSp h) c r.head? ((tolds (isSp h) r).headD t0) ((tolds (isSp h) r).tail.headD t0))] = toldW h (c :: r) := by
  unfold toldW
  rw [show tolds (isSp h) (c :: r) = stepW (isSp h) c r.head? ((tolds (isSp h) r).headD t0) ((tolds (isSp h) r).tail.headD t0) :: tolds (isSp h) r from rfl]
  simp
theorem tail_map (l : List Str) : (l.map MV.str).tail = l.tail.map MV.str := by cases l <;> rfl
theorem head_get {l : List Str} (h : l ≠ []) : (l.map MV.str)[(0 : Int).toNat]? = some (.str (l.headD Str.empty)) := by
  cases l with
  | nil => exact absurd rfl h
  | cons x l => rfl
theorem ws_occ (c : Nat) : (!(Builtin.Str.occurrences " \n\t\r" (one c) 0 (Str.ofString " \n\t\r").length 1).isEmpty) = isWsC c := by
  rw [show one c = ⟨#[c]⟩ from rfl, StrLaws.found_one]
  show decide (c ∈ [32, 10, 9, 13]) = isWsC c
  unfold isWsC
  by_cases h1 : c = 32
  · subst h1; rfl
  · by_cases h2 : c = 10
    · subst h2; rfl
    · by_cases h3 : c = 9
      · subst h3; rfl
      · by_cases h4 : c = 13
        · subst h4; rfl
        · simp [h1, h2, h3, h4]
noncomputable def forBodyD : Option Stmt → List Stmt
  | some (.For _ _ b _ _) => b
  | _ => []
theorem one_eq (c d : Nat) : (one c == one d) = (c == d) := by
  by_cases h : c = d
  · subst h; rw [beq_self_eq_true (one c), beq_self_eq_true c]
  · have : one c ≠ one d := fun e => h (by have := congrArg (fun s : Str => s.cps[0]?) e; simpa [one] using this)
    rw [beq_eq_false_iff_ne.mpr this, beq_eq_false_iff_ne.mpr h]
noncomputable def InvW (l : List Nat) (h a : Nat) (σ : St) : Prop := ∃ z1 z2 z3 z4 z5 z6 z7 z8, σ = ⟨locW l h z1 z2 z3 z4 z5 z6 z7 z8, [some (.lst (toldW h (l.drop a)))]⟩
section
variable {w : World} {hB : Heap} {mg mb : Str → Option Value}
theorem wrd_rest {Γ : Cx} {l : List Nat} {h a c : Nat} {lead : Str} {t : T3} {z7 z8 : MV} {xs : List MV} {I : St → Prop} {QF : MF → St → Prop} {body : List Stmt} (hst : body = (forBodyD (fBody bWrd)[1]?).drop 4) (hb : Bt 1000 t) (hlead : lead.length ≤ 1) (hxs : xs.length ≤ 2000)
    (hI : ∀ z7 z8, I ⟨locW l h (.int a) (.list (t.1.map .str)) (.list (t.2.1.map .str)) (.list (t.2.2.map .str)) (.str (one c)) (.str lead) z7 z8, [some (.lst (xs ++ [t3MV (stepT (isSp h) c lead t)]))]⟩) :
    WPs pr w Γ ⟨locW l h (.int a) (.list (t.1.map .str)) (.list (t.2.1.map .str)) (.list (t.2.2.map .str)) (.str (one c)) (.str lead) z7 z8, [some (.lst xs)]⟩ body (turn I QF) := by
  subst hst
  have hs2 : ∀ y, y ∈ t.2.1 ∨ y ∈ t.2.2 → y.length ≤ 1000 := fun y hy => hy.elim (hb.s2 y) (hb.s3 y)
  have l1 := hb.l1
  have l2 := hb.l2
  have l3 := hb.l3
  have hd2 : (t.2.1.headD Str.empty).length ≤ 1000 := by
    cases e : t.2.1 with
    | nil => exact Nat.zero_le _
    | cons x L => exact hb.s2 x (e ▸ .head _)
  have hd3 : (t.2.2.headD Str.empty).length ≤ 1000 := by
    cases e : t.2.2 with
    | nil => exact Nat.zero_le _
    | cons x L => exact hb.s3 x (e ▸ .head _)
  show WPs pr w Γ _ [_, _, _] _
  tm_at "x"
  refine it_list (by decide) (by decide) (head_get hb.n2) ?_
  refine w2_cat (by show _ ≤ 16777216; (first | exact o105 hlead hd2 | omega)) ?_
  tm_at "x"
  refine sl_from1 (by rw [List.length_map]; show _ ≤ 16777216; (first | exact o106 l2 | omega)) ?_
  refine w2_addL (by simp; show _ ≤ 16777216; (first | exact o107 l2 | omega)) ?_
  rw [tail_map]
  tm_at "x"
  refine it_list (by decide) (by decide) (head_get hb.n3) ?_
  refine w2_cat (by show _ ≤ 16777216; (first | exact o105 hlead hd3 | omega)) ?_
  tm_at "x"
  refine sl_from1 (by rw [List.length_map]; show _ ≤ 16777216; (first | exact o106 l3 | omega)) ?_
  refine w2_addL (by simp; show _ ≤ 16777216; (first | exact o107 l3 | omega)) ?_
  rw [tail_map]
  tm_at "x"
  refine wt_and2 (isWsC c) (!isSp h (one c)) ?_ ?_
  · tm_at "x"
    refine w2_inStr ?_
    rw [ws_occ]
    tm_at "x"
    refine ⟨rfl, rfl, fun _ => ?_⟩
    tm_at "x"
    refine w2_ninS ?_
    tm_at "x"
    exact ⟨rfl, rfl⟩
  have hq : (Str.ofString "\"") = one 34 := rfl
  have fin : ∀ (z7 z8 : MV) (t' : T3), t' = stepT (isSp h) c lead t → I ⟨locW l h (.int a) (.list (t.1.map .str)) (.list (t.2.1.map .str)) (.list (t.2.2.map .str)) (.str (one c)) (.str lead) z7 z8, [some (.lst (xs ++ [t3MV t']))]⟩ := fun z7 z8 t' e => e ▸ hI z7 z8
  unfold stepT at fin
  refine ⟨fun hc => ?_, fun hc => ?_⟩
  · tm_at "x"
    refine wm_mu (k := 0) rfl PySem.F.slot_list_append PySem.F.type_list_append ?_
    tm_at "x"
    refine w2_addL (by simp; show _ ≤ 16777216; (first | exact o108 l1 | omega)) ?_
    tm_at "x"
    refine wc_append (k := 0) rfl (Nat.le_trans hxs (by decide)) ?_
    tm_at "x"
    exact fin _ _ (t.1, Str.empty :: t.1, _) (by dsimp only; rw [if_pos hc])
  · refine ws_cons (wx_if ?_)
    refine wt_and2 (c == 34) (!isSp h (one c)) ?_ ?_
    · tm_at "x"
      rw [hq, one_eq]
      tm_at "x"
      refine ⟨rfl, rfl, fun _ => ?_⟩
      tm_at "x"
      refine w2_ninS ?_
      tm_at "x"
      exact ⟨rfl, rfl⟩
    refine ⟨fun hc2 => ?_, fun hc2 => ?_⟩
    · tm_at "x"
      refine wm_mu (k := 0) rfl PySem.F.slot_list_append PySem.F.type_list_append ?_
      tm_at "x"
      refine w2_addL (by simp; show _ ≤ 16777216; (first | exact o108 l1 | omega)) ?_
      tm_at "x"
      refine wc_append (k := 0) rfl (Nat.le_trans hxs (by decide)) ?_
      tm_at "x"
      exact fin _ _ (t.2.2, _, Str.empty :: t.1) (by dsimp only; rw [if_neg (by rw [hc]; decide), if_pos hc2])
    · tm_at "x"
      refine wm_mu (k := 0) rfl PySem.F.slot_list_append PySem.F.type_list_append ?_
      tm_at "x"
      refine wc_append (k := 0) rfl (Nat.le_trans hxs (by decide)) ?_
      tm_at "x"
      exact fin _ _ ((lead ++ t.2.1.headD Str.empty) :: t.2.1.tail, (lead ++ t.2.1.headD Str.empty) :: t.2.1.tail, (lead ++ t.2.2.headD Str.empty) :: t.2.2.tail) (by dsimp only; rw [if_neg (by rw [hc]; decide), if_neg (by rw [hc2]; decide)])
theorem pf_wrd (T : TopF hB mg mb) {f : Addr} (hf : IsFn hB f "_law_words" bWrd) (hg : ∀ p ∈ glW1, GlobAt w hB mg mb (fScope bWrd) p) {l : List Nat} (hl : l.length ≤ 1000) {h : Nat} :
    PureFn pr w 1 hB (.ref f) [.str (txO l), .dictS (spT h)] (fun v => v = .list ((((tolds (isSp h) l).headD t0).1).map .str)) := by
  refine PureFn.of_stmt T hf ["text", "spelled"] ["told", "at", "idle", "bare", "quoted", "sign", "lead", "bare_on", "quoted_on"] glW1 bWrdB rfl sWrd hg rfl rfl ?_
  intro Γ hΓ
  have hgl : Γ.glob = glW1 := hΓ.2.2.1
  show WPs pr w Γ ⟨[("text", .str (txO l)), ("spelled", .dictS (spT h)), ("told", .undef), ("at", .undef), ("idle", .undef), ("bare", .undef), ("quoted", .undef), ("sign", .undef), ("lead", .undef), ("bare_on", .undef), ("quoted_on", .undef)], []⟩ [_, _, _] _
  with_reducible refine ws_cons ?_
  with_reducible refine wx_new ?_
  tm_at "x"
  show WPx pr w Γ ⟨locW l h .undef .undef .undef .undef .undef .undef .undef .undef, [some (.lst (toldW h []))]⟩ _ _
  refine wx_for ?_ (fun _ _ => rfl)
  tm_at "x"
  refine wc_lenS (by rw [txO_len]; exact Nat.le_trans hl (by decide)) ?_
  rw [txO_len]
  tm_at "x"
  refine w2_sub ?_
  tm_at "x"
  refine wp_unary (wp_int (w1_neg ?_))
  tm_at "x"
  refine wp_unary (wp_int (w1_neg ?_))
  tm_at "x"
  obtain ⟨d1, d2, d3⟩ := down_ok (n := l.length) (by (first | exact o109 hl | omega))
  refine wc_range3 (by decide) d3 ?_
  refine ⟨_, Itr.rngBy _ _ _ _ _ l.length d1 d2, ?_⟩
  refine wpf_down (InvW l h) ⟨_, _, _, _, _, _, _, _, by rw [List.drop_length]⟩ (fun a σ ha hI => ?_) (fun σ hI => ?_)
  · obtain ⟨z1, z2, z3, z4, z5, z6, z7, z8, rfl⟩ := hI
    refine wa_name (.there _ (.there _ (.there _ (.here _ _)))) ?_
    show WPs pr w Γ ⟨locW l h (.int a) z2 z3 z4 z5 z6 z7 z8, _⟩ (_ :: _ :: _ :: _) _
    have hbt := tolds_bt (isSp h) (l.drop (a + 1))
    have hbl : (l.drop (a + 1)).length ≤ 1000 := by rw [List.length_drop]; (first | exact o110 hl ha | omega)
    have hcs : l.drop a = l[a] :: l.drop (a + 1) := List.drop_eq_getElem_cons ha
    have hcp : (txO l).cps[((a : Int)).toNat]? = some l[a] := by
      rw [Int.toNat_natCast]; show l.toArray[a]? = _; simp [ha]
    have hsl : Txt.slice (txO l) (some ((a : Int) + 1)) (some ((a : Int) + 2)) = txO ((l.drop (a + 1)).take 1) := by
      have := slice_run l (a + 1) (a + 2) (by (first | exact o111 | omega)) (by (first | exact o112 ha | omega))
      rw [show a + 2 - (a + 1) = 1 by (first | exact o113 | omega)] at this
      exact this
    have htl : ∀ r : List Nat, txO (r.take 1) = leadW 92 r.head? := fun r => by cases r <;> rfl
    have hxs : (toldW h (l.drop (a + 1))).length ≤ 2000 := by simp [tolds_len]; (first | exact o114 hl | omega)
    have hone := told_one h (l.drop (a + 1))
    have hsn := told_snoc h l[a] (l.drop (a + 1))
    have htwo : ∀ d r', l.drop (a + 1) = d :: r' → (toldW h (l.drop (a + 1)))[(-2 + ((toldW h (l.drop (a + 1))).length : Int)).toNat]? = some (t3MV ((tolds (isSp h) (l.drop (a + 1))).tail.headD t0)) := fun d r' e => by
      have := told_two h d r'
      rw [e]; exact this
    have fin : ∀ z7 z8 t', t' = stepW (isSp h) l[a] (l.drop (a + 1)).head? ((tolds (isSp h) (l.drop (a + 1))).headD t0) ((tolds (isSp h) (l.drop (a + 1))).tail.headD t0) → ∀ z2 z3 z4 z5 z6, InvW l h a ⟨locW l h (.int a) z2 z3 z4 z5 z6 z7 z8, [some (.lst (toldW h (l.drop (a + 1)) ++ [t3MV t']))]⟩ := fun z7 z8 t' e z2 z3 z4 z5 z6 => ⟨.int a, z2, z3, z4, z5, z6, z7, z8, by rw [e, hsn, ← hcs]⟩
    have hB1 : Bt 1000 ((tolds (isSp h) (l.drop (a + 1))).headD t0) := (headD_mem hbt (bt0 _)).mono hbl
    have hB2 : Bt 1000 ((tolds (isSp h) (l.drop (a + 1))).tail.headD t0) := (headD_mem (fun t ht => hbt t (List.mem_of_mem_tail ht)) (bt0 _)).mono hbl
    have hlen1 : 1 ≤ (toldW h (l.drop (a + 1))).length := by simp [tolds_len]
    have hlen2 : ∀ d r', l.drop (a + 1) = d :: r' → 2 ≤ (toldW h (l.drop (a + 1))).length := fun d r' e => by rw [e]; simp [tolds_len]
    generalize hT : toldW h (l.drop (a + 1)) = xs at hone htwo fin hxs hlen1 hlen2
    generalize hC : l[a] = c at hcp fin
    generalize hN : (l.drop (a + 1)).head? = nx at fin
    have hsl' : Txt.slice (txO l) (some ((a : Int) + 1)) (some ((a : Int) + 2)) = leadW 92 nx := by rw [hsl, htl, hN]
    generalize (tolds (isSp h) (l.drop (a + 1))).headD t0 = A at hone fin hB1
    generalize (tolds (isSp h) (l.drop (a + 1))).tail.headD t0 = B at htwo fin hB2
    refine ws_cons ?_
    refine' wx_assign_tup ?_ ?hs ?hw
    case hs => intro _; rfl
    case hw => exact swapped_of hΓ.1 rfl
    tm_at "x"
    refine wp_unary (wp_int (w1_neg ?_))
    refine it_muN (k := 0) (xs := xs) rfl (by decide) (by (first | exact o115 hlen1 | omega)) (by decide) hone ?_
    show ∃ xs, _
    refine ⟨_, rfl, ?_⟩
    tm_at "x"
    refine it_str (by (first | exact o32 | omega)) (by (first | exact o116 hl ha | omega)) hcp ?_
    tm_at "x"
    rw [show (Str.ofString "\\") = one 92 from rfl, show (⟨#[c]⟩ : Str) = one c from rfl, one_eq]
    tm_at "x"
    refine ⟨fun hc => ?_, fun hc => ?_⟩
    · have hc : c = 92 := by simpa using hc
      subst hc
      tm_at "x"
      refine sl_str (by rw [txO_len]; exact Nat.le_trans hl (by decide)) ?_
      rw [hsl']
      tm_at "x"
      rw [show (Str.ofString "") = Str.empty from rfl]
      refine ⟨fun hc => ?_, fun hc => ?_⟩
      · cases nx with
        | none => exact absurd hc (by decide)
        | some d =>
          obtain ⟨r', hr⟩ : ∃ r', l.drop (a + 1) = d :: r' := by
            cases e : l.drop (a + 1) with
            | nil => rw [e] at hN; cases hN
            | cons d' r' => rw [e] at hN; cases hN; exact ⟨r', rfl⟩
          have hx2 := hlen2 d r' hr
          refine ws_cons ?_
          refine' wx_assign_tup ?_ ?hs ?hw
          case hs => intro _; rfl
          case hw => exact swapped_of hΓ.1 rfl
          tm_at "x"
          refine wp_unary (wp_int (w1_neg ?_))
          refine it_muN (k := 0) (xs := xs) rfl (by decide) (by (first | exact o117 hx2 | omega)) (by decide) (htwo d r' hr) ?_
          show ∃ xs, _
          refine ⟨_, rfl, ?_⟩
          tm_at "q"
          refine then_next (ws_nil (then_next (ws_nil (then_next ?_))))
          have e2 : (if (92 : Nat) = 92 ∧ some d ≠ none then B else A) = B := if_pos ⟨rfl, nofun⟩
          refine wrd_rest (I := InvW l h a) (h := h) (a := a) (c := 92) (t := B) (lead := leadW 92 (some d)) rfl hB2 (lead_len _ _) hxs fun z7 z8 => fin _ _ _ (by unfold stepW; rw [e2]) _ _ _ _ _
      · have hnx : nx = none := by
          cases nx with
          | none => rfl
          | some d => exfalso; revert hc; show (one d != Str.empty) = false → False; intro hc; have : one d = Str.empty := by simpa using hc
                      have := congrArg (fun s : Str => s.length) this; exact absurd this (by show ¬ (1 = 0); decide)
        subst hnx
        have e2 : (if (92 : Nat) = 92 ∧ (none : Option Nat) ≠ none then B else A) = A := if_neg fun q => q.2 rfl
        refine ws_nil (then_next (ws_nil (then_next ?_)))
        refine wrd_rest (I := InvW l h a) (h := h) (a := a) (c := 92) (t := A) (lead := leadW 92 none) rfl hB1 (lead_len _ _) hxs fun z7 z8 => fin _ _ _ (by unfold stepW; rw [e2]) _ _ _ _ _
    · have hc : c ≠ 92 := by simpa using hc
      refine ws_nil (then_next ?_)
      have e1 : leadW c nx = one c := if_neg hc
      have e2 : (if c = 92 ∧ nx ≠ none then B else A) = A := if_neg (fun q => hc q.1)
      refine wrd_rest (I := InvW l h a) (h := h) (a := a) (c := c) (t := A) (lead := one c) rfl hB1 (Nat.le_refl _) hxs fun z7 z8 => fin _ _ _ (by unfold stepW; rw [e1, e2]) _ _ _ _ _
  · obtain ⟨z1, z2, z3, z4, z5, z6, z7, z8, rfl⟩ := hI
    refine then_next ?_
    have hone := told_one h (l.drop 0)
    have hlen1 : 1 ≤ (toldW h (l.drop 0)).length := by simp [tolds_len]
    rw [List.drop_zero] at hone hlen1 ⊢
    generalize hT : toldW h l = xs at hone hlen1
    refine ws_cons (wx_return ?_)
    tm_at "x"
    refine wp_unary (wp_int (w1_neg ?_))
    refine it_muN (k := 0) (xs := xs) rfl (by decide) (by (first | exact o115 hlen1 | omega)) (by decide) hone ?_
    tm_at "x"
    refine it_tup (by decide) (by decide) rfl ?_
    exact ⟨strs_cl _, rfl⟩
end
theorem wt_and3 {prog : Program} {w : World} {Γ : Cx} {σ : St} {QB : Bool → St → Prop} {e₁ e₂ e₃ : Expr} {p : Pos} (A B C : Bool) (h1 : WPt prog w Γ σ e₁ fun b σ₁ => b = A ∧ σ₁ = σ ∧ (A = true → WPt prog w Γ σ e₂ fun c σ₂ => c = B ∧ σ₂ = σ ∧ (B = true → WPt prog w Γ σ e₃ fun d σ₃ => d = C ∧ σ₃ = σ))) (h : QB (A && B && C) σ) : WPt prog w Γ σ (.BoolOp .And [e₁, e₂, e₃] p) QB := by
  refine wt_bool (wall_and_cons ?_)
  intro K ps s R r hR
  refine h1 K ps s R r fun b σ₁ s₁ h₁ r₁ => hR b σ₁ s₁ ?_ r₁
  obtain ⟨rfl, rfl, h2⟩ := h₁
  refine ⟨fun hb => wall_and_cons ?_, fun hb => by subst hb; exact h⟩
  subst hb
  intro K ps s R r hR
  refine h2 rfl K ps s R r fun b σ₁ s₁ h₁ r₁ => hR b σ₁ s₁ ?_ r₁
  obtain ⟨rfl, rfl, h3⟩ := h₁
  refine ⟨fun hb => wall_and_cons ?_, fun hb => by subst hb; exact h⟩
  subst hb
  intro K ps s R r hR
  refine h3 rfl K ps s R r fun b σ₁ s₁ h₁ r₁ => hR b σ₁ s₁ ?_ r₁
  obtain ⟨rfl, rfl⟩ := h₁
  exact ⟨fun hb => wall_and_nil (by subst hb; exact h), fun hb => by subst hb; exact h⟩
noncomputable def okP (sp : Str → Bool) (k : Nat) (s : List Nat) : Bool := (s.take k).length == k && ops.any (· == txO (s.take k)) && ((s.take k).filter fun c => sp (one c)).isEmpty
noncomputable def tryP (sp : Str → Bool) (s : List Nat) (F : List Int) (k : Nat) (b : Int) : Int := if okP sp k s then (if 1 + F.getD (k - 1) 0 < b then 1 + F.getD (k - 1) 0 else b) else b
noncomputable def fews (sp : Str → Bool) : List Nat → List Int
  | [] => [0]
  | c :: r => tryP sp (c :: r) (fews sp r) 3 (tryP sp (c :: r) (fews sp r) 2 (1 + (fews sp r).headD 0)) :: fews sp r
theorem fews_len (sp : Str → Bool) : ∀ r : List Nat, (fews sp r).length = r.length + 1
  | [] => rfl
  | c :: r => by simp [fews, fews_len sp r]
noncomputable def escW (sp : Str → Bool) (l : List Nat) : List Str := l.map fun c => if sp (one c) then "&" ++ one c else one c
theorem sDue : ScopeOk (fScope bDue) ((["word", "spelled", "operators"] : List Str) ++ (["fewest", "at", "best", "size", "piece"] : List Str)) := ⟨rfl, by decide +kernel, by decide +kernel, by decide +kernel⟩
theorem bDueB : ∀ doc pm cdv ct vs, vs.length = (["word", "spelled", "operators"] : List Str).length → bindArgs (fnOf (fName bDue) "_law_due" (fArgs bDue) (fBody bDue) (fScope bDue) .none .none doc pm none cdv ct) ⟨vs, []⟩ = pure ((["word", "spelled", "operators"] : List Str).zip vs) := by intro doc pm cdv ct vs h; obtain ⟨v, u, t, rfl⟩ := len3 h; rfl
noncomputable abbrev glD : List (Str × MV) := [("len", .obj (.builtin "len")), ("range", .obj (.type "range")), ("min", .obj (.builtin "min"))]
noncomputable abbrev locD (l : List Nat) (h : Nat) (z1 z2 z3 z4 : MV) : List (Str × MV) := [("word", .str (txO l)), ("spelled", .dictS (spT h)), ("operators", .list (ops.map .str)), ("fewest", .mu 0), ("at", z1), ("best", z2), ("size", z3), ("piece", z4)]
noncomputable abbrev fewW (h : Nat) (r : List Nat) : List MV := (fews (isSp h) r).reverse.map .int
noncomputable def InvD (l : List Nat) (h a : Nat) (σ : St) : Prop := ∃ z1 z2 z3 z4, σ = ⟨locD l h z1 z2 z3 z4, [some (.lst (fewW h (l.drop a)))]⟩
theorem few_get (h : Nat) (r : List Nat) (k : Nat) (hk : 1 ≤ k) (hk2 : k ≤ r.length + 1) : (fewW h r)[(-(k : Int) + ((fewW h r).length : Int)).toNat]? = some (.int ((fews (isSp h) r).getD (k - 1) 0)) := by
  have hl := fews_len (isSp h) r
  have e : (-(k : Int) + ((fewW h r).length : Int)).toNat = (fews (isSp h) r).length - 1 - (k - 1) := by simp; (first | exact o118 hk hk2 hl | omega)
  rw [e]
  unfold fewW
  rw [List.getElem?_map, List.getElem?_reverse (by (first | exact o119 hl | omega))]
  have e2 : (fews (isSp h) r).length - 1 - ((fews (isSp h) r).length - 1 - (k - 1)) = k - 1 := by (first | exact o120 hk hk2 hl | omega)
  rw [e2, List.getD_eq_getElem?_getD, List.getElem?_eq_getElem (by (first | exact o121 hk hk2 hl | omega))]
  rfl
section
variable {w : World} {hB : Heap} {mg mb : Str → Option Value}
theorem depth_strs (ns : List Str) : PyData.depth (.list (ns.map .str)) ≤ 2 := by
  show PyData.depthAll _ + 1 ≤ 2
  have := depth_strsA ns
  (first | exact o122 this | omega)
theorem signs_txO (p : List Nat) : signs (txO p) = p.map fun c => .str (one c) := by unfold signs txO; simp [one]
theorem filt_sp (h : Nat) : ∀ p : List Nat, [] ++ ((signs (txO p)).filter (fun y => match y with | .str s => isSp h s | _ => false)).map (fun y => y) = ((p.filter fun c => isSp h (one c)).map one).map MV.str := by
  intro p
  rw [signs_txO, List.nil_append, List.map_id']
  induction p with
  | nil => rfl
  | cons c p ih =>
    rw [List.map_cons, List.filter_cons, List.filter_cons]
    show (if isSp h (one c) = true then _ else _) = _
    split
    · rw [ih]; rfl
    · exact ih
theorem esc_map (h : Nat) (l : List Nat) : [] ++ ((signs (txO l)).filter (fun _ => true)).map (fun y => match y with | .str s => MV.str (if isSp h s then "&" ++ s else s) | z => z) = (escW (isSp h) l).map MV.str := by
  rw [List.filter_eq_self.mpr (fun _ _ => rfl), List.nil_append, signs_txO]
  unfold escW
  rw [List.map_map, List.map_map]
  rfl
theorem escW_one (sp : Str → Bool) (l : List Nat) : ∀ y ∈ escW sp l, y.length ≤ 2 := fun y hy => by
  obtain ⟨c, _, rfl⟩ := List.mem_map.mp hy
  split
  · exact Nat.le_refl 2
  · exact Nat.le_succ 1
theorem sum_two : ∀ (ys : List Str), (∀ y ∈ ys, y.length ≤ 2) → (ys.map (·.length)).sum ≤ 2 * ys.length
  | [], _ => Nat.zero_le _
  | y :: ys, h => by
    have h1 := h y (.head _)
    have h2 := sum_two ys fun z hz => h z (.tail _ hz)
    simp only [List.map_cons, List.sum_cons, List.length_cons]; (first | exact o123 h1 h2 | omega)
theorem joinLen_nil : ∀ (ys : List Str) (n : Nat), ys.foldl (fun a x => a + x.length + Str.empty.length) n = n + (ys.map (·.length)).sum
  | [], n => by simp
  | y :: ys, n => by
    rw [List.foldl_cons, joinLen_nil ys, List.map_cons, List.sum_cons]
    show n + y.length + 0 + _ = _
    (first | exact o124 | omega)
theorem esc_join (sp : Str → Bool) {l : List Nat} (hl : l.length ≤ 1000) : joinLen Str.empty (escW sp l) ≤ sizeLine := by
  unfold joinLen
  rw [← Array.foldl_toList, joinLen_nil]
  show 0 + ((escW sp l).map (·.length)).sum ≤ _
  have h1 := sum_two _ (escW_one sp l)
  have h2 : (escW sp l).length = l.length := by simp [escW]
  show _ ≤ 16777216
  (first | exact o125 hl h1 h2 | omega)
theorem esc_glue (sp : Str → Bool) {l : List Nat} (hl : l.length ≤ 1000) : (Builtin.Str.glued Str.empty (escW sp l)).length ≤ sizeLine := by
  rw [size_glued]
  have h1 := sum_two _ (escW_one sp l)
  have h2 : (escW sp l).length = l.length := by simp [escW]
  show _ + _ * 0 ≤ 16777216
  (first | exact o126 hl h1 h2 | omega)
theorem lay_one {c : Nat} (h : c < 0xD800) : PyData.canLay0 (.str (one c)) = true := by
  show (#[c].all fun x => decide (x < 0x110000)) = true
  simp; (first | exact o127 h | omega)
theorem due_try {Γ : Cx} (hΓ : Γof (fScope bDue) Γ hB 0 glD) {l : List Nat} {h a k : Nat} {b : Int} {z4 : MV} {body : List Stmt} {I : St → Prop} {QF : MF → St → Prop} (hbd : body = forBodyD (forBodyD (fBody bDue)[1]?)[1]?) (hk : k = 2 ∨ k = 3) (ha : a < l.length) (hl : l.length ≤ 1000) (hv : ∀ c ∈ l, c < 0xD800)
    (hI : ∀ z4, I ⟨locD l h (.int a) (.int (tryP (isSp h) (l.drop a) (fews (isSp h) (l.drop (a + 1))) k b)) (.int k) z4, [some (.lst (fewW h (l.drop (a + 1))))]⟩) :
    WPs pr w Γ ⟨locD l h (.int a) (.int b) (.int k) z4, [some (.lst (fewW h (l.drop (a + 1))))]⟩ body (turn I QF) := by
  subst hbd
  have hgl : Γ.glob = glD := hΓ.2.2.1
  have hsl : Txt.slice (txO l) (some (a : Int)) (some ((a : Int) + (k : Int))) = txO ((l.drop a).take k) := by
    have := slice_run l a (a + k) (by (first | exact o128 | omega)) (by (first | exact o129 ha | omega))
    rw [show a + k - a = k by (first | exact o130 | omega), Int.natCast_add] at this
    exact this
  have hp : ((l.drop a).take k).length ≤ 3 := by rw [List.length_take]; (first | exact o131 hk | omega)
  have hpv : ∀ c ∈ (l.drop a).take k, c < 0xD800 := fun c hc => hv c (List.mem_of_mem_drop (List.mem_of_mem_take hc))
  have hrl : (l.drop (a + 1)).length = l.length - (a + 1) := List.length_drop
  have hpl : ((l.drop a).take k).length = min k (l.length - a) := by rw [List.length_take, List.length_drop]
  unfold tryP okP at hI
  generalize hP : (l.drop a).take k = p at hsl hp hpv hI hpl
  show WPs pr w Γ _ [_, _] _
  tm_at "x"
  refine sl_str (by rw [txO_len]; exact Nat.le_trans hl (by decide)) ?_
  rw [hsl]
  tm_at "x"
  refine wt_and3 (p.length == k) (ops.any (· == txO p)) ((p.filter fun c => isSp h (one c)).isEmpty) ?_ ?_
  · tm_at "x"
    refine wc_lenS (by rw [txO_len]; exact Nat.le_trans hp (by decide)) ?_
    rw [txO_len]
    tm_at "x"
    refine ⟨?_, rfl, fun _ => ?_⟩
    · by_cases q : p.length = k
      · rw [q]; simp
      · rw [beq_eq_false_iff_ne.mpr q, beq_eq_false_iff_ne.mpr (by (first | exact fun q => o132 q q | omega))]
    tm_at "x"
    refine w2_inL ?_
    tm_at "x"
    refine ⟨rfl, rfl, fun _ => ?_⟩
    tm_at "x"
    refine wp_compD hΓ ["sign"] [("spelled", .dictS (spT h))] [] ["spelled"] rfl ⟨rfl, by decide +kernel, by decide +kernel, by decide +kernel, by decide +kernel, by decide +kernel, by decide +kernel⟩ (fun _ _ h => nomatch h) (show ∀ x ∈ (["spelled"] : List Str), x ∈ (["word", "spelled", "operators", "fewest", "at", "best", "size", "piece"] : List Str) ∧ (fScope bDue).names.lookup x = some .cell from by decide +kernel) ?_ (fun _ _ => rfl)
    tm_at "x"
    refine ⟨_, Itr.str _ _ _, ?_, ?_, ?_⟩
    · rw [signs_txO, List.length_map]; exact Nat.le_trans hp (by decide)
    · intro q hq
      simp only [List.mem_cons, List.not_mem_nil, or_false] at hq
      subst hq
      exact ⟨.tail _ (.head _), rfl, spT_cl h⟩
    refine comp_map (fun y => match y with | .str s => isSp h s | _ => false) (fun y => y) _ _ _ ?_ ?_ ?_
    · intro y hy _
      rw [signs_txO] at hy
      obtain ⟨c, _, rfl⟩ := List.mem_map.mp hy
      exact .str
    · intro y hy Γ' hΓ''
      rw [signs_txO] at hy
      obtain ⟨c, _, rfl⟩ := List.mem_map.mp hy
      have hgl' : Γ'.glob = ([("spelled", .dictS (spT h))] : List (Str × MV)) := hΓ''.2.2.1
      refine wa_name (.here .undef []) (wi_one ?_)
      tm_at "x"
      refine w2_inS ?_
      tm_at "x"
      refine ⟨rfl, rfl, fun _ => ?_⟩
      tm_at "x"
      exact ⟨rfl, rfl⟩
    rw [filt_sp]
    tm_at "x"
    refine w2_eqD (strsD _) (IsD.list [] [] rfl (fun i x d h => by simp at h)) (lay_strsA _ fun x hx => ?_) rfl (Nat.le_trans (depth_strs _) (by decide)) ?_
    · obtain ⟨c, hc, rfl⟩ := List.mem_map.mp hx
      exact lay_one (hpv c (List.mem_filter.mp hc).1)
    rw [eqvS_nil]
    tm_at "x"
    refine ⟨?_, rfl⟩
    cases p.filter (fun c => isSp h (one c)) <;> rfl
  refine ⟨fun hc => ?_, fun hc => ?_⟩
  · rw [if_pos hc] at hI
    simp only [Bool.and_eq_true, beq_iff_eq] at hc
    have hk1 : k ≤ (l.drop (a + 1)).length + 1 := by rw [hrl]; (first | exact o133 ha hpl hc | omega)
    have hg := few_get h (l.drop (a + 1)) k (by (first | exact o134 hk | omega)) hk1
    have hlen : (fewW h (l.drop (a + 1))).length = (l.drop (a + 1)).length + 1 := by simp [fews_len]
    generalize hX : fewW h (l.drop (a + 1)) = xs at hg hI hlen
    generalize (fews (isSp h) (l.drop (a + 1))).getD (k - 1) 0 = y at hg hI
    tm_at "x"
    refine wp_unary (wp_name (by tm_at "lk") rfl (w1_neg ?_))
    refine it_muN (k := 0) (xs := xs) rfl (by (first | exact o135 hk | omega)) (by rw [hlen, hrl]; (first | exact o136 hrl hk1 | omega)) (by (first | exact o137 hp hc | omega)) hg ?_
    refine w2_add ?_
    tm_at "x"
    refine wc_min2 ?_
    tm_at "x"
    exact hI _
  · rw [if_neg (by rw [hc]; decide)] at hI
    tm_at "x"
    exact hI _
theorem pf_due (T : TopF hB mg mb) {f : Addr} (hf : IsFn hB f "_law_due" bDue) (hg : ∀ p ∈ glD, GlobAt w hB mg mb (fScope bDue) p) {l : List Nat} (hl : l.length ≤ 1000) (hv : ∀ c ∈ l, c < 0xD800) {h : Nat} :
    PureFn pr w 1 hB (.ref f) [.str (txO l), .dictS (spT h), .list (ops.map .str)] (fun v => v = .tup [.str (Builtin.Str.glued Str.empty (escW (isSp h) l)), .int ((fews (isSp h) l).headD 0)]) := by
  refine PureFn.of_stmt T hf ["word", "spelled", "operators"] ["fewest", "at", "best", "size", "piece"] glD bDueB rfl sDue hg rfl rfl ?_
  intro Γ hΓ
  have hgl : Γ.glob = glD := hΓ.2.2.1
  show WPs pr w Γ ⟨[("word", .str (txO l)), ("spelled", .dictS (spT h)), ("operators", .list (ops.map .str)), ("fewest", .undef), ("at", .undef), ("best", .undef), ("size", .undef), ("piece", .undef)], []⟩ [_, _, _] _
  with_reducible refine ws_cons ?_
  with_reducible refine wx_new ?_
  tm_at "x"
  show WPx pr w Γ ⟨locD l h .undef .undef .undef .undef, [some (.lst (fewW h []))]⟩ _ _
  refine wx_for ?_ (fun _ _ => rfl)
  tm_at "x"
  refine wc_lenS (by rw [txO_len]; exact Nat.le_trans hl (by decide)) ?_
  rw [txO_len]
  tm_at "x"
  refine w2_sub ?_
  tm_at "x"
  refine wp_unary (wp_int (w1_neg ?_))
  tm_at "x"
  refine wp_unary (wp_int (w1_neg ?_))
  tm_at "x"
  obtain ⟨d1, d2, d3⟩ := down_ok (n := l.length) (by (first | exact o109 hl | omega))
  refine wc_range3 (by decide) d3 ?_
  refine ⟨_, Itr.rngBy _ _ _ _ _ l.length d1 d2, ?_⟩
  refine wpf_down (InvD l h) ⟨_, _, _, _, by rw [List.drop_length]⟩ (fun a σ ha hI => ?_) (fun σ hI => ?_)
  · obtain ⟨z1, z2, z3, z4, rfl⟩ := hI
    refine wa_name (.there _ (.there _ (.there _ (.there _ (.here _ _))))) ?_
    show WPs pr w Γ ⟨locD l h (.int a) z2 z3 z4, _⟩ (_ :: _ :: _ :: _) _
    tm_at "x"
    refine wp_unary (wp_int (w1_neg ?_))
    have hg := few_get h (l.drop (a + 1)) 1 (by decide) (by (first | exact o138 | omega))
    have hlen : (fewW h (l.drop (a + 1))).length = (l.drop (a + 1)).length + 1 := by simp [fews_len]
    have hcs : l.drop a = l[a] :: l.drop (a + 1) := List.drop_eq_getElem_cons ha
    have hfw : fews (isSp h) (l.drop a) = tryP (isSp h) (l.drop a) (fews (isSp h) (l.drop (a + 1))) 3 (tryP (isSp h) (l.drop a) (fews (isSp h) (l.drop (a + 1))) 2 (1 + (fews (isSp h) (l.drop (a + 1))).headD 0)) :: fews (isSp h) (l.drop (a + 1)) := by
      rw [hcs]; rfl
    have hd : (fews (isSp h) (l.drop (a + 1))).getD (1 - 1) 0 = (fews (isSp h) (l.drop (a + 1))).headD 0 := by cases fews (isSp h) (l.drop (a + 1)) <;> rfl
    rw [hd] at hg
    refine it_muN (k := 0) (xs := fewW h (l.drop (a + 1))) rfl (by decide) (by (first | exact o139 hlen | omega)) (by decide) hg ?_
    refine w2_add ?_
    tm_at "q"
    refine then_next (ws_cons (wx_for ?_ (fun _ _ => rfl)))
    tm_at "x"
    refine ⟨_, Itr.tup _ _ _, ?_⟩
    refine wa_name (.there _ (.there _ (.there _ (.there _ (.there _ (.there _ (.here _ _))))))) ?_
    refine due_try hΓ (k := 2) rfl (.inl rfl) ha hl hv fun z4 => ?_
    refine wa_name (.there _ (.there _ (.there _ (.there _ (.there _ (.there _ (.here _ _))))))) ?_
    refine due_try hΓ (k := 3) rfl (.inr rfl) ha hl hv fun z4 => ?_
    refine then_next ?_
    tm_at "x"
    refine wm_mu (k := 0) rfl PySem.F.slot_list_append PySem.F.type_list_append ?_
    tm_at "x"
    refine wc_append (k := 0) rfl (by rw [hlen]; show _ ≤ 16777216; rw [List.length_drop]; (first | exact o140 hl ha | omega)) ?_
    tm_at "x"
    have e : fewW h (l.drop (a + 1)) ++ [.int (tryP (isSp h) (l.drop a) (fews (isSp h) (l.drop (a + 1))) 3 (tryP (isSp h) (l.drop a) (fews (isSp h) (l.drop (a + 1))) 2 (1 + (fews (isSp h) (l.drop (a + 1))).headD 0)))] = fewW h (l.drop a) := by
      unfold fewW; rw [hfw]; simp
    refine ⟨.int a, .int (tryP (isSp h) (l.drop a) (fews (isSp h) (l.drop (a + 1))) 3 (tryP (isSp h) (l.drop a) (fews (isSp h) (l.drop (a + 1))) 2 (1 + (fews (isSp h) (l.drop (a + 1))).headD 0))), .int ((3 : Nat) : Int), z4, ?_⟩
    show (⟨_, [some (.lst (_ ++ _))]⟩ : St) = _
    rw [e]
  · obtain ⟨z1, z2, z3, z4, rfl⟩ := hI
    refine then_next ?_
    have hg := few_get h l 1 (by decide) (by (first | exact o138 | omega))
    have hlen : (fewW h l).length = l.length + 1 := by simp [fews_len]
    have hd : (fews (isSp h) l).getD (1 - 1) 0 = (fews (isSp h) l).headD 0 := by cases fews (isSp h) l <;> rfl
    rw [hd] at hg
    rw [List.drop_zero]
    refine ws_cons (wx_return ?_)
    tm_at "x"
    refine wm_str PySem.F.slot_str_join PySem.F.type_str_join ?_
    refine' wl_cons ?_ ?he
    case he => intro _; rfl
    refine wp_compD hΓ ["sign"] [("spelled", .dictS (spT h))] [] ["spelled"] rfl ⟨rfl, by decide +kernel, by decide +kernel, by decide +kernel, by decide +kernel, by decide +kernel, by decide +kernel⟩ (fun _ _ h => nomatch h) (show ∀ x ∈ (["spelled"] : List Str), x ∈ (["word", "spelled", "operators", "fewest", "at", "best", "size", "piece"] : List Str) ∧ (fScope bDue).names.lookup x = some .cell from by decide +kernel) ?_ (fun _ _ => rfl)
    tm_at "x"
    refine ⟨_, Itr.str _ _ _, ?_, ?_, ?_⟩
    · rw [signs_txO, List.length_map]; exact Nat.le_trans hl (by decide)
    · intro q hq
      simp only [List.mem_cons, List.not_mem_nil, or_false] at hq
      subst hq
      exact ⟨.tail _ (.head _), rfl, spT_cl h⟩
    refine comp_map (fun _ => true) (fun y => match y with | .str s => .str (if isSp h s then "&" ++ s else s) | z => z) _ _ _ ?_ ?_ ?_
    · intro y hy _
      rw [signs_txO] at hy
      obtain ⟨c, _, rfl⟩ := List.mem_map.mp hy
      exact .str
    · intro y hy Γ' hΓ''
      rw [signs_txO] at hy
      obtain ⟨c, _, rfl⟩ := List.mem_map.mp hy
      have hgl' : Γ'.glob = ([("spelled", .dictS (spT h))] : List (Str × MV)) := hΓ''.2.2.1
      refine wa_name (.here .undef []) (wi_nil ⟨rfl, rfl, fun _ => ?_⟩)
      tm_at "x"
      refine w2_inS ?_
      tm_at "x"
      refine ⟨fun hc => ?_, fun hc => ?_⟩
      · have hc : isSp h (one c) = true := hc
        tm_at "x"
        refine w2_cat (show 1 + 1 ≤ 16777216 by decide) ?_
        refine ⟨?_, rfl⟩
        show _ = MV.str (if isSp h (one c) = true then _ else _)
        rw [if_pos hc]
      · have hc : isSp h (one c) = false := hc
        tm_at "x"
        refine ⟨?_, rfl⟩
        show _ = MV.str (if isSp h (one c) = true then _ else _)
        rw [if_neg (by rw [hc]; decide)]
    rw [esc_map]
    tm_at "x"
    refine wc_join (esc_join _ hl) (esc_glue _ hl) ?_
    tm_at "x"
    refine wp_unary (wp_int (w1_neg ?_))
    refine it_muN (k := 0) (xs := fewW h l) rfl (by decide) (by (first | exact o141 hlen | omega)) (by decide) hg ?_
    tm_at "x"
    exact ⟨Closed.tup fun y hy => by simp only [List.mem_cons, List.not_mem_nil, or_false] at hy; rcases hy with rfl | rfl; exact .str; exact .int, rfl⟩
end
noncomputable def tokMV : List (Str × MV) := tokTab.map fun e => (e.1, .int e.2)
noncomputable def tokGet (x : Str) : Option Int := (tokTab.find? fun e => decide (e.1 = x)).map (·.2)
theorem mvAt_map (x : Str) : ∀ l : List (Str × Int), mvAt (l.map fun e => (e.1, MV.int e.2)) x = ((l.find? fun e => decide (e.1 = x)).map (·.2)).map .int
  | [] => rfl
  | e :: l => by
    have ih := mvAt_map x l
    unfold mvAt at ih ⊢
    rw [List.map_cons, List.find?_cons, List.find?_cons]
    by_cases q : e.1 = x
    · simp [q]
    · simp only [q, decide_false]; exact ih
theorem mvAt_tok (x : Str) : mvAt tokMV x = (tokGet x).map .int := mvAt_map x tokTab
theorem tok_getD (x : Str) (d : Int) : (mvAt tokMV x).getD (.int d) = .int ((tokGet x).getD d) := by rw [mvAt_tok]; cases tokGet x <;> rfl
noncomputable def cut (x : Str) (a n : Nat) : Str := Txt.slice x (some a) (some (a + n))
noncomputable def sizeAt (x : Str) (a : Nat) : Nat := if (tokGet (cut x a 3)).isSome then 3 else if (tokGet (cut x a 2)).isSome then 2 else 1
noncomputable abbrev S7 : Str := "&<>\"\r\n\t"
noncomputable def invT (h : Nat) : List (Str × MV) := (spS h).map fun e => (e.2, .str e.1)
noncomputable def idxS (s : Str) : Option Nat := (Builtin.Str.occurrences S7 s 0 S7.length 1).head?
noncomputable def rowL (h : Nat) (x : Str) : Nat → Nat → List Int → Option (List Int)
  | 0, _, _ => none
  | n + 1, a, acc =>
    if a < x.length then
      match x.cps[a]? with
      | none => none
      | some c =>
        if (tokGet ⟨#[c]⟩ == some 19 && decide ((a : Int) < findFrom x ";" a) && (mvAt (invT h) (Txt.slice x (some ((a : Int) + 1)) (some (findFrom x ";" a)))).isSome) = true then
          match mvAt (invT h) (Txt.slice x (some ((a : Int) + 1)) (some (findFrom x ";" a))) with
          | some (.str s) =>
            match idxS s with
            | some i => rowL h x n (findFrom x ";" a + 1).toNat (acc ++ [255 - (i : Int)])
            | none => none
          | _ => none
        else rowL h x n (a + sizeAt x a) (acc ++ [(tokGet (cut x a (sizeAt x a))).getD (247 + (c : Int))])
    else some acc
noncomputable abbrev glR : List (Str × MV) := [("len", .obj (.builtin "len")), ("EXACT_TOKEN_TYPES", .dictS tokMV), ("ord", .obj (.builtin "ord"))]
noncomputable abbrev locR (x : Str) (h : Nat) (a : Int) (z1 z2 : MV) : List (Str × MV) := [("word", .str x), ("spelled", .dictS (spT h)), ("signs", .dictS (invT h)), ("row", .mu 0), ("at", .int a), ("end", z1), ("size", z2)]
theorem sRow : ScopeOk (fScope bRow) ((["word", "spelled"] : List Str) ++ (["signs", "row", "at", "end", "size"] : List Str)) := ⟨rfl, by decide +kernel, by decide +kernel, by decide +kernel⟩
theorem bRowB : ∀ doc pm cdv ct vs, vs.length = (["word", "spelled"] : List Str).length → bindArgs (fnOf (fName bRow) "_law_row" (fArgs bRow) (fBody bRow) (fScope bRow) .none .none doc pm none cdv ct) ⟨vs, []⟩ = pure ((["word", "spelled"] : List Str).zip vs) := by intro doc pm cdv ct vs h; obtain ⟨v, u, rfl⟩ := len2 h; rfl
noncomputable def whileBody : Option Stmt → List Stmt
  | some (.While _ b _ _) => b
  | _ => []
noncomputable def whileTest : Option Stmt → Expr
  | some (.While t _ _ _) => t
  | _ => .Constant .none 0 ⟨0, 0, 0, 0⟩
theorem size_at {x : Str} {a k : Nat} (h1 : 1 ≤ k) (h3 : k ≤ 3) (hno : ∀ i, k < i → i ≤ 3 → (tokGet (cut x a i)).isSome = false) (hk : k ≤ 1 ∨ (tokGet (cut x a k)).isSome = true) : sizeAt x a = k := by
  unfold sizeAt
  rcases three h1 h3 with rfl | rfl | rfl
  · rw [hno 2 (by decide) (by decide), hno 3 (by decide) (by decide)]; rfl
  · rw [hno 3 (by decide) (by decide), hk.resolve_left (by decide)]; rfl
  · rw [hk.resolve_left (by decide)]; rfl
theorem row_turn {w : World} {hB : Heap} {Γ : Cx} (hΓ : Γof (fScope bRow) Γ hB 0 glR) {x : Str} (hx : x.length ≤ 1000) {h n a : Nat} {acc r : List Int} {z1 z2 : MV} {body : List Stmt} {I : St → Prop} {QF : MF → St → Prop} (hb : body = whileBody (fBody bRow)[3]?) (hlt : a < x.length) (hacc : acc.length ≤ 2000) (hr : rowL h x (n + 1) a acc = some r)
    (hI : ∀ (a' : Nat) (acc' : List Int) z1 z2, acc'.length = acc.length + 1 → rowL h x n a' acc' = some r → I ⟨locR x h a' z1 z2, [some (.lst (acc'.map .int))]⟩) :
    WPs pr w Γ ⟨locR x h a z1 z2, [some (.lst (acc.map .int))]⟩ body (turn I QF) := by
  subst hb
  have hgl : Γ.glob = glR := hΓ.2.2.1
  have hx' : x.length ≤ sizeLine := Nat.le_trans hx (by decide)
  have hcg : x.cps[a]? = some x.cps[a] := Array.getElem?_eq_getElem hlt
  unfold rowL at hr
  rw [if_pos hlt, hcg] at hr
  generalize x.cps[a] = c at hcg hr
  dsimp only at hr
  show WPs pr w Γ _ [_, _] _
  tm_at "x"
  refine wm_str PySem.F.slot_str_find PySem.F.type_str_find ?_
  tm_at "x"
  refine wc_find ?_
  rw [show (Str.ofString ";") = (";" : Str) from rfl]
  generalize hE : findFrom x ";" a = e at hr
  tm_at "x"
  refine wt_and3 (tokGet ⟨#[c]⟩ == some 19) (decide ((a : Int) < e)) ((mvAt (invT h) (Txt.slice x (some ((a : Int) + 1)) (some e))).isSome) ?_ ?_
  · tm_at "x"
    refine wm_dictS PySem.F.slot_dict_get PySem.F.type_dict_get ?_
    tm_at "x"
    refine it_str (by (first | exact o32 | omega)) (by (first | exact o116 hx hlt | omega)) (c := c) (by simpa using hcg) ?_
    tm_at "x"
    refine wc_getS ?_
    tm_at "x"
    refine w2_eqO (o := tokGet ⟨#[c]⟩) (by rw [mvAt_tok]) ?_
    tm_at "x"
    refine ⟨rfl, rfl, fun _ => ?_⟩
    tm_at "x"
    refine ⟨rfl, rfl, fun _ => ?_⟩
    tm_at "x"
    refine sl_str hx' ?_
    tm_at "x"
    refine w2_inS ?_
    tm_at "x"
    exact ⟨rfl, rfl⟩
  refine ⟨fun hc => ?_, fun hc => ?_⟩
  · rw [if_pos hc] at hr
    have hae : (a : Int) < e := by simp only [Bool.and_eq_true, decide_eq_true_eq] at hc; exact hc.1.2
    obtain ⟨s, i, rest, hm, ho, hr⟩ : ∃ s i rest, mvAt (invT h) (Txt.slice x (some ((a : Int) + 1)) (some e)) = some (.str s) ∧ Builtin.Str.occurrences S7 s 0 S7.length 1 = i :: rest ∧ rowL h x n (e + 1).toNat (acc ++ [255 - (i : Int)]) = some r := by
      revert hr
      cases mvAt (invT h) (Txt.slice x (some ((a : Int) + 1)) (some e)) with
      | none => intro hr; cases hr
      | some z =>
        cases z with
        | str s =>
          intro hr
          have hr : (match idxS s with | some i => rowL h x n (e + 1).toNat (acc ++ [255 - (i : Int)]) | none => none) = some r := hr
          unfold idxS at hr
          cases ho : Builtin.Str.occurrences S7 s 0 S7.length 1 with
          | nil => rw [ho] at hr; cases hr
          | cons i rest => rw [ho] at hr; exact ⟨s, i, rest, rfl, ho, hr⟩
        | _ => intro hr; cases hr
    have hee : e + 1 = ((e + 1).toNat : Int) := by (first | exact o142 hae | omega)
    have fin := hI (e + 1).toNat (acc ++ [255 - (i : Int)]) (.int e) z2 (by simp) hr
    rw [List.map_append] at fin
    generalize (e + 1).toNat = e' at hee fin
    tm_at "x"
    refine wm_mu (k := 0) (xs := acc.map .int) rfl PySem.F.slot_list_append PySem.F.type_list_append ?_
    tm_at "x"
    refine wm_str PySem.F.slot_str_index PySem.F.type_str_index ?_
    tm_at "x"
    refine sl_str hx' ?_
    refine it_dictS hm ?_
    tm_at "x"
    refine wc_index ho ?_
    refine w2_sub ?_
    tm_at "x"
    refine wc_append (k := 0) (xs := acc.map .int) rfl (by rw [List.length_map]; show _ ≤ 16777216; (first | exact o143 hacc | omega)) ?_
    tm_at "x"
    rw [hee]
    exact fin
  · rw [if_neg (by rw [hc]; decide)] at hr
    have sub : ∀ k l, (Txt.slice x k l).length ≤ sizeLine := fun k l => Nat.le_trans (Txt.slice_le x k l) hx'
    tm_at "x"
    refine wx_whileI (fun k σ' => 1 ≤ k ∧ k ≤ 3 ∧ (∀ i, k < i → i ≤ 3 → (tokGet (cut x a i)).isSome = false) ∧ σ' = ⟨locR x h a (.int e) (.int k), [some (.lst (acc.map .int))]⟩) 3 ⟨by decide, by decide, fun i h1 h2 => by omega, rfl⟩ ?_
    rintro k _ ⟨h1, h3, hno, rfl⟩
    refine wt_and2 (decide ((1 : Int) < (k : Int))) (!(mvAt tokMV (cut x a k)).isSome) ?_ ?_
    · tm_at "x"
      refine ⟨rfl, rfl, fun _ => ?_⟩
      tm_at "x"
      refine sl_str hx' ?_
      tm_at "x"
      refine w2_ninS ?_
      tm_at "x"
      exact ⟨rfl, rfl⟩
    refine ⟨fun hb => ?_, fun hb => ?_⟩
    · have hk : 1 < k ∧ (tokGet (cut x a k)).isSome = false := by
        rw [mvAt_tok] at hb
        have hb' : (1 : Int) < (k : Int) ∧ tokGet (cut x a k) = none := by simpa using hb
        exact ⟨by (first | exact o144 hb' | omega), by rw [hb'.2]; rfl⟩
      tm_at "x"
      refine ⟨k - 1, by (first | exact o145 hk | omega), by (first | exact o146 hk | omega), by (first | exact o147 h3 hk | omega), fun i g1 g2 => ?_, ?_⟩
      · by_cases q : i = k
        · subst q; exact hk.2
        · exact hno i (by (first | exact o148 g1 q | omega)) g2
      · have e : (k : Int) - 1 = ((k - 1 : Nat) : Int) := by (first | exact o149 hk | omega)
        rw [e]
    · have hs : sizeAt x a = k := by
        have hk : k ≤ 1 ∨ (tokGet (cut x a k)).isSome = true := by
          rw [mvAt_tok] at hb
          by_cases q : k ≤ 1
          · exact .inl q
          · right
            have : decide ((1 : Int) < (k : Int)) = true := decide_eq_true (by (first | exact o150 q | omega))
            rw [this, Bool.true_and] at hb
            simpa using hb
        exact size_at h1 h3 hno hk
      rw [hs] at hr
      have fin := hI (a + k) (acc ++ [(tokGet (cut x a k)).getD (247 + (c : Int))]) (.int e) (.int k) (by simp) hr
      rw [List.map_append] at fin
      tm_at "x"
      refine wm_mu (k := 0) (xs := acc.map .int) rfl PySem.F.slot_list_append PySem.F.type_list_append ?_
      tm_at "x"
      refine wm_dictS PySem.F.slot_dict_get PySem.F.type_dict_get ?_
      tm_at "x"
      refine sl_str hx' ?_
      tm_at "x"
      refine it_str (by (first | exact o32 | omega)) (by (first | exact o116 hx hlt | omega)) (c := c) (by simpa using hcg) ?_
      tm_at "x"
      refine wc_ord ?_
      tm_at "x"
      refine wc_getSd ?_
      rw [show Txt.slice x (some (a : Int)) (some ((a : Int) + (k : Int))) = cut x a k from rfl, tok_getD]
      tm_at "x"
      refine wc_append (k := 0) (xs := acc.map .int) rfl (by rw [List.length_map]; show _ ≤ 16777216; (first | exact o143 hacc | omega)) ?_
      tm_at "x"
      exact fin
theorem row_loop {w : World} {hB : Heap} {Γ : Cx} (hΓ : Γof (fScope bRow) Γ hB 0 glR) {x : Str} (hx : x.length ≤ 1000) {h : Nat} {r : List Int} {t : Expr} {body orelse : List Stmt} {ps : Pos} (hb : (fBody bRow)[3]? = some (.While t body orelse ps)) {QF : MF → St → Prop} :
    ∀ (n : Nat) (a : Nat) (acc : List Int) (z1 z2 : MV), acc.length + n ≤ 2000 → rowL h x n a acc = some r → (∀ a z1 z2, QF .next ⟨locR x h a z1 z2, [some (.lst (r.map .int))]⟩) → WPw pr w Γ t body QF n ⟨locR x h a z1 z2, [some (.lst (acc.map .int))]⟩ := by
  have hgl : Γ.glob = glR := hΓ.2.2.1
  have hbd : body = whileBody (fBody bRow)[3]? := by rw [hb]; rfl
  intro n
  induction n with
  | zero => intro a acc z1 z2 _ h; cases h
  | succ n ih =>
    intro a acc z1 z2 hn h hQ
    show WPt _ _ _ _ _ _
    have ht : t = whileTest (fBody bRow)[3]? := by rw [hb]; rfl
    rw [ht]
    show WPt _ _ _ _ (.Compare _ _ _ _) _
    tm_at "x"
    refine wc_lenS (Nat.le_trans hx (by decide)) ?_
    tm_at "x"
    refine ⟨fun hc => ?_, fun hc => ?_⟩
    · have hlt : a < x.length := by simpa using hc
      exact row_turn hΓ hx hbd hlt (by (first | exact o151 hn | omega)) h fun a' acc' z1 z2 hl hr => ht ▸ ih a' acc' z1 z2 (by (first | exact o152 hn hl | omega)) hr hQ
    · have hlt : ¬ a < x.length := by simpa using hc
      unfold rowL at h
      rw [if_neg hlt] at h
      cases h
      exact hQ _ _ _
noncomputable def nameF (h : Nat) : MV → Str
  | .str s => (((spS h).find? fun e => decide (e.1 = s)).map (·.2)).getD Str.empty
  | _ => Str.empty
theorem inv_acc (h : Nat) (hh : h < 5) : [] ++ ((spT h).map fun e => MV.str e.1).map (fun y => (nameF h y, y)) = invT h := match h, hh with
  | 0, _ => by kernel_rfl
  | 1, _ => by kernel_rfl
  | 2, _ => by kernel_rfl
  | 3, _ => by kernel_rfl
  | 4, _ => by kernel_rfl
theorem inv_nd (h : Nat) (hh : h < 5) : ((spS h).map (·.2)).Nodup ∧ ((spS h).map (·.1)).Nodup := match h, hh with
  | 0, _ => by decide +kernel
  | 1, _ => by decide +kernel
  | 2, _ => by decide +kernel
  | 3, _ => by decide +kernel
  | 4, _ => by decide +kernel
theorem find_fst {s n : Str} : ∀ {l : List (Str × Str)}, (l.map (·.1)).Nodup → (s, n) ∈ l → (l.find? fun e => decide (e.1 = s)) = some (s, n)
  | e :: l, hnd, hm => by
    rcases List.mem_cons.mp hm with q | q
    · subst q; simp
    · have hne : e.1 ≠ s := fun q' => by
        rw [List.map_cons] at hnd
        exact (List.nodup_cons.mp hnd).1 (q' ▸ List.mem_map.mpr ⟨_, q, rfl⟩)
      rw [List.find?_cons]
      simp only [hne, decide_false]
      exact find_fst (List.nodup_cons.mp hnd).2 q
theorem name_of {h : Nat} (hh : h < 5) {s n : Str} (hm : (s, n) ∈ spS h) : nameF h (.str s) = n ∧ mvAt (spT h) s = some (.str n) := by
  have hf := find_fst (inv_nd h hh).2 hm
  refine ⟨by show (((spS h).find? fun e => decide (e.1 = s)).map (·.2)).getD Str.empty = n; rw [hf]; rfl, ?_⟩
  unfold mvAt spT
  rw [List.find?_map]
  have : ((fun e : Str × MV => decide (e.1 = s)) ∘ fun e : Str × Str => (e.1, MV.str e.2)) = fun e : Str × Str => decide (e.1 = s) := rfl
  rw [this, hf]; rfl
section
variable {w : World} {hB : Heap} {mg mb : Str → Option Value}
theorem pf_row (T : TopF hB mg mb) {f : Addr} (hf : IsFn hB f "_law_row" bRow) (hg : ∀ p ∈ glR, GlobAt w hB mg mb (fScope bRow) p) {x : Str} (hx : x.length ≤ 1000) {h : Nat} (hh : h < 5) {r : List Int} (hr : rowL h x (x.length + 1) 0 [] = some r) (hrl : r.length ≤ 2000) :
    PureFn pr w 1 hB (.ref f) [.str x, .dictS (spT h)] (fun v => v = .list ((r ++ [0]).map .int)) := by
  refine PureFn.of_stmt T hf ["word", "spelled"] ["signs", "row", "at", "end", "size"] glR bRowB rfl sRow hg rfl rfl ?_
  intro Γ hΓ
  have hgl : Γ.glob = glR := hΓ.2.2.1
  show WPs pr w Γ ⟨[("word", .str x), ("spelled", .dictS (spT h)), ("signs", .undef), ("row", .undef), ("at", .undef), ("end", .undef), ("size", .undef)], []⟩ [_, _, _, _, _] _
  refine ws_cons ?_
  refine wx_dcomp (X := KD.str pr w) T hΓ _ ["sign"] [("spelled", .dictS (spT h))] [] (relabel_of hΓ.1) (show CompSc _ _ ["sign"] (["spelled"] : List Str) from ⟨rfl, by decide +kernel, by decide +kernel, by decide +kernel, by decide +kernel, by decide +kernel, by decide +kernel⟩) (fun _ _ h => nomatch h) (show ∀ x ∈ (["spelled"] : List Str), x ∈ (["word", "spelled", "signs", "row", "at", "end", "size"] : List Str) ∧ (fScope bRow).names.lookup x = some .cell from by decide +kernel) ?_ (fun _ _ => rfl) (swapsWith_of hΓ.1 rfl)
  tm_at "x"
  refine ⟨_, .keys (spT h) ?_ rfl rfl, ?_, ?_, ?_⟩
  · rw [show (spT h).map (·.1) = (spS h).map (·.1) by unfold spT; rw [List.map_map]; rfl]
    exact (inv_nd h hh).2
  · rw [List.length_map]
    show (spT h).length ≤ 16777216
    have : (spS h).length ≤ 7 := by unfold spS; split <;> decide
    simp [spT]; (first | exact o153 this | omega)
  · intro q hq
    simp only [List.mem_cons, List.not_mem_nil, or_false] at hq
    subst hq
    exact ⟨.tail _ (.head _), rfl, spT_cl h⟩
  refine dc_map (X := KD.str pr w) (nameF h) (fun y => y) _ _ _ ?_ ?_ ?_ ?_
  · intro y hy
    obtain ⟨e, _, rfl⟩ := List.mem_map.mp hy
    exact .str
  · rw [List.map_nil, List.nil_append, List.map_map]
    have : ((spT h).map ((nameF h) ∘ fun e => MV.str e.1)) = (spS h).map (·.2) := by
      unfold spT
      rw [List.map_map]
      refine List.map_congr_left fun e he => ?_
      exact (name_of hh he).1
    rw [this]
    exact (inv_nd h hh).1
  · intro y hy Γ' hΓ''
    obtain ⟨e, he, rfl⟩ := List.mem_map.mp hy
    obtain ⟨e', he', rfl⟩ := List.mem_map.mp he
    have hgl' : Γ'.glob = ([("spelled", .dictS (spT h))] : List (Str × MV)) := hΓ''.2.2.1
    refine wa_name (.here .undef []) ?_
    tm_at "x"
    refine it_dictS (name_of hh he').2 ?_
    refine ⟨by rw [(name_of hh he').1]; rfl, ?_⟩
    tm_at "x"
    exact ⟨rfl, rfl⟩
  rw [inv_acc h hh]
  tm_at "q"
  refine then_next (ws_cons (wx_new (wl_nil ⟨Nat.zero_le _, ?_⟩)))
  tm_at "q"
  refine then_next (ws_cons ?_)
  tm_at "x"
  show WPx pr w Γ ⟨locR x h 0 .undef .undef, [some (.lst (([] : List Int).map .int))]⟩ _ _
  refine wx_while (x.length + 1) (row_loop hΓ hx rfl (x.length + 1) 0 [] _ _ (by simp; (first | exact o154 hx | omega)) hr fun a z1 z2 => ?_)
  refine then_next ?_
  refine ws_freeze (x := "row") (k := 0) (xs := r.map .int) (by tm_at "lk") rfl ?_
  tm_at "q"
  tm_at "x"
  refine w2_addL (by simp; show _ ≤ 16777216; (first | exact o155 hrl | omega)) ?_
  exact ⟨by rw [show (r.map MV.int) ++ [.int 0] = (r ++ [0]).map .int by simp]; exact ints_cl _, by simp⟩
end
theorem sTer : ScopeOk (fScope bTer) ((["x"] : List Str) ++ ([] : List Str)) := ⟨rfl, by decide +kernel, by decide +kernel, by decide +kernel⟩
theorem sNon : ScopeOk (fScope bNon) ((["x"] : List Str) ++ ([] : List Str)) := ⟨rfl, by decide +kernel, by decide +kernel, by decide +kernel⟩
theorem sEof : ScopeOk (fScope bEof) ((["x"] : List Str) ++ ([] : List Str)) := ⟨rfl, by decide +kernel, by decide +kernel, by decide +kernel⟩
theorem bTerB : ∀ doc pm cdv ct vs, vs.length = (["x"] : List Str).length → bindArgs (fnOf (fName bTer) "ISTERMINAL" (fArgs bTer) (fBody bTer) (fScope bTer) .none .none doc pm none cdv ct) ⟨vs, []⟩ = pure ((["x"] : List Str).zip vs) := by intro doc pm cdv ct vs h; obtain ⟨v, rfl⟩ := len1 h; rfl
theorem bNonB : ∀ doc pm cdv ct vs, vs.length = (["x"] : List Str).length → bindArgs (fnOf (fName bNon) "ISNONTERMINAL" (fArgs bNon) (fBody bNon) (fScope bNon) .none .none doc pm none cdv ct) ⟨vs, []⟩ = pure ((["x"] : List Str).zip vs) := by intro doc pm cdv ct vs h; obtain ⟨v, rfl⟩ := len1 h; rfl
theorem bEofB : ∀ doc pm cdv ct vs, vs.length = (["x"] : List Str).length → bindArgs (fnOf (fName bEof) "ISEOF" (fArgs bEof) (fBody bEof) (fScope bEof) .none .none doc pm none cdv ct) ⟨vs, []⟩ = pure ((["x"] : List Str).zip vs) := by intro doc pm cdv ct vs h; obtain ⟨v, rfl⟩ := len1 h; rfl
noncomputable abbrev glNT : List (Str × MV) := [("NT_OFFSET", .int 256)]
noncomputable abbrev glEM : List (Str × MV) := [("ENDMARKER", .int 0)]
section
variable {w : World} {hB : Heap} {mg mb : Str → Option Value}
theorem pf_ter (T : TopF hB mg mb) {f : Addr} (hf : IsFn hB f "ISTERMINAL" bTer) (hg : ∀ p ∈ glNT, GlobAt w hB mg mb (fScope bTer) p) {i : Int} : PureFn pr w 1 hB (.ref f) [.int i] (fun v => v = .bool (decide (i < 256))) := by
  refine PureFn.of_stmt T hf ["x"] [] glNT bTerB rfl sTer hg rfl rfl ?_
  intro Γ hΓ
  have hgl := hΓ.2.2.1
  show WPs pr w Γ ⟨[("x", .int i)], []⟩ [_] _
  tm_at "x"
  exact ⟨.bool, rfl⟩
theorem pf_non (T : TopF hB mg mb) {f : Addr} (hf : IsFn hB f "ISNONTERMINAL" bNon) (hg : ∀ p ∈ glNT, GlobAt w hB mg mb (fScope bNon) p) {i : Int} : PureFn pr w 1 hB (.ref f) [.int i] (fun v => v = .bool (decide (256 ≤ i))) := by
  refine PureFn.of_stmt T hf ["x"] [] glNT bNonB rfl sNon hg rfl rfl ?_
  intro Γ hΓ
  have hgl := hΓ.2.2.1
  show WPs pr w Γ ⟨[("x", .int i)], []⟩ [_] _
  tm_at "x"
  refine w2_ge ?_
  tm_at "x"
  exact ⟨.bool, rfl⟩
theorem pf_eof (T : TopF hB mg mb) {f : Addr} (hf : IsFn hB f "ISEOF" bEof) (hg : ∀ p ∈ glEM, GlobAt w hB mg mb (fScope bEof) p) {i : Int} : PureFn pr w 1 hB (.ref f) [.int i] (fun v => v = .bool (i == 0)) := by
  refine PureFn.of_stmt T hf ["x"] [] glEM bEofB rfl sEof hg rfl rfl ?_
  intro Γ hΓ
  have hgl := hΓ.2.2.1
  show WPs pr w Γ ⟨[("x", .int i)], []⟩ [_] _
  tm_at "x"
  exact ⟨.bool, rfl⟩
end
noncomputable def tellA : List (Int × Str) := (List.range 7).map fun k : Nat => (255 - (k : Int), ("&" : Str) ++ one (S7.cps.getD k 0))
noncomputable def tellB : List (Int × Str) := (List.range 48).map fun k : Nat => (7 + (k : Int), ops.getD k Str.empty)
noncomputable def asD (l : List (Int × Str)) : List (Int × MV) := l.map fun e => (e.1, .str e.2)
noncomputable def tellG (s : Int) : Str := (((tellA ++ tellB).find? fun e => decide (e.1 = s)).map (·.2)).getD "?"
theorem mvAt_asD (s : Int) (d : Str) : ∀ l : List (Int × Str), (mvAt (asD l) s).getD (.str d) = .str (((l.find? fun e => decide (e.1 = s)).map (·.2)).getD d)
  | [] => rfl
  | e :: l => by
    have ih := mvAt_asD s d l
    unfold mvAt asD at ih ⊢
    rw [List.map_cons, List.find?_cons, List.find?_cons]
    by_cases q : e.1 = s
    · simp [q]
    · simp only [q, decide_false]; exact ih
theorem tell_get (s : Int) : (mvAt (asD tellA ++ asD tellB) s).getD (.str "?") = .str (tellG s) := by
  have := mvAt_asD s "?" (tellA ++ tellB)
  unfold asD at this ⊢
  rw [List.map_append] at this
  exact this
noncomputable def symT (s : Int) : Str := if s < 256 then tellG s else ⟨#[(s - 247).toNat]⟩
noncomputable def backF : List Int → Str → Int → List (Str × Int) → List (Str × Int)
  | [], _, _, ws => ws
  | s :: r, t, n, ws => if s = 0 then backF r Str.empty 0 (ws ++ [(t, n)]) else backF r (t ++ symT s) (n + 1) ws
theorem symT_len (s : Int) : (symT s).length ≤ 3 := by
  unfold symT
  split
  · unfold tellG
    have h : (tellA ++ tellB).all (fun e => decide (e.2.length ≤ 3)) = true := by decide +kernel
    cases e : (tellA ++ tellB).find? fun e => decide (e.1 = s) with
    | none => exact (by decide : 1 ≤ 3)
    | some x => exact of_decide_eq_true (List.all_eq_true.mp h x (List.mem_of_find?_eq_some e))
  · exact (by decide : 1 ≤ 3)
theorem kin_eq (a b c a' b' c' : Bool) : PyData.eqv (.tuple [.bool a, .bool b, .bool c]) (.tuple [.bool a', .bool b', .bool c']) = (a == a' && b == b' && c == c') := by
  cases a <;> cases b <;> cases c <;> cases a' <;> cases b' <;> cases c' <;> rfl
theorem kin_isD (a b c : Bool) : IsD (.tup [.bool a, .bool b, .bool c]) (.tuple [.bool a, .bool b, .bool c]) := .tup _ _ rfl fun i x d h1 h2 => match i, h1, h2 with
  | 0, h1, h2 => by cases h1; cases h2; exact .bool _
  | 1, h1, h2 => by cases h1; cases h2; exact .bool _
  | 2, h1, h2 => by cases h1; cases h2; exact .bool _
theorem w2_kin {w : World} {Γ : Cx} {σ : St} {Q : MV → St → Prop} {a b c a' b' c' : Bool} (h : Q (.bool (a == a' && b == b' && c == c')) σ) : WP2 pr w Γ σ (.tup [.bool a, .bool b, .bool c]) (.tup [.bool a', .bool b', .bool c']) (compareOp .Eq) Q :=
  w2_eqD (kin_isD a b c) (kin_isD a' b' c') rfl rfl (by simp [PyData.depth, PyData.depthAll]) (by rw [kin_eq]; exact h)
theorem sBak : ScopeOk (fScope bBak) ((["row", "operators"] : List Str) ++ (["tells", "words", "text", "count", "symbol", "kinds"] : List Str)) := ⟨rfl, by decide +kernel, by decide +kernel, by decide +kernel⟩
theorem bBakB : ∀ doc pm cdv ct vs, vs.length = (["row", "operators"] : List Str).length → bindArgs (fnOf (fName bBak) "_law_back" (fArgs bBak) (fBody bBak) (fScope bBak) .none .none doc pm none cdv ct) ⟨vs, []⟩ = pure ((["row", "operators"] : List Str).zip vs) := by intro doc pm cdv ct vs h; obtain ⟨v, u, rfl⟩ := len2 h; rfl
noncomputable abbrev glB (fe ft fn : Addr) : List (Str × MV) := [("range", .obj (.type "range")), ("ISEOF", .obj (.ref fe)), ("ISTERMINAL", .obj (.ref ft)), ("ISNONTERMINAL", .obj (.ref fn)), ("chr", .obj (.builtin "chr"))]
noncomputable def pairM (p : Str × Int) : MV := .tup [.str p.1, .int p.2]
noncomputable abbrev locB (r : List Int) (t : Str) (n : Int) (z1 z2 : MV) : List (Str × MV) := [("row", .list (r.map .int)), ("operators", .list (ops.map .str)), ("tells", .mu 0), ("words", .mu 1), ("text", .str t), ("count", .int n), ("symbol", z1), ("kinds", z2)]
noncomputable abbrev obB (ws : List (Str × Int)) : List (Option MO) := [some (.ext (dicI (asD tellA ++ asD tellB))), some (.lst (ws.map pairM))]
noncomputable def BI (r : List Int) (R : List (Str × Int)) (ys : List MV) (σ : St) : Prop := ∃ (rest : List Int) (t : Str) (n : Int) (ws : List (Str × Int)) (z1 z2 : MV), ys = rest.map .int ∧ backF rest t n ws = R ∧ (∀ s ∈ rest, s ≤ 100000) ∧ t.length + 3 * rest.length ≤ 20000 ∧ ws.length + rest.length ≤ 5000 ∧ σ = ⟨locB r t n z1 z2, obB ws⟩
section
variable {w : World} {hB : Heap} {mg mb : Str → Option Value}
theorem back_turn (T : TopF hB mg mb) {fe ft fn : Addr} (he : IsFn hB fe "ISEOF" bEof) (hge : ∀ p ∈ glEM, GlobAt w hB mg mb (fScope bEof) p) (ht : IsFn hB ft "ISTERMINAL" bTer) (hgt : ∀ p ∈ glNT, GlobAt w hB mg mb (fScope bTer) p) (hn : IsFn hB fn "ISNONTERMINAL" bNon) (hgn : ∀ p ∈ glNT, GlobAt w hB mg mb (fScope bNon) p)
    {Γ : Cx} (hΓ : Γof (fScope bBak) Γ hB 1 (glB fe ft fn)) {r rest : List Int} {R : List (Str × Int)} {t : Str} {n s : Int} {ws : List (Str × Int)} {z2 : MV} {body : List Stmt} {QF : MF → St → Prop} (hb : body = forBodyD (fBody bBak)[4]?) (hR : backF (s :: rest) t n ws = R) (hs : ∀ x ∈ s :: rest, x ≤ 100000) (htl : t.length + 3 * (rest.length + 1) ≤ 20000) (hwl : ws.length + (rest.length + 1) ≤ 5000) :
    WPs pr w Γ ⟨locB r t n (.int s) z2, obB ws⟩ body (turn (BI r R (rest.map .int)) QF) := by
  subst hb
  have hgl : Γ.glob = glB fe ft fn := hΓ.2.2.1
  have hs' := fun x hx => hs x (.tail _ hx)
  have hss := hs s (.head _)
  unfold backF at hR
  show WPs pr w Γ _ [_, _] _
  tm_at "x"
  refine wc_pure hΓ (pf_eof T he hge) he (by decide) (fun y hy => by simp at hy; subst hy; exact .int) fun v hv => ?_
  subst hv
  tm_at "x"
  refine wc_pure hΓ (pf_ter T ht hgt) ht (by decide) (fun y hy => by simp at hy; subst hy; exact .int) fun v hv => ?_
  subst hv
  tm_at "x"
  refine wc_pure hΓ (pf_non T hn hgn) hn (by decide) (fun y hy => by simp at hy; subst hy; exact .int) fun v hv => ?_
  subst hv
  tm_at "x"
  refine w2_kin ?_
  tm_at "x"
  refine ⟨fun hc => ?_, fun hc => ?_⟩
  · have h0 : s = 0 := by
      simp only [Bool.and_eq_true, beq_iff_eq] at hc
      exact by simpa using hc.1.1
    rw [if_pos h0] at hR
    tm_at "x"
    refine wm_mu (k := 1) (xs := ws.map pairM) rfl PySem.F.slot_list_append PySem.F.type_list_append ?_
    tm_at "x"
    refine wc_append (k := 1) (xs := ws.map pairM) rfl (by rw [List.length_map]; show _ ≤ 16777216; (first | exact o156 hwl | omega)) ?_
    tm_at "x"
    refine' wx_assign_tup ?_ ?hs ?hw
    case hs => intro _; rfl
    case hw => exact swapped_of hΓ.1 rfl
    tm_at "x"
    refine ⟨rest, Str.empty, 0, ws ++ [(t, n)], .int s, .tup [.bool (s == 0), .bool (decide (s < 256)), .bool (decide (256 ≤ s))], rfl, hR, hs', ?_, by simp; (first | exact o157 hwl | omega), ?_⟩
    · show 0 + _ ≤ _; (first | exact o158 htl | omega)
    · show (⟨_, _⟩ : St) = ⟨_, _⟩
      unfold obB
      rw [List.map_append]
      rfl
  · have h0 : s ≠ 0 := fun q => by subst q; exact absurd hc (by decide)
    rw [if_neg h0] at hR
    have hlen := symT_len s
    have fin : ∀ z2, BI r R (rest.map .int) ⟨locB r (t ++ symT s) (n + 1) (.int s) z2, obB ws⟩ := fun z2 => ⟨rest, _, _, ws, .int s, z2, rfl, hR, hs', by rw [Str.length_append]; (first | exact o159 htl hlen | omega), by (first | exact o160 hwl | omega), rfl⟩
    tm_at "x"
    refine w2_kin ?_
    tm_at "x"
    refine ⟨fun h1 => ?_, fun h1 => ?_⟩
    · have hlt : s < 256 := by
        simp only [Bool.and_eq_true, beq_iff_eq, decide_eq_true_eq] at h1
        exact h1.1.2
      have e : symT s = tellG s := if_pos hlt
      tm_at "x"
      refine wm_dic (k := 0) rfl PySem.F.slot_dict_get PySem.F.type_dict_get ?_
      tm_at "x"
      refine wc_getX (k := 0) (es := asD tellA ++ asD tellB) rfl ?_
      rw [show (Str.ofString "?") = ("?" : Str) from rfl, tell_get, ← e]
      refine w2_icat (by show _ ≤ 16777216; (first | exact o161 htl hlen | omega)) ?_
      tm_at "x"
      exact fin _
    · have hge : 256 ≤ s := by
        rcases Int.lt_or_le s 256 with q | q
        · exfalso
          revert h1
          have q2 : ¬ 256 ≤ s := by (first | exact fun q => o162 q q | omega)
          simp [h0, q, q2]
        · exact q
      have e : symT s = ⟨#[(s - 247).toNat]⟩ := if_neg (by (first | exact fun q => o163 q hge | omega))
      tm_at "x"
      refine w2_kin ?_
      tm_at "x"
      refine ⟨fun h2 => ?_, fun h2 => ?_⟩
      · tm_at "x"
        refine w2_sub ?_
        refine wl_nil ?_
        refine wc_chr (by (first | exact o164 hge | omega)) (by (first | exact o165 hss | omega)) ?_
        rw [← e]
        refine w2_icat (by show _ ≤ 16777216; (first | exact o161 htl hlen | omega)) ?_
        tm_at "x"
        exact fin _
      · exfalso
        revert h2
        have q2 : ¬ s < 256 := by (first | exact fun q => o163 q hge | omega)
        simp [h0, q2, hge]
end
theorem tellA_acc : [] ++ (intsOf 0 7).map (fun y => ((match y with | .int k => 255 - k | _ => 0 : Int), (match y with | .int k => .str (("&" : Str) ++ one (S7.cps.getD k.toNat 0)) | z => z : MV))) = asD tellA := by kernel_rfl
theorem tellB_acc : [] ++ (intsOf 0 48).map (fun y => ((match y with | .int k => 7 + k | _ => 0 : Int), (match y with | .int k => .str (ops.getD k.toNat Str.empty) | z => z : MV))) = asD tellB := by kernel_rfl
theorem rng_items (n : Nat) : intsOf 0 (n : Int) = (List.range n).map fun k : Nat => MV.int (0 + (k : Int)) := by
  unfold intsOf
  rw [show ((n : Int) - 0).toNat = n by (first | exact o166 | omega)]
section
variable {w : World} {hB : Heap} {mg mb : Str → Option Value}
theorem pf_back (T : TopF hB mg mb) {f fe ft fn : Addr} (hf : IsFn hB f "_law_back" bBak) (hg : ∀ p ∈ glB fe ft fn, GlobAt w hB mg mb (fScope bBak) p) (he : IsFn hB fe "ISEOF" bEof) (hge : ∀ p ∈ glEM, GlobAt w hB mg mb (fScope bEof) p) (ht : IsFn hB ft "ISTERMINAL" bTer) (hgt : ∀ p ∈ glNT, GlobAt w hB mg mb (fScope bTer) p) (hn : IsFn hB fn "ISNONTERMINAL" bNon) (hgn : ∀ p ∈ glNT, GlobAt w hB mg mb (fScope bNon) p)
    {r : List Int} (hr : r.length ≤ 4000) (hs : ∀ s ∈ r, s ≤ 100000) : PureFn pr w 2 hB (.ref f) [.list (r.map .int), .list (ops.map .str)] (fun v => v = .list ((backF r Str.empty 0 []).map pairM)) := by
  refine PureFn.of_stmt T hf ["row", "operators"] ["tells", "words", "text", "count", "symbol", "kinds"] (glB fe ft fn) bBakB rfl sBak hg rfl rfl ?_
  intro Γ hΓ
  have hgl : Γ.glob = glB fe ft fn := hΓ.2.2.1
  show WPs pr w Γ ⟨[("row", .list (r.map .int)), ("operators", .list (ops.map .str)), ("tells", .undef), ("words", .undef), ("text", .undef), ("count", .undef), ("symbol", .undef), ("kinds", .undef)], []⟩ [_, _, _, _, _, _] _
  refine ws_cons ?_
  refine wx_newdict T hΓ _ ["k"] [] [] (relabel_of hΓ.1) (show CompSc _ _ ["k"] ([] : List Str) from ⟨rfl, by decide +kernel, by decide +kernel, by decide +kernel, by decide +kernel, by decide +kernel, by decide +kernel⟩) (fun _ _ h => nomatch h) (fun x h => nomatch h) ?_ (fun _ _ => rfl) (swapsWith_of hΓ.1 rfl)
  tm_at "x"
  refine wc_range1 ?_
  refine ⟨_, Itr.rng _ _ 0 7 rfl rfl, by decide, (fun p hp => nomatch hp), ?_⟩
  refine dc_map (X := KD.int pr w) (fun y => match y with | .int k => 255 - k | _ => 0) (fun y => match y with | .int k => .str (("&" : Str) ++ one (S7.cps.getD k.toNat 0)) | z => z) _ _ _ ?_ ?_ ?_ ?_
  · intro y hy
    rw [show (7 : Int) = ((7 : Nat) : Int) from rfl, rng_items] at hy
    obtain ⟨k, _, rfl⟩ := List.mem_map.mp hy
    exact .str
  · decide +kernel
  · intro y hy Γ' hΓ''
    rw [show (7 : Int) = ((7 : Nat) : Int) from rfl, rng_items] at hy
    obtain ⟨k, hk, rfl⟩ := List.mem_map.mp hy
    have hk7 : k < 7 := List.mem_range.mp hk
    have hkc : S7.cps[(0 + (k : Int)).toNat]? = some (S7.cps.getD (0 + (k : Int)).toNat 0) := by
      have h7 : (0 + (k : Int)).toNat < S7.cps.size := by show _ < 7; (first | exact o167 hk7 | omega)
      rw [Array.getElem?_eq_getElem h7, Array.getD_eq_getD_getElem?, Array.getElem?_eq_getElem h7]; rfl
    refine wa_name (.here .undef []) ?_
    tm_at "x"
    refine w2_sub ?_
    refine ⟨rfl, ?_⟩
    tm_at "x"
    refine it_str (by (first | exact o168 | omega)) (by (first | exact o169 hk7 | omega)) hkc ?_
    refine w2_cat (show 1 + 1 ≤ 16777216 by decide) ?_
    exact ⟨rfl, rfl⟩
  rw [tellA_acc]
  refine ⟨fun p hp => by obtain ⟨e, _, rfl⟩ := List.mem_map.mp hp; exact .str, ?_⟩
  tm_at "q"
  refine then_next (ws_cons ?_)
  tm_at "x"
  refine wm_dic (k := 0) rfl PySem.F.slot_dict_update PySem.F.type_dict_update ?_
  refine' wl_cons ?_ ?he
  case he => intro _; rfl
  refine wp_dcomp (X := KD.int pr w) T hΓ _ ["k"] [("operators", .list (ops.map .str))] [] (relabel_of hΓ.1) (show CompSc _ _ ["k"] (["operators"] : List Str) from ⟨rfl, by decide +kernel, by decide +kernel, by decide +kernel, by decide +kernel, by decide +kernel, by decide +kernel⟩) (fun _ _ h => nomatch h) (show ∀ x ∈ (["operators"] : List Str), x ∈ (["row", "operators", "tells", "words", "text", "count", "symbol", "kinds"] : List Str) ∧ (fScope bBak).names.lookup x = some .cell from by decide +kernel) ?_ (fun _ _ => rfl)
  tm_at "x"
  refine wc_range1 ?_
  refine ⟨_, .itr (Itr.rng _ _ 0 48 rfl rfl), by decide, ?_, ?_⟩
  · intro q hq
    simp only [List.mem_cons, List.not_mem_nil, or_false] at hq
    subst hq
    exact ⟨.tail _ (.head _), rfl, strs_cl _⟩
  refine dc_map (X := KD.int pr w) (fun y => match y with | .int k => 7 + k | _ => 0) (fun y => match y with | .int k => .str (ops.getD k.toNat Str.empty) | z => z) _ _ _ ?_ ?_ ?_ ?_
  · intro y hy
    rw [show (48 : Int) = ((48 : Nat) : Int) from rfl, rng_items] at hy
    obtain ⟨k, _, rfl⟩ := List.mem_map.mp hy
    exact .str
  · decide +kernel
  · intro y hy Γ' hΓ''
    rw [show (48 : Int) = ((48 : Nat) : Int) from rfl, rng_items] at hy
    obtain ⟨k, hk, rfl⟩ := List.mem_map.mp hy
    have hk48 : k < 48 := List.mem_range.mp hk
    have hgl' : Γ'.glob = ([("operators", .list (ops.map .str))] : List (Str × MV)) := hΓ''.2.2.1
    refine wa_name (.here .undef []) ?_
    tm_at "x"
    refine ⟨rfl, ?_⟩
    tm_at "x"
    refine it_list (by (first | exact o168 | omega)) (by (first | exact o170 hk48 | omega)) (getD_some (by rw [show ops.length = 48 by decide +kernel]; (first | exact o171 hk48 | omega))) ?_
    exact ⟨rfl, rfl⟩
  rw [tellB_acc]
  refine wl_nil ?_
  refine wc_update (k := 0) (es := asD tellA) (es₂ := asD tellB) rfl (by decide +kernel) (fun p hp => by obtain ⟨e, _, rfl⟩ := List.mem_map.mp hp; exact .str) (by decide +kernel) ?_
  tm_at "x1"
  refine then_next (ws_cons (wx_new (wl_nil ⟨Nat.zero_le _, ?_⟩)))
  tm_at "q"
  refine then_next (ws_cons ?_)
  refine' wx_assign_tup ?_ ?hs ?hw
  case hs => intro _; rfl
  case hw => exact swapped_of hΓ.1 rfl
  tm_at "x"
  show WPx pr w Γ ⟨locB r Str.empty 0 .undef .undef, obB []⟩ _ _
  refine wx_for ?_ (fun _ _ => rfl)
  tm_at "x"
  refine ⟨_, Itr.list _ _ _, ?_⟩
  refine wpf_inv (BI r (backF r Str.empty 0 [])) (fun y ys σ hI => ?_) (fun σ hI => ?_) _ _ ⟨r, Str.empty, 0, [], .undef, .undef, rfl, rfl, hs, by show 0 + _ ≤ _; (first | exact o172 hr | omega), by simp; (first | exact o173 hr | omega), rfl⟩
  · obtain ⟨rest, t, n, ws, z1, z2, hys, hR, hs', htl, hwl, rfl⟩ := hI
    cases rest with
    | nil => cases hys
    | cons s rest =>
      injection hys with h1 h2
      subst h1 h2
      refine wa_name (.there _ (.there _ (.there _ (.there _ (.there _ (.there _ (.here _ _))))))) ?_
      exact back_turn T he hge ht hgt hn hgn hΓ rfl hR hs' htl hwl
  · obtain ⟨rest, t, n, ws, z1, z2, hys, hR, hs', htl, hwl, rfl⟩ := hI
    cases rest with
    | cons s rest => cases hys
    | nil =>
      have hR : ws = backF r Str.empty 0 [] := hR
      refine then_next ?_
      refine ws_freeze (x := "words") (k := 1) (xs := ws.map pairM) (by tm_at "lk") rfl ?_
      tm_at "q"
      tm_at "x"
      refine ⟨Closed.list fun y hy => ?_, ?_⟩
      · obtain ⟨p, _, rfl⟩ := List.mem_map.mp hy
        exact Closed.tup fun z hz => by simp only [List.mem_cons, List.not_mem_nil, or_false] at hz; rcases hz with rfl | rfl; exact .str; exact .int
      · rw [hR]
end
theorem tail_suf {α : Type} (xs : List α) : xs.tail <:+ xs := List.tail_suffix xs
theorem lexQ_suf : ∀ (n : Nat) (line : Int) (xs : List Str) (tok : Str), (lexQ n line xs tok).2.2.1 <:+ xs
  | 0, _, xs, _ => List.suffix_refl xs
  | _ + 1, _, [], _ => List.suffix_refl []
  | n + 1, line, x :: xs, tok => by
    unfold lexQ
    split
    · exact List.suffix_cons x xs
    · split
      · exact ((lexQ_suf n _ _ _).trans (tail_suf xs)).trans (List.suffix_cons x xs)
      · exact (lexQ_suf n _ _ _).trans (List.suffix_cons x xs)
theorem lexB_suf : ∀ (n : Nat) (line : Int) (xs : List Str) (tok : Str), (lexB n line xs tok).2.2.1 <:+ xs
  | 0, _, xs, _ => List.suffix_refl xs
  | _ + 1, _, [], _ => List.suffix_refl []
  | n + 1, line, x :: xs, tok => by
    unfold lexB
    split
    · exact List.suffix_cons x xs
    · split
      · exact ((lexB_suf n _ _ _).trans (tail_suf xs)).trans (List.suffix_cons x xs)
      · exact (lexB_suf n _ _ _).trans (List.suffix_cons x xs)
theorem lexO_suf : ∀ (n : Nat) (line : Int) (xs : List Str), (lexO n line xs).2.1 <:+ xs
  | 0, _, xs => List.suffix_refl xs
  | _ + 1, _, [] => List.suffix_refl []
  | n + 1, line, x :: xs => by
    unfold lexO
    split
    · exact (lexO_suf n _ _).trans (List.suffix_cons x xs)
    · split
      · exact (lexQ_suf n _ _ _).trans (List.suffix_cons x xs)
      · split
        · exact ((lexB_suf n _ _ _).trans (tail_suf xs)).trans (List.suffix_cons x xs)
        · exact (lexB_suf n _ _ _).trans (List.suffix_cons x xs)
theorem lexG_ok {line : Int} {xs : List Str} (hz : xs.length ≤ 90000) (hs : ∀ x ∈ xs, sgl x) : (lexG line xs).2.1.length ≤ 90000 ∧ ∀ x ∈ (lexG line xs).2.1, sgl x := by
  have h := lexO_suf (xs.length + 1) line xs
  exact ⟨Nat.le_trans h.length_le hz, fun x hx => hs x (h.mem hx)⟩
theorem IsD.mapI (ns : List Int) : IsD (.list (ns.map .int)) (.list (ns.map .int)) := .list _ _ (by simp) fun i x d a b => by
  rw [List.getElem?_map] at a b
  cases h : ns[i]? with
  | none => rw [h] at a; cases a
  | some n => rw [h] at a b; cases a; cases b; exact .int n
theorem lay_intsA : ∀ ns : List Int, PyData.canLayAll0 (ns.map .int) = true
  | [] => rfl
  | n :: ns => by
    show (PyData.canLay0 (.int n) && PyData.canLayAll0 (ns.map .int)) = true
    rw [lay_intsA ns]; rfl
theorem lay_ints (ns : List Int) : PyData.canLay0 (.list (ns.map .int)) = true := lay_intsA ns
theorem depth_intsA : ∀ ns : List Int, PyData.depthAll (ns.map .int) ≤ 1
  | [] => by decide
  | n :: ns => by
    have := depth_intsA ns
    simp only [List.map_cons, PyData.depthAll, PyData.depth]
    (first | exact o34 this | omega)
theorem depth_ints (ns : List Int) : PyData.depth (.list (ns.map .int)) ≤ 2 := by
  have := depth_intsA ns
  simp only [PyData.depth]; (first | exact o122 this | omega)
noncomputable abbrev glLaw (ft fs fw fl fv fo fr fd fb : Addr) : List (Str × MV) := [("enumerate", .obj (.type "enumerate")), ("_law_texts", .obj (.ref ft)), ("range", .obj (.type "range")), ("_law_lexer", .obj (.ref fl)), ("_law_written", .obj (.ref fv)), ("len", .obj (.builtin "len")), ("_law_operators", .obj (.ref fo)), ("_law_row", .obj (.ref fr)), ("_law_due", .obj (.ref fd)), ("_law_back", .obj (.ref fb))]
noncomputable abbrev locL (sc cells k x texts hands spelled told head tail word read ends lines operators row due which : MV) : List (Str × MV) := [("script", sc), ("cells", cells), ("k", k), ("x", x), ("texts", texts), ("hands", hands), ("spelled", spelled), ("told", told), ("head", head), ("tail", tail), ("word", word), ("read", read), ("ends", ends), ("lines", lines), ("operators", operators), ("row", row), ("due", due), ("which", which)]
theorem sLaw : ScopeOk (fScope bLaw) ((["script"] : List Str) ++ (["cells", "k", "x", "texts", "hands", "spelled", "told", "head", "tail", "word", "read", "ends", "lines", "operators", "row", "due", "which"] : List Str)) := ⟨rfl, by decide +kernel, by decide +kernel, by decide +kernel⟩
theorem bLawB : ∀ doc pm cdv ct vs, vs.length = (["script"] : List Str).length → bindArgs (fnOf (fName bLaw) "law" (fArgs bLaw) (fBody bLaw) (fScope bLaw) .none .none doc pm none cdv ct) ⟨vs, []⟩ = pure ((["script"] : List Str).zip vs) := by intro doc pm cdv ct vs h; obtain ⟨v, rfl⟩ := len1 h; rfl
noncomputable def tokN : Nat → Int → List Str → List Str × Int × List Str
  | 0, l, xs => ([], l, xs)
  | n + 1, l, xs => let g := lexG l xs; let r := tokN n g.1 g.2.1; (g.2.2 :: r.1, r.2)
noncomputable def wordsOf (t : List Nat) (h : Nat) : List Str := ((tolds (isSp h) t).headD t0).1
noncomputable def writ (t : List Nat) (h : Nat) : Str := escS (txO t) (escT h)
noncomputable abbrev celL (cs : List Int) : List MV := cs.map .int
noncomputable def addAt (cs : List Int) (i : Nat) (v : Int) : List Int := cs.set (i % 11) (cs.getD (i % 11) 0 + v)
noncomputable def cells0 : List Int := [20, 5, 3, 19, 16, 21, 7, 9, 10, 4, 1]
section
variable {w : World} {hB : Heap} {mg mb : Str → Option Value} {C N fi fr' fg fq : Addr} {mN : Str → Option Value}
theorem law_cells {Γ : Cx} {ft fs fw fl fv fo fr fd fb P0 : Addr} (hΓ : Γof (fScope bLaw) Γ hB 9 (glLaw ft fs fw fl fv fo fr fd fb)) {ns : List Int} (hn : ns.length ≤ 10000) {QF : MF → St → Prop} {body : List Stmt} (hb : body = (fBody bLaw).drop 2)
    (h : ∀ (cs : List Int) z1 z2, cs.length = 11 → WPs pr w Γ ⟨locL (.list (ns.map .int)) (.mu 1) z1 z2 .undef .undef .undef .undef .undef .undef .undef .undef .undef .undef .undef .undef .undef .undef, [some (.ext (tabE P0 none)), some (.lst (celL cs)), none]⟩ body QF) :
    WPs pr w Γ ⟨locL (.list (ns.map .int)) .undef .undef .undef .undef .undef .undef .undef .undef .undef .undef .undef .undef .undef .undef .undef .undef .undef, [some (.ext (tabE P0 none))]⟩ (fBody bLaw) QF := by
  have hgl : Γ.glob = glLaw ft fs fw fl fv fo fr fd fb := hΓ.2.2.1
  show WPs pr w Γ _ (_ :: _ :: (fBody bLaw).drop 2) _
  with_reducible refine ws_cons ?_
  with_reducible refine wx_new ?_
  iterate 24 (tm_at "x1")
  tm_at "q"
  refine then_next (ws_cons ?_)
  refine wx_forE (xs := (ns.map MV.int).take 63) (fun _ loc objs => ∃ z1 z2 cs, cs.length = 11 ∧ loc = locL (.list (ns.map .int)) (.mu 1) z1 z2 .undef .undef .undef .undef .undef .undef .undef .undef .undef .undef .undef .undef .undef .undef ∧ objs = [some (.ext (tabE P0 none)), some (.lst (celL cs))]) hgl (by tm_at "lk") (fun x hx => by
    obtain ⟨i, _, rfl⟩ := List.mem_map.mp (List.mem_of_mem_take hx); exact .int) ?_ ⟨.undef, .undef, cells0, rfl, rfl, rfl⟩ (fun i x loc objs ex hx hlen hJ => ?_) (fun loc objs hlen hJ => ?_) (fun _ => rfl) (fun _ => rfl) (fun _ _ => rfl)
  · tm_at "x"
    refine sl_upto (b := 63) (by rw [List.length_map]; show _ ≤ 16777216; (first | exact o174 hn | omega)) ?_
    exact ⟨rfl, rfl⟩
  · obtain ⟨z1, z2, cs, hcs, rfl, rfl⟩ := hJ
    obtain ⟨v, rfl⟩ : ∃ v, x = .int v := by
      rw [List.getElem?_take] at hx
      split at hx
      · rw [List.getElem?_map] at hx
        cases h : ns[i]? with
        | none => rw [h] at hx; cases hx
        | some v => rw [h] at hx; cases hx; exact ⟨v, rfl⟩
      · cases hx
    tm_at "q"
    have hm : ((i : Int)).fmod 11 = ((i % 11 : Nat) : Int) := by rw [Int.fmod_eq_emod_of_nonneg _ (by decide)]; rfl
    have hlt : i % 11 < 11 := Nat.mod_lt _ (by decide)
    have hget : (celL cs)[((i % 11 : Nat) : Int).toNat]? = some (.int (cs.getD (i % 11) 0)) := by
      rw [Int.toNat_natCast, List.getElem?_map, List.getD_eq_getElem?_getD, List.getElem?_eq_getElem (by (first | exact o175 hcs | omega))]; rfl
    refine ws_cons (wx_augmuG (k := 1) (xs := celL cs) (j := ((i % 11 : Nat) : Int)) (a := .int (cs.getD (i % 11) 0)) (b := .int v) (c := .int (cs.getD (i % 11) 0 + v)) (wp_name (by tm_at "lk") rfl ⟨rfl, rfl⟩) ?_ rfl (by rw [List.length_map]; (first | exact o176 hcs | omega)) (Int.natCast_nonneg _) hget (wp_name (by tm_at "lk") rfl ⟨rfl, rfl⟩) (w2_iadd ⟨rfl, rfl⟩) ?_ (fun _ _ _ => rfl))
    · tm_at "x"
      refine w2_mod (by decide) ?_
      rw [hm]
      exact ⟨rfl, rfl⟩
    · refine then_next (ws_nil ⟨rfl, ?_⟩)
      refine ⟨[some (.ext (tabE P0 none)), some (.lst (celL (addAt cs i v)))], rfl, ?_, .int i, .int v, addAt cs i v, by simp [addAt, hcs], rfl, rfl⟩
      rw [Int.toNat_natCast]
      unfold addAt celL
      rw [List.map_set]
      rfl
  · obtain ⟨z1, z2, cs, hcs, rfl, rfl⟩ := hJ
    refine then_next ?_
    subst hb
    exact h cs z1 z2 hcs
end
theorem wx_assignE {w : World} {Γ : Cx} {σ : St} {QF : MF → St → Prop} {x : Str} {p p' : Pos} {e : Expr} (h : WPe pr w Γ σ e fun mv σ₁ => PutQ x mv σ₁.loc fun l' => QF .next { σ₁ with loc := l' }) (hs : swapsWith e (some (.Name x p)) p'.line Γ.env = pure false) : WPx pr w Γ σ (.Assign [.Name x p] e p') QF := by
  intro K ps s R r hR
  refine wpAny_Assign_Name (h K ps s _ r fun mv v σ₁ s₁ h₁ r₁ => ?_) hs
  obtain ⟨l', hp, hq⟩ := h₁
  exact WP1.to_store (QU := fun σ => QF .next σ) hp hq K ps v s₁ _ r₁ fun σ₂ s₂ h₂ r₂ => hR .next .next σ₂ s₂ h₂ ⟨rfl, r₂⟩
structure TxE (t : List Nat) (h : Nat) : Prop where
  hh : h < 5
  tl : t.length ≤ 100
  tv : ∀ c ∈ t, c < 0xD800
  fit : fitsS (txO t) (escT h)
  len : (writ t h).length ≤ 90000
section
variable {w : World} {hB : Heap} {mg mb : Str → Option Value} {C N fi fr' fg fq : Addr} {mN : Str → Option Value}
noncomputable def GlobV (w : World) (hB : Heap) (mg mb : Str → Option Value) (p : Str × MV) : Prop := (p.1 == ("__debug__" : Str)) = false ∧ ∃ v, VR w (fun b => hB.get? b) noρ p.2 v ∧ (mg p.1 = some v ∨ mg p.1 = none ∧ mb p.1 = some v)
theorem law_told {Γ : Cx} {ft fs fw fl fv fo fr fd fb P0 : Addr} (T : TopF hB mg mb) (hΓ : Γof (fScope bLaw) Γ hB 9 (glLaw ft fs fw fl fv fo fr fd fb)) (hg1 : GlobV w hB mg mb ("_law_spelled", .obj (.ref fs))) (hg2 : GlobV w hB mg mb ("_law_words", .obj (.ref fw)))
    (hft : IsFn hB ft "_law_texts" bTxt) (hgt : ∀ p ∈ glT fo, GlobAt w hB mg mb (fScope bTxt) p) (hfo : IsFn hB fo "_law_operators" bOps) (hfs : IsFn hB fs "_law_spelled" bSpl) (hfw : IsFn hB fw "_law_words" bWrd) (hgw : ∀ p ∈ glW1, GlobAt w hB mg mb (fScope bWrd) p)
    {sc z1 z2 : MV} {cs : List Int} {t0 t1 : List Nat} {h0 h1 : Nat} (hcs : cs.length = 11) (e0 : (textsN cs 10).1 = txO t0) (e1 : (textsN cs 10).2 = txO t1) (eh0 : (cs.getD 0 0).fmod 5 = h0) (eh1 : ((cs.getD 0 0).fdiv 5).fmod 5 = h1) (X0 : TxE t0 h0) (X1 : TxE t1 h1) {QF : MF → St → Prop} {body : List Stmt} (hb : body = (fBody bLaw).drop 6)
    (h : WPs pr w Γ ⟨locL sc (.list (celL cs)) z1 z2 (.list [.str (txO t0), .str (txO t1)]) (.list [.int h0, .int h1]) (.list [.dictS (spT h0), .dictS (spT h1)]) (.list [.list ((wordsOf t0 h0).map .str), .list ((wordsOf t1 h1).map .str)]) .undef .undef .undef .undef .undef .undef .undef .undef .undef .undef, [some (.ext (tabE P0 none)), none, none]⟩ body QF) :
    WPs pr w Γ ⟨locL sc (.mu 1) z1 z2 .undef .undef .undef .undef .undef .undef .undef .undef .undef .undef .undef .undef .undef .undef, [some (.ext (tabE P0 none)), some (.lst (celL cs)), none]⟩ ((fBody bLaw).drop 2) QF := by
  have hgl : Γ.glob = glLaw ft fs fw fl fv fo fr fd fb := hΓ.2.2.1
  subst hb
  have hc0 : (celL cs)[(0 : Int).toNat]? = some (.int (cs.getD 0 0)) := by
    show (cs.map MV.int)[0]? = _
    rw [List.getElem?_map, List.getD_eq_getElem?_getD, List.getElem?_eq_getElem (by (first | exact o177 hcs | omega))]; rfl
  show WPs pr w Γ _ (_ :: _ :: _ :: _ :: (fBody bLaw).drop 6) _
  refine ws_freeze (x := "cells") (k := 1) (xs := celL cs) (by tm_at "lk") rfl ?_
  tm_at "q"
  refine ws_cons ?_
  refine' wx_assign ?_ ?hs
  case hs => intro _; rfl
  tm_at "x"
  refine wc_pure hΓ (pf_txt T hft hfo hgt hcs) hft (by decide) (fun y hy => by simp at hy; subst hy; exact ints_cl cs) fun v hv => ?_
  subst hv
  rw [e0, e1]
  tm_at "x"
  refine it_list (by decide) (by decide) hc0 ?_
  tm_at "x"
  refine w2_mod (by decide) ?_
  rw [eh0]
  tm_at "x"
  refine it_list (by decide) (by decide) hc0 ?_
  tm_at "x"
  refine w2_div (by decide) (by decide) ?_
  tm_at "x"
  refine w2_mod (by decide) ?_
  rw [eh1]
  tm_at "x"
  refine' wx_assignE ?_ ?hs
  case hs => exact swapsWith_of hΓ.1 rfl
  refine wp_compD hΓ ["hand"] [] [("_law_spelled", .obj (.ref fs))] [] rfl ⟨rfl, by decide +kernel, by decide +kernel, by decide +kernel, by decide +kernel, by decide +kernel, by decide +kernel⟩ (GlobOk.of T rfl fun p hp => ?_) (fun x h => nomatch h) ?_ (fun _ _ => rfl)
  · simp only [List.mem_cons, List.not_mem_nil, or_false] at hp
    subst hp
    refine ⟨hg1.1, ?_, hg1.2⟩
    show List.lookup ("_law_spelled" : Str) _ = _
    decide +kernel
  tm_at "x"
  refine ⟨_, Itr.list _ _ _, by show 2 ≤ 16777216; decide, (fun p hp => nomatch hp), ?_⟩
  refine comp_map (fun _ => true) (fun y => match y with | .int k => .dictS (spT k.toNat) | z => z) _ _ _ ?_ ?_ ?_
  · intro y hy _
    simp only [List.mem_cons, List.not_mem_nil, or_false] at hy
    rcases hy with rfl | rfl <;> exact spT_cl _
  · intro y hy Γ' hΓ''
    have hgl' : Γ'.glob = ([("_law_spelled", .obj (.ref fs))] : List (Str × MV)) := hΓ''.2.2.1
    obtain ⟨k, hk, rfl⟩ : ∃ k : Nat, k < 5 ∧ y = .int k := by
      simp only [List.mem_cons, List.not_mem_nil, or_false] at hy
      rcases hy with e | e
      · exact ⟨h0, X0.hh, e⟩
      · exact ⟨h1, X1.hh, e⟩
    refine wa_name (.here .undef []) (wi_nil ⟨rfl, rfl, fun _ => ?_⟩)
    tm_at "x"
    refine wc_pure hΓ'' (pf_spl T hfs hk) hfs (by decide) (fun y hy => by simp at hy; subst hy; exact .int) fun v hv => ?_
    subst hv
    exact ⟨by dsimp only; rw [Int.toNat_natCast], rfl⟩
  tm_at "x1"
  tm_at "q"
  refine then_next (ws_cons ?_)
  show WPx pr w Γ ⟨locL sc (.list (celL cs)) z1 z2 (.list [.str (txO t0), .str (txO t1)]) (.list [.int h0, .int h1]) (.list [.dictS (spT h0), .dictS (spT h1)]) .undef .undef .undef .undef .undef .undef .undef .undef .undef .undef .undef, [some (.ext (tabE P0 none)), none, none]⟩ _ _
  refine wx_assign_comp hΓ _ ["k"] [("texts", .list [.str (txO t0), .str (txO t1)]), ("spelled", .list [.dictS (spT h0), .dictS (spT h1)])] [("_law_words", .obj (.ref fw))] (relabel_of hΓ.1) (show CompSc _ _ ["k"] (["texts", "spelled"] : List Str) from ⟨rfl, by decide +kernel, by decide +kernel, by decide +kernel, by decide +kernel, by decide +kernel, by decide +kernel⟩) (GlobOk.of T rfl fun p hp => ?_)
    (show ∀ x ∈ (["texts", "spelled"] : List Str), x ∈ (["script", "cells", "k", "x", "texts", "hands", "spelled", "told", "head", "tail", "word", "read", "ends", "lines", "operators", "row", "due", "which"] : List Str) ∧ (fScope bLaw).names.lookup x = some .cell from by decide +kernel) ?_ (fun _ _ => rfl) (swapsWith_of hΓ.1 rfl)
  · simp only [List.mem_cons, List.not_mem_nil, or_false] at hp
    subst hp
    refine ⟨hg2.1, ?_, hg2.2⟩
    show List.lookup ("_law_words" : Str) _ = _
    decide +kernel
  tm_at "x"
  refine wc_range1 ?_
  refine ⟨_, Itr.rng _ _ 0 2 rfl rfl, by decide, ?_, ?_⟩
  · intro q hq
    simp only [List.mem_cons, List.not_mem_nil, or_false] at hq
    rcases hq with rfl | rfl
    · exact ⟨.tail _ (.tail _ (.tail _ (.tail _ (.head _)))), rfl, strs_cl [txO t0, txO t1]⟩
    · refine ⟨.tail _ (.tail _ (.tail _ (.tail _ (.tail _ (.tail _ (.head _)))))), rfl, Closed.list fun y hy => ?_⟩
      simp only [List.mem_cons, List.not_mem_nil, or_false] at hy
      rcases hy with rfl | rfl <;> exact spT_cl _
  refine comp_map (fun _ => true) (fun y => match y with | .int k => .list ((if k = 0 then wordsOf t0 h0 else wordsOf t1 h1).map .str) | z => z) _ _ _ ?_ ?_ ?_
  · intro y hy _
    have hy : y ∈ [MV.int 0, MV.int 1] := hy
    simp only [List.mem_cons, List.not_mem_nil, or_false] at hy
    rcases hy with rfl | rfl <;> exact strs_cl _
  · intro y hy Γ' hΓ''
    have hgl' : Γ'.glob = ([("texts", .list [.str (txO t0), .str (txO t1)]), ("spelled", .list [.dictS (spT h0), .dictS (spT h1)]), ("_law_words", .obj (.ref fw))] : List (Str × MV)) := hΓ''.2.2.1
    obtain ⟨k, t, h', rfl, hk0, hk1, hkt, hks, hkw, X⟩ : ∃ (k : Int) (t : List Nat) (h' : Nat), y = .int k ∧ 0 ≤ k ∧ k < 2 ∧ ([.str (txO t0), .str (txO t1)] : List MV)[k.toNat]? = some (.str (txO t)) ∧ ([.dictS (spT h0), .dictS (spT h1)] : List MV)[k.toNat]? = some (.dictS (spT h')) ∧ wordsOf t h' = (if k = 0 then wordsOf t0 h0 else wordsOf t1 h1) ∧ TxE t h' := by
      have hy : y ∈ [MV.int 0, MV.int 1] := hy
      simp only [List.mem_cons, List.not_mem_nil, or_false] at hy
      rcases hy with rfl | rfl
      · exact ⟨0, t0, h0, rfl, by decide, by decide, rfl, rfl, rfl, X0⟩
      · exact ⟨1, t1, h1, rfl, by decide, by decide, rfl, rfl, rfl, X1⟩
    refine wa_name (.here .undef []) (wi_nil ⟨rfl, rfl, fun _ => ?_⟩)
    tm_at "x"
    refine it_list hk0 (by (first | exact o178 hk1 | omega)) hkt ?_
    tm_at "x"
    refine it_list hk0 (by (first | exact o178 hk1 | omega)) hks ?_
    tm_at "x"
    refine wc_pure hΓ'' (pf_wrd T hfw hgw (Nat.le_trans X.tl (by decide))) hfw (by decide) (fun y hy => by simp at hy; rcases hy with rfl | rfl; exact .str; exact spT_cl _) fun v hv => ?_
    subst hv
    refine ⟨?_, rfl⟩
    show MV.list ((wordsOf t h').map .str) = _
    rw [hkw]
  tm_at "q"
  refine then_next ?_
  exact h
end
section
variable {w : World} {hB : Heap} {mg mb : Str → Option Value} {C N fi fr' fg fq : Addr} {mN : Str → Option Value}
theorem law_lex {Γ : Cx} {ft fs fw fl fv fo fr fd fb P0 cd0 : Addr} {e : Nat → Addr} (T : TopF hB mg mb) (L : LexCls hB C N fi fr' fg fq mN) (hi : IsFnC hB fi "_netrclex.__init__" bInit) (XL : LxFn w hB mg mb C fl cd0 P0) (hΓ : Γof (fScope bLaw) Γ hB 9 (glLaw ft fs fw fl fv fo fr fd fb))
    (hfv : IsFn hB fv "_law_written" bWritten) (H : EscAt hB e) (hgv : ∀ p ∈ glW e, GlobAt w hB mg mb (fScope bWritten) p)
    {sc cells z1 z2 spelled told : MV} {t0 t1 : List Nat} {h0 h1 : Nat} (X0 : TxE t0 h0) (X1 : TxE t1 h1) {QF : MF → St → Prop} {body : List Stmt} (hb : body = (fBody bLaw).drop 8)
    (h : ∀ (A B : LX) o, WPs pr w Γ ⟨locL sc cells z1 z2 (.list [.str (txO t0), .str (txO t1)]) (.list [.int h0, .int h1]) spelled told (.obj (.ref A.x)) (.obj (.ref B.x)) .undef .undef .undef .undef .undef .undef .undef .undef, [some (.ext (tabE P0 o)), none, none, some (.ext (lexE C A 1 [] (strs1 (writ t0 h0)))), some (.ext (lexE C B 1 [] (strs1 (writ t1 h1))))]⟩ body QF) :
    WPs pr w Γ ⟨locL sc cells z1 z2 (.list [.str (txO t0), .str (txO t1)]) (.list [.int h0, .int h1]) spelled told .undef .undef .undef .undef .undef .undef .undef .undef .undef .undef, [some (.ext (tabE P0 none)), none, none]⟩ ((fBody bLaw).drop 6) QF := by
  have hgl : Γ.glob = glLaw ft fs fw fl fv fo fr fd fb := hΓ.2.2.1
  subst hb
  show WPs pr w Γ _ (_ :: _ :: (fBody bLaw).drop 8) _
  refine ws_cons ?_
  refine' wx_assign ?_ ?hs
  case hs => intro _; rfl
  tm_at "x"
  refine it_list (by decide) (by decide) (show _ = some (MV.str (txO t0)) from rfl) ?_
  tm_at "x"
  refine it_list (by decide) (by decide) (show _ = some (MV.int h0) from rfl) ?_
  tm_at "x"
  refine wc_pure hΓ (pf_written T hfv H hgv X0.hh X0.fit) hfv (by decide) (fun y hy => by simp at hy; rcases hy with rfl | rfl; exact .str; exact .int) fun v hv => ?_
  subst hv
  tm_at "x"
  refine wc_mklex T L hi XL (Nat.le_trans X0.len (by decide)) hΓ (by decide) (k := 0) (show ObjAt _ 0 _ from rfl) fun A o => ?_
  tm_at "q"
  refine then_next (ws_cons ?_)
  refine' wx_assign ?_ ?hs
  case hs => intro _; rfl
  tm_at "x"
  refine it_list (by decide) (by decide) (show _ = some (MV.str (txO t1)) from rfl) ?_
  tm_at "x"
  refine it_list (by decide) (by decide) (show _ = some (MV.int h1) from rfl) ?_
  tm_at "x"
  refine wc_pure hΓ (pf_written T hfv H hgv X1.hh X1.fit) hfv (by decide) (fun y hy => by simp at hy; rcases hy with rfl | rfl; exact .str; exact .int) fun v hv => ?_
  subst hv
  tm_at "x"
  refine wc_mklex T L hi XL (Nat.le_trans X1.len (by decide)) hΓ (by decide) (k := 0) (show ObjAt _ 0 _ from rfl) fun B o => ?_
  tm_at "q"
  refine then_next ?_
  exact h A B o
end
noncomputable def xsOk (xs : List Str) : Prop := xs.length ≤ 90000 ∧ ∀ x ∈ xs, sgl x
theorem xsOk.lex {xs : List Str} (h : xsOk xs) (l : Int) : xsOk (lexG l xs).2.1 := lexG_ok h.1 h.2
section
variable {w : World} {hB : Heap} {mg mb : Str → Option Value} {C N fi fr' fg fq : Addr} {mN : Str → Option Value} {A B : LX} {P0 : Addr} {o : Option (Addr × Obj)}
theorem push_loop {Γ : Cx} {gl : List (Str × MV)} {QF : MF → St → Prop} {body : List Stmt} {E1 : List Str} {sc cells z1 z2 texts hands spelled told : MV} (T : TopF hB mg mb) (L : LexCls hB C N fi fr' fg fq mN) (hΓ : Γof (fScope bLaw) Γ hB 9 gl) (hfr : IsFnC hB fr' "_netrclex._read_char" bRead) (hfg : IsFnC hB fg "_netrclex.get_token" bGet) (hgG : ∀ p ∈ glG, GlobAt w hB mg mb (fScope bGet) p) (hfq : IsFnC hB fq "_netrclex.push_token" bPush)
    (hb : body = forBodyD (fBody bLaw)[8]?) {tp : Pos} :
    ∀ (ws : List Str) (l : Int) (xs push : List Str) (z : MV), xsOk xs → push.length + ws.length ≤ 500 →
      (∀ z, QF .next ⟨locL sc cells z1 z2 texts hands spelled told (.obj (.ref A.x)) (.obj (.ref B.x)) z .undef .undef .undef .undef .undef .undef .undef, [some (.ext (tabE P0 o)), none, none, some (.ext (lexE C A (tokN ws.length l xs).2.1 [] (tokN ws.length l xs).2.2)), some (.ext (lexE C B 1 (push ++ (tokN ws.length l xs).1) E1))]⟩) →
      WPf pr w Γ (.Name "word" tp) body QF (ws.map .str) ⟨locL sc cells z1 z2 texts hands spelled told (.obj (.ref A.x)) (.obj (.ref B.x)) z .undef .undef .undef .undef .undef .undef .undef, [some (.ext (tabE P0 o)), none, none, some (.ext (lexE C A l [] xs)), some (.ext (lexE C B 1 push E1))]⟩ := by
  subst hb
  intro ws
  induction ws with
  | nil =>
    intro l xs push z hx hn h
    have := h z
    rw [show (tokN ([] : List Str).length l xs).1 = [] from rfl, List.append_nil] at this
    exact this
  | cons y ws ih =>
    intro l xs push z hx hn h
    simp only [List.length_cons] at hn
    show WU1 pr w Γ _ (.str y) (assign (.Name "word" tp) Γ.env) _
    refine wa_name (.there _ (.there _ (.there _ (.there _ (.there _ (.there _ (.there _ (.there _ (.there _ (.there _ (.here _ _))))))))))) ?_
    show WPs pr w Γ ⟨locL sc cells z1 z2 texts hands spelled told (.obj (.ref A.x)) (.obj (.ref B.x)) (.str y) .undef .undef .undef .undef .undef .undef .undef, [some (.ext (tabE P0 o)), none, none, some (.ext (lexE C A l [] xs)), some (.ext (lexE C B 1 push E1))]⟩ [_] _
    refine ws_cons ?_
    refine' wx_expr ?_ ?hs
    case hs => intro _; rfl
    refine' wp_method ?_ ?he ?hc
    case he => intro _ _; rfl
    case hc => intro _; rfl
    tm_at "x"
    refine wm_meth L hΓ.2.1 (k := 4) (show ObjAt _ 4 _ from rfl) L.mq hfq (by decide) (obj_lookup _ (by decide)) ?_
    refine' wl_cons ?_ ?he2
    case he2 => intro _; rfl
    refine' wp_method ?_ ?he ?hc
    case he => intro _ _; rfl
    case hc => intro _; rfl
    tm_at "x"
    refine wm_meth L hΓ.2.1 (k := 3) (show ObjAt _ 3 _ from rfl) L.mg hfg (by decide) (obj_lookup _ (by decide)) ?_
    tm_at "x"
    refine wc_ext hΓ (xf_get T L hfr hfg hgG (push := []) (Nat.zero_le _) hx.1 hx.2) hfg.fn (by decide) (fun y hy => by simp at hy; subst hy; exact .obj) (k := 3) (show ObjAt _ 3 _ from rfl) fun mv e' hP => ?_
    obtain ⟨rfl, rfl⟩ := hP
    tm_at "x"
    refine wc_ext hΓ (xf_push T L hfq (by (first | exact o179 hn | omega))) hfq.fn (by decide) (fun y hy => by simp at hy; rcases hy with rfl | rfl; exact .obj; exact .str) (k := 4) (show ObjAt _ 4 _ from rfl) fun mv e' hP => ?_
    obtain ⟨rfl, rfl⟩ := hP
    tm_at "x"
    refine ih (lexG l xs).1 (lexG l xs).2.1 (push ++ [(lexG l xs).2.2]) (.str y) (hx.lex l) (by simp; (first | exact o180 hn | omega)) fun z => ?_
    have := h z
    rw [show (tokN (y :: ws).length l xs) = ((lexG l xs).2.2 :: (tokN ws.length (lexG l xs).1 (lexG l xs).2.1).1, (tokN ws.length (lexG l xs).1 (lexG l xs).2.1).2) from rfl] at this
    rw [List.append_assoc]
    exact this
end
noncomputable def compElt : Option Stmt → Expr
  | some (.Assign _ (.ListComp e _ _ _) _) => e
  | _ => .Constant .none 0 ⟨0, 0, 0, 0⟩
noncomputable def tokP : Nat → List Str → Int → List Str → List Str × List Str × Int × List Str
  | 0, p, l, xs => ([], p, l, xs)
  | n + 1, p :: ps, l, xs => let r := tokP n ps l xs; (p :: r.1, r.2)
  | n + 1, [], l, xs => let g := lexG l xs; let r := tokP n [] g.1 g.2.1; (g.2.2 :: r.1, r.2)
theorem tokP_nil : ∀ (n : Nat) (l : Int) (xs : List Str), tokP n [] l xs = ((tokN n l xs).1, [], (tokN n l xs).2)
  | 0, _, _ => rfl
  | n + 1, l, xs => by
    show ((lexG l xs).2.2 :: (tokP n [] (lexG l xs).1 (lexG l xs).2.1).1, (tokP n [] (lexG l xs).1 (lexG l xs).2.1).2) = _
    rw [tokP_nil n]; rfl
theorem tokP_app : ∀ (p : List Str) (n : Nat) (l : Int) (xs : List Str), tokP (p.length + n) p l xs = (p ++ (tokN n l xs).1, [], (tokN n l xs).2)
  | [], n, l, xs => by rw [List.length_nil, Nat.zero_add, tokP_nil]; rfl
  | x :: p, n, l, xs => by
    have e : (x :: p).length + n = (p.length + n) + 1 := by simp; (first | exact o181 | omega)
    rw [e]
    show (x :: (tokP (p.length + n) p l xs).1, (tokP (p.length + n) p l xs).2) = _
    rw [tokP_app p n]; rfl
section
variable {w : World} {hB : Heap} {mg mb : Str → Option Value} {C N fi fr' fg fq : Addr} {mN : Str → Option Value} {A B : LX} {P0 : Addr} {o : Option (Addr × Obj)}
theorem comp_get {sc' : Scope} {ℓ : Nat} {elt : Expr} {tp : Pos} {Qc : List MV → List (Option MO) → Prop} {lA : Int} {xA : List Str} (T : TopF hB mg mb) (L : LexCls hB C N fi fr' fg fq mN) (hfr : IsFnC hB fr' "_netrclex._read_char" bRead) (hfg : IsFnC hB fg "_netrclex.get_token" bGet) (hgG : ∀ p ∈ glG, GlobAt w hB mg mb (fScope bGet) p) (hℓ : 6 ≤ ℓ)
    (he : elt = compElt (fBody bLaw)[9]?) :
    ∀ (items acc : List MV) (push : List Str) (l : Int) (xs : List Str), xsOk xs → push.length ≤ 1000 →
      Qc (acc ++ (tokP items.length push l xs).1.map .str) [some (.ext (tabE P0 o)), none, none, some (.ext (lexE C A lA [] xA)), some (.ext (lexE C B (tokP items.length push l xs).2.2.1 (tokP items.length push l xs).2.1 (tokP items.length push l xs).2.2.2))] →
      WPcomp pr w (fun Γ' => Γof sc' Γ' hB ℓ [("tail", .obj (.ref B.x))]) (.Name "word" tp) [] elt ["word"] Qc items acc [some (.ext (tabE P0 o)), none, none, some (.ext (lexE C A lA [] xA)), some (.ext (lexE C B l push xs))] := by
  subst he
  intro items
  induction items with
  | nil =>
    intro acc push l xs hx hp h
    show Qc acc _
    rw [show (tokP ([] : List MV).length push l xs) = ([], push, l, xs) from rfl, List.map_nil, List.append_nil] at h
    exact h
  | cons y items ih =>
    intro acc push l xs hx hp h
    intro Γ' hΓ'
    have hgl' : Γ'.glob = ([("tail", .obj (.ref B.x))] : List (Str × MV)) := hΓ'.2.2.1
    refine wa_name (.here .undef []) (wi_nil ⟨fun _ => ?_, fun q => by cases q⟩)
    refine' wp_method ?_ ?he ?hc
    case he => intro _ _; rfl
    case hc => intro _; rfl
    tm_at "x"
    refine wm_meth L hΓ'.2.1 (k := 4) (show ObjAt _ 4 _ from rfl) L.mg hfg (by decide) (obj_lookup _ (by decide)) ?_
    tm_at "x"
    refine wc_ext hΓ' (xf_get T L hfr hfg hgG hp hx.1 hx.2) hfg.fn hℓ (fun y hy => by simp at hy; subst hy; exact .obj) (k := 4) (show ObjAt _ 4 _ from rfl) fun mv e' hP => ?_
    cases push with
    | cons p ps =>
      obtain ⟨rfl, rfl⟩ := hP
      refine ⟨.str, [some (.ext (tabE P0 o)), none, none, some (.ext (lexE C A lA [] xA)), some (.ext (lexE C B l ps xs))], .same _ (.same _ (.same _ (.same _ (.ext _ _ (.refl _))))), rfl, ih _ ps l xs hx (by simp at hp; (first | exact o182 hp | omega)) ?_⟩
      rw [List.append_assoc]
      exact h
    | nil =>
      obtain ⟨rfl, rfl⟩ := hP
      refine ⟨.str, [some (.ext (tabE P0 o)), none, none, some (.ext (lexE C A lA [] xA)), some (.ext (lexE C B (lexG l xs).1 [] (lexG l xs).2.1))], .same _ (.same _ (.same _ (.same _ (.ext _ _ (.refl _))))), rfl, ih _ [] _ _ (hx.lex l) (Nat.zero_le _) ?_⟩
      rw [List.append_assoc]
      exact h
end
noncomputable def nlC (t : List Nat) : Nat := (Builtin.Str.occurrences (txO t) "\n" 0 (txO t).length ((txO t).length + 1)).length
noncomputable def lnE (t : List Nat) (h : Nat) : Int := 1 + (if isSp h "\n" then 0 else (nlC t : Int))
structure RunE (t : List Nat) (h : Nat) (R : List Str) (line : Int) (xs : List Str) : Prop where
  ok : xsOk (strs1 (writ t h))
  wl : (wordsOf t h).length ≤ 200
  run : tokN (wordsOf t h).length 1 (strs1 (writ t h)) = (R, line, xs)
  fin : (lexG line xs).2.2 = Str.empty ∧ (lexG line xs).1 = lnE t h
theorem xsOk.tok : ∀ (n : Nat) (l : Int) (xs : List Str), xsOk xs → xsOk (tokN n l xs).2.2
  | 0, _, _, h => h
  | n + 1, l, xs, h => xsOk.tok n _ _ (h.lex l)
section
variable {w : World} {hB : Heap} {mg mb : Str → Option Value} {C N fi fr' fg fq : Addr} {mN : Str → Option Value} {A B : LX} {P0 : Addr} {o : Option (Addr × Obj)}
theorem law_read {Γ : Cx} {ft fs fw fl fv fo fr fd fb : Addr} {QF : MF → St → Prop} {body : List Stmt} {sc cells z1 z2 hands : MV} {t0 t1 : List Nat} {h0 h1 : Nat} {R0 R1 : List Str} {l0 l1 : Int} {x0 x1 : List Str} (T : TopF hB mg mb) (L : LexCls hB C N fi fr' fg fq mN) (hΓ : Γof (fScope bLaw) Γ hB 9 (glLaw ft fs fw fl fv fo fr fd fb)) (hfr : IsFnC hB fr' "_netrclex._read_char" bRead) (hfg : IsFnC hB fg "_netrclex.get_token" bGet) (hgG : ∀ p ∈ glG, GlobAt w hB mg mb (fScope bGet) p) (hfq : IsFnC hB fq "_netrclex.push_token" bPush)
    (X0 : TxE t0 h0) (X1 : TxE t1 h1) (Y0 : RunE t0 h0 R0 l0 x0) (Y1 : RunE t1 h1 R1 l1 x1) (hb : body = (fBody bLaw).drop 13)
    (h : ∀ z ends lines os os2, WPs pr w Γ ⟨locL sc cells z1 z2 (.list [.str (txO t0), .str (txO t1)]) hands (.list [.dictS (spT h0), .dictS (spT h1)]) (.list [.list ((wordsOf t0 h0).map .str), .list ((wordsOf t1 h1).map .str)]) (.obj (.ref A.x)) (.obj (.ref B.x)) z (.list ((R0 ++ R1).map .str)) ends lines .undef .undef .undef .undef, [some (.ext (tabE P0 o)), none, none, os, os2]⟩ body QF) :
    WPs pr w Γ ⟨locL sc cells z1 z2 (.list [.str (txO t0), .str (txO t1)]) hands (.list [.dictS (spT h0), .dictS (spT h1)]) (.list [.list ((wordsOf t0 h0).map .str), .list ((wordsOf t1 h1).map .str)]) (.obj (.ref A.x)) (.obj (.ref B.x)) .undef .undef .undef .undef .undef .undef .undef .undef, [some (.ext (tabE P0 o)), none, none, some (.ext (lexE C A 1 [] (strs1 (writ t0 h0)))), some (.ext (lexE C B 1 [] (strs1 (writ t1 h1))))]⟩ ((fBody bLaw).drop 8) QF := by
  have hgl : Γ.glob = glLaw ft fs fw fl fv fo fr fd fb := hΓ.2.2.1
  subst hb
  have w0 := Y0.wl
  have w1 := Y1.wl
  have hl0 : R0.length = (wordsOf t0 h0).length := by
    have key : ∀ (n : Nat) (l : Int) (xs : List Str), (tokN n l xs).1.length = n := fun n => by
      induction n with
      | zero => intro _ _; rfl
      | succ n ih => intro l xs; show ((lexG l xs).2.2 :: (tokN n _ _).1).length = n + 1; rw [List.length_cons, ih]
    have := key (wordsOf t0 h0).length 1 (strs1 (writ t0 h0))
    rw [Y0.run] at this; exact this
  have hx0 := xsOk.tok (wordsOf t0 h0).length 1 _ Y0.ok
  have hx1 := xsOk.tok (wordsOf t1 h1).length 1 _ Y1.ok
  rw [Y0.run] at hx0
  rw [Y1.run] at hx1
  show WPs pr w Γ _ (_ :: _ :: _ :: _ :: _ :: (fBody bLaw).drop 13) _
  refine ws_cons (wx_for ?_ (fun _ _ => rfl))
  tm_at "x"
  refine it_list (by decide) (by decide) (show _ = some (MV.list ((wordsOf t0 h0).map .str)) from rfl) ?_
  refine ⟨_, Itr.list _ _ _, ?_⟩
  refine push_loop T L hΓ hfr hfg hgG hfq rfl (wordsOf t0 h0) 1 _ [] _ Y0.ok (by simp; (first | exact o183 w0 | omega)) fun z => ?_
  rw [Y0.run, List.nil_append]
  refine then_next (ws_cons ?_)
  refine wx_assign_comp hΓ _ ["word"] [("tail", .obj (.ref B.x))] [] (relabel_of hΓ.1) (show CompSc _ _ ["word"] (["tail"] : List Str) from ⟨rfl, by decide +kernel, by decide +kernel, by decide +kernel, by decide +kernel, by decide +kernel, by decide +kernel⟩) (fun _ _ h => nomatch h)
    (show ∀ x ∈ (["tail"] : List Str), x ∈ (["script", "cells", "k", "x", "texts", "hands", "spelled", "told", "head", "tail", "word", "read", "ends", "lines", "operators", "row", "due", "which"] : List Str) ∧ (fScope bLaw).names.lookup x = some .cell from by decide +kernel) ?_ (fun _ _ => rfl) (swapsWith_of hΓ.1 rfl)
  tm_at "x"
  refine it_list (by decide) (by decide) (show _ = some (MV.list ((wordsOf t0 h0).map .str)) from rfl) ?_
  tm_at "x"
  refine it_list (by decide) (by decide) (show _ = some (MV.list ((wordsOf t1 h1).map .str)) from rfl) ?_
  refine w2_addL (by simp; show _ ≤ 16777216; (first | exact o184 w0 w1 | omega)) ?_
  refine ⟨_, Itr.list _ _ _, by simp; show _ ≤ 16777216; (first | exact o184 w0 w1 | omega), ?_, ?_⟩
  · intro q hq
    simp only [List.mem_cons, List.not_mem_nil, or_false] at hq
    subst hq
    exact ⟨.tail _ (.tail _ (.tail _ (.tail _ (.tail _ (.tail _ (.tail _ (.tail _ (.tail _ (.head _))))))))), rfl, .obj⟩
  refine comp_get T L hfr hfg hgG (by decide) rfl _ _ R0 1 _ Y1.ok (by rw [hl0]; (first | exact o185 w0 | omega)) ?_
  have hP : tokP ((wordsOf t0 h0).map MV.str ++ (wordsOf t1 h1).map MV.str).length R0 1 (strs1 (writ t1 h1)) = (R0 ++ R1, [], l1, x1) := by
    rw [List.length_append, List.length_map, List.length_map, ← hl0, tokP_app, Y1.run]
  rw [hP, List.nil_append]
  tm_at "q"
  refine then_next (ws_cons ?_)
  have hpx0 := xf_get (X := A) (line := l0) (push := []) T L hfr hfg hgG (Nat.zero_le _) hx0.1 hx0.2
  have hpx1 := xf_get (X := B) (line := l1) (push := []) T L hfr hfg hgG (Nat.zero_le _) hx1.1 hx1.2
  refine' wx_assign ?_ ?hs
  case hs => intro _; rfl
  refine wp_list ?_
  refine' wl_cons ?_ ?he2
  case he2 => intro _; rfl
  refine' wp_method ?_ ?he ?hc
  case he => intro _ _; rfl
  case hc => intro _; rfl
  tm_at "x"
  refine wm_meth L hΓ.2.1 (k := 3) (show ObjAt _ 3 _ from rfl) L.mg hfg (by decide) (obj_lookup _ (by decide)) ?_
  tm_at "x"
  refine wc_ext hΓ hpx0 hfg.fn (by decide) (fun y hy => by simp at hy; subst hy; exact .obj) (k := 3) (show ObjAt _ 3 _ from rfl) fun mv e' hP => ?_
  obtain ⟨rfl, rfl⟩ := hP
  refine' wl_cons ?_ ?he2
  case he2 => intro _; rfl
  refine' wp_method ?_ ?he ?hc
  case he => intro _ _; rfl
  case hc => intro _; rfl
  tm_at "x"
  refine wm_meth L hΓ.2.1 (k := 4) (show ObjAt _ 4 _ from rfl) L.mg hfg (by decide) (obj_lookup _ (by decide)) ?_
  tm_at "x"
  refine wc_ext hΓ hpx1 hfg.fn (by decide) (fun y hy => by simp at hy; subst hy; exact .obj) (k := 4) (show ObjAt _ 4 _ from rfl) fun mv e' hP => ?_
  obtain ⟨rfl, rfl⟩ := hP
  rw [Y0.fin.1, Y1.fin.1]
  tm_at "x"
  show WPx pr w Γ ⟨locL sc cells z1 z2 (.list [.str (txO t0), .str (txO t1)]) hands (.list [.dictS (spT h0), .dictS (spT h1)]) (.list [.list ((wordsOf t0 h0).map .str), .list ((wordsOf t1 h1).map .str)]) (.obj (.ref A.x)) (.obj (.ref B.x)) z (.list ((R0 ++ R1).map .str)) (.list ([Str.empty, Str.empty].map .str)) .undef .undef .undef .undef .undef, [some (.ext (tabE P0 o)), none, none, some (.ext (lexE C A (lexG l0 x0).1 [] (lexG l0 x0).2.1)), some (.ext (lexE C B (lexG l1 x1).1 [] (lexG l1 x1).2.1))]⟩ _ _
  refine wx_assign_comp hΓ _ ["k"] [("spelled", .list [.dictS (spT h0), .dictS (spT h1)]), ("texts", .list [.str (txO t0), .str (txO t1)])] [] (relabel_of hΓ.1) (show CompSc _ _ ["k"] (["spelled", "texts"] : List Str) from ⟨rfl, by decide +kernel, by decide +kernel, by decide +kernel, by decide +kernel, by decide +kernel, by decide +kernel⟩) (fun _ _ h => nomatch h)
    (show ∀ x ∈ (["spelled", "texts"] : List Str), x ∈ (["script", "cells", "k", "x", "texts", "hands", "spelled", "told", "head", "tail", "word", "read", "ends", "lines", "operators", "row", "due", "which"] : List Str) ∧ (fScope bLaw).names.lookup x = some .cell from by decide +kernel) ?_ (fun _ _ => rfl) (swapsWith_of hΓ.1 rfl)
  tm_at "x"
  refine wc_range1 ?_
  refine ⟨_, Itr.rng _ _ 0 2 rfl rfl, by decide, ?_, ?_⟩
  · intro q hq
    simp only [List.mem_cons, List.not_mem_nil, or_false] at hq
    rcases hq with rfl | rfl
    · refine ⟨.tail _ (.tail _ (.tail _ (.tail _ (.tail _ (.tail _ (.head _)))))), rfl, Closed.list fun y hy => ?_⟩
      simp only [List.mem_cons, List.not_mem_nil, or_false] at hy
      rcases hy with rfl | rfl <;> exact spT_cl _
    · exact ⟨.tail _ (.tail _ (.tail _ (.tail _ (.head _)))), rfl, strs_cl [txO t0, txO t1]⟩
  refine comp_map (fun _ => true) (fun y => match y with | .int k => .int (if k = 0 then lnE t0 h0 else lnE t1 h1) | z => z) _ _ _ ?_ ?_ ?_
  · intro y hy _
    have hy : y ∈ [MV.int 0, MV.int 1] := hy
    simp only [List.mem_cons, List.not_mem_nil, or_false] at hy
    rcases hy with rfl | rfl <;> exact .int
  · intro y hy Γ' hΓ''
    have hgl' : Γ'.glob = ([("spelled", .list [.dictS (spT h0), .dictS (spT h1)]), ("texts", .list [.str (txO t0), .str (txO t1)])] : List (Str × MV)) := hΓ''.2.2.1
    obtain ⟨k, t, h', rfl, hk0, hk1, hkt, hks, hkw⟩ : ∃ (k : Int) (t : List Nat) (h' : Nat), y = .int k ∧ 0 ≤ k ∧ k < 2 ∧ ([.str (txO t0), .str (txO t1)] : List MV)[k.toNat]? = some (.str (txO t)) ∧ ([.dictS (spT h0), .dictS (spT h1)] : List MV)[k.toNat]? = some (.dictS (spT h')) ∧ lnE t h' = (if k = 0 then lnE t0 h0 else lnE t1 h1) := by
      have hy : y ∈ [MV.int 0, MV.int 1] := hy
      simp only [List.mem_cons, List.not_mem_nil, or_false] at hy
      rcases hy with rfl | rfl
      · exact ⟨0, t0, h0, rfl, by decide, by decide, rfl, rfl, rfl⟩
      · exact ⟨1, t1, h1, rfl, by decide, by decide, rfl, rfl, rfl⟩
    refine wa_name (.here .undef []) (wi_nil ⟨rfl, rfl, fun _ => ?_⟩)
    tm_at "x"
    refine it_list hk0 (by (first | exact o178 hk1 | omega)) hks ?_
    refine w2_inS ?_
    tm_at "x"
    refine ⟨fun hc => ?_, fun hc => ?_⟩
    · have hc : isSp h' "\n" = true := hc
      tm_at "x"
      refine ⟨?_, rfl⟩
      show MV.int (1 + 0) = .int (if k = 0 then lnE t0 h0 else lnE t1 h1)
      rw [← hkw]
      unfold lnE
      rw [if_pos hc]
    · have hc : isSp h' "\n" = false := hc
      tm_at "x"
      refine it_list hk0 (by (first | exact o178 hk1 | omega)) hkt ?_
      refine wm_str PySem.F.slot_str_count PySem.F.type_str_count ?_
      tm_at "x"
      refine wc_count ?_
      tm_at "x"
      refine ⟨?_, rfl⟩
      show MV.int (1 + (nlC t : Int)) = .int (if k = 0 then lnE t0 h0 else lnE t1 h1)
      rw [← hkw]
      unfold lnE
      rw [if_neg (by rw [hc]; decide)]
  tm_at "q"
  refine then_next (ws_cons (wx_if (wt_bool (wall_or_cons ?_))))
  tm_at "x"
  refine w2_neD (strsD [Str.empty, Str.empty]) (strsD [Str.empty, Str.empty]) (by decide +kernel) (by decide +kernel) (Nat.le_trans (depth_strs _) (by decide)) ?_
  rw [PySem.SeqAt.eqv_refl _ (by decide +kernel)]
  refine wb_bool ⟨fun h => (by cases h), fun _ => wall_or_cons ?_⟩
  refine' wt_compare ?_ ?hm
  case hm => exact rfl
  refine wp_list ?_
  refine' wl_cons ?_ ?he2
  case he2 => intro _; rfl
  refine wp_lexAttr L hΓ.2.1 (k := 3) (show ObjAt _ 3 _ from rfl) (by tm_at "lk") (mv := .int (lexG l0 x0).1) (by tm_at "lk") ?_
  refine' wl_cons ?_ ?he2
  case he2 => intro _; rfl
  refine wp_lexAttr L hΓ.2.1 (k := 4) (show ObjAt _ 4 _ from rfl) (by tm_at "lk") (mv := .int (lexG l1 x1).1) (by tm_at "lk") ?_
  tm_at "x"
  refine w2_neD (IsD.mapI [(lexG l0 x0).1, (lexG l1 x1).1]) (IsD.mapI [lnE t0 h0, lnE t1 h1]) (lay_ints _) (lay_ints _) (Nat.le_trans (depth_ints _) (by decide)) ?_
  rw [Y0.fin.2, Y1.fin.2, PySem.SeqAt.eqv_refl _ (lay_ints _)]
  refine wb_bool ⟨fun h => (by cases h), fun _ => wall_or_nil ?_⟩
  refine ⟨fun h => (by cases h), fun _ => ws_nil (then_next ?_)⟩
  have := h z (.list ([Str.empty, Str.empty].map .str)) (.list [.int (lnE t0 h0), .int (lnE t1 h1)]) (some (.ext (lexE C A (lnE t0 h0) [] (lexG l0 x0).2.1))) (some (.ext (lexE C B (lnE t1 h1) [] (lexG l1 x1).2.1)))
  exact this
end
structure EndE (h0 h1 n0 : Nat) (WW RR : List Str) (rws : List (List Int)) (dus : List (Str × Int)) : Prop where
  n : WW.length ≤ 400
  hh : h0 < 5 ∧ h1 < 5
  lr : RR.length = WW.length
  word : ∀ i x, WW[i]? = some x → x.length ≤ 1000 ∧ (∀ c ∈ x.cps.toList, c < 0xD800) ∧ dus[i]? = some (Builtin.Str.glued Str.empty (escW (isSp (if i < n0 then h0 else h1)) x.cps.toList), (fews (isSp (if i < n0 then h0 else h1)) x.cps.toList).headD 0)
  read : ∀ i x, RR[i]? = some x → x.length ≤ 1000 ∧ ∃ r, rws[i]? = some r ∧ rowL (if i < n0 then h0 else h1) x (x.length + 1) 0 [] = some r ∧ r.length ≤ 2000
  ld : dus.length = WW.length
  lw : rws.length = WW.length
  rl : (rws.flatMap (· ++ [0])).length ≤ 4000
  rb : ∀ s ∈ rws.flatMap (· ++ [0]), s ≤ 100000
  lay : ∀ p ∈ dus, PyData.canLay0 (.str p.1) = true
  fin : backF (rws.flatMap (· ++ [0])) Str.empty 0 [] = dus
noncomputable def pairD (p : Str × Int) : PyData := .tuple [.str p.1, .int p.2]
theorem pair_isD (l : List (Str × Int)) : IsD (.list (l.map pairM)) (.list (l.map pairD)) := .list _ _ (by simp) fun i x d a b => by
  rw [List.getElem?_map] at a b
  cases h : l[i]? with
  | none => rw [h] at a; cases a
  | some p =>
    rw [h] at a b; cases a; cases b
    refine .tup _ _ rfl fun j y e c d => match j, c, d with
      | 0, c, d => by cases c; cases d; exact .str _
      | 1, c, d => by cases c; cases d; exact .int _
theorem pair_lay : ∀ l : List (Str × Int), (∀ p ∈ l, PyData.canLay0 (.str p.1) = true) → PyData.canLayAll0 (l.map pairD) = true
  | [], _ => rfl
  | p :: l, h => by
    show (PyData.canLay0 (pairD p) && PyData.canLayAll0 (l.map pairD)) = true
    rw [pair_lay l fun q hq => h q (.tail _ hq)]
    have : PyData.canLay0 (pairD p) = (PyData.canLay0 (.str p.1) && (true && true)) := rfl
    rw [this, h p (.head _)]; rfl
theorem pair_depth : ∀ l : List (Str × Int), PyData.depthAll (l.map pairD) ≤ 2
  | [] => by decide
  | p :: l => by
    have := pair_depth l
    simp only [List.map_cons, PyData.depthAll, pairD, PyData.depth]
    exact Nat.max_le.mpr ⟨by decide, this⟩
theorem take_snoc {α : Type} {l : List α} {i : Nat} {x : α} (h : l[i]? = some x) : l.take (i + 1) = l.take i ++ [x] := by
  rw [List.take_add_one, h]; rfl
section
variable {w : World} {hB : Heap} {mg mb : Str → Option Value} {P0 : Addr} {o : Option (Addr × Obj)}
theorem law_end {Γ : Cx} {ft fs fw fl fv fo fr fd fb fe fte fn : Addr} {QF : MF → St → Prop} {sc cells z z1 z2 texts hands head tail ends lines : MV} {os os2 : Option MO} {h0 h1 : Nat} {W0 W1 R0 R1 : List Str} {rws : List (List Int)} {dus : List (Str × Int)} (T : TopF hB mg mb) (hΓ : Γof (fScope bLaw) Γ hB 9 (glLaw ft fs fw fl fv fo fr fd fb))
    (hfo : IsFn hB fo "_law_operators" bOps) (hfr : IsFn hB fr "_law_row" bRow) (hgr : ∀ p ∈ glR, GlobAt w hB mg mb (fScope bRow) p) (hfd : IsFn hB fd "_law_due" bDue) (hgd : ∀ p ∈ glD, GlobAt w hB mg mb (fScope bDue) p)
    (hfb : IsFn hB fb "_law_back" bBak) (hgb : ∀ p ∈ glB fe fte fn, GlobAt w hB mg mb (fScope bBak) p) (he : IsFn hB fe "ISEOF" bEof) (hge : ∀ p ∈ glEM, GlobAt w hB mg mb (fScope bEof) p) (ht : IsFn hB fte "ISTERMINAL" bTer) (hgt : ∀ p ∈ glNT, GlobAt w hB mg mb (fScope bTer) p) (hn : IsFn hB fn "ISNONTERMINAL" bNon) (hgn : ∀ p ∈ glNT, GlobAt w hB mg mb (fScope bNon) p)
    (E : EndE h0 h1 W0.length (W0 ++ W1) (R0 ++ R1) rws dus) (hQ : ∀ l objs, QF (.ret (.bool true)) ⟨l, some (.ext (tabE P0 o)) :: objs⟩) :
    WPs pr w Γ ⟨locL sc cells z1 z2 texts hands (.list [.dictS (spT h0), .dictS (spT h1)]) (.list [.list (W0.map .str), .list (W1.map .str)]) head tail z (.list ((R0 ++ R1).map .str)) ends lines .undef .undef .undef .undef, [some (.ext (tabE P0 o)), none, none, os, os2]⟩ ((fBody bLaw).drop 13) QF := by
  have hgl : Γ.glob = glLaw ft fs fw fl fv fo fr fd fb := hΓ.2.2.1
  have hn400 := E.n
  have hn' : W0.length + W1.length ≤ 400 := by rw [← List.length_append]; exact hn400
  show WPs pr w Γ _ [_, _, _, _, _] _
  refine ws_cons ?_
  refine' wx_assign ?_ ?hs
  case hs => intro _; rfl
  tm_at "x"
  refine wc_pure hΓ (pf_ops T hfo) hfo (by decide) (fun y hy => nomatch hy) fun v hv => ?_
  subst hv
  tm_at "q"
  refine then_next (ws_cons (wx_new (wl_nil ⟨Nat.zero_le _, ?_⟩)))
  tm_at "q"
  refine then_next (ws_cons (wx_new (wl_nil ⟨Nat.zero_le _, ?_⟩)))
  tm_at "q"
  refine then_next (ws_cons ?_)
  refine wx_forE (xs := (W0 ++ W1).map MV.str) (fun i loc objs => ∃ k wd wh, loc = locL sc cells k z2 texts hands (.list [.dictS (spT h0), .dictS (spT h1)]) (.list [.list (W0.map .str), .list (W1.map .str)]) head tail wd (.list ((R0 ++ R1).map .str)) ends lines (.list (ops.map .str)) (.mu 5) (.mu 6) wh ∧
      objs = [some (.ext (tabE P0 o)), none, none, os, os2, some (.lst (((rws.take i).flatMap (· ++ [0])).map .int)), some (.lst ((dus.take i).map pairM))]) hgl (by tm_at "lk") (fun x hx => by
    obtain ⟨i, _, rfl⟩ := List.mem_map.mp hx; exact .str) ?_ ⟨z1, z, .undef, rfl, by simp⟩ (fun i x loc objs ex hx hlen hJ => ?_) (fun loc objs hlen hJ => ?_) (fun _ => rfl) (fun _ => rfl) (fun _ _ => rfl)
  · tm_at "x"
    refine it_list (by decide) (by decide) (show _ = some (MV.list (W0.map .str)) from rfl) ?_
    tm_at "x"
    refine it_list (by decide) (by decide) (show _ = some (MV.list (W1.map .str)) from rfl) ?_
    refine w2_addL (by simp; show _ ≤ 16777216; (first | exact o186 hn' | omega)) ?_
    exact ⟨by rw [List.map_append], rfl⟩
  · obtain ⟨k, wd, wh, rfl, rfl⟩ := hJ
    obtain ⟨y, hy, rfl⟩ : ∃ y, (W0 ++ W1)[i]? = some y ∧ x = .str y := by
      rw [List.getElem?_map] at hx
      cases e : (W0 ++ W1)[i]? with
      | none => rw [e] at hx; cases hx
      | some y => rw [e] at hx; cases hx; exact ⟨y, rfl, rfl⟩
    have hi : i < (W0 ++ W1).length := (List.getElem?_eq_some_iff.mp hy).1
    obtain ⟨rx, hrx⟩ : ∃ rx, (R0 ++ R1)[i]? = some rx := ⟨_, List.getElem?_eq_getElem (by rw [E.lr]; exact hi)⟩
    obtain ⟨yl, yv, yd⟩ := E.word i y hy
    obtain ⟨rl, rr, rr1, rr2, rr3⟩ := E.read i rx hrx
    have hA5 : (if i < W0.length then h0 else h1) < 5 := by split; exact E.hh.1; exact E.hh.2
    have hsp : ([.dictS (spT h0), .dictS (spT h1)] : List MV)[(if i < W0.length then (0 : Int) else 1).toNat]? = some (.dictS (spT (if i < W0.length then h0 else h1))) := by split <;> rfl
    have hwb : 0 ≤ (if i < W0.length then (0 : Int) else 1) ∧ (if i < W0.length then (0 : Int) else 1) < 2 := by split <;> decide
    have hrow : ((rws.take (i + 1)).flatMap (· ++ [0])) = (rws.take i).flatMap (· ++ [0]) ++ (rr ++ [0]) := by rw [take_snoc rr1, List.flatMap_append]; simp
    have hrowl : ((rws.take i).flatMap (· ++ [0])).length + (rr ++ [0]).length ≤ 4000 := by
      have h1 : (rws.flatMap (· ++ [0])).length = ((rws.take (i + 1)).flatMap (· ++ [0])).length + ((rws.drop (i + 1)).flatMap (· ++ [0])).length := by
        rw [← List.length_append, ← List.flatMap_append, List.take_append_drop]
      have h2 := E.rl
      rw [hrow, List.length_append] at h1
      (first | exact o187 h1 h2 | omega)
    have hdl : (dus.take i).length ≤ 400 := by rw [List.length_take]; have := E.ld; (first | exact o188 hn400 hi | omega)
    generalize hhA : (if i < W0.length then h0 else h1) = hA at yd rr2 hA5 hsp
    have rest : ∀ wch : Int, wch = (if i < W0.length then (0 : Int) else 1) → WPs pr w Γ ⟨locL sc cells (.int i) z2 texts hands (.list [.dictS (spT h0), .dictS (spT h1)]) (.list [.list (W0.map .str), .list (W1.map .str)]) head tail (.str y) (.list ((R0 ++ R1).map .str)) ends lines (.list (ops.map .str)) (.mu 5) (.mu 6) (.int wch), [some (.ext (tabE P0 o)), none, none, os, os2, some (.lst (((rws.take i).flatMap (· ++ [0])).map .int)), some (.lst ((dus.take i).map pairM)), some ex]⟩ ((forBodyD (fBody bLaw)[16]?).drop 1)
        (fun f σ₂ => f = .next ∧ ∃ objs', objs'.length = ([some (.ext (tabE P0 o)), none, none, os, os2, some (.lst (((rws.take i).flatMap (· ++ [0])).map .int)), some (.lst ((dus.take i).map pairM))] : List (Option MO)).length ∧ σ₂.objs = objs' ++ [some ex] ∧ ∃ k wd wh, σ₂.loc = locL sc cells k z2 texts hands (.list [.dictS (spT h0), .dictS (spT h1)]) (.list [.list (W0.map .str), .list (W1.map .str)]) head tail wd (.list ((R0 ++ R1).map .str)) ends lines (.list (ops.map .str)) (.mu 5) (.mu 6) wh ∧
          objs' = [some (.ext (tabE P0 o)), none, none, os, os2, some (.lst (((rws.take (i + 1)).flatMap (· ++ [0])).map .int)), some (.lst ((dus.take (i + 1)).map pairM))]) := fun wch hw => by
      rw [← hw] at hsp hwb
      show WPs pr w Γ _ [_, _] _
      tm_at "x"
      refine wm_mu (k := 5) (xs := ((rws.take i).flatMap (· ++ [0])).map .int) rfl PySem.F.slot_list_extend PySem.F.type_list_extend ?_
      tm_at "x"
      refine it_list (xs := (R0 ++ R1).map .str) (by (first | exact o32 | omega)) (by (first | exact o189 hn400 hi | omega)) (z := .str rx) (by rw [Int.toNat_natCast, List.getElem?_map, hrx]; rfl) ?_
      tm_at "x"
      refine it_list hwb.1 (by (first | exact o190 hwb | omega)) hsp ?_
      tm_at "x"
      refine wc_pure hΓ (pf_row T hfr hgr rl hA5 rr2 rr3) hfr (by decide) (fun y hy => by simp at hy; rcases hy with rfl | rfl; exact .str; exact spT_cl _) fun v hv => ?_
      subst hv
      tm_at "x"
      refine' wc_extend (k := 5) (xs := ((rws.take i).flatMap (· ++ [0])).map .int) (ys := (rr ++ [0]).map .int) ?hk ?hz ?_
      case hk => exact rfl
      case hz => rw [List.length_map, List.length_map]; show _ ≤ 16777216; (first | exact o191 hrowl | omega)
      rw [← List.map_append, ← hrow]
      tm_at "x"
      refine wm_mu (k := 6) (xs := (dus.take i).map pairM) rfl PySem.F.slot_list_append PySem.F.type_list_append ?_
      tm_at "x"
      refine it_list hwb.1 (by (first | exact o190 hwb | omega)) hsp ?_
      tm_at "x"
      have hpd := pf_due (l := y.cps.toList) (h := hA) T hfd hgd (by show y.cps.toList.length ≤ 1000; rw [Array.length_toList]; exact yl) yv
      rw [txO_cps] at hpd
      refine wc_pure hΓ hpd hfd (by decide) (fun z hz => by simp at hz; rcases hz with rfl | rfl | rfl; exact .str; exact spT_cl _; exact strs_cl ops) fun v hv => ?_
      subst hv
      tm_at "x"
      refine wc_append (k := 6) (xs := (dus.take i).map pairM) rfl (by rw [List.length_map]; show _ ≤ 16777216; (first | exact o192 hdl | omega)) ?_
      tm_at "x"
      refine ⟨rfl, [some (.ext (tabE P0 o)), none, none, os, os2, some (.lst (((rws.take (i + 1)).flatMap (· ++ [0])).map .int)), some (.lst ((dus.take (i + 1)).map pairM))], rfl, ?_, .int i, .str y, .int wch, rfl, rfl⟩
      have e : (dus.take (i + 1)).map pairM = (dus.take i).map pairM ++ [pairM (Builtin.Str.glued Str.empty (escW (isSp hA) y.cps.toList), (fews (isSp hA) y.cps.toList).headD 0)] := by rw [take_snoc yd, List.map_append]; rfl
      rw [e]
      rfl
    tm_at "q"
    show WPs pr w Γ ⟨locL sc cells (.int i) z2 texts hands (.list [.dictS (spT h0), .dictS (spT h1)]) (.list [.list (W0.map .str), .list (W1.map .str)]) head tail (.str y) (.list ((R0 ++ R1).map .str)) ends lines (.list (ops.map .str)) (.mu 5) (.mu 6) wh, [some (.ext (tabE P0 o)), none, none, os, os2, some (.lst (((rws.take i).flatMap (· ++ [0])).map .int)), some (.lst ((dus.take i).map pairM)), some ex]⟩ (_ :: (forBodyD (fBody bLaw)[16]?).drop 1) _
    refine ws_cons ?_
    refine' wx_assign ?_ ?hs
    case hs => intro _; rfl
    tm_at "x"
    refine it_list (by decide) (by decide) (show _ = some (MV.list (W0.map .str)) from rfl) ?_
    refine wl_nil ?_
    refine wc_lenL (by rw [List.length_map]; show _ ≤ 16777216; (first | exact o193 hn' | omega)) ?_
    rw [List.length_map]
    tm_at "x"
    refine ⟨fun hc => ?_, fun hc => ?_⟩
    · have hlt : i < W0.length := by simpa using hc
      refine wp_int ?_
      tm_at "q"
      refine then_next ?_
      exact rest 0 (if_pos hlt).symm
    · have hlt : ¬ i < W0.length := by simpa using hc
      refine wp_int ?_
      tm_at "q"
      refine then_next ?_
      exact rest 1 (if_neg hlt).symm
  · obtain ⟨k, wd, wh, rfl, rfl⟩ := hJ
    rw [List.length_map, List.take_of_length_le (by rw [E.lw]; exact Nat.le_refl _), List.take_of_length_le (by rw [E.ld]; exact Nat.le_refl _)]
    refine then_next ?_
    refine ws_freeze (x := "row") (k := 5) (xs := (rws.flatMap (· ++ [0])).map .int) (by tm_at "lk") rfl ?_
    tm_at "q"
    refine ws_freeze (x := "due") (k := 6) (xs := dus.map pairM) (by tm_at "lk") rfl ?_
    tm_at "q"
    refine ws_cons (wx_return ?_)
    tm_at "x"
    refine wc_pure hΓ (pf_back T hfb hgb he hge ht hgt hn hgn E.rl E.rb) hfb (by decide) (fun z hz => by simp at hz; rcases hz with rfl | rfl; exact ints_cl _; exact strs_cl ops) fun v hv => ?_
    subst hv
    rw [E.fin]
    tm_at "x"
    refine w2_eqD (pair_isD dus) (pair_isD dus) (pair_lay dus E.lay) (pair_lay dus E.lay) (by show PyData.depthAll _ + 1 ≤ 10; have := pair_depth dus; (first | exact o194 this | omega)) ?_
    rw [PySem.SeqAt.eqv_refl _ (show PyData.canLay0 (.list (dus.map pairD)) = true from pair_lay dus E.lay)]
    exact hQ _ _
end
structure Defs (w : World) (hB : Heap) (mg mb : Str → Option Value) (C N fi fr' fg fq : Addr) (mN : Str → Option Value) (ft fs fw fl fv fo fr fd fb fe fte fn cd0 P0 : Addr) (e : Nat → Addr) : Prop where
  d_T : TopF hB mg mb
  d_L : LexCls hB C N fi fr' fg fq mN
  d_fi : IsFnC hB fi "_netrclex.__init__" bInit
  d_fr : IsFnC hB fr' "_netrclex._read_char" bRead
  d_fg : IsFnC hB fg "_netrclex.get_token" bGet
  d_gG : ∀ p ∈ glG, GlobAt w hB mg mb (fScope bGet) p
  d_fq : IsFnC hB fq "_netrclex.push_token" bPush
  d_lx : LxFn w hB mg mb C fl cd0 P0
  d_gL : ∀ p ∈ glLaw ft fs fw fl fv fo fr fd fb, GlobAt w hB mg mb (fScope bLaw) p
  d_g1 : GlobV w hB mg mb ("_law_spelled", .obj (.ref fs))
  d_g2 : GlobV w hB mg mb ("_law_words", .obj (.ref fw))
  d_ft : IsFn hB ft "_law_texts" bTxt
  d_gT : ∀ p ∈ glT fo, GlobAt w hB mg mb (fScope bTxt) p
  d_fo : IsFn hB fo "_law_operators" bOps
  d_fs : IsFn hB fs "_law_spelled" bSpl
  d_fw : IsFn hB fw "_law_words" bWrd
  d_gW1 : ∀ p ∈ glW1, GlobAt w hB mg mb (fScope bWrd) p
  d_fv : IsFn hB fv "_law_written" bWritten
  d_es : EscAt hB e
  d_gV : ∀ p ∈ glW e, GlobAt w hB mg mb (fScope bWritten) p
  d_ro : IsFn hB fr "_law_row" bRow
  d_gR : ∀ p ∈ glR, GlobAt w hB mg mb (fScope bRow) p
  d_fd : IsFn hB fd "_law_due" bDue
  d_gD : ∀ p ∈ glD, GlobAt w hB mg mb (fScope bDue) p
  d_fb : IsFn hB fb "_law_back" bBak
  d_gB : ∀ p ∈ glB fe fte fn, GlobAt w hB mg mb (fScope bBak) p
  d_fe : IsFn hB fe "ISEOF" bEof
  d_gE : ∀ p ∈ glEM, GlobAt w hB mg mb (fScope bEof) p
  d_te : IsFn hB fte "ISTERMINAL" bTer
  d_gN : ∀ p ∈ glNT, GlobAt w hB mg mb (fScope bTer) p
  d_fn : IsFn hB fn "ISNONTERMINAL" bNon
  d_gO : ∀ p ∈ glNT, GlobAt w hB mg mb (fScope bNon) p
inductive LawD (cs : List Int) : Prop
  | mk (t0 t1 : List Nat) (h0 h1 : Nat) (R0 R1 : List Str) (l0 l1 : Int) (x0 x1 : List Str) (rws : List (List Int)) (dus : List (Str × Int)) (e0 : (textsN cs 10).1 = txO t0) (e1 : (textsN cs 10).2 = txO t1) (eh0 : (cs.getD 0 0).fmod 5 = h0) (eh1 : ((cs.getD 0 0).fdiv 5).fmod 5 = h1)
      (X0 : TxE t0 h0) (X1 : TxE t1 h1) (Y0 : RunE t0 h0 R0 l0 x0) (Y1 : RunE t1 h1 R1 l1 x1) (E : EndE h0 h1 (wordsOf t0 h0).length (wordsOf t0 h0 ++ wordsOf t1 h1) (R0 ++ R1) rws dus) : LawD cs
section
variable {w : World} {hB : Heap} {mg mb : Str → Option Value} {C N fi fr' fg fq : Addr} {mN : Str → Option Value}
theorem xf_law {fL ft fs fw fl fv fo fr fd fb fe fte fn cd0 P0 : Addr} {e : Nat → Addr} (D : Defs w hB mg mb C N fi fr' fg fq mN ft fs fw fl fv fo fr fd fb fe fte fn cd0 P0 e) (hf : IsFn hB fL "law" bLaw) {ns : List Int} (hn : ns.length ≤ 10000) (pl : ∀ cs : List Int, cs.length = 11 → LawD cs) :
    ExtFn pr w 10 hB (.ref fL) [.list (ns.map .int)] (tabE P0 none) (fun v e => v = .bool true ∧ ∃ o, e = tabE P0 o) := by
  refine ExtFn.of_stmt D.d_T hf ["script"] ["cells", "k", "x", "texts", "hands", "spelled", "told", "head", "tail", "word", "read", "ends", "lines", "operators", "row", "due", "which"] (glLaw ft fs fw fl fv fo fr fd fb) bLawB rfl sLaw D.d_gL rfl rfl ?_
  intro Γ hΓ
  show WPs pr w Γ ⟨locL (.list (ns.map .int)) .undef .undef .undef .undef .undef .undef .undef .undef .undef .undef .undef .undef .undef .undef .undef .undef .undef, [some (.ext (tabE P0 none))]⟩ (fBody bLaw) _
  with_reducible refine law_cells hΓ hn rfl fun cs z1 z2 hcs => ?_
  obtain ⟨t0, t1, h0, h1, R0, R1, l0, l1, x0, x1, rws, dus, e0, e1, eh0, eh1, X0, X1, Y0, Y1, E⟩ := pl cs hcs
  with_reducible refine law_told D.d_T hΓ D.d_g1 D.d_g2 D.d_ft D.d_gT D.d_fo D.d_fs D.d_fw D.d_gW1 hcs e0 e1 eh0 eh1 X0 X1 rfl ?_
  with_reducible refine law_lex D.d_T D.d_L D.d_fi D.d_lx hΓ D.d_fv D.d_es D.d_gV X0 X1 rfl fun A B o => ?_
  with_reducible refine law_read D.d_T D.d_L hΓ D.d_fr D.d_fg D.d_gG D.d_fq X0 X1 Y0 Y1 rfl fun z ends lines os os2 => ?_
  with_reducible refine law_end D.d_T hΓ D.d_fo D.d_ro D.d_gR D.d_fd D.d_gD D.d_fb D.d_gB D.d_fe D.d_gE D.d_te D.d_gN D.d_fn D.d_gO E fun l objs => ?_
  exact ⟨_, objs, rfl, .bool, rfl, o, rfl⟩
end
theorem txO_un (l : List Nat) : (txO l).cps.toList = l := by simp [txO]
theorem txO_app (a b : List Nat) : txO (a ++ b) = txO a ++ txO b := by
  apply Str.ext'; apply Array.toList_inj.mp
  rw [Str.cps_append]; simp [txO]
theorem txO_one (c : Nat) : txO [c] = one c := rfl
theorem Str.un_app (x y : Str) : (x ++ y).cps.toList = x.cps.toList ++ y.cps.toList := by rw [Str.cps_append]; simp
noncomputable def flatC (c : Nat) (z l : List Nat) : List Nat := l.flatMap fun d => if d = c then z else [d]
theorem flatC_free (c : Nat) (z : List Nat) : ∀ l : List Nat, c ∉ l → flatC c z l = l
  | [], _ => rfl
  | k :: r, h => by
    unfold flatC
    rw [List.flatMap_cons, if_neg (fun e : k = c => h (e ▸ List.mem_cons_self ..))]
    exact congrArg (k :: ·) (flatC_free c z r fun m => h (List.mem_cons_of_mem _ m))
theorem flatC_app (c : Nat) (z a b : List Nat) : flatC c z (a ++ b) = flatC c z a ++ flatC c z b := by simp [flatC]
theorem flatC_join (c : Nat) (z : Str) : ∀ parts : List Str, (∀ p ∈ parts, c ∉ p.cps.toList) → flatC c z.cps.toList (Str.join ⟨#[c]⟩ parts).cps.toList = (Str.join z parts).cps.toList
  | [], _ => rfl
  | [p], h => flatC_free c _ _ (h p (List.mem_singleton.mpr rfl))
  | p :: q :: r, h => by
    have ih := flatC_join c z (q :: r) fun a ha => h a (List.mem_cons_of_mem _ ha)
    show flatC c z.cps.toList (p ++ ⟨#[c]⟩ ++ Str.join ⟨#[c]⟩ (q :: r)).cps.toList = (p ++ z ++ Str.join z (q :: r)).cps.toList
    simp only [Str.cps_append, Array.toList_append]
    rw [flatC_app, flatC_app, ih, flatC_free c _ _ (h p (List.mem_cons_self ..))]
    show p.cps.toList ++ flatC c z.cps.toList [c] ++ _ = _
    simp [flatC]
theorem repS_flat (x : Str) (c : Nat) (z : Str) : repS x (one c) z = txO (flatC c z.cps.toList x.cps.toList) := by
  have h : repS x (one c) z = Txt.replace x ⟨#[c]⟩ z := rfl
  rw [h, StrLaws.replace_one, ← txO_cps (Str.join z _), ← flatC_join c z _ (StrLaws.split_free x c), StrLaws.join_split]
theorem hasS_one (x : Str) (c : Nat) : hasS x (one c) = decide (c ∈ x.cps.toList) := StrLaws.found_one x c
theorem step_flat (x : Str) (c : Nat) (z : Str) : (if hasS x (one c) then repS x (one c) z else x) = txO (flatC c z.cps.toList x.cps.toList) := by
  rw [hasS_one]
  by_cases h : c ∈ x.cps.toList
  · rw [if_pos (decide_eq_true h), repS_flat]
  · rw [if_neg (by simpa using h), flatC_free c _ _ h, txO_cps]
noncomputable def escN : List (Nat × List Nat) → List Nat → List Nat
  | [], l => l
  | (c, z) :: E, l => escN E (flatC c z l)
noncomputable def asE (E : List (Nat × List Nat)) : List (Str × Str) := E.map fun e => (one e.1, txO e.2)
theorem escS_N : ∀ (E : List (Nat × List Nat)) (l : List Nat), escS (txO l) (asE E) = txO (escN E l)
  | [], _ => rfl
  | (c, z) :: E, l => by
    show escS (if hasS (txO l) (one c) then repS (txO l) (one c) (txO z) else txO l) (asE E) = _
    rw [step_flat, txO_un, txO_un, escS_N E]; rfl
theorem flatC_len (c : Nat) (z : List Nat) (hz : z.length ≤ 6) : ∀ l : List Nat, (flatC c z l).length ≤ 6 * l.length
  | [] => Nat.le_refl _
  | k :: r => by
    have ih := flatC_len c z hz r
    unfold flatC at ih ⊢
    rw [List.flatMap_cons, List.length_append, List.length_cons]
    split
    · (first | exact o195 hz ih | omega)
    · show 1 + _ ≤ _; (first | exact o196 ih | omega)
theorem fitsS_N : ∀ (E : List (Nat × List Nat)) (l : List Nat), (∀ e ∈ E, e.2.length ≤ 6) → 7 * (l.length * 6 ^ E.length) + 36 ≤ 6 * 16777216 → fitsS (txO l) (asE E)
  | [], _, _, _ => trivial
  | (c, z) :: E, l, hz, hl => by
    have hz1 := hz _ (.head _)
    have hf := flatC_len c z hz1 l
    have hp : 1 ≤ 6 ^ E.length := Nat.one_le_pow _ _ (by decide)
    rw [List.length_cons, Nat.pow_succ] at hl
    have h1 : l.length * 6 ≤ l.length * (6 ^ E.length * 6) := Nat.mul_le_mul_left _ (by (first | exact o197 hp | omega))
    refine ⟨⟨?_, ?_⟩, ?_⟩
    · have ho := StrLaws.occ_length_le (txO l) (one c) 0 (txO l).length ((txO l).length + 1)
      rw [txO_len] at ho ⊢
      have hzl : (txO z).length ≤ 6 := by rw [txO_len]; exact hz1
      have h2 : (occs (txO l) (one c)).length * (txO z).length ≤ (l.length + 1) * 6 := Nat.mul_le_mul (by unfold occs; rw [txO_len]; exact ho) hzl
      show l.length + (occs (txO l) (one c)).length * (txO z).length ≤ 16777216
      (first | exact o198 hl h1 h2 | omega)
    · show (repS (txO l) (one c) (txO z)).length ≤ 16777216
      rw [repS_flat, txO_len, txO_un, txO_un]
      (first | exact o199 hl hf h1 | omega)
    · show fitsS (if hasS (txO l) (one c) then repS (txO l) (one c) (txO z) else txO l) (asE E)
      rw [step_flat, txO_un, txO_un]
      refine fitsS_N E _ (fun e he => hz e (.tail _ he)) ?_
      have h3 : (flatC c z l).length * 6 ^ E.length ≤ 6 * l.length * 6 ^ E.length := Nat.mul_le_mul_right _ hf
      have h4 : 6 * l.length * 6 ^ E.length = l.length * (6 ^ E.length * 6) := by rw [Nat.mul_comm 6, Nat.mul_assoc, Nat.mul_comm 6]
      (first | exact o200 hl h3 h4 | omega)
noncomputable def escE : Nat → List (Nat × List Nat)
  | 0 => [(38, [38, 97, 109, 112, 59]), (60, [38, 108, 116, 59]), (62, [38, 103, 116, 59])]
  | 1 => [(38, [38, 97, 109, 112, 59]), (60, [38, 108, 116, 59]), (62, [38, 103, 116, 59]), (34, [38, 113, 117, 111, 116, 59]), (13, [38, 35, 49, 51, 59]), (10, [38, 35, 49, 48, 59]), (9, [38, 35, 48, 57, 59])]
  | 2 => [(38, [38, 97, 109, 112, 59]), (62, [38, 103, 116, 59]), (34, [38, 113, 117, 111, 116, 59])]
  | 3 => [(38, [38, 97, 109, 112, 59]), (60, [38, 108, 116, 59]), (62, [38, 103, 116, 59]), (13, [38, 35, 120, 68, 59])]
  | _ => [(38, [38, 97, 109, 112, 59]), (60, [38, 108, 116, 59]), (34, [38, 113, 117, 111, 116, 59]), (9, [38, 35, 120, 57, 59]), (10, [38, 35, 120, 65, 59]), (13, [38, 35, 120, 68, 59])]
theorem escT_E : ∀ h : Nat, escT h = asE (escE h)
  | 0 => by decide +kernel
  | 1 => by decide +kernel
  | 2 => by decide +kernel
  | 3 => by decide +kernel
  | _ + 4 => (by decide +kernel : esc4 = asE (escE 4))
noncomputable def nameC (h c : Nat) : Option (List Nat) := ((escE h).find? fun e => e.1 == c).map fun e => e.2
noncomputable def refC (h c : Nat) : List Nat := (nameC h c).getD [c]
noncomputable def escL (h : Nat) (t : List Nat) : List Nat := t.flatMap (refC h)
theorem escN_comp : ∀ (E : List (Nat × List Nat)) (t : List Nat), escN E t = t.flatMap fun c => escN E [c]
  | [], t => by simp [escN]
  | (c, z) :: E, t => by
    show escN E (flatC c z t) = t.flatMap fun d => escN E (flatC c z [d])
    rw [escN_comp E]
    unfold flatC
    rw [List.flatMap_assoc]
    congr 1; funext d
    rw [← escN_comp E]
    simp
theorem esc_one (E : List (Nat × List Nat)) (hE : (E.all fun e => escN E [e.1] == ((E.find? fun x => x.1 == e.1).map fun e => e.2).getD [e.1]) = true) (c : Nat) : escN E [c] = ((E.find? fun e => e.1 == c).map fun e => e.2).getD [c] := by
  cases q : E.find? fun e => e.1 == c with
  | some e =>
    have h1 := List.find?_some q
    have h2 := List.mem_of_find?_eq_some q
    have h3 : e.1 = c := by simpa using h1
    have := List.all_eq_true.mp hE e h2
    rw [h3, q] at this
    exact by simpa using this
  | none =>
    have h1 : ∀ e ∈ E, ¬ c = e.1 := fun e he => by have := List.find?_eq_none.mp q e he; simpa using fun h : c = e.1 => this (by simp [h])
    show _ = [c]
    clear q hE
    induction E with
    | nil => rfl
    | cons e E ih =>
      obtain ⟨d, z⟩ := e
      show escN E (flatC d z [c]) = [c]
      rw [flatC_free d z [c] (by have := h1 _ (.head _); simpa using fun h : d = c => this h.symm)]
      exact ih fun e he => h1 e (.tail _ he)
theorem escE_ok : ∀ h : Nat, h < 5 → ((escE h).all fun e => escN (escE h) [e.1] == (((escE h).find? fun x => x.1 == e.1).map fun e => e.2).getD [e.1]) = true
  | 0, _ => by decide +kernel
  | 1, _ => by decide +kernel
  | 2, _ => by decide +kernel
  | 3, _ => by decide +kernel
  | 4, _ => by decide +kernel
theorem writ_eq {h : Nat} (hh : h < 5) (t : List Nat) : writ t h = txO (escL h t) := by
  unfold writ
  rw [escT_E, escS_N, escN_comp]
  unfold escL
  congr 2; funext c
  exact esc_one _ (escE_ok h hh) c
theorem escE_fit : ∀ h : Nat, h < 5 → (escE h).length ≤ 7 ∧ ∀ e ∈ escE h, e.2.length ≤ 6
  | 0, _ => by decide +kernel
  | 1, _ => by decide +kernel
  | 2, _ => by decide +kernel
  | 3, _ => by decide +kernel
  | 4, _ => by decide +kernel
theorem writ_fit {h : Nat} (hh : h < 5) {t : List Nat} (ht : t.length ≤ 40) : fitsS (txO t) (escT h) := by
  rw [escT_E]
  obtain ⟨h1, h2⟩ := escE_fit h hh
  refine fitsS_N _ _ h2 ?_
  have h3 : t.length * 6 ^ (escE h).length ≤ 40 * 6 ^ 7 := Nat.mul_le_mul ht (Nat.pow_le_pow_right (by decide) h1)
  have h4 : 40 * 6 ^ 7 = 11197440 := rfl
  omega
theorem refC_len {h : Nat} (hh : h < 5) (c : Nat) : (refC h c).length ≤ 6 := by
  unfold refC nameC
  cases q : (escE h).find? fun e => e.1 == c with
  | none => exact (by decide : 1 ≤ 6)
  | some e => exact (escE_fit h hh).2 e (List.mem_of_find?_eq_some q)
theorem escL_len {h : Nat} (hh : h < 5) : ∀ t : List Nat, (escL h t).length ≤ 6 * t.length
  | [] => Nat.le_refl _
  | c :: t => by
    have := refC_len hh c
    have := escL_len hh t
    unfold escL at *
    rw [List.flatMap_cons, List.length_append, List.length_cons]; (first | exact o195 (by assumption) this | omega)
theorem mvAt_some (y : Str) (f : Str × Str → Str × MV) (hf : ∀ e, (f e).1 = e.1) : ∀ l : List (Str × Str), (mvAt (l.map f) y).isSome = l.any fun e => e.1 == y
  | [] => rfl
  | e :: l => by
    have ih := mvAt_some y f hf l
    unfold mvAt at ih ⊢
    rw [List.map_cons, List.find?_cons, List.any_cons, ← ih, hf]
    by_cases q : e.1 = y
    · simp [q]
    · have : (e.1 == y) = false := beq_eq_false_iff_ne.mpr q
      simp [q, this]
theorem sp_any : ∀ h : Nat, h < 5 → ∀ c, ((spS h).any fun e => e.1 == one c) = (escE h).any fun e => e.1 == c
  | 0, _, c => by
    show (one 38 == one c || (one 60 == one c || (one 62 == one c || false))) = (38 == c || (60 == c || (62 == c || false)))
    simp only [one_eq]
  | 1, _, c => by
    show (one 38 == one c || (one 60 == one c || (one 62 == one c || (one 34 == one c || (one 13 == one c || (one 10 == one c || (one 9 == one c || false))))))) = (38 == c || (60 == c || (62 == c || (34 == c || (13 == c || (10 == c || (9 == c || false)))))))
    simp only [one_eq]
  | 2, _, c => by
    show (one 38 == one c || (one 62 == one c || (one 34 == one c || false))) = (38 == c || (62 == c || (34 == c || false)))
    simp only [one_eq]
  | 3, _, c => by
    show (one 38 == one c || (one 60 == one c || (one 62 == one c || (one 13 == one c || false)))) = (38 == c || (60 == c || (62 == c || (13 == c || false))))
    simp only [one_eq]
  | 4, _, c => by
    show (one 38 == one c || (one 60 == one c || (one 34 == one c || (one 13 == one c || (one 10 == one c || (one 9 == one c || false)))))) = (38 == c || (60 == c || (34 == c || (9 == c || (10 == c || (13 == c || false))))))
    simp only [one_eq]
    exact congrArg (fun x => 38 == c || (60 == c || (34 == c || x))) ((by decide : ∀ a b d : Bool, (a || (b || (d || false))) = (d || (b || (a || false)))) _ _ _)
noncomputable def spl (h c : Nat) : Bool := (escE h).any fun e => e.1 == c
theorem isSp_spl {h : Nat} (hh : h < 5) (c : Nat) : isSp h (one c) = spl h c := by
  unfold isSp spT
  rw [mvAt_some (one c) (fun e => (e.1, .str e.2)) (fun _ => rfl), sp_any h hh]; rfl
theorem refC_free {h c : Nat} (e : spl h c = false) : refC h c = [c] := by
  unfold refC nameC
  have : (escE h).find? (fun e => e.1 == c) = none := List.find?_eq_none.mpr fun x hx q => by
    have := List.any_eq_false.mp e x hx
    exact this q
  rw [this]; rfl
noncomputable def refOk (h c : Nat) : Bool := match refC h c with
  | 38 :: r => r.getLast? == some 59 && !r.dropLast.contains 59 && r.all (fun d => d != 32 && d != 10 && d != 9 && d != 13 && d != 34 && d != 92 && decide (d < 0xD800)) && (match mvAt (invT h) (txO r.dropLast) with
    | some (.str s) => s == one c && (match idxS s with | some i => symT (255 - (i : Int)) == "&" ++ one c && decide (i < 7) | none => false)
    | _ => false)
  | _ => false
theorem refs_ok : ∀ h : Nat, h < 5 → ((escE h).all fun e => refOk h e.1) = true
  | 0, _ => by decide +kernel
  | 1, _ => by decide +kernel
  | 2, _ => by decide +kernel
  | 3, _ => by decide +kernel
  | 4, _ => by decide +kernel
structure RefIs (h c : Nat) (nm : List Nat) (i : Nat) : Prop where
  is : refC h c = 38 :: (nm ++ [59])
  semi : 59 ∉ nm
  plain : ∀ d ∈ nm ++ [59], d ≠ 32 ∧ d ≠ 10 ∧ d ≠ 9 ∧ d ≠ 13 ∧ d ≠ 34 ∧ d ≠ 92 ∧ d < 0xD800
  inv : mvAt (invT h) (txO nm) = some (.str (one c))
  idx : idxS (one c) = some i
  sym : symT (255 - (i : Int)) = "&" ++ one c
  lt : i < 7
theorem ref_is {h c : Nat} (hh : h < 5) (e : spl h c = true) : ∃ nm i, RefIs h c nm i := by
  obtain ⟨x, hx, hc⟩ := List.any_eq_true.mp e
  have hc : x.1 = c := by simpa using hc
  have H := List.all_eq_true.mp (refs_ok h hh) x hx
  rw [hc] at H
  unfold refOk at H
  split at H
  · rename_i r hr
    simp only [Bool.and_eq_true] at H
    obtain ⟨⟨⟨h1, h2⟩, h3⟩, h4⟩ := H
    split at h4
    · rename_i s hs
      simp only [Bool.and_eq_true] at h4
      obtain ⟨h4, h5⟩ := h4
      split at h5
      · rename_i i hi
        simp only [Bool.and_eq_true] at h5
        have hs1 : s = one c := eq_of_beq h4
        subst hs1
        have hl : r.dropLast ++ [59] = r := by
          obtain ⟨ys, rfl⟩ := List.getLast?_eq_some_iff.mp (eq_of_beq h1)
          rw [List.dropLast_concat]
        refine ⟨r.dropLast, i, ⟨by rw [hl]; exact hr, by simpa using h2, fun d hd => ?_, hs, hi, eq_of_beq h5.1, of_decide_eq_true h5.2⟩⟩
        rw [hl] at hd
        have := List.all_eq_true.mp h3 d hd
        simpa [and_assoc] using this
      · cases h5
    · cases h4
  · cases H
theorem isWs_one (c : Nat) : isWs (one c) = isWsC c := by
  unfold isWs
  rw [hasS_one]
  have h : wsLex.cps.toList = [10, 9, 13, 32] := by decide
  rw [h]; unfold isWsC
  rw [Bool.eq_iff_iff]
  simp only [decide_eq_true_eq, List.mem_cons, List.not_mem_nil, or_false, Bool.or_eq_true, beq_iff_eq]
  exact ⟨fun h => by rcases h with rfl | rfl | rfl | rfl <;> decide, fun h => by rcases h with ((rfl | rfl) | rfl) | rfl <;> decide⟩
theorem qu_one (c : Nat) : (one c == ("\"" : Str)) = (c == 34) := one_eq c 34
theorem bs_one (c : Nat) : (one c == ("\\" : Str)) = (c == 92) := one_eq c 92
theorem line_one (l : Int) (c : Nat) : lineOf l (one c) = if c = 10 then l + 1 else l := by
  unfold lineOf
  rw [show (one c == nlS) = (c == 10) from one_eq c 10]
  by_cases h : c = 10 <;> simp [h]
noncomputable def plainC (c : Nat) : Prop := isWsC c = false ∧ c ≠ 34 ∧ c ≠ 92
theorem plain_ten {c : Nat} (h : plainC c) : c ≠ 10 := fun e => by subst e; exact absurd h.1 (by decide)
theorem txO_snoc (k : List Nat) (c : Nat) : txO k ++ one c = txO (k ++ [c]) := (txO_app k [c]).symm
theorem lexB_one (n : Nat) (l : Int) (c : Nat) (xs : List Str) (tok : Str) : lexB (n + 1) l (one c :: xs) tok = if isWsC c = true then (true, (if c = 10 then l + 1 else l), xs, tok) else if c = 92 then lexB n (lineOf (if c = 10 then l + 1 else l) (hd1 xs)) xs.tail (tok ++ hd1 xs) else lexB n (if c = 10 then l + 1 else l) xs (tok ++ one c) := by
  rw [← line_one, ← isWs_one]
  show (if isWs (one c) then _ else if one c == ("\\" : Str) then _ else _) = _
  rw [bs_one]
  by_cases h : c = 92 <;> simp [h]
theorem lexQ_one (n : Nat) (l : Int) (c : Nat) (xs : List Str) (tok : Str) : lexQ (n + 1) l (one c :: xs) tok = if c = 34 then (true, (if c = 10 then l + 1 else l), xs, tok) else if c = 92 then lexQ n (lineOf (if c = 10 then l + 1 else l) (hd1 xs)) xs.tail (tok ++ hd1 xs) else lexQ n (if c = 10 then l + 1 else l) xs (tok ++ one c) := by
  rw [← line_one]
  show (if one c == ("\"" : Str) then _ else if one c == ("\\" : Str) then _ else _) = _
  rw [bs_one, qu_one]
  by_cases h : c = 92 <;> by_cases h2 : c = 34 <;> simp [h, h2]
theorem lexB_plain : ∀ (p : List Nat) (n : Nat) (l : Int) (xs : List Str) (k : List Nat), (∀ d ∈ p, plainC d) → lexB (n + p.length) l (p.map one ++ xs) (txO k) = lexB n l xs (txO (k ++ p))
  | [], n, l, xs, k, _ => by rw [List.append_nil]; rfl
  | c :: p, n, l, xs, k, h => by
    have hc := h c (.head _)
    rw [List.length_cons, ← Nat.add_assoc, List.map_cons, List.cons_append]
    rw [lexB_one, if_neg (by simp [hc.1]), if_neg hc.2.2, if_neg (plain_ten hc), txO_snoc, lexB_plain p n l xs _ fun d hd => h d (.tail _ hd)]
    simp
theorem lexQ_plain : ∀ (p : List Nat) (n : Nat) (l : Int) (xs : List Str) (k : List Nat), (∀ d ∈ p, plainC d) → lexQ (n + p.length) l (p.map one ++ xs) (txO k) = lexQ n l xs (txO (k ++ p))
  | [], n, l, xs, k, _ => by rw [List.append_nil]; rfl
  | c :: p, n, l, xs, k, h => by
    have hc := h c (.head _)
    rw [List.length_cons, ← Nat.add_assoc, List.map_cons, List.cons_append]
    rw [lexQ_one, if_neg hc.2.1, if_neg hc.2.2, if_neg (plain_ten hc), txO_snoc, lexQ_plain p n l xs _ fun d hd => h d (.tail _ hd)]
    simp
noncomputable def WT (h : Nat) (t : List Nat) : T3 := (tolds (isSp h) t).headD t0
theorem WT_cons (h c : Nat) (r : List Nat) : WT h (c :: r) = stepW (isSp h) c r.head? (WT h r) (WT h r.tail) := by
  cases r with
  | nil => rfl
  | cons d r => rfl
theorem leadW_ne {c : Nat} (h : c ≠ 92) (nx : Option Nat) : leadW c nx = one c := by unfold leadW; rw [if_neg h]
theorem WT_ne {h c : Nat} (hc : c ≠ 92) (r : List Nat) : WT h (c :: r) = stepT (isSp h) c (one c) (WT h r) := by
  rw [WT_cons]; unfold stepW
  rw [leadW_ne hc, if_neg (fun q => hc q.1)]
theorem WT_bs (h d : Nat) (r : List Nat) : WT h (92 :: d :: r) = stepT (isSp h) 92 (one d) (WT h r) := by
  rw [WT_cons]; rfl
theorem spl_bs : ∀ h : Nat, h < 5 → spl h 92 = false ∧ spl h 32 = false
  | 0, _ => by decide
  | 1, _ => by decide
  | 2, _ => by decide
  | 3, _ => by decide
  | 4, _ => by decide
theorem stepT_plain {h : Nat} (hh : h < 5) {c : Nat} (hc : (isWsC c && !spl h c) = false) (hq : (c == 34 && !spl h c) = false) (lead : Str) (t : T3) : stepT (isSp h) c lead t = ((lead ++ t.2.1.headD Str.empty) :: t.2.1.tail, (lead ++ t.2.1.headD Str.empty) :: t.2.1.tail, (lead ++ t.2.2.headD Str.empty) :: t.2.2.tail) := by
  unfold stepT
  rw [isSp_spl hh, hc, hq]
  rfl
theorem stepT_ws {h : Nat} (hh : h < 5) {c : Nat} (hc : isWsC c = true) (hs : spl h c = false) (lead : Str) (t : T3) : stepT (isSp h) c lead t = (t.1, Str.empty :: t.1, (lead ++ t.2.2.headD Str.empty) :: t.2.2.tail) := by
  unfold stepT
  rw [isSp_spl hh, hc, hs]
  rfl
theorem stepT_qu {h : Nat} (hh : h < 5) (hs : spl h 34 = false) (lead : Str) (t : T3) : stepT (isSp h) 34 lead t = (t.2.2, (lead ++ t.2.1.headD Str.empty) :: t.2.1.tail, Str.empty :: t.1) := by
  unfold stepT
  rw [isSp_spl hh, hs]
  rfl
noncomputable def nlE (h : Nat) (t : List Nat) : Int := if spl h 10 then 0 else ((t.filter (· == 10)).length : Int)
theorem nlE_nil (h : Nat) : nlE h [] = 0 := by unfold nlE; split <;> rfl
theorem ten_ne {c : Nat} (q : ¬ c = 10) (r : List Nat) : (c :: r).filter (fun x => x == 10) = r.filter (fun x => x == 10) := by
  rw [List.filter_cons, if_neg (by simpa using q)]
theorem nlE_sp {h c : Nat} (e : spl h c = true) (r : List Nat) : nlE h (c :: r) = nlE h r := by
  unfold nlE
  by_cases q : c = 10
  · subst q; rw [if_pos e, if_pos e]
  · rw [ten_ne q]
theorem nlE_un {h c : Nat} (e : spl h c = false) (r : List Nat) (l : Int) : (if c = 10 then l + 1 else l) = l + nlE h (c :: r) - nlE h r := by
  unfold nlE
  by_cases q : c = 10
  · subst q; rw [if_pos rfl, e]; simp; (first | exact o201 | omega)
  · rw [if_neg q, ten_ne q]; (first | exact o202 | omega)
theorem escL_cons (h c : Nat) (r : List Nat) : escL h (c :: r) = refC h c ++ escL h r := rfl
theorem ref_plain {h c : Nat} (hh : h < 5) (e : spl h c = true) : ∀ d ∈ refC h c, plainC d := by
  obtain ⟨nm, i, R⟩ := ref_is hh e
  intro d hd
  rw [R.is] at hd
  rcases List.mem_cons.mp hd with rfl | hd
  · exact ⟨by decide, by decide, by decide⟩
  · have := R.plain d hd
    refine ⟨?_, this.2.2.2.2.1, this.2.2.2.2.2.1⟩
    unfold isWsC
    simp [this.1, this.2.1, this.2.2.1, this.2.2.2.1]
noncomputable abbrev SL (h : Nat) (t : List Nat) : List Str := (escL h t).map one
theorem lexB_run {h : Nat} (hh : h < 5) : ∀ (m : Nat) (t : List Nat), t.length ≤ m → ∀ (n : Nat) (l : Int) (k : List Nat), (escL h t).length < n →
    ∃ fl t' w, lexB n l (SL h t) (txO k) = (fl, l + nlE h t - nlE h t', SL h t', txO (k ++ escL h w)) ∧ (WT h t).2.1 = txO w :: (WT h t').1 ∧ t'.length ≤ t.length := by
  intro m
  induction m with
  | zero =>
    intro t ht n l k hn
    have : t = [] := List.length_eq_zero_iff.mp (Nat.le_zero.mp ht)
    subst this
    obtain ⟨n, rfl⟩ : ∃ j, n = j + 1 := ⟨n - 1, by (first | exact o203 hn | omega)⟩
    exact ⟨false, [], [], by simp [lexB, SL, escL], rfl, Nat.le_refl _⟩
  | succ m ih =>
    intro t ht n l k hn
    cases t with
    | nil =>
      obtain ⟨n, rfl⟩ : ∃ j, n = j + 1 := ⟨n - 1, by (first | exact o203 hn | omega)⟩
      exact ⟨false, [], [], by simp [lexB, SL, escL], rfl, Nat.le_refl _⟩
    | cons c r =>
      have hr : r.length ≤ m := Nat.le_of_succ_le_succ ht
      rw [escL_cons, List.length_append] at hn
      cases e : spl h c with
      | true =>
        have hc : c ≠ 92 := fun q => by subst q; rw [(spl_bs h hh).1] at e; cases e
        obtain ⟨fl, t', w, h1, h2, h3⟩ := ih r hr (n - (refC h c).length) l (k ++ refC h c) (by (first | exact o204 hn | omega))
        refine ⟨fl, t', c :: w, ?_, ?_, Nat.le_succ_of_le h3⟩
        · have hp := lexB_plain (refC h c) (n - (refC h c).length) l (SL h r) k (ref_plain hh e)
          rw [Nat.sub_add_cancel (by (first | exact o205 hn | omega))] at hp
          show lexB n l ((refC h c ++ escL h r).map one) (txO k) = _
          rw [List.map_append, hp, h1, nlE_sp e, escL_cons, List.append_assoc]
        · rw [WT_ne hc, stepT_plain hh (by rw [e]; simp) (by rw [e]; simp), h2]
          show (one c ++ txO w) :: _ = _
          rw [← txO_one, ← txO_app]; rfl
      | false =>
        have hrf := refC_free e
        rw [hrf] at hn
        obtain ⟨n, rfl⟩ : ∃ j, n = j + 1 := ⟨n - 1, by (first | exact o206 hn | omega)⟩
        have hn' : (escL h r).length < n := by simp at hn; (first | exact o207 hn | omega)
        show ∃ fl t' w, lexB (n + 1) l ((refC h c ++ escL h r).map one) (txO k) = _ ∧ _
        rw [hrf, List.singleton_append, List.map_cons]
        rw [lexB_one]
        by_cases hw : isWsC c = true
        · have hc : c ≠ 92 := fun q => by subst q; exact absurd hw (by decide)
          refine ⟨true, r, [], ?_, ?_, Nat.le_succ _⟩
          · rw [if_pos hw, nlE_un e r]; simp [escL, SL]
          · rw [WT_ne hc, stepT_ws hh hw e]; rfl
        · rw [if_neg hw]
          have hwf : isWsC c = false := by simpa using hw
          by_cases hb : c = 92
          · subst hb
            rw [if_pos rfl, if_neg (by decide)]
            cases r with
            | nil =>
              obtain ⟨n, rfl⟩ : ∃ j, n = j + 1 := ⟨n - 1, by (first | exact o203 hn' | omega)⟩
              refine ⟨false, [], [], ?_, rfl, Nat.le_succ _⟩
              show lexB (n + 1) (lineOf l Str.empty) [] (txO k ++ txO []) = _
              rw [← txO_app]
              have : nlE h [92] = 0 := by unfold nlE; split <;> rfl
              rw [this, nlE_nil]
              show (false, lineOf l Str.empty, [], _) = _
              rw [show lineOf l Str.empty = l from rfl]
              simp [escL, SL]
            | cons d r2 =>
              have hr2 : r2.length ≤ m := by simp at hr; (first | exact o208 hr | omega)
              rw [WT_bs, stepT_plain hh (by rfl) (by rfl)]
              have h92 : nlE h (92 :: d :: r2) = nlE h (d :: r2) := by unfold nlE; rfl
              rw [h92]
              cases e2 : spl h d with
              | true =>
                obtain ⟨nm, i, R⟩ := ref_is hh e2
                rw [escL_cons, List.length_append] at hn'
                have hl : (nm ++ [59]).length + 1 = (refC h d).length := by rw [R.is]; rfl
                obtain ⟨fl, t', w, h1, h2, h3⟩ := ih r2 hr2 (n - (nm ++ [59]).length) l (k ++ [38] ++ (nm ++ [59])) (by (first | exact o209 hn' hl | omega))
                refine ⟨fl, t', d :: w, ?_, ?_, by simp; (first | exact o210 h3 | omega)⟩
                · rw [escL_cons, R.is]
                  show lexB n (lineOf l (one 38)) (((nm ++ [59]) ++ escL h r2).map one) (txO k ++ one 38) = _
                  rw [line_one, if_neg (by decide), txO_snoc, List.map_append]
                  have hp := lexB_plain (nm ++ [59]) (n - (nm ++ [59]).length) l (SL h r2) (k ++ [38]) fun x hx => ref_plain hh e2 x (by rw [R.is]; exact .tail _ hx)
                  rw [Nat.sub_add_cancel (by (first | exact o211 hn' hl | omega))] at hp
                  rw [hp, h1, nlE_sp e2, escL_cons, R.is]
                  simp
                · rw [h2]
                  show (one d ++ txO w) :: _ = _
                  rw [← txO_one, ← txO_app]; rfl
              | false =>
                rw [escL_cons, refC_free e2] at hn' ⊢
                obtain ⟨fl, t', w, h1, h2, h3⟩ := ih r2 hr2 n (l + nlE h (d :: r2) - nlE h r2) (k ++ [d]) (by simp at hn'; (first | exact o212 hn' | omega))
                refine ⟨fl, t', d :: w, ?_, ?_, by simp; (first | exact o210 h3 | omega)⟩
                · show lexB n (lineOf l (one d)) ((escL h r2).map one) (txO k ++ one d) = _
                  rw [line_one, txO_snoc, nlE_un e2 r2, h1, escL_cons, refC_free e2]
                  have : l + nlE h (d :: r2) - nlE h r2 + nlE h r2 - nlE h t' = l + nlE h (d :: r2) - nlE h t' := by (first | exact o213 | omega)
                  rw [this, List.append_assoc]
                · rw [h2]
                  show (one d ++ txO w) :: _ = _
                  rw [← txO_one, ← txO_app]; rfl
          · rw [if_neg hb, nlE_un e r, txO_snoc]
            obtain ⟨fl, t', w, h1, h2, h3⟩ := ih r hr n (l + nlE h (c :: r) - nlE h r) (k ++ [c]) hn'
            refine ⟨fl, t', c :: w, ?_, ?_, Nat.le_succ_of_le h3⟩
            · rw [h1, escL_cons, hrf]
              have : l + nlE h (c :: r) - nlE h r + nlE h r - nlE h t' = l + nlE h (c :: r) - nlE h t' := by (first | exact o213 | omega)
              rw [this, List.append_assoc]
            · have hx : (WT h (c :: r)).2.1 = (one c ++ (WT h r).2.1.headD Str.empty) :: (WT h r).2.1.tail := by
                rw [WT_ne hb]
                by_cases hq : c = 34
                · subst hq; rw [stepT_qu hh e]
                · rw [stepT_plain hh (by rw [hwf]; rfl) (by simp [hq])]
              rw [hx, h2]
              show (one c ++ txO w) :: _ = _
              rw [← txO_one, ← txO_app]; rfl
theorem lexQ_run {h : Nat} (hh : h < 5) : ∀ (m : Nat) (t : List Nat), t.length ≤ m → ∀ (n : Nat) (l : Int) (k : List Nat), (escL h t).length < n →
    ∃ fl t' w, lexQ n l (SL h t) (txO k) = (fl, l + nlE h t - nlE h t', SL h t', txO (k ++ escL h w)) ∧ (WT h t).2.2 = txO w :: (WT h t').1 ∧ t'.length ≤ t.length := by
  intro m
  induction m with
  | zero =>
    intro t ht n l k hn
    have : t = [] := List.length_eq_zero_iff.mp (Nat.le_zero.mp ht)
    subst this
    obtain ⟨n, rfl⟩ : ∃ j, n = j + 1 := ⟨n - 1, by (first | exact o203 hn | omega)⟩
    exact ⟨false, [], [], by simp [lexQ, SL, escL], rfl, Nat.le_refl _⟩
  | succ m ih =>
    intro t ht n l k hn
    cases t with
    | nil =>
      obtain ⟨n, rfl⟩ : ∃ j, n = j + 1 := ⟨n - 1, by (first | exact o203 hn | omega)⟩
      exact ⟨false, [], [], by simp [lexQ, SL, escL], rfl, Nat.le_refl _⟩
    | cons c r =>
      have hr : r.length ≤ m := Nat.le_of_succ_le_succ ht
      rw [escL_cons, List.length_append] at hn
      cases e : spl h c with
      | true =>
        have hc : c ≠ 92 := fun q => by subst q; rw [(spl_bs h hh).1] at e; cases e
        obtain ⟨fl, t', w, h1, h2, h3⟩ := ih r hr (n - (refC h c).length) l (k ++ refC h c) (by (first | exact o204 hn | omega))
        refine ⟨fl, t', c :: w, ?_, ?_, Nat.le_succ_of_le h3⟩
        · have hp := lexQ_plain (refC h c) (n - (refC h c).length) l (SL h r) k (ref_plain hh e)
          rw [Nat.sub_add_cancel (by (first | exact o205 hn | omega))] at hp
          show lexQ n l ((refC h c ++ escL h r).map one) (txO k) = _
          rw [List.map_append, hp, h1, nlE_sp e, escL_cons, List.append_assoc]
        · rw [WT_ne hc, stepT_plain hh (by rw [e]; simp) (by rw [e]; simp), h2]
          show (one c ++ txO w) :: _ = _
          rw [← txO_one, ← txO_app]; rfl
      | false =>
        have hrf := refC_free e
        rw [hrf] at hn
        obtain ⟨n, rfl⟩ : ∃ j, n = j + 1 := ⟨n - 1, by (first | exact o206 hn | omega)⟩
        have hn' : (escL h r).length < n := by simp at hn; (first | exact o207 hn | omega)
        show ∃ fl t' w, lexQ (n + 1) l ((refC h c ++ escL h r).map one) (txO k) = _ ∧ _
        rw [hrf, List.singleton_append, List.map_cons]
        rw [lexQ_one]
        by_cases hw : c = 34
        · subst hw
          refine ⟨true, r, [], ?_, ?_, Nat.le_succ _⟩
          · rw [if_pos rfl, nlE_un e r]; simp [escL, SL]
          · rw [WT_ne (by decide), stepT_qu hh e]; rfl
        · rw [if_neg hw]
          by_cases hb : c = 92
          · subst hb
            rw [if_pos rfl, if_neg (by decide)]
            cases r with
            | nil =>
              obtain ⟨n, rfl⟩ : ∃ j, n = j + 1 := ⟨n - 1, by (first | exact o203 hn' | omega)⟩
              refine ⟨false, [], [], ?_, rfl, Nat.le_succ _⟩
              show lexQ (n + 1) (lineOf l Str.empty) [] (txO k ++ txO []) = _
              rw [← txO_app]
              have : nlE h [92] = 0 := by unfold nlE; split <;> rfl
              rw [this, nlE_nil]
              show (false, lineOf l Str.empty, [], _) = _
              rw [show lineOf l Str.empty = l from rfl]
              simp [escL, SL]
            | cons d r2 =>
              have hr2 : r2.length ≤ m := by simp at hr; (first | exact o208 hr | omega)
              rw [WT_bs, stepT_plain hh (by rfl) (by rfl)]
              have h92 : nlE h (92 :: d :: r2) = nlE h (d :: r2) := by unfold nlE; rfl
              rw [h92]
              cases e2 : spl h d with
              | true =>
                obtain ⟨nm, i, R⟩ := ref_is hh e2
                rw [escL_cons, List.length_append] at hn'
                have hl : (nm ++ [59]).length + 1 = (refC h d).length := by rw [R.is]; rfl
                obtain ⟨fl, t', w, h1, h2, h3⟩ := ih r2 hr2 (n - (nm ++ [59]).length) l (k ++ [38] ++ (nm ++ [59])) (by (first | exact o209 hn' hl | omega))
                refine ⟨fl, t', d :: w, ?_, ?_, by simp; (first | exact o210 h3 | omega)⟩
                · rw [escL_cons, R.is]
                  show lexQ n (lineOf l (one 38)) (((nm ++ [59]) ++ escL h r2).map one) (txO k ++ one 38) = _
                  rw [line_one, if_neg (by decide), txO_snoc, List.map_append]
                  have hp := lexQ_plain (nm ++ [59]) (n - (nm ++ [59]).length) l (SL h r2) (k ++ [38]) fun x hx => ref_plain hh e2 x (by rw [R.is]; exact .tail _ hx)
                  rw [Nat.sub_add_cancel (by (first | exact o211 hn' hl | omega))] at hp
                  rw [hp, h1, nlE_sp e2, escL_cons, R.is]
                  simp
                · rw [h2]
                  show (one d ++ txO w) :: _ = _
                  rw [← txO_one, ← txO_app]; rfl
              | false =>
                rw [escL_cons, refC_free e2] at hn' ⊢
                obtain ⟨fl, t', w, h1, h2, h3⟩ := ih r2 hr2 n (l + nlE h (d :: r2) - nlE h r2) (k ++ [d]) (by simp at hn'; (first | exact o212 hn' | omega))
                refine ⟨fl, t', d :: w, ?_, ?_, by simp; (first | exact o210 h3 | omega)⟩
                · show lexQ n (lineOf l (one d)) ((escL h r2).map one) (txO k ++ one d) = _
                  rw [line_one, txO_snoc, nlE_un e2 r2, h1, escL_cons, refC_free e2]
                  have : l + nlE h (d :: r2) - nlE h r2 + nlE h r2 - nlE h t' = l + nlE h (d :: r2) - nlE h t' := by (first | exact o213 | omega)
                  rw [this, List.append_assoc]
                · rw [h2]
                  show (one d ++ txO w) :: _ = _
                  rw [← txO_one, ← txO_app]; rfl
          · rw [if_neg hb, nlE_un e r, txO_snoc]
            obtain ⟨fl, t', w, h1, h2, h3⟩ := ih r hr n (l + nlE h (c :: r) - nlE h r) (k ++ [c]) hn'
            refine ⟨fl, t', c :: w, ?_, ?_, Nat.le_succ_of_le h3⟩
            · rw [h1, escL_cons, hrf]
              have : l + nlE h (c :: r) - nlE h r + nlE h r - nlE h t' = l + nlE h (c :: r) - nlE h t' := by (first | exact o213 | omega)
              rw [this, List.append_assoc]
            · have hx : (WT h (c :: r)).2.2 = (one c ++ (WT h r).2.2.headD Str.empty) :: (WT h r).2.2.tail := by
                rw [WT_ne hb]
                by_cases hq : isWsC c = true
                · rw [stepT_ws hh hq e]
                · rw [stepT_plain hh (by simp [hq]) (by simp [hw])]
              rw [hx, h2]
              show (one c ++ txO w) :: _ = _
              rw [← txO_one, ← txO_app]; rfl
theorem lexO_one (n : Nat) (l : Int) (c : Nat) (xs : List Str) : lexO (n + 1) l (one c :: xs) = if isWsC c = true then lexO n (if c = 10 then l + 1 else l) xs else if c = 34 then (lexQ n (if c = 10 then l + 1 else l) xs Str.empty).2 else (lexB (n + 1) l (one c :: xs) Str.empty).2 := by
  rw [lexB_one, ← line_one, ← isWs_one]
  show (if isWs (one c) then _ else if one c == ("\"" : Str) then _ else if one c == ("\\" : Str) then _ else _) = _
  rw [bs_one, qu_one]
  by_cases h0 : isWs (one c) = true
  · simp [h0]
  · by_cases h : c = 92
    · subst h; simp [h0]
    · by_cases h2 : c = 34 <;> simp [h, h2, h0]
theorem lexO_run {h : Nat} (hh : h < 5) : ∀ (t : List Nat) (n : Nat) (l : Int), (escL h t).length < n →
    ((WT h t).1 = [] ∧ lexO n l (SL h t) = (l + nlE h t, [], Str.empty)) ∨ (∃ w t', (WT h t).1 = txO w :: (WT h t').1 ∧ t'.length ≤ t.length ∧ lexO n l (SL h t) = (l + nlE h t - nlE h t', SL h t', txO (escL h w)))
  | [], n, l, hn => by
    obtain ⟨n, rfl⟩ : ∃ j, n = j + 1 := ⟨n - 1, by (first | exact o203 hn | omega)⟩
    exact .inl ⟨rfl, by rw [nlE_nil, Int.add_zero]; rfl⟩
  | c :: r, n, l, hn => by
    cases e : spl h c with
    | true =>
      have hc : c ≠ 92 := fun q => by subst q; rw [(spl_bs h hh).1] at e; cases e
      obtain ⟨nm, i, R⟩ := ref_is hh e
      obtain ⟨fl, t', w, h1, h2, h3⟩ := lexB_run hh _ (c :: r) (Nat.le_refl _) n l [] hn
      refine .inr ⟨w, t', ?_, h3, ?_⟩
      · rw [← h2, WT_ne hc, stepT_plain hh (by rw [e]; simp) (by rw [e]; simp)]
      · obtain ⟨n, rfl⟩ : ∃ j, n = j + 1 := ⟨n - 1, by (first | exact o203 hn | omega)⟩
        have hs : SL h (c :: r) = one 38 :: ((nm ++ [59]) ++ escL h r).map one := by
          show (refC h c ++ escL h r).map one = _
          rw [R.is]; rfl
        rw [hs] at h1 ⊢
        rw [lexO_one, if_neg (by decide), if_neg (by decide)]
        show (lexB (n + 1) l _ (txO [])).2 = _
        rw [h1, List.nil_append]
    | false =>
      have hrf := refC_free e
      have hs : SL h (c :: r) = one c :: SL h r := by
        show (refC h c ++ escL h r).map one = _
        rw [hrf]; rfl
      obtain ⟨n, rfl⟩ : ∃ j, n = j + 1 := ⟨n - 1, by (first | exact o203 hn | omega)⟩
      rw [escL_cons, hrf] at hn
      have hn' : (escL h r).length < n := by simp at hn; (first | exact o214 hn | omega)
      by_cases hw : isWsC c = true
      · have hc : c ≠ 92 := fun q => by subst q; exact absurd hw (by decide)
        rw [hs, lexO_one, if_pos hw, WT_ne hc, stepT_ws hh hw e]
        rcases lexO_run hh r n (if c = 10 then l + 1 else l) hn' with ⟨h1, h2⟩ | ⟨w, t', h1, h2, h3⟩
        · refine .inl ⟨h1, ?_⟩
          rw [h2, nlE_un e r]; congr 1; (first | exact o215 | omega)
        · refine .inr ⟨w, t', h1, Nat.le_succ_of_le h2, ?_⟩
          rw [h3, nlE_un e r]; congr 1; (first | exact o213 | omega)
      · by_cases hq : c = 34
        · subst hq
          obtain ⟨fl, t', w, h1, h2, h3⟩ := lexQ_run hh _ r (Nat.le_refl _) n (l + nlE h (34 :: r) - nlE h r) [] hn'
          refine .inr ⟨w, t', ?_, Nat.le_succ_of_le h3, ?_⟩
          · rw [WT_ne (by decide), stepT_qu hh e]; exact h2
          · rw [hs, lexO_one, if_neg hw, if_pos rfl, nlE_un e r]
            show (lexQ n _ _ (txO [])).2 = _
            rw [h1, List.nil_append]; show (_, _, _) = _; congr 1; (first | exact o213 | omega)
        · obtain ⟨fl, t', w, h1, h2, h3⟩ := lexB_run hh _ (c :: r) (Nat.le_refl _) (n + 1) l [] (by rw [escL_cons, hrf]; exact hn)
          refine .inr ⟨w, t', ?_, h3, ?_⟩
          · rw [← h2]
            cases r with
            | nil => rw [WT_cons]; unfold stepW; rw [stepT_plain hh (by simp [hw]) (by simp [hq])]
            | cons d r2 => rw [WT_cons]; unfold stepW; rw [stepT_plain hh (by simp [hw]) (by simp [hq])]
          · rw [hs] at h1 ⊢
            rw [lexO_one, if_neg hw, if_neg hq]
            show (lexB (n + 1) l _ (txO [])).2 = _
            rw [h1, List.nil_append]
theorem tokN_run {h : Nat} (hh : h < 5) : ∀ (ws : List Str) (t : List Nat) (l : Int), (WT h t).1 = ws →
    ∃ R t', tokN ws.length l (SL h t) = (R, l + nlE h t - nlE h t', SL h t') ∧ (WT h t').1 = [] ∧ ∃ us : List (List Nat), ws = us.map txO ∧ R = us.map fun u => txO (escL h u)
  | [], t, l, e => ⟨[], t, by show ([], l, _) = _; congr 2; (first | exact o202 | omega), e, [], rfl, rfl⟩
  | w :: ws, t, l, e => by
    rcases lexO_run hh t ((SL h t).length + 1) l (by simp) with ⟨h1, _⟩ | ⟨u, t', h1, _, h3⟩
    · rw [e] at h1; cases h1
    · rw [e] at h1
      injection h1 with h1 h2
      obtain ⟨R, t2, h4, h5, us, h6, h7⟩ := tokN_run hh ws t' (l + nlE h t - nlE h t') h2.symm
      refine ⟨txO (escL h u) :: R, t2, ?_, h5, u :: us, by rw [h1, h6]; rfl, by rw [h7]; rfl⟩
      have hg : lexG l (SL h t) = (l + nlE h t - nlE h t', SL h t', txO (escL h u)) := h3
      show (let g := lexG l (SL h t); let r := tokN ws.length g.1 g.2.1; (g.2.2 :: r.1, r.2)) = _
      rw [hg]
      show (txO (escL h u) :: (tokN ws.length _ _).1, (tokN ws.length _ _).2) = _
      rw [h4]
      show (_, _, _) = _
      congr 2; (first | exact o213 | omega)
open PySem.StrLaws in
theorem occ_run (x : Str) (c : Nat) : ∀ (n a : Nat) (st : Array Nat × Nat), a + n = x.length + 1 → st.2 ≤ a → st.1.size ≤ a →
    ((forIn (List.range' a n) st (occBody x ⟨#[c]⟩ x.length (x.length + 1))).run.1.size = st.1.size + ((x.cps.toList.drop a).filter (· == c)).length)
  | 0, a, st, h1, _, _ => by
    have : x.cps.toList.drop a = [] := List.drop_eq_nil_of_le (by show x.cps.toList.length ≤ a; have : x.cps.toList.length = x.length := by simp [Str.length]
                                                                  (first | exact o216 h1 this | omega))
    rw [this]; rfl
  | n + 1, a, st, h1, h2, h3 => by
    have hl : x.cps.toList.length = x.length := by simp [Str.length]
    rw [List.range'_succ, List.forIn_cons]
    unfold occBody
    have hs := subAt_one x c a
    by_cases hc : x.cps.toList[a]? = some c
    · have hq := hs.mpr hc
      have ha : a < x.cps.toList.length := (List.getElem?_eq_some_iff.mp hc).1
      have hlen : (⟨#[c]⟩ : Str).length = 1 := rfl
      rw [if_pos ⟨⟨⟨by (first | exact o217 h1 h3 | omega), h2⟩, hq.1⟩, hq.2⟩]
      show (forIn (List.range' (a + 1) n) (st.1.push a, a + 1) (occBody x ⟨#[c]⟩ x.length (x.length + 1))).run.1.size = _
      rw [occ_run x c n (a + 1) _ (by (first | exact o218 h1 | omega)) (Nat.le_refl _) (by rw [Array.size_push]; (first | exact o219 h3 | omega)), Array.size_push]
      have e : x.cps.toList.drop a = c :: x.cps.toList.drop (a + 1) := by
        rw [List.drop_eq_getElem_cons ha]
        rw [List.getElem?_eq_getElem ha] at hc
        cases hc; rfl
      rw [e, List.filter_cons, if_pos (by simp)]
      simp only [List.length_cons]; (first | exact o220 | omega)
    · have hn : ¬ (((st.1.size < x.length + 1 ∧ st.2 ≤ a) ∧ a + (⟨#[c]⟩ : Str).length ≤ x.length) ∧ Builtin.Str.subAt x ⟨#[c]⟩ a = true) := fun q => hc (hs.mp ⟨q.1.2, q.2⟩)
      rw [if_neg hn]
      show (forIn (List.range' (a + 1) n) (st.1, st.2) (occBody x ⟨#[c]⟩ x.length (x.length + 1))).run.1.size = _
      rw [occ_run x c n (a + 1) _ (by (first | exact o218 h1 | omega)) (Nat.le_succ_of_le h2) (Nat.le_succ_of_le h3)]
      by_cases ha : a < x.cps.toList.length
      · have e : x.cps.toList.drop a = x.cps.toList[a] :: x.cps.toList.drop (a + 1) := List.drop_eq_getElem_cons ha
        rw [e, List.filter_cons, if_neg (fun q => hc (by rw [List.getElem?_eq_getElem ha]; simpa using q))]
      · rw [List.drop_eq_nil_of_le (by (first | exact o221 ha | omega)), List.drop_eq_nil_of_le (by (first | exact o222 ha | omega))]
open PySem.StrLaws in
theorem occ_count (x : Str) (c : Nat) : (Builtin.Str.occurrences x ⟨#[c]⟩ 0 x.length (x.length + 1)).length = (x.cps.toList.filter (· == c)).length := by
  rw [occ_eq, Array.length_toList, occ_run x c (x.length + 1 - 0) 0 (#[], 0) (by (first | exact o223 | omega)) (Nat.le_refl _) (Nat.le_refl _)]
  simp
theorem nlC_eq (t : List Nat) : nlC t = (t.filter (· == 10)).length := by
  unfold nlC
  rw [show ("\n" : Str) = ⟨#[10]⟩ from rfl, occ_count, txO_un]
theorem lnE_eq {h : Nat} (hh : h < 5) (t : List Nat) : lnE t h = 1 + nlE h t := by
  unfold lnE nlE
  rw [show ("\n" : Str) = one 10 from rfl, isSp_spl hh, nlC_eq]
theorem writ_SL {h : Nat} (hh : h < 5) (t : List Nat) : strs1 (writ t h) = SL h t := by
  rw [writ_eq hh]; unfold strs1; rw [txO_un]; rfl
theorem ref_small {h c : Nat} (hh : h < 5) (hc : c < 0xD800) : ∀ d ∈ refC h c, d < 0xD800 := by
  cases e : spl h c with
  | true =>
    obtain ⟨nm, i, R⟩ := ref_is hh e
    intro d hd
    rw [R.is] at hd
    rcases List.mem_cons.mp hd with rfl | hd
    · decide
    · exact (R.plain d hd).2.2.2.2.2.2
  | false => rw [refC_free e]; intro d hd; rw [List.mem_singleton.mp hd]; exact hc
theorem one_sgl {c : Nat} (h : c < 0xD800) : sgl (one c) := ⟨lay_one h, (beq_eq_false_iff_ne.mpr fun e => by have : (0 : Nat) = 1 := congrArg Str.length e; cases this), rfl⟩
theorem SL_ok {h : Nat} (hh : h < 5) {t : List Nat} (ht : t.length ≤ 40) (hv : ∀ c ∈ t, c < 0xD800) : xsOk (SL h t) := by
  refine ⟨?_, fun x hx => ?_⟩
  · have := escL_len hh t
    show ((escL h t).map one).length ≤ 90000
    rw [List.length_map]; (first | exact o224 ht this | omega)
  · obtain ⟨d, hd, rfl⟩ := List.mem_map.mp hx
    obtain ⟨c, hc, hd⟩ := List.mem_flatMap.mp hd
    exact one_sgl (ref_small hh (hv c hc) d hd)
theorem txE {h : Nat} (hh : h < 5) {t : List Nat} (ht : t.length ≤ 40) (hv : ∀ c ∈ t, c < 0xD800) : TxE t h :=
  ⟨hh, by (first | exact o225 ht | omega), hv, writ_fit hh ht, by rw [writ_eq hh, txO_len]; have := escL_len hh t; (first | exact o224 ht this | omega)⟩
theorem wordsOf_bt (h : Nat) (t : List Nat) : Bt t.length ((tolds (isSp h) t).headD t0) := by
  have H := tolds_bt (isSp h) t
  cases e : tolds (isSp h) t with
  | nil => have := tolds_len (isSp h) t; rw [e] at this; cases this
  | cons x L => exact H x (by rw [e]; exact .head _)
theorem runE {h : Nat} (hh : h < 5) {t : List Nat} (ht : t.length ≤ 40) (hv : ∀ c ∈ t, c < 0xD800) : ∃ R l xs, RunE t h R l xs ∧ ∃ us : List (List Nat), wordsOf t h = us.map txO ∧ R = us.map fun u => txO (escL h u) := by
  obtain ⟨R, t', h1, h2, us, h3, h4⟩ := tokN_run hh (wordsOf t h) t 1 rfl
  refine ⟨R, _, _, ⟨?_, ?_, by rw [writ_SL hh]; exact h1, ?_⟩, us, h3, h4⟩
  · rw [writ_SL hh]; exact SL_ok hh ht hv
  · have := (wordsOf_bt h t).l1
    show (((tolds (isSp h) t).headD t0).1).length ≤ 200
    (first | exact o226 ht this | omega)
  · rcases lexO_run hh t' ((SL h t').length + 1) (1 + nlE h t - nlE h t') (by simp) with ⟨_, h5⟩ | ⟨u, t2, h5, _, _⟩
    · have h5 : lexG (1 + nlE h t - nlE h t') (SL h t') = _ := h5
      rw [h5]
      exact ⟨rfl, by rw [lnE_eq hh]; show 1 + nlE h t - nlE h t' + nlE h t' = _; (first | exact o227 | omega)⟩
    · rw [h2] at h5; cases h5
noncomputable def okC (c : Nat) : Prop := 9 ≤ c ∧ c < 0xD800
theorem getD_okC {l : List Str} (h : l.all (fun x => x.cps.toList.all fun c => decide (9 ≤ c) && decide (c < 0xD800)) = true) (j : Nat) : ∀ c ∈ (l.getD j Str.empty).cps.toList, okC c := by
  rw [List.getD_eq_getElem?_getD]
  cases e : l[j]? with
  | none => intro c hc; cases hc
  | some x =>
    intro c hc
    have := List.all_eq_true.mp (List.all_eq_true.mp h x (List.mem_of_getElem? e)) c hc
    simpa [okC] using this
theorem piece_okC (c : Int) : ∀ d ∈ (pieceOf c).cps.toList, okC d := by
  unfold pieceOf
  split
  · intro d hd
    have : d = (9 + (c.fdiv 24).fmod 55287).toNat := by simpa using hd
    have h1 := Int.fmod_nonneg_of_pos (c.fdiv 24) (b := 55287) (by decide)
    have h2 := Int.fmod_lt_of_pos (c.fdiv 24) (b := 55287) (by decide)
    subst this; unfold okC; (first | exact o228 h1 h2 | omega)
  · split
    · exact getD_okC (by decide +kernel) _
    · exact getD_okC (by decide +kernel) _
theorem texts_okC (cs : List Int) : ∀ i, (∀ d ∈ (textsN cs i).1.cps.toList, okC d) ∧ (∀ d ∈ (textsN cs i).2.cps.toList, okC d)
  | 0 => ⟨nofun, nofun⟩
  | i + 1 => by
    obtain ⟨h1, h2⟩ := texts_okC cs i
    have h3 := piece_okC (cs.getD (i + 1) 0)
    unfold textsN
    split
    · refine ⟨fun d hd => ?_, h2⟩
      rw [Str.un_app] at hd
      exact (List.mem_append.mp hd).elim (h1 d) (h3 d)
    · refine ⟨h1, fun d hd => ?_⟩
      rw [Str.un_app] at hd
      exact (List.mem_append.mp hd).elim (h2 d) (h3 d)
noncomputable def GW (P : Nat → Prop) (l : List Str) : Prop := ∀ y ∈ l, ∀ c ∈ y.cps.toList, P c
noncomputable def GT (P : Nat → Prop) (t : T3) : Prop := GW P t.1 ∧ GW P t.2.1 ∧ GW P t.2.2
theorem GW.on {P : Nat → Prop} {l : List Str} {x : Str} (h : GW P l) (hx : ∀ c ∈ x.cps.toList, P c) : GW P ((x ++ l.headD Str.empty) :: l.tail) := by
  intro y hy c hc
  rcases List.mem_cons.mp hy with rfl | hy
  · rw [Str.un_app] at hc
    refine (List.mem_append.mp hc).elim (hx c) fun hc => ?_
    cases l with
    | nil => cases hc
    | cons z l => exact h z (.head _) c hc
  · exact h y (List.mem_of_mem_tail hy) c hc
theorem GW.nil {P : Nat → Prop} {l : List Str} (h : GW P l) : GW P (Str.empty :: l) := fun y hy c hc => by
  rcases List.mem_cons.mp hy with rfl | hy
  · cases hc
  · exact h y hy c hc
theorem GT.step {P : Nat → Prop} {sp : Str → Bool} {c : Nat} {x : Str} {t : T3} (h : GT P t) (hx : ∀ c ∈ x.cps.toList, P c) : GT P (stepT sp c x t) := by
  unfold stepT
  show GT P (if _ then _ else if _ then _ else _)
  split
  · exact ⟨h.1, h.1.nil, h.2.2.on hx⟩
  · split
    · exact ⟨h.2.2, h.2.1.on hx, h.1.nil⟩
    · exact ⟨h.2.1.on hx, h.2.1.on hx, h.2.2.on hx⟩
theorem GT.zero {P : Nat → Prop} : GT P t0 := ⟨nofun, GW.nil nofun, GW.nil nofun⟩
theorem GT.headD {P : Nat → Prop} {l : List T3} (h : ∀ x ∈ l, GT P x) : GT P (l.headD t0) := by
  cases l with
  | nil => exact GT.zero
  | cons x l => exact h x (.head _)
theorem tolds_GT (sp : Str → Bool) {P : Nat → Prop} : ∀ t : List Nat, (∀ c ∈ t, P c) → ∀ x ∈ tolds sp t, GT P x
  | [], _, x, hx => by rw [List.mem_singleton.mp hx]; exact GT.zero
  | c :: r, hp, x, hx => by
    have ih := tolds_GT sp r fun d hd => hp d (.tail _ hd)
    rcases List.mem_cons.mp hx with rfl | hx
    · have HL : ∀ d ∈ (leadW c r.head?).cps.toList, P d := by
        intro d hd
        unfold leadW at hd
        split at hd
        · cases r with
          | nil => cases hd
          | cons e r => have : d = e := by simpa [one] using hd
                        exact hp d (by rw [this]; exact .tail _ (.head _))
        · have : d = c := by simpa [one] using hd
          exact hp d (by rw [this]; exact .head _)
      unfold stepW
      refine GT.step ?_ HL
      split
      · exact GT.headD fun x hx => ih x (List.mem_of_mem_tail hx)
      · exact GT.headD ih
    · exact ih x hx
theorem wordsOf_ok (h : Nat) {P : Nat → Prop} {t : List Nat} (hp : ∀ c ∈ t, P c) : GW P (wordsOf t h) := (GT.headD (tolds_GT (isSp h) t hp)).1
noncomputable def few (sp : Str → Bool) (s : List Nat) : Int := (fews sp s).headD 0
theorem fews_get (sp : Str → Bool) : ∀ (k : Nat) (r : List Nat), k ≤ r.length → (fews sp r).getD k 0 = few sp (r.drop k)
  | 0, r, _ => by cases r <;> rfl
  | k + 1, [], h => absurd h (by simp)
  | k + 1, c :: r, h => by
    show (_ :: fews sp r).getD (k + 1) 0 = few sp (r.drop k)
    rw [List.getD_cons_succ, fews_get sp k r (Nat.le_of_succ_le_succ h)]
theorem few_cons (sp : Str → Bool) (c : Nat) (r : List Nat) : few sp (c :: r) = tryP sp (c :: r) (fews sp r) 3 (tryP sp (c :: r) (fews sp r) 2 (1 + few sp r)) := rfl
theorem okP_len {sp : Str → Bool} {k : Nat} {s : List Nat} (h : okP sp k s = true) : (s.take k).length = k := by
  unfold okP at h
  simp only [Bool.and_eq_true, beq_iff_eq] at h
  exact h.1.1
theorem few_case (sp : Str → Bool) (c : Nat) (r : List Nat) : (few sp (c :: r) = 1 + few sp r ∨ (okP sp 2 (c :: r) = true ∧ few sp (c :: r) = 1 + few sp (r.drop 1)) ∨ (okP sp 3 (c :: r) = true ∧ few sp (c :: r) = 1 + few sp (r.drop 2))) ∧ few sp (c :: r) ≤ 1 + few sp r ∧ (okP sp 2 (c :: r) = true → few sp (c :: r) ≤ 1 + few sp (r.drop 1)) ∧ (okP sp 3 (c :: r) = true → few sp (c :: r) ≤ 1 + few sp (r.drop 2)) := by
  have H : ∀ k, 1 ≤ k → okP sp k (c :: r) = true → (fews sp r).getD (k - 1) 0 = few sp (r.drop (k - 1)) := fun k hk h => by
    refine fews_get sp _ _ ?_
    have := okP_len h
    rw [List.length_take, List.length_cons] at this
    (first | exact o229 hk this | omega)
  have H2 : okP sp 2 (c :: r) = true → (fews sp r).getD (2 - 1) 0 = few sp (r.drop 1) := H 2 (by decide)
  have H3 : okP sp 3 (c :: r) = true → (fews sp r).getD (3 - 1) 0 = few sp (r.drop 2) := H 3 (by decide)
  rw [few_cons]
  unfold tryP
  by_cases h2 : okP sp 2 (c :: r) = true <;> by_cases h3 : okP sp 3 (c :: r) = true
  · rw [if_pos h2, if_pos h3, H2 h2, H3 h3]
    simp only [h2, h3, true_and, true_implies]
    split <;> split <;> (first | exact o230 (by assumption) (by assumption) | exact o231 (by assumption) (by assumption) | exact o232 (by assumption) (by assumption) | exact o233 (by assumption) (by assumption) | omega)
  · rw [if_pos h2, if_neg h3, H2 h2]
    simp only [h2, h3, true_and, Bool.false_eq_true, false_and, or_false, true_implies, false_implies, and_true]
    split <;> (first | exact o234 (by assumption) | exact o235 (by assumption) | omega)
  · rw [if_neg h2, if_pos h3, H3 h3]
    simp only [h2, h3, true_and, Bool.false_eq_true, false_and, false_or, true_implies, false_implies, and_true]
    split <;> (first | exact o234 (by assumption) | exact o235 (by assumption) | omega)
  · rw [if_neg h2, if_neg h3]
    exact ⟨.inl rfl, Int.le_refl _, fun q => absurd q h2, fun q => absurd q h3⟩
noncomputable def opN (p : List Nat) : Bool := ops.any (· == txO p)
theorem opN_mem {p : List Nat} (h : opN p = true) : txO p ∈ ops := by
  obtain ⟨x, hx, e⟩ := List.any_eq_true.mp h
  rw [← eq_of_beq e]; exact hx
theorem ops_facts : (ops.all fun x => match x.cps.toList with
    | [_] => true
    | [d, e] => d != 46 && e != 46 && d != 38 && e != 38 || (d == 38 && e != 38 && e != 46)
    | [d, e, f] => (d == 46 && e == 46 && f == 46) || (d != 46 && e != 46 && f != 46 && opN [e, f] && e != 38 && f != 38)
    | _ => false) = true := by decide +kernel
theorem op_two {d e : Nat} (h : opN [d, e] = true) : d ≠ 46 ∧ e ≠ 46 ∧ e ≠ 38 := by
  have := List.all_eq_true.mp ops_facts _ (opN_mem h)
  rw [txO_un] at this
  simp only [Bool.or_eq_true, Bool.and_eq_true, bne_iff_ne, beq_iff_eq] at this
  (first | exact o236 this | omega)
theorem op_three {d e f : Nat} (h : opN [d, e, f] = true) : (d = 46 ∧ e = 46 ∧ f = 46) ∨ (d ≠ 46 ∧ e ≠ 46 ∧ f ≠ 46 ∧ opN [e, f] = true) := by
  have := List.all_eq_true.mp ops_facts _ (opN_mem h)
  rw [txO_un] at this
  simp only [Bool.or_eq_true, Bool.and_eq_true, bne_iff_ne, beq_iff_eq] at this
  rcases this with ⟨⟨h1, h2⟩, h3⟩ | ⟨⟨⟨⟨⟨h1, h2⟩, h3⟩, h4⟩, h5⟩, h6⟩
  · exact .inl ⟨h1, h2, h3⟩
  · exact .inr ⟨h1, h2, h3, h4⟩
theorem okP_two {sp : Str → Bool} {s : List Nat} (h : okP sp 2 s = true) : ∃ d e r, s = d :: e :: r ∧ opN [d, e] = true ∧ sp (one d) = false ∧ sp (one e) = false := by
  have hl := okP_len h
  match s, hl with
  | d :: e :: r, _ =>
    refine ⟨d, e, r, rfl, ?_⟩
    unfold okP at h
    simpa [opN, List.filter_eq_nil_iff] using h
theorem okP_three {sp : Str → Bool} {s : List Nat} (h : okP sp 3 s = true) : ∃ d e f r, s = d :: e :: f :: r ∧ opN [d, e, f] = true ∧ sp (one d) = false ∧ sp (one e) = false ∧ sp (one f) = false := by
  have hl := okP_len h
  match s, hl with
  | d :: e :: f :: r, _ =>
    refine ⟨d, e, f, r, rfl, ?_⟩
    unfold okP at h
    simpa [opN, List.filter_eq_nil_iff] using h
theorem okP_of (sp : Str → Bool) (k : Nat) (s : List Nat) (hl : (s.take k).length = k) (ho : opN (s.take k) = true) (hs : ∀ c ∈ s.take k, sp (one c) = false) : okP sp k s = true := by
  unfold okP
  simp only [Bool.and_eq_true, beq_iff_eq]
  refine ⟨⟨hl, ho⟩, ?_⟩
  rw [List.isEmpty_iff, List.filter_eq_nil_iff]
  intro c hc; rw [hs c hc]; decide
theorem few_less {sp : Str → Bool} {c : Nat} (hc : c ≠ 46) (r : List Nat) : few sp r ≤ few sp (c :: r) := by
  rcases (few_case sp c r).1 with h | ⟨h2, h⟩ | ⟨h3, h⟩
  · (first | exact o237 h | omega)
  · obtain ⟨d, e, r', q, _⟩ := okP_two h2
    cases q
    have := (few_case sp e r').2.1
    rw [h]; exact this
  · obtain ⟨d, e, f, r', q, ho, hd, he, hf⟩ := okP_three h3
    cases q
    rcases op_three ho with ⟨q, _⟩ | ⟨_, _, _, ho2⟩
    · exact absurd q hc
    · have := (few_case sp e (f :: r')).2.2.1 (okP_of sp 2 _ rfl ho2 (by intro c hc; simp at hc; rcases hc with rfl | rfl <;> assumption))
      rw [h]; exact this
theorem few_dots (sp : Str → Bool) (r : List Nat) : few sp r ≤ few sp (46 :: 46 :: r) := by
  rcases (few_case sp 46 (46 :: r)).1 with h | ⟨h2, h⟩ | ⟨h3, h⟩
  · rcases (few_case sp 46 r).1 with g | ⟨g2, g⟩ | ⟨g3, g⟩
    · (first | exact o238 h g | omega)
    · obtain ⟨d, e, r', q, ho, _⟩ := okP_two g2
      cases q
      exact absurd rfl (op_two ho).1
    · obtain ⟨d, e, f, r', q, ho, _⟩ := okP_three g3
      cases q
      rcases op_three ho with ⟨_, rfl, rfl⟩ | ⟨q, _⟩
      · have h1 := (few_case sp 46 (46 :: r')).2.1
        have h2 := (few_case sp 46 r').2.1
        have g : few sp (46 :: 46 :: 46 :: r') = 1 + few sp r' := g
        (first | exact o239 h h1 h2 g | omega)
      · exact absurd rfl q
  · obtain ⟨d, e, r', q, ho, _⟩ := okP_two h2
    cases q
    exact absurd rfl (op_two ho).1
  · obtain ⟨d, e, f, r', q, ho, _⟩ := okP_three h3
    cases q
    rcases op_three ho with ⟨_, _, rfl⟩ | ⟨q, _⟩
    · have h2 := (few_case sp 46 r').2.1
      have h : few sp (46 :: 46 :: 46 :: r') = 1 + few sp r' := h
      (first | exact o240 h2 h | omega)
    · exact absurd rfl q
theorem few_three {sp : Str → Bool} {s : List Nat} (h : okP sp 3 s = true) : few sp s = 1 + few sp (s.drop 3) := by
  obtain ⟨d, e, f, r, rfl, ho, hd, he, hf⟩ := okP_three h
  have hle : few sp (d :: e :: f :: r) ≤ 1 + few sp r := (few_case sp d (e :: f :: r)).2.2.2 h
  show _ = 1 + few sp r
  rcases (few_case sp d (e :: f :: r)).1 with g | ⟨g2, g⟩ | ⟨g3, g⟩
  · rcases op_three ho with ⟨rfl, rfl, rfl⟩ | ⟨h1, h2, h3, _⟩
    · have := few_dots sp r; (first | exact o241 hle g this | omega)
    · have := few_less (sp := sp) h3 r
      have := few_less (sp := sp) h2 (f :: r); (first | exact o242 hle g (by assumption) this | omega)
  · have g : few sp (d :: e :: f :: r) = 1 + few sp (f :: r) := g
    rcases op_three ho with ⟨rfl, rfl, rfl⟩ | ⟨h1, h2, h3, _⟩
    · obtain ⟨d, e, r', q, ho, _⟩ := okP_two g2
      cases q
      exact absurd rfl (op_two ho).1
    · have := few_less (sp := sp) h3 r; (first | exact o241 hle g this | omega)
  · exact g
theorem few_two {sp : Str → Bool} {s : List Nat} (h3 : okP sp 3 s = false) (h : okP sp 2 s = true) : few sp s = 1 + few sp (s.drop 2) := by
  obtain ⟨d, e, r, rfl, ho, hd, he⟩ := okP_two h
  have hle : few sp (d :: e :: r) ≤ 1 + few sp r := (few_case sp d (e :: r)).2.2.1 h
  show _ = 1 + few sp r
  rcases (few_case sp d (e :: r)).1 with g | ⟨g2, g⟩ | ⟨g3, g⟩
  · have := few_less (sp := sp) (op_two ho).2.1 r; (first | exact o241 hle g this | omega)
  · exact g
  · rw [h3] at g3; cases g3
theorem few_one {sp : Str → Bool} {c : Nat} {r : List Nat} (h3 : okP sp 3 (c :: r) = false) (h2 : okP sp 2 (c :: r) = false) : few sp (c :: r) = 1 + few sp r := by
  rcases (few_case sp c r).1 with g | ⟨g2, g⟩ | ⟨g3, g⟩
  · exact g
  · rw [h2] at g2; cases g2
  · rw [h3] at g3; cases g3
theorem find_at (p nm q : List Nat) (hn : 59 ∉ p ++ nm) (pre : List Nat) : findFrom (txO (pre ++ (p ++ nm ++ 59 :: q))) ";" (pre.length : Int) = ((pre.length + (p ++ nm).length : Nat) : Int) := by
  unfold findFrom
  have hf : fromIndex (txO (pre ++ (p ++ nm ++ 59 :: q))).length (pre.length : Int) = pre.length := by
    unfold fromIndex
    rw [if_neg (by (first | exact fun q => o89 q | omega)), Int.max_eq_right (Int.natCast_nonneg _)]; rfl
  rw [hf, show (";" : Str) = ⟨#[59]⟩ from rfl]
  generalize hL : pre ++ (p ++ nm ++ 59 :: q) = L
  have hat : ∀ i, StrLaws.At (txO L) ⟨#[59]⟩ (txO L).length i ↔ L[i]? = some 59 := fun i => by
    have := StrLaws.subAt_one (txO L) 59 i
    rw [txO_un] at this
    exact this
  have hx : L[pre.length + (p ++ nm).length]? = some 59 := by
    rw [← hL, List.getElem?_append_right (by (first | exact o128 | omega)), Nat.add_sub_cancel_left, List.getElem?_append_right (Nat.le_refl _), Nat.sub_self]; rfl
  have hno : ∀ i, pre.length ≤ i → i < pre.length + (p ++ nm).length → L[i]? ≠ some 59 := fun i h1 h2 h => by
    rw [← hL, List.getElem?_append_right h1, List.getElem?_append_left (by (first | exact o243 h1 h2 | omega))] at h
    exact hn (List.mem_of_getElem? h)
  rcases StrLaws.occ_head_from (txO L) ⟨#[59]⟩ pre.length 1 (Nat.le_refl 1) with ⟨h0, h1⟩ | ⟨i, r, h0, h1, h2, h3⟩
  · exact absurd ((hat _).mpr hx) (h1 _ (by (first | exact o128 | omega)))
  · rw [h0]
    show (i : Int) = _
    have h2 := (hat i).mp h2
    by_cases c : i < pre.length + (p ++ nm).length
    · exact absurd h2 (hno i h1 c)
    · by_cases c2 : pre.length + (p ++ nm).length < i
      · exact absurd ((hat _).mpr hx) (h3 _ (by (first | exact o128 | omega)) c2)
      · (first | exact o244 c c2 | omega)
theorem tok_facts : (tokTab.all fun e => symT e.2 == e.1 && decide (0 < e.2) && decide (e.2 < 256) && ops.any (· == e.1) && (e.2 != 19 || e.1 == one 38)) = true := by decide +kernel
theorem ops_tok : (ops.all fun x => (tokGet x).isSome) = true := by decide +kernel
theorem ops_amp : (ops.all fun x => !(x.cps.toList.tail.contains 38) && decide (1 ≤ x.length) && decide (x.length ≤ 3)) = true := by decide +kernel
theorem tok_is {x : Str} {n : Int} (h : tokGet x = some n) : symT n = x ∧ 0 < n ∧ n < 256 ∧ x ∈ ops ∧ (n = 19 → x = one 38) := by
  unfold tokGet at h
  cases q : tokTab.find? (fun e => decide (e.1 = x)) with
  | none => rw [q] at h; cases h
  | some e =>
    rw [q] at h
    have h1 : e.1 = x := by have g := List.find?_some q; simpa using g
    have h2 : e.2 = n := by simpa using h
    have h3 := List.all_eq_true.mp tok_facts e (List.mem_of_find?_eq_some q)
    rw [h1, h2] at h3
    simp only [Bool.and_eq_true, beq_iff_eq, decide_eq_true_eq, Bool.or_eq_true, bne_iff_ne] at h3
    obtain ⟨⟨⟨⟨h4, h5⟩, h6⟩, h7⟩, h8⟩ := h3
    refine ⟨h4, h5, h6, ?_, fun e => h8.resolve_left fun g => g e⟩
    obtain ⟨y, hy, e⟩ := List.any_eq_true.mp h7
    rw [← eq_of_beq e]; exact hy
theorem tok_op {p : List Nat} (h : opN p = true) : (tokGet (txO p)).isSome = true := List.all_eq_true.mp ops_tok _ (opN_mem h)
theorem op_tok {p : List Nat} (h : (tokGet (txO p)).isSome = true) : opN p = true ∧ 38 ∉ p.tail := by
  obtain ⟨n, hn⟩ := Option.isSome_iff_exists.mp h
  have h1 := (tok_is hn).2.2.2.1
  refine ⟨List.any_eq_true.mpr ⟨_, h1, by simp⟩, ?_⟩
  have := List.all_eq_true.mp ops_amp _ h1
  rw [txO_un] at this
  simp only [Bool.and_eq_true] at this
  simpa using this.1.1
theorem spl_amp : ∀ h : Nat, h < 5 → spl h 38 = true
  | 0, _ => by decide
  | 1, _ => by decide
  | 2, _ => by decide
  | 3, _ => by decide
  | 4, _ => by decide
theorem escL_front {h : Nat} (hh : h < 5) : ∀ (j : Nat) (r : List Nat), 38 ∉ (escL h r).take j → (escL h r).take j = r.take j ∧ ∀ c ∈ r.take j, spl h c = false
  | 0, r, _ => ⟨rfl, nofun⟩
  | j + 1, [], _ => ⟨rfl, nofun⟩
  | j + 1, c :: r, hn => by
    cases e : spl h c with
    | true =>
      obtain ⟨nm, i, R⟩ := ref_is hh e
      rw [escL_cons, R.is] at hn
      exact absurd (.head _) hn
    | false =>
      rw [escL_cons, refC_free e] at hn ⊢
      rw [List.singleton_append, List.take_succ_cons] at hn ⊢
      have ih := escL_front hh j r fun q => hn (.tail _ q)
      refine ⟨by rw [ih.1, List.take_succ_cons], fun d hd => ?_⟩
      rw [List.take_succ_cons] at hd
      rcases List.mem_cons.mp hd with rfl | hd
      · exact e
      · exact ih.2 d hd
theorem escL_bare {h : Nat} : ∀ (j : Nat) (r : List Nat), (∀ c ∈ r.take j, spl h c = false) → (escL h r).take j = r.take j
  | 0, r, _ => rfl
  | j + 1, [], _ => rfl
  | j + 1, c :: r, hn => by
    rw [List.take_succ_cons] at hn
    rw [escL_cons, refC_free (hn c (.head _)), List.singleton_append, List.take_succ_cons, List.take_succ_cons, escL_bare j r fun d hd => hn d (.tail _ hd)]
theorem refC_ge {h : Nat} (hh : h < 5) (c : Nat) : 1 ≤ (refC h c).length := by
  cases e : spl h c with
  | true =>
    obtain ⟨nm, i, R⟩ := ref_is hh e
    rw [R.is]; simp
  | false => rw [refC_free e]; exact Nat.le_refl _
theorem escL_ge {h : Nat} (hh : h < 5) : ∀ t : List Nat, t.length ≤ (escL h t).length
  | [] => Nat.le_refl _
  | c :: t => by
    have := refC_ge hh c
    have := escL_ge hh t
    rw [escL_cons, List.length_append, List.length_cons]; (first | exact o245 (by assumption) this | omega)
noncomputable def isO (h k : Nat) (s : List Nat) : Bool := okP (isSp h) k s
theorem isO_tok {h k : Nat} (hh : h < 5) {s : List Nat} (ho : isO h k s = true) : (tokGet (txO ((escL h s).take k))).isSome = true := by
  unfold isO okP at ho
  simp only [Bool.and_eq_true, beq_iff_eq] at ho
  rw [escL_bare k s fun c hc => ?_]
  · exact tok_op ho.1.2
  · have := List.filter_eq_nil_iff.mp (List.isEmpty_iff.mp ho.2) c hc
    rw [← isSp_spl hh]; simpa using this
theorem tok_isO {h k : Nat} (hh : h < 5) (hk : 1 ≤ k) {c : Nat} {r : List Nat} (e : spl h c = false) (ht : (tokGet (txO ((escL h (c :: r)).take k))).isSome = true) : (escL h (c :: r)).take k = (c :: r).take k ∧ (∀ d ∈ (c :: r).take k, spl h d = false) ∧ opN ((c :: r).take k) = true ∧ (k ≤ (c :: r).length → isO h k (c :: r) = true) := by
  obtain ⟨j, rfl⟩ : ∃ j, k = j + 1 := ⟨k - 1, by (first | exact o246 hk | omega)⟩
  have H := op_tok ht
  have hy : escL h (c :: r) = c :: escL h r := by rw [escL_cons, refC_free e]; rfl
  rw [hy, List.take_succ_cons, List.tail_cons] at H
  obtain ⟨f1, f2⟩ := escL_front hh j r H.2
  have g1 : (escL h (c :: r)).take (j + 1) = (c :: r).take (j + 1) := by rw [hy, List.take_succ_cons, f1, List.take_succ_cons]
  have g2 : ∀ d ∈ (c :: r).take (j + 1), spl h d = false := fun d hd => by
    rw [List.take_succ_cons] at hd
    rcases List.mem_cons.mp hd with rfl | hd
    · exact e
    · exact f2 d hd
  have g3 : opN ((c :: r).take (j + 1)) = true := by rw [List.take_succ_cons, ← f1]; exact H.1
  exact ⟨g1, g2, g3, fun hl => okP_of _ _ _ (by rw [List.length_take]; (first | exact o247 hl | omega)) g3 fun d hd => by rw [isSp_spl hh]; exact g2 d hd⟩
theorem cps_at (L : List Nat) (a : Nat) : (txO L).cps[a]? = L[a]? := by simp [txO]
theorem cut_at {L pre y : List Nat} (hL : L = pre ++ y) (n : Nat) : cut (txO L) pre.length n = txO (y.take n) := by
  unfold cut
  rw [← Int.natCast_add, slice_run L pre.length (pre.length + n) (by (first | exact o128 | omega)) (by rw [hL, List.length_append]; (first | exact o128 | omega)), hL, List.drop_left, Nat.add_sub_cancel_left]
theorem row_end {h : Nat} {L : List Nat} {n a : Nat} {acc : List Int} (ha : L.length ≤ a) : rowL h (txO L) (n + 1) a acc = some acc := by
  unfold rowL
  rw [if_neg (by rw [txO_len]; (first | exact fun q => o248 q ha | omega))]
theorem row_ref {h c : Nat} {L pre nm q : List Nat} {i n : Nat} {acc : List Int} (R : RefIs h c nm i) (hL : L = pre ++ (38 :: (nm ++ 59 :: q))) : rowL h (txO L) (n + 1) pre.length acc = rowL h (txO L) n (pre.length + (nm.length + 2)) (acc ++ [255 - (i : Int)]) := by
  have hf : findFrom (txO L) ";" (pre.length : Int) = ((pre.length + (1 + nm.length) : Nat) : Int) := by
    have := find_at [38] nm q (by simp [R.semi]) pre
    have e1 : ([38] ++ nm).length = 1 + nm.length := by simp; (first | exact o249 | omega)
    rw [e1] at this
    rw [hL]; exact this
  have hl : L.length = pre.length + (nm.length + 2 + q.length) := by rw [hL]; simp; (first | exact o250 | omega)
  have hs : Txt.slice (txO L) (some ((pre.length : Int) + 1)) (some (findFrom (txO L) ";" (pre.length : Int))) = txO nm := by
    rw [hf, show ((pre.length : Int) + 1) = ((pre.length + 1 : Nat) : Int) by (first | exact o251 | omega), slice_run L _ _ (by (first | exact o252 | omega)) (by (first | exact o253 hl | omega)), hL, ← List.drop_drop, List.drop_left]
    show txO ((nm ++ 59 :: q).take _) = _
    rw [show pre.length + (1 + nm.length) - (pre.length + 1) = nm.length by (first | exact o254 | omega), List.take_left]
  have hm : mvAt (invT h) (Txt.slice (txO L) (some ((pre.length : Int) + 1)) (some (findFrom (txO L) ";" (pre.length : Int)))) = some (.str (one c)) := by rw [hs]; exact R.inv
  have hc : (txO L).cps[pre.length]? = some 38 := by
    rw [cps_at, hL, List.getElem?_append_right (Nat.le_refl _), Nat.sub_self]; rfl
  rw [rowL.eq_2, if_pos (by rw [txO_len]; (first | exact o255 hl | omega))]
  simp only [hc]
  rw [hm, if_pos (by rw [show tokGet ⟨#[38]⟩ = some 19 by decide +kernel, hf]; simp; (first | exact o256 | omega))]
  simp only [R.idx]
  rw [hf, show (((pre.length + (1 + nm.length) : Nat) : Int) + 1).toNat = pre.length + (nm.length + 2) by (first | exact o257 | omega)]
theorem row_sgn {h c : Nat} {L pre y : List Nat} {n : Nat} {acc : List Int} (hc : c ≠ 38) (hL : L = pre ++ (c :: y)) : rowL h (txO L) (n + 1) pre.length acc = rowL h (txO L) n (pre.length + sizeAt (txO L) pre.length) (acc ++ [(tokGet (cut (txO L) pre.length (sizeAt (txO L) pre.length))).getD (247 + (c : Int))]) := by
  have h1 : (txO L).cps[pre.length]? = some c := by
    rw [cps_at, hL, List.getElem?_append_right (Nat.le_refl _), Nat.sub_self]; rfl
  have h2 : (tokGet ⟨#[c]⟩ == some 19) = false := by
    rw [beq_eq_false_iff_ne]
    intro e
    have := (tok_is e).2.2.2.2 rfl
    exact hc (by simpa [one] using this)
  rw [rowL.eq_2, if_pos (by rw [txO_len, hL]; simp)]
  simp only [h1, h2, Bool.false_and, Bool.false_eq_true, if_false]
noncomputable def U (h : Nat) (s : List Nat) : List Nat := s.flatMap fun c => if spl h c then [38, c] else [c]
noncomputable def SR (R : List Int) : List Nat := R.flatMap fun s => (symT s).cps.toList
theorem U_bare {h : Nat} : ∀ p : List Nat, (∀ c ∈ p, spl h c = false) → U h p = p
  | [], _ => rfl
  | c :: p, hp => by
    have ih := U_bare p fun d hd => hp d (.tail _ hd)
    unfold U at ih ⊢
    rw [List.flatMap_cons, hp c (.head _), ih]; rfl
theorem U_app (h : Nat) (a b : List Nat) : U h (a ++ b) = U h a ++ U h b := by simp [U]
theorem SR_cons (s : Int) (R : List Int) : SR (s :: R) = (symT s).cps.toList ++ SR R := rfl
theorem escL_app (h : Nat) (a b : List Nat) : escL h (a ++ b) = escL h a ++ escL h b := by simp [escL]
theorem escL_free {h : Nat} : ∀ p : List Nat, (∀ c ∈ p, spl h c = false) → escL h p = p
  | [], _ => rfl
  | c :: p, hp => by rw [escL_cons, refC_free (hp c (.head _)), escL_free p fun d hd => hp d (.tail _ hd)]; rfl
noncomputable def RowOk (h : Nat) (suf : List Nat) (R : List Int) : Prop := SR R = U h suf ∧ (R.length : Int) = few (isSp h) suf ∧ (∀ s ∈ R, s ≠ 0 ∧ s ≤ 100000) ∧ R.length ≤ suf.length
theorem RowOk.cons {h : Nat} {p r : List Nat} {R : List Int} {s : Int} (H : RowOk h r R) (hs : (symT s).cps.toList = U h p) (hf : few (isSp h) (p ++ r) = 1 + few (isSp h) r) (hp : 1 ≤ p.length) (h0 : s ≠ 0 ∧ s ≤ 100000) : RowOk h (p ++ r) (s :: R) := by
  obtain ⟨h1, h2, h3, h4⟩ := H
  refine ⟨by rw [SR_cons, h1, hs, U_app], by rw [hf, ← h2]; simp; (first | exact o258 | omega), fun x hx => ?_, by simp; (first | exact o245 hp h4 | omega)⟩
  rcases List.mem_cons.mp hx with rfl | hx
  · exact h0
  · exact h3 x hx
theorem RowOk.nil (h : Nat) : RowOk h [] [] := ⟨rfl, rfl, nofun, Nat.le_refl _⟩
theorem row_run {h : Nat} (hh : h < 5) : ∀ (m : Nat) (suf : List Nat), suf.length ≤ m → (∀ c ∈ suf, okC c) → ∀ (L pre : List Nat) (n : Nat) (acc : List Int), L = pre ++ escL h suf → suf.length < n → ∃ R, rowL h (txO L) n pre.length acc = some (acc ++ R) ∧ RowOk h suf R := by
  intro m
  induction m with
  | zero =>
    intro suf hm _ L pre n acc hL hn
    have : suf = [] := List.length_eq_zero_iff.mp (Nat.le_zero.mp hm)
    subst this
    obtain ⟨n, rfl⟩ : ∃ j, n = j + 1 := ⟨n - 1, by (first | exact o203 hn | omega)⟩
    exact ⟨[], by rw [row_end (by rw [hL]; simp [escL]), List.append_nil], RowOk.nil h⟩
  | succ m ih =>
    intro suf hm hv L pre n acc hL hn
    obtain ⟨n, rfl⟩ : ∃ j, n = j + 1 := ⟨n - 1, by (first | exact o203 hn | omega)⟩
    cases suf with
    | nil => exact ⟨[], by rw [row_end (by rw [hL]; simp [escL]), List.append_nil], RowOk.nil h⟩
    | cons d r =>
      have hr : r.length ≤ m := Nat.le_of_succ_le_succ hm
      have hn' : r.length < n := Nat.lt_of_succ_lt_succ hn
      have go : ∀ (p q : List Nat) (s : Int), p ++ q = d :: r → 1 ≤ p.length → (symT s).cps.toList = U h p → few (isSp h) (d :: r) = 1 + few (isSp h) q → (s ≠ 0 ∧ s ≤ 100000) → rowL h (txO L) (n + 1) pre.length acc = rowL h (txO L) n (pre.length + (escL h p).length) (acc ++ [s]) → ∃ R, rowL h (txO L) (n + 1) pre.length acc = some (acc ++ R) ∧ RowOk h (d :: r) R := fun p q s hpq hp hs hf h0 hstep => by
        have hlen : p.length + q.length = r.length + 1 := by rw [← List.length_append, hpq]; rfl
        obtain ⟨R, h1, h2⟩ := ih q (by (first | exact o259 hr hp hlen | omega)) (fun c hc => hv c (by rw [← hpq]; exact List.mem_append_right _ hc)) L (pre ++ escL h p) n (acc ++ [s]) (by rw [hL, ← hpq, escL_app, List.append_assoc]) (by (first | exact o260 hn' hp hlen | omega))
        rw [List.length_append] at h1
        refine ⟨s :: R, by rw [hstep, h1]; simp, ?_⟩
        rw [← hpq] at hf ⊢
        exact h2.cons hs hf hp h0
      cases e : spl h d with
      | true =>
        obtain ⟨nm, i, R⟩ := ref_is hh e
        refine go [d] r (255 - (i : Int)) rfl (Nat.le_refl _) ?_ ?_ ⟨by have := R.lt; (first | exact fun q => o261 q this | omega), by (first | exact o262 | omega)⟩ ?_
        · rw [R.sym, Str.un_app]; unfold U; simp [e]; rfl
        · refine few_one ?_ ?_
          · cases q : okP (isSp h) 3 (d :: r) with
            | false => rfl
            | true => obtain ⟨a, b, c, r', q1, _, q2, _⟩ := okP_three q; cases q1; rw [isSp_spl hh, e] at q2; cases q2
          · cases q : okP (isSp h) 2 (d :: r) with
            | false => rfl
            | true => obtain ⟨a, b, r', q1, _, q2, _⟩ := okP_two q; cases q1; rw [isSp_spl hh, e] at q2; cases q2
        · have hL2 : L = pre ++ (38 :: (nm ++ 59 :: escL h r)) := by rw [hL, escL_cons, R.is]; simp
          rw [row_ref R hL2]
          have : (escL h [d]).length = nm.length + 2 := by show (refC h d ++ []).length = _; rw [R.is]; simp
          rw [this]
      | false =>
        have hd38 : d ≠ 38 := fun q => by rw [q, spl_amp h hh] at e; cases e
        have hy : escL h (d :: r) = d :: escL h r := by rw [escL_cons, refC_free e]; rfl
        have hcut : ∀ k, cut (txO L) pre.length k = txO ((escL h (d :: r)).take k) := fun k => cut_at hL k
        have hstep := row_sgn (h := h) (n := n) (acc := acc) hd38 (hL.trans (by rw [hy]))
        have hnum : ∀ {p : List Nat} {s : Int}, tokGet (txO p) = some s → s ≠ 0 ∧ s ≤ 100000 := fun {p s} hs => by have := tok_is hs; (first | exact o263 this | omega)
        cases t3 : tokGet (cut (txO L) pre.length 3) with
        | some s =>
          have hz : sizeAt (txO L) pre.length = 3 := by unfold sizeAt; rw [t3]; rfl
          rw [hz, t3, Option.getD_some] at hstep
          rw [hcut] at t3
          obtain ⟨g1, g2, g3, g4⟩ := tok_isO hh (k := 3) (by decide) e (by rw [t3]; rfl)
          rw [g1] at t3
          have hsym : (symT s).cps.toList = U h ((d :: r).take 3) := by rw [(tok_is t3).1, txO_un, U_bare _ g2]
          by_cases hlen : 3 ≤ (d :: r).length
          · have ho := g4 hlen
            refine go ((d :: r).take 3) ((d :: r).drop 3) s (List.take_append_drop _ _) (by rw [List.length_take]; (first | exact o264 hlen | omega)) hsym (few_three ho) (hnum t3) ?_
            rw [hstep, escL_free _ g2, List.length_take, Nat.min_eq_left hlen]
          · have hall : (d :: r).take 3 = d :: r := List.take_of_length_le (by (first | exact o265 hlen | omega))
            rw [hall] at hsym g1 g2 g3
            have hyl : (escL h (d :: r)).length ≤ 2 := by
              have := congrArg List.length g1
              rw [List.length_take] at this
              omega
            obtain ⟨n, rfl⟩ : ∃ j, n = j + 1 := ⟨n - 1, by (first | exact o203 hn' | omega)⟩
            rw [row_end (a := pre.length + 3) (by rw [hL, List.length_append]; (first | exact o266 hyl | omega))] at hstep
            refine ⟨[s], hstep, ?_⟩
            have hN : few (isSp h) ([] : List Nat) = 0 := rfl
            have hf : few (isSp h) ((d :: r) ++ []) = 1 + few (isSp h) [] := by
              rw [List.append_nil]
              have k3 : okP (isSp h) 3 (d :: r) = false := by
                cases q : okP (isSp h) 3 (d :: r) with
                | false => rfl
                | true => have := okP_len q; rw [List.length_take] at this; omega
              cases r with
              | nil =>
                refine few_one k3 ?_
                cases q : okP (isSp h) 2 [d] with
                | false => rfl
                | true => have := okP_len q; cases this
              | cons d2 r2 =>
                cases r2 with
                | cons _ _ => simp at hlen
                | nil => exact few_two k3 (okP_of _ 2 _ rfl g3 fun c hc => by rw [isSp_spl hh]; exact g2 c hc)
            have := (RowOk.nil h).cons (p := d :: r) (s := s) hsym hf (by simp) (hnum t3)
            rw [List.append_nil] at this
            exact this
        | none =>
          have n3 : okP (isSp h) 3 (d :: r) = false := by
            cases q : okP (isSp h) 3 (d :: r) with
            | false => rfl
            | true =>
              have := isO_tok hh (k := 3) q
              rw [← hcut, t3] at this; cases this
          cases t2 : tokGet (cut (txO L) pre.length 2) with
          | some s =>
            have hz : sizeAt (txO L) pre.length = 2 := by unfold sizeAt; rw [t3, t2]; rfl
            rw [hz, t2, Option.getD_some] at hstep
            rw [hcut] at t2 t3
            obtain ⟨g1, g2, g3, g4⟩ := tok_isO hh (k := 2) (by decide) e (by rw [t2]; rfl)
            by_cases hlen : 2 ≤ (d :: r).length
            · have ho := g4 hlen
              rw [g1] at t2
              refine go ((d :: r).take 2) ((d :: r).drop 2) s (List.take_append_drop _ _) (by rw [List.length_take]; (first | exact o267 hlen | omega)) (by rw [(tok_is t2).1, txO_un, U_bare _ g2]) (few_two n3 ho) (hnum t2) ?_
              rw [hstep, escL_free _ g2, List.length_take, Nat.min_eq_left hlen]
            · exfalso
              cases r with
              | cons _ _ => simp at hlen
              | nil =>
                rw [hy] at t2 t3
                have q : tokGet (txO [d]) = none := t3
                have q2 : tokGet (txO [d]) = some s := t2
                rw [q] at q2; cases q2
          | none =>
            have n2 : okP (isSp h) 2 (d :: r) = false := by
              cases q : okP (isSp h) 2 (d :: r) with
              | false => rfl
              | true =>
                have := isO_tok hh (k := 2) q
                rw [← hcut, t2] at this; cases this
            have hz : sizeAt (txO L) pre.length = 1 := by unfold sizeAt; rw [t3, t2]; rfl
            rw [hz, hcut, hy] at hstep
            have hq : (d :: escL h r).take 1 = [d] := rfl
            rw [hq] at hstep
            have hvd := hv d (.head _)
            have hU : U h [d] = [d] := U_bare [d] fun c hc => by rw [List.mem_singleton.mp hc]; exact e
            have hl1 : (escL h [d]).length = 1 := by show (refC h d ++ []).length = 1; rw [refC_free e]; rfl
            refine go [d] r _ rfl (Nat.le_refl _) ?_ (few_one n3 n2) ?_ (by rw [hl1]; exact hstep)
            · rw [hU]
              cases t1 : tokGet (txO [d]) with
              | some s => rw [Option.getD_some, (tok_is t1).1, txO_un]
              | none =>
                rw [Option.getD_none]
                unfold symT
                have h9 := hvd.1
                rw [if_neg (by (first | exact fun q => o268 q h9 | omega)), show (247 + (d : Int) - 247).toNat = d by (first | exact o269 h9 | omega)]
            · cases t1 : tokGet (txO [d]) with
              | some s => exact hnum t1
              | none =>
                rw [Option.getD_none]
                have h9 := hvd.2
                (first | exact o270 h9 | omega)
theorem glue_run : ∀ (ps : List Str) (acc : Array Nat), (ps.foldl (fun acc p => acc ++ Str.empty.cps ++ p.cps) acc).toList = acc.toList ++ ps.flatMap fun p => p.cps.toList
  | [], acc => by simp
  | p :: ps, acc => by
    rw [List.foldl_cons, glue_run ps, List.flatMap_cons]
    simp [Str.empty]
theorem glue_nil (ps : List Str) : Builtin.Str.glued Str.empty ps = txO (ps.flatMap fun p => p.cps.toList) := by
  rw [← txO_cps (Builtin.Str.glued _ _)]
  congr 1
  cases ps with
  | nil => rfl
  | cons p ps =>
    show ((ps.foldl (fun acc p => acc ++ Str.empty.cps ++ p.cps) p.cps).toList) = _
    rw [glue_run]; rfl
theorem glue_esc {h : Nat} (hh : h < 5) (l : List Nat) : Builtin.Str.glued Str.empty (escW (isSp h) l) = txO (U h l) := by
  rw [glue_nil]
  congr 1
  unfold escW U
  rw [List.flatMap_map]
  congr 1; funext c
  rw [isSp_spl hh]
  cases spl h c <;> rfl
theorem back_row : ∀ (r : List Int) (t : List Nat) (n : Int) (ws : List (Str × Int)) (rest : List Int), (∀ s ∈ r, s ≠ 0) → backF (r ++ 0 :: rest) (txO t) n ws = backF rest Str.empty 0 (ws ++ [(txO (t ++ SR r), n + (r.length : Int))])
  | [], t, n, ws, rest, _ => by
    show backF (0 :: rest) (txO t) n ws = _
    rw [backF, if_pos rfl]
    simp [SR]
  | s :: r, t, n, ws, rest, h => by
    rw [List.cons_append, backF, if_neg (h s (.head _))]
    have e : txO t ++ symT s = txO (t ++ (symT s).cps.toList) := by rw [txO_app, txO_cps]
    rw [e, back_row r _ _ ws rest fun x hx => h x (.tail _ hx), SR_cons, List.append_assoc]
    have : n + 1 + (r.length : Int) = n + ((s :: r).length : Int) := by simp; (first | exact o271 | omega)
    rw [this]
noncomputable def rowV (v : Nat × List Nat) : List Int := (rowL v.1 (txO (escL v.1 v.2)) ((txO (escL v.1 v.2)).length + 1) 0 []).getD []
noncomputable def dueV (v : Nat × List Nat) : Str × Int := (txO (U v.1 v.2), few (isSp v.1) v.2)
structure WordV (v : Nat × List Nat) : Prop where
  hh : v.1 < 5
  len : v.2.length ≤ 40
  ok : ∀ c ∈ v.2, okC c
theorem WordV.row {v : Nat × List Nat} (H : WordV v) : rowL v.1 (txO (escL v.1 v.2)) ((txO (escL v.1 v.2)).length + 1) 0 [] = some (rowV v) ∧ RowOk v.1 v.2 (rowV v) := by
  have hg := escL_ge H.hh v.2
  obtain ⟨R, h1, h2⟩ := row_run H.hh _ v.2 (Nat.le_refl _) H.ok (escL v.1 v.2) [] ((txO (escL v.1 v.2)).length + 1) [] rfl (by rw [txO_len]; (first | exact o272 hg | omega))
  rw [List.length_nil, List.nil_append] at h1
  have : rowV v = R := by unfold rowV; rw [h1]; rfl
  rw [this]; exact ⟨h1, h2⟩
theorem back_all : ∀ (V : List (Nat × List Nat)) (ws : List (Str × Int)), (∀ v ∈ V, WordV v) → backF ((V.map rowV).flatMap (· ++ [0])) Str.empty 0 ws = ws ++ V.map dueV
  | [], ws, _ => by show ws = ws ++ []; rw [List.append_nil]
  | v :: V, ws, h => by
    have hv := (h v (.head _)).row.2
    have := back_row (rowV v) [] 0 ws ((V.map rowV).flatMap (· ++ [0])) fun s hs => (hv.2.2.1 s hs).1
    rw [List.map_cons, List.flatMap_cons, List.append_assoc]
    show backF (rowV v ++ 0 :: (V.map rowV).flatMap (· ++ [0])) (txO []) 0 ws = _
    rw [this, back_all V _ fun x hx => h x (.tail _ hx), List.nil_append, hv.1, hv.2.1, Int.zero_add, List.append_assoc]
    rfl
theorem flat_len : ∀ (V : List (Nat × List Nat)), (∀ v ∈ V, WordV v) → ((V.map rowV).flatMap (· ++ [0])).length ≤ V.length * 41
  | [], _ => Nat.le_refl _
  | v :: V, h => by
    have hv := (h v (.head _)).row.2.2.2.2
    have hl := (h v (.head _)).len
    have ih := flat_len V fun x hx => h x (.tail _ hx)
    simp only [List.map_cons, List.flatMap_cons, List.length_append, List.length_cons, List.length_nil]
    (first | exact o273 hv hl ih | omega)
theorem U_small {h : Nat} {s : List Nat} (hs : ∀ c ∈ s, c < 0xD800) : ∀ c ∈ U h s, c < 0xD800 := fun c hc => by
  obtain ⟨d, hd, hc⟩ := List.mem_flatMap.mp hc
  have := hs d hd
  split at hc
  · simp at hc; rcases hc with rfl | rfl
    · decide
    · exact this
  · rw [List.mem_singleton.mp hc]; exact this
theorem lay_txO {l : List Nat} (h : ∀ c ∈ l, c < 0xD800) : PyData.canLay0 (.str (txO l)) = true := by
  show (l.toArray.all fun x => decide (x < 0x110000)) = true
  rw [Array.all_eq_true']
  intro x hx
  have := h x (by simpa using hx)
  simp; (first | exact o127 this | omega)
theorem law_end_plain {h0 h1 n0 : Nat} (V : List (Nat × List Nat)) (hV : ∀ v ∈ V, WordV v) (hl : V.length ≤ 82) (hh : h0 < 5 ∧ h1 < 5) (hi : ∀ i v, V[i]? = some v → v.1 = if i < n0 then h0 else h1) :
    EndE h0 h1 n0 (V.map fun v => txO v.2) (V.map fun v => txO (escL v.1 v.2)) (V.map rowV) (V.map dueV) where
  n := by rw [List.length_map]; (first | exact o274 hl | omega)
  hh := hh
  lr := by rw [List.length_map, List.length_map]
  word i x hx := by
    rw [List.getElem?_map] at hx ⊢
    cases e : V[i]? with
    | none => rw [e] at hx; cases hx
    | some v =>
      rw [e] at hx
      cases hx
      have H := hV v (List.mem_of_getElem? e)
      rw [← hi i v e, txO_un, glue_esc H.hh]
      exact ⟨by rw [txO_len]; have := H.len; (first | exact o275 this | omega), fun c hc => (H.ok c hc).2, rfl⟩
  read i x hx := by
    rw [List.getElem?_map] at hx ⊢
    cases e : V[i]? with
    | none => rw [e] at hx; cases hx
    | some v =>
      rw [e] at hx
      cases hx
      have H := hV v (List.mem_of_getElem? e)
      have hL := H.len
      have hE := escL_len H.hh v.2
      have hR := H.row
      rw [← hi i v e]
      exact ⟨by rw [txO_len]; (first | exact o276 hL hE | omega), rowV v, rfl, hR.1, by have := hR.2.2.2.2; (first | exact o277 hL this | omega)⟩
  ld := by rw [List.length_map, List.length_map]
  lw := by rw [List.length_map, List.length_map]
  rl := Nat.le_trans (flat_len V hV) (by (first | exact o278 hl | omega))
  rb s hs := by
    obtain ⟨r, hr, hs⟩ := List.mem_flatMap.mp hs
    obtain ⟨v, hv, rfl⟩ := List.mem_map.mp hr
    rcases List.mem_append.mp hs with hs | hs
    · exact ((hV v hv).row.2.2.2.1 s hs).2
    · rw [List.mem_singleton.mp hs]; decide
  lay p hp := by
    obtain ⟨v, hv, rfl⟩ := List.mem_map.mp hp
    exact lay_txO (U_small fun c hc => ((hV v hv).ok c hc).2)
  fin := by rw [back_all V [] hV]; rfl
theorem map_txO_eq {us : List (List Nat)} {ws : List Str} (h : ws = us.map txO) : ∀ u ∈ us, txO u ∈ ws := fun u hu => by rw [h]; exact List.mem_map_of_mem hu
theorem lawD (cs : List Int) (_ : cs.length = 11) : LawD cs := by
  have l10 := texts_len cs 10
  have o10 := texts_okC cs 10
  have hfm : ∀ x : Int, ∃ h : Nat, x.fmod 5 = h ∧ h < 5 := fun x => by
    have h1 := Int.fmod_nonneg_of_pos x (b := 5) (by decide)
    have h2 := Int.fmod_lt_of_pos x (b := 5) (by decide)
    exact ⟨(x.fmod 5).toNat, by (first | exact o279 h1 | omega), by (first | exact o280 h1 h2 | omega)⟩
  obtain ⟨h0, eh0, hh0⟩ := hfm (cs.getD 0 0)
  obtain ⟨h1, eh1, hh1⟩ := hfm ((cs.getD 0 0).fdiv 5)
  have e0 : (textsN cs 10).1 = txO (textsN cs 10).1.cps.toList := (txO_cps _).symm
  have e1 : (textsN cs 10).2 = txO (textsN cs 10).2.cps.toList := (txO_cps _).symm
  have L0 : (textsN cs 10).1.cps.toList.length ≤ 40 := by have : (textsN cs 10).1.cps.toList.length = (textsN cs 10).1.length := by simp [Str.length]
                                                          (first | exact o281 l10 this | omega)
  have L1 : (textsN cs 10).2.cps.toList.length ≤ 40 := by have : (textsN cs 10).2.cps.toList.length = (textsN cs 10).2.length := by simp [Str.length]
                                                          (first | exact o282 l10 this | omega)
  generalize (textsN cs 10).1.cps.toList = t0 at *
  generalize (textsN cs 10).2.cps.toList = t1 at *
  obtain ⟨R0, l0, x0, Y0, us0, w0, r0⟩ := runE hh0 L0 fun c hc => (o10.1 c hc).2
  obtain ⟨R1, l1, x1, Y1, us1, w1, r1⟩ := runE hh1 L1 fun c hc => (o10.2 c hc).2
  have K : ∀ (h : Nat) (t : List Nat) (us : List (List Nat)), h < 5 → t.length ≤ 40 → (∀ c ∈ t, okC c) → wordsOf t h = us.map txO → us.length ≤ 41 ∧ ∀ u ∈ us, WordV (h, u) := fun h t us hh ht ho hw => by
    have hb := wordsOf_bt h t
    have hg := wordsOf_ok h ho
    have hbl : (wordsOf t h).length ≤ t.length + 1 := hb.l1
    have hbs : ∀ y ∈ wordsOf t h, y.length ≤ t.length := hb.s1
    refine ⟨by rw [hw, List.length_map] at hbl; (first | exact o283 ht hbl | omega), fun u hu => ⟨hh, ?_, fun c hc => ?_⟩⟩
    · have := hbs _ (map_txO_eq hw u hu)
      rw [txO_len] at this; show u.length ≤ 40; (first | exact o284 ht this | omega)
    · exact hg _ (map_txO_eq hw u hu) c (by rw [txO_un]; exact hc)
  obtain ⟨n0, W0⟩ := K h0 t0 us0 hh0 L0 o10.1 w0
  obtain ⟨n1, W1⟩ := K h1 t1 us1 hh1 L1 o10.2 w1
  have E := law_end_plain (h0 := h0) (h1 := h1) (n0 := us0.length) (us0.map (fun u => (h0, u)) ++ us1.map fun u => (h1, u))
    (fun v hv => by
      rcases List.mem_append.mp hv with hv | hv
      · obtain ⟨u, hu, rfl⟩ := List.mem_map.mp hv; exact W0 u hu
      · obtain ⟨u, hu, rfl⟩ := List.mem_map.mp hv; exact W1 u hu)
    (by rw [List.length_append, List.length_map, List.length_map]; (first | exact o285 n0 n1 | omega)) ⟨hh0, hh1⟩
    (fun i v hv => by
      by_cases q : i < us0.length
      · rw [List.getElem?_append_left (by rw [List.length_map]; exact q), List.getElem?_map] at hv
        rw [if_pos q]
        cases e : us0[i]? with
        | none => rw [e] at hv; cases hv
        | some u => rw [e] at hv; cases hv; rfl
      · rw [List.getElem?_append_right (by rw [List.length_map]; (first | exact o286 q | omega)), List.getElem?_map] at hv
        rw [if_neg q]
        cases e : us1[i - (us0.map fun u => (h0, u)).length]? with
        | none => rw [e] at hv; cases hv
        | some u => rw [e] at hv; cases hv; rfl)
  have q0 : (us0.map (fun u => (h0, u)) ++ us1.map fun u => (h1, u)).map (fun v => txO v.2) = wordsOf t0 h0 ++ wordsOf t1 h1 := by
    rw [w0, w1, List.map_append, List.map_map, List.map_map]; rfl
  have q1 : (us0.map (fun u => (h0, u)) ++ us1.map fun u => (h1, u)).map (fun v => txO (escL v.1 v.2)) = R0 ++ R1 := by
    rw [r0, r1, List.map_append, List.map_map, List.map_map]; rfl
  rw [q0, q1] at E
  have q2 : (wordsOf t0 h0).length = us0.length := by rw [w0, List.length_map]
  rw [← q2] at E
  exact .mk t0 t1 h0 h1 R0 R1 l0 l1 x0 x1 _ _ e0 e1 eh0 eh1 (txE hh0 L0 fun c hc => (o10.1 c hc).2) (txE hh1 L1 fun c hc => (o10.2 c hc).2) Y0 Y1 E
open PySem.W.X
noncomputable def noTab (h : Heap) : Heap := { h with objs := h.objs.set! 124 { cls := .none, data := .freed } }
theorem noTab_ne {h : Heap} {b : Addr} (q : b ≠ 124) : (noTab h).get? b = h.get? b := by
  unfold noTab Heap.get?
  dsimp only
  rw [Array.set!_eq_setIfInBounds, Array.getElem?_setIfInBounds_ne (Ne.symm q)]
theorem noTab_at {h : Heap} : (noTab h).get? 124 = none := by
  unfold noTab Heap.get?
  dsimp only
  rw [Array.set!_eq_setIfInBounds, Array.getElem?_setIfInBounds_self]
  by_cases q : 124 < h.objs.size
  · rw [if_pos q]
  · rw [if_neg q]
theorem noTab_sub {h : Heap} {b : Addr} {o : Obj} (e : (noTab h).get? b = some o) : h.get? b = some o := by
  by_cases q : b = 124
  · subst q; rw [noTab_at] at e; cases e
  · rwa [noTab_ne q] at e
theorem fn_of {h hB : Heap} (kB : ∀ b o, b ≠ 124 → h.get? b = some o → hB.get? b = some o) {f c : Addr} {st : Stmt} {qual : Str} (e : seeF h f = some (fnV st qual c)) (k : h.codeRecOk (.ref c) qual = true) (hf : f ≠ 124) (hc : c ≠ 124) :
    ∃ od osl pm ct doc, hB.get? f = some ⟨.type "function", od, .func (fnOf (fName st) qual (fArgs st) (fBody st) (fScope st) .none .none doc pm none (.ref c) ct), osl⟩ ∧ hB.CodeRec (.ref c) qual := by
  unfold seeF at e
  split at e
  · rename_i oc od fd osl ho
    obtain ⟨f1, f2, f3, f4, f5, f6, f7, f8, f9, f10, f11, f12, f13, f14, f15⟩ := fd
    simp only [fnV, Option.some.injEq, Prod.mk.injEq] at e
    obtain ⟨rfl, rfl, rfl, rfl, rfl, rfl, rfl, rfl, rfl, rfl, rfl, rfl, rfl⟩ := e
    obtain ⟨c', o, vs, t, e1, e2, e3⟩ := Heap.CodeRec.of_ok k
    cases e1
    exact ⟨od, osl, f11, f14, f10, kB f _ hf ho, c, o, vs, t, rfl, kB c _ hc e2, e3⟩
  · cases e
theorem ns_of {h hB : Heap} (kB : ∀ b o, b ≠ 124 → h.get? b = some o → hB.get? b = some o) {a : Addr} (e : h.isNs a = true) (ha : a ≠ 124) : hB.Ns a (h.nsMap a) := by
  obtain ⟨o, es, ep, h1, h2⟩ := Heap.Ns.of_isNs e
  exact ⟨o, es, ep, kB a _ ha h1, h2⟩
theorem tab_of {h : Heap} {a : Addr} {n : Nat} {l : List (Str × Int × Int)} (e : seeTab h a = some (.type "dict", none, n, l)) :
    ∃ ds : Array DictEntry, h.get? a = some { cls := .type "dict", data := .dict ds n } ∧ ds.size = l.length ∧ ∀ (i : Nat) (x : Str × Int × Int) (d : DictEntry), l[i]? = some x → ds[i]? = some d → (∃ t, d.key = .str x.1 t) ∧ d.hash = x.2.2 ∧ ∃ t, d.val = .int x.2.1 t := by
  unfold seeTab at e
  split at e
  · rename_i oc od es m sl ho
    split at e
    · rename_i hs
      obtain ⟨l', hl, e⟩ := Option.map_eq_some_iff.mp e
      simp only [Prod.mk.injEq] at e
      obtain ⟨rfl, rfl, rfl, rfl⟩ := e
      have hsl : sl = #[] := Array.eq_empty_of_size_eq_zero hs
      subst hsl
      have key : ∀ (L : List DictEntry) (l : List (Str × Int × Int)), (L.mapM fun (e : DictEntry) => match e.key, e.val with | .str k _, .int i _ => some (k, i, e.hash) | _, _ => none) = some l →
          L.length = l.length ∧ ∀ (i : Nat) (x : Str × Int × Int) (d : DictEntry), l[i]? = some x → L[i]? = some d → (∃ t, d.key = .str x.1 t) ∧ d.hash = x.2.2 ∧ ∃ t, d.val = .int x.2.1 t := by
        intro L
        induction L with
        | nil => intro l h; simp at h; subst h; exact ⟨rfl, fun i x d h1 => by simp at h1⟩
        | cons d0 L ih =>
          intro l h
          rw [List.mapM_cons] at h
          simp only [Option.bind_eq_bind, Option.pure_def] at h
          obtain ⟨x0, hx0, h⟩ := Option.bind_eq_some_iff.mp h
          obtain ⟨l1, hl1, h⟩ := Option.bind_eq_some_iff.mp h
          cases h
          obtain ⟨i1, i2⟩ := ih l1 hl1
          refine ⟨by simp [i1], fun i x d h1 h2 => ?_⟩
          cases i with
          | zero =>
            simp only [List.getElem?_cons_zero, Option.some.injEq] at h1 h2
            subst h1; subst h2
            split at hx0
            · rename_i k t i t' hk hv
              cases hx0
              exact ⟨⟨t, hk⟩, rfl, t', hv⟩
            · cases hx0
          | succ i => exact i2 i x d (by simpa using h1) (by simpa using h2)
      obtain ⟨k1, k2⟩ := key _ _ hl
      exact ⟨es, ho, by rw [← k1]; simp, fun i x d h1 h2 => k2 i x d h1 (by simpa using h2)⟩
    · cases e
  · cases e
theorem cons_of {α : Type} {l : List α} {n : Nat} (h : l.length = n + 1) : ∃ a t, l = a :: t ∧ t.length = n := by
  cases l with
  | nil => cases h
  | cons a t => exact ⟨a, t, rfl, Nat.succ.inj h⟩
theorem cls_of {h hB : Heap} (kB : ∀ b o, b ≠ 124 → h.get? b = some o → hB.get? b = some o) (e : seeC h 52 = some (.type "type", [.ref 52, .type "object"], 51, true, false, false, 6, some (some (.builtin "object.__new__")))) (n : h.isNs 51 = true) : ClsAt hB 52 51 (h.nsMap 51) := by
  unfold seeC at e
  split at e
  · rename_i oc od cd sl ho
    obtain ⟨c1, c2, c3, c4, c5, c6, c7, c8, c9, c10, c11⟩ := cd
    simp only [Option.some.injEq, Prod.mk.injEq] at e
    obtain ⟨rfl, rfl, rfl, rfl, rfl, rfl, e7, e8⟩ := e
    obtain ⟨sl⟩ := sl
    obtain ⟨k0, sl, rfl, g1⟩ := cons_of (show sl.length = 6 from e7)
    obtain ⟨k1, sl, rfl, g2⟩ := cons_of g1
    obtain ⟨k2, sl, rfl, g3⟩ := cons_of g2
    obtain ⟨k3, sl, rfl, g4⟩ := cons_of g3
    obtain ⟨k4, sl, rfl, g5⟩ := cons_of g4
    obtain ⟨k5, sl, rfl, g6⟩ := cons_of g5
    obtain rfl := List.eq_nil_of_length_eq_zero g6
    simp at e8
    subst e8
    exact ⟨⟨c1, c5, c2, c7, c8, c10, od, k0, k1, k2, k3, k5, kB 52 _ (by decide) ho⟩, ns_of kB n (by decide)⟩
  · cases e
theorem cd_of {h hB : Heap} (kB : ∀ b o, b ≠ 124 → h.get? b = some o → hB.get? b = some o) (e : seeCd h 128 = some (.type "code", some (.ref 124), .ref 124, true)) : CodeHd hB 128 124 := by
  unfold seeCd at e
  split at e
  · rename_i oc od vs sl ho
    simp only [Option.some.injEq, Prod.mk.injEq, Bool.and_eq_true] at e
    obtain ⟨rfl, e2, e3, ⟨⟨e4, e5⟩, e6⟩, e7⟩ := e
    have i1 : ∀ v, isI v = true → ∃ i t, v = .int i t := fun v hv => by cases v <;> first | exact ⟨_, _, rfl⟩ | cases hv
    have i2 : ∀ v, isB v = true → ∃ b, v = .bool b := fun v hv => by cases v <;> first | exact ⟨_, rfl⟩ | cases hv
    have i3 : ∀ v, isS v = true → ∃ x t, v = .str x t := fun v hv => by cases v <;> first | exact ⟨_, _, rfl⟩ | cases hv
    obtain ⟨a1, a2, b1⟩ := i1 _ e4
    obtain ⟨a3, b2⟩ := i2 _ e5
    obtain ⟨a4, a5, b3⟩ := i1 _ e6
    obtain ⟨a6, a7, b4⟩ := i3 _ e7
    exact ⟨_, vs, a6, a7, a1, a2, a3, a4, a5, kB 128 _ (by decide) ho, rfl, rfl, e2, e3, b4, b1, b2, b3, by decide⟩
  · cases e
theorem at_i {α β : Type} {l : List α} {f g : α → β} (h : l.map f = l.map g) (i : Nat) (x : α) (hx : l[i]? = some x) : f x = g x := (List.map_inj_left.mp h) x (List.mem_of_getElem? hx)
theorem fn_C {h hB : Heap} (kB : ∀ b o, b ≠ 124 → h.get? b = some o → hB.get? b = some o) {f c : Addr} {st : Stmt} {qual : Str} (e : seeF h f = some (fnV st qual c)) (k : h.codeRecOk (.ref c) qual = true) (hf : f ≠ 124) (hc : c ≠ 124) : IsFnC hB f qual st :=
  let ⟨od, osl, pm, ct, doc, h1, h2⟩ := fn_of kB e k hf hc
  ⟨od, osl, pm, .ref c, ct, doc, h1, h2⟩
theorem asInt_some {o : Option Value} {i : Int} (h : asInt o = some i) : ∃ t, o = some (.int i t) := by
  unfold asInt at h
  split at h
  · rename_i j t; cases h; exact ⟨t, rfl⟩
  · cases h
noncomputable def escAddr : Nat → Addr
  | 0 => 94
  | 1 => 101
  | 2 => 108
  | 3 => 115
  | _ => 122
theorem gAt {w : World} {hB : Heap} {mg mb : Str → Option Value} {sc : Scope} {x : Str} {v : Value} (h1 : (x == ("__debug__" : Str)) = false) (h2 : sc.names.lookup x = some .globalImplicit) (h : mg x = some v ∨ (mg x = none ∧ mb x = some v)) : GlobAt w hB mg mb sc (x, .obj v) := ⟨h1, h2, v, .obj v, h⟩
theorem tok_vr {w : World} {hB : Heap} {ds : Array DictEntry} {n : Nat} (h15 : hB.get? 57 = some { cls := .type "dict", data := .dict ds n }) (hl : ds.size = (tokTab.map fun e => (e.1, e.2, hashStr w e.1)).length)
    (hd : ∀ (i : Nat) (x : Str × Int × Int) (d : DictEntry), (tokTab.map fun e => (e.1, e.2, hashStr w e.1))[i]? = some x → ds[i]? = some d → (∃ t, d.key = .str x.1 t) ∧ d.hash = x.2.2 ∧ ∃ t, d.val = .int x.2.1 t) :
    VR w (fun b => hB.get? b) noρ (.dictS tokMV) (.ref 57) := by
  have get : ∀ (i : Nat) (x : Str × MV), tokMV[i]? = some x → ∃ e : Str × Int, tokTab[i]? = some e ∧ x = (e.1, .int e.2) := fun i x hx => by
    unfold tokMV at hx
    rw [List.getElem?_map] at hx
    obtain ⟨e, h1, h2⟩ := Option.map_eq_some_iff.mp hx
    exact ⟨e, h1, h2.symm⟩
  refine .dictS 57 tokMV ds n h15 (by decide) (by rw [hl]; simp [tokMV]) (fun i x d h1 h2 => ?_) (fun i x d h1 h2 => ?_)
  · obtain ⟨e, he, rfl⟩ := get i x h1
    obtain ⟨k1, k2, _⟩ := hd i (e.1, e.2, hashStr w e.1) d (by rw [List.getElem?_map, he]; rfl) h2
    exact ⟨k1, k2⟩
  · obtain ⟨e, he, rfl⟩ := get i x h1
    obtain ⟨_, _, t, k3⟩ := hd i (e.1, e.2, hashStr w e.1) d (by rw [List.getElem?_map, he]; rfl) h2
    dsimp only
    rw [k3]; exact .int _ t
theorem defs_of {w : World} {s : Shared} {hB : Heap} (y : obsL s = valL w) (kB : ∀ b o, b ≠ 124 → s.heap.get? b = some o → hB.get? b = some o) :
    Defs w hB (s.heap.nsMap mainGlobals) (s.heap.nsMap builtinsNs) 52 51 28 35 42 49 (s.heap.nsMap 51) 157 150 164 129 136 143 174 169 179 80 66 73 128 124 escAddr ∧ IsFn hB 184 "law" bLaw ∧ s.heap.get? 124 = some (tabObj #[]) ∧ s.heap.nsMap mainGlobals "law" = some (.ref 184) := by
  simp only [obsL, valL, Prod.mk.injEq] at y
  obtain ⟨y1, y2, y3, y4, y5, y6, y7, y8, y9, y10, y11, y12, y13, y14, y15⟩ := y
  simp only [List.cons.injEq, and_true] at y6 y7
  obtain ⟨n1, n2, n3, n4⟩ := y7
  obtain ⟨i1, i2⟩ := y6
  obtain ⟨t1, i1⟩ := asInt_some i1
  obtain ⟨t2, i2⟩ := asInt_some i2
  obtain ⟨ds, d1, d2, d3⟩ := tab_of y15
  have F := fun (i : Nat) (x : Addr × Str × Stmt) (hx : fnList[i]? = some x) (hf : x.1 ≠ 124) (hc : x.1 - 1 ≠ 124) => fn_C (st := x.2.2) (qual := x.2.1) kB (at_i y9 i x hx) (at_i y10 i x hx) hf hc
  have T : TopF hB (s.heap.nsMap mainGlobals) (s.heap.nsMap builtinsNs) := ⟨ns_of kB n1 (by decide), ns_of kB n2 (by decide), _, ns_of kB n4 (by decide), y8⟩
  have L : LexCls hB 52 51 28 35 42 49 (s.heap.nsMap 51) := by
    refine ⟨cls_of kB y11 n3, fun n hn => ?_, at_i y5 0 _ rfl, at_i y5 1 _ rfl, at_i y5 2 _ rfl, at_i y5 3 _ rfl⟩
    simp only [List.mem_cons, List.not_mem_nil, or_false] at hn
    rcases hn with rfl | rfl | rfl | rfl | rfl | rfl | rfl | rfl
    · exact at_i y5 4 _ rfl
    · exact at_i y5 5 _ rfl
    · exact at_i y5 6 _ rfl
    · exact at_i y5 7 _ rfl
    · exact at_i y5 8 _ rfl
    · exact at_i y5 9 _ rfl
    · exact at_i y5 10 _ rfl
    · exact at_i y5 11 _ rfl
  have hlx : LxFn w hB (s.heap.nsMap mainGlobals) (s.heap.nsMap builtinsNs) 52 129 128 124 := by
    obtain ⟨od, osl, pm, ct, doc, h1, h2⟩ := fn_of (st := bLx) (qual := "_law_lexer") (f := 129) (c := 128) kB (at_i y9 12 _ rfl) (at_i y10 12 _ rfl) (by decide) (by decide)
    refine ⟨⟨_, od, osl, pm, ct, doc, h1⟩, h2, cd_of kB y12, ?_, fun p hp => ?_⟩
    · unfold plainAt0 at y13
      split at y13
      · rename_i oc od' sl ho
        simp only [Option.some.injEq, Prod.mk.injEq] at y13
        obtain ⟨rfl, rfl⟩ := y13
        exact ⟨4, _, at_i y3 20 _ rfl, by decide, by decide, by decide, kB 4 _ (by decide) ho, rfl, rfl, rfl⟩
      · cases y13
    · simp only [List.mem_cons, List.not_mem_nil, or_false] at hp
      rcases hp with rfl | rfl
      · exact gAt (by decide) (by kernel_rfl) (.inr ⟨at_i y3 23 _ rfl, at_i y4 2 _ rfl⟩)
      · exact gAt (by decide) (by kernel_rfl) (.inl (at_i y3 0 _ rfl))
  have h124 : s.heap.get? 124 = some (tabObj #[]) := by
    unfold tab0 at y14
    split at y14
    · rename_i oc od vs sl ho
      simp only [Option.some.injEq, Prod.mk.injEq] at y14
      obtain ⟨rfl, rfl, e3, e4⟩ := y14
      have : sl = #[] := Array.eq_empty_of_size_eq_zero e4
      subst this
      have : vs = #[] := by cases vs; simp at e3; subst e3; rfl
      subst this
      exact ho
    · cases y14
  refine ⟨{ d_T := T, d_L := L, d_fi := (F 3 _ rfl (by decide) (by decide)), d_fr := (F 4 _ rfl (by decide) (by decide)), d_fg := (F 5 _ rfl (by decide) (by decide)), d_gG := fun p hp => ?_, d_fq := (F 6 _ rfl (by decide) (by decide)), d_lx := hlx, d_gL := fun p hp => ?_, d_g1 := ⟨by decide, _, .obj _, .inl (at_i y3 12 _ rfl)⟩, d_g2 := ⟨by decide, _, .obj _, .inl (at_i y3 14 _ rfl)⟩, d_ft := (F 16 _ rfl (by decide) (by decide)).fn, d_gT := fun p hp => ?_, d_fo := (F 14 _ rfl (by decide) (by decide)).fn, d_fs := (F 15 _ rfl (by decide) (by decide)).fn, d_fw := (F 17 _ rfl (by decide) (by decide)).fn, d_gW1 := fun p hp => ?_, d_fv := (F 13 _ rfl (by decide) (by decide)).fn, d_es := ⟨(F 7 _ rfl (by decide) (by decide)).fn, (F 8 _ rfl (by decide) (by decide)).fn, (F 9 _ rfl (by decide) (by decide)).fn, (F 10 _ rfl (by decide) (by decide)).fn, (F 11 _ rfl (by decide) (by decide)).fn⟩, d_gV := fun p hp => ?_, d_ro := (F 19 _ rfl (by decide) (by decide)).fn, d_gR := fun p hp => ?_, d_fd := (F 18 _ rfl (by decide) (by decide)).fn, d_gD := fun p hp => ?_, d_fb := (F 20 _ rfl (by decide) (by decide)).fn, d_gB := fun p hp => ?_, d_fe := (F 2 _ rfl (by decide) (by decide)).fn, d_gE := fun p hp => ?_, d_te := (F 0 _ rfl (by decide) (by decide)).fn, d_gN := fun p hp => ?_, d_fn := (F 1 _ rfl (by decide) (by decide)).fn, d_gO := fun p hp => ?_ }, (F 21 _ rfl (by decide) (by decide)).fn, h124, at_i y3 18 _ rfl⟩
  · simp only [List.mem_cons, List.not_mem_nil, or_false] at hp
    subst hp
    exact gAt (by decide) (by kernel_rfl) (.inr ⟨at_i y3 21 _ rfl, at_i y4 0 _ rfl⟩)
  · simp only [List.mem_cons, List.not_mem_nil, or_false] at hp
    rcases hp with rfl | rfl | rfl | rfl | rfl | rfl | rfl | rfl | rfl | rfl
    · exact gAt (by decide) (by kernel_rfl) (.inr ⟨at_i y3 25 _ rfl, at_i y4 4 _ rfl⟩)
    · exact gAt (by decide) (by kernel_rfl) (.inl (at_i y3 13 _ rfl))
    · exact gAt (by decide) (by kernel_rfl) (.inr ⟨at_i y3 24 _ rfl, at_i y4 3 _ rfl⟩)
    · exact gAt (by decide) (by kernel_rfl) (.inl (at_i y3 9 _ rfl))
    · exact gAt (by decide) (by kernel_rfl) (.inl (at_i y3 10 _ rfl))
    · exact gAt (by decide) (by kernel_rfl) (.inr ⟨at_i y3 22 _ rfl, at_i y4 1 _ rfl⟩)
    · exact gAt (by decide) (by kernel_rfl) (.inl (at_i y3 11 _ rfl))
    · exact gAt (by decide) (by kernel_rfl) (.inl (at_i y3 16 _ rfl))
    · exact gAt (by decide) (by kernel_rfl) (.inl (at_i y3 15 _ rfl))
    · exact gAt (by decide) (by kernel_rfl) (.inl (at_i y3 17 _ rfl))
  · simp only [List.mem_cons, List.not_mem_nil, or_false] at hp
    rcases hp with rfl | rfl | rfl
    · exact gAt (by decide) (by kernel_rfl) (.inr ⟨at_i y3 24 _ rfl, at_i y4 3 _ rfl⟩)
    · exact gAt (by decide) (by kernel_rfl) (.inr ⟨at_i y3 27 _ rfl, at_i y4 6 _ rfl⟩)
    · exact gAt (by decide) (by kernel_rfl) (.inl (at_i y3 11 _ rfl))
  · simp only [List.mem_cons, List.not_mem_nil, or_false] at hp
    rcases hp with rfl | rfl
    · exact gAt (by decide) (by kernel_rfl) (.inr ⟨at_i y3 22 _ rfl, at_i y4 1 _ rfl⟩)
    · exact gAt (by decide) (by kernel_rfl) (.inr ⟨at_i y3 24 _ rfl, at_i y4 3 _ rfl⟩)
  · simp only [List.mem_cons, List.not_mem_nil, or_false] at hp
    rcases hp with rfl | rfl | rfl | rfl | rfl
    · exact gAt (by decide) (by kernel_rfl) (.inl (at_i y3 4 _ rfl))
    · exact gAt (by decide) (by kernel_rfl) (.inl (at_i y3 5 _ rfl))
    · exact gAt (by decide) (by kernel_rfl) (.inl (at_i y3 6 _ rfl))
    · exact gAt (by decide) (by kernel_rfl) (.inl (at_i y3 7 _ rfl))
    · exact gAt (by decide) (by kernel_rfl) (.inl (at_i y3 8 _ rfl))
  · simp only [List.mem_cons, List.not_mem_nil, or_false] at hp
    rcases hp with rfl | rfl | rfl
    · exact gAt (by decide) (by kernel_rfl) (.inr ⟨at_i y3 22 _ rfl, at_i y4 1 _ rfl⟩)
    · exact ⟨by decide, by kernel_rfl, .ref 57, tok_vr (kB 57 _ (by decide) d1) d2 d3, .inl (at_i y3 19 _ rfl)⟩
    · exact gAt (by decide) (by kernel_rfl) (.inr ⟨at_i y3 28 _ rfl, at_i y4 7 _ rfl⟩)
  · simp only [List.mem_cons, List.not_mem_nil, or_false] at hp
    rcases hp with rfl | rfl | rfl
    · exact gAt (by decide) (by kernel_rfl) (.inr ⟨at_i y3 22 _ rfl, at_i y4 1 _ rfl⟩)
    · exact gAt (by decide) (by kernel_rfl) (.inr ⟨at_i y3 24 _ rfl, at_i y4 3 _ rfl⟩)
    · exact gAt (by decide) (by kernel_rfl) (.inr ⟨at_i y3 26 _ rfl, at_i y4 5 _ rfl⟩)
  · simp only [List.mem_cons, List.not_mem_nil, or_false] at hp
    rcases hp with rfl | rfl | rfl | rfl | rfl
    · exact gAt (by decide) (by kernel_rfl) (.inr ⟨at_i y3 24 _ rfl, at_i y4 3 _ rfl⟩)
    · exact gAt (by decide) (by kernel_rfl) (.inl (at_i y3 3 _ rfl))
    · exact gAt (by decide) (by kernel_rfl) (.inl (at_i y3 1 _ rfl))
    · exact gAt (by decide) (by kernel_rfl) (.inl (at_i y3 2 _ rfl))
    · exact gAt (by decide) (by kernel_rfl) (.inr ⟨at_i y3 27 _ rfl, at_i y4 6 _ rfl⟩)
  · simp only [List.mem_cons, List.not_mem_nil, or_false] at hp
    subst hp
    exact ⟨by decide, by kernel_rfl, _, .int _ t2, .inl i2⟩
  · simp only [List.mem_cons, List.not_mem_nil, or_false] at hp
    subst hp
    exact ⟨by decide, by kernel_rfl, _, .int _ t1, .inl i1⟩
  · simp only [List.mem_cons, List.not_mem_nil, or_false] at hp
    subst hp
    exact ⟨by decide, by kernel_rfl, _, .int _ t1, .inl i1⟩
theorem ints_vr {w : World} {F : Frz} {ρ : Nat → Option Addr} : ∀ {vs : List Value} {ns : List Int}, IntsAre vs ns → vs.length = (ns.map MV.int).length ∧ ∀ (i : Nat) (x : MV) (v : Value), (ns.map MV.int)[i]? = some x → vs[i]? = some v → VR w F ρ x v
  | _, _, .nil => ⟨rfl, fun i x v h => by simp at h⟩
  | _, _, .cons n t h => by
    obtain ⟨h1, h2⟩ := ints_vr h
    refine ⟨by simp [h1], fun i x v e1 e2 => ?_⟩
    cases i with
    | zero =>
      simp only [List.map_cons, List.getElem?_cons_zero, Option.some.injEq] at e1 e2
      subst e1; subst e2; exact .int n t
    | succ i => exact h2 i x v (by simpa using e1) (by simpa using e2)
theorem walk_law {w : World} {s₀ s₁ : Shared} {a : Addr} {vs : List Value} {ns : List Int} (y : obsL s₀ = valL w) (keep : ∀ b o, s₀.heap.get? b = some o → s₁.heap.get? b = some o) (ha : a = s₀.heap.objs.size)
    (hL : s₁.heap.get? a = some { cls := .type "list", data := .seq vs.toArray }) (hI : IntsAre vs ns) (hn : ns.length ≤ 63) (ht : s₀.toks ≤ s₁.toks) :
    wpAny (model pr w) callerA (call (.ref 184) [.ref a]) (fun v s' => v = .bool true ∧ OldK s₁.heap s'.heap ∧ s'.os = s₁.os ∧ s'.gens = s₁.gens) (fun _ _ => False) s₁ := by
  have kB : ∀ b o, b ≠ 124 → s₀.heap.get? b = some o → (noTab s₁.heap).get? b = some o := fun b o q e => by rw [noTab_ne q]; exact keep b o e
  obtain ⟨D, hf, h124, _⟩ := defs_of (hB := noTab s₁.heap) y kB
  have hcd := D.d_lx.hd
  simp only [obsL, valL, Prod.mk.injEq] at y
  have hsz : a = 185 := ha.trans y.1
  have htk : s₀.toks = 598 := y.2.1
  obtain ⟨hl, hv⟩ := ints_vr (w := w) (F := fun b => (noTab s₁.heap).get? b) (ρ := noρ) hI
  have h124' := keep _ _ h124
  refine wpAny_call (xf_law D hf (ns := ns) (by (first | exact o287 hn | omega)) lawD callerA (fun b => (noTab s₁.heap).get? b) s₁ [.ref a] [124] _ (by decide) (by decide) rfl (by (first | exact o288 ht y | omega)) (fun _ _ e => e) (fun b o e => noTab_sub e) ?_ ⟨rfl, h124'⟩ (by simp) (fun b hb => ?_) (fun b hb => ?_) fun mv v h' tk F' e' hP htk' hk hl' hS hF' hnn hvr hr => ?_)
  · refine VRs.cons (.list a _ vs 0 ?_ hl hv) VRs.nil
    show (noTab s₁.heap).get? a = _
    rw [noTab_ne (b := a) (by rw [hsz]; decide)]; exact hL
  · simp at hb; subst hb; exact noTab_at
  · simp at hb; subst hb; exact ⟨_, h124'⟩
  · obtain ⟨rfl, o0, rfl⟩ := hP
    cases hvr
    obtain ⟨ps', h2⟩ : ∃ ps', h'.get? 124 = some (tabObj ps') := by
      have hr2 : tabIs F' o0 (h'.get? 124) := hr.2
      cases o0 with
      | none => exact ⟨_, hr2⟩
      | some p => exact ⟨_, hr2.1⟩
    refine ⟨rfl, ⟨fun b o e => ?_, fun b o e => ?_⟩, rfl, rfl⟩
    · by_cases q : b = 124
      · subst q
        rw [h124'] at e; cases e
        obtain ⟨o, vs', _, _, _, _, _, _, _, c1, c2, c3, c4, _⟩ := hcd
        exact .inr (.inl ⟨⟨128, o, vs', noTab_sub c1, c2, c3, c4⟩, rfl, #[], ps', rfl, by rw [h2]; simp⟩)
      · exact .inl (hk b o (by simpa using q) e)
    · by_cases q : b = 124
      · subst q; exact ⟨_, h2⟩
      · exact ⟨o, hk b o (by simpa using q) e⟩
end Mine
open PySem.W.X
set_option maxHeartbeats 4000000 in
theorem PySem.Challenge.cw_st0028_01_holds : PySem.Challenge.rw_st0028_01.Holds := by
  w_on
  refine holds_law Mine.saidL fun said => ?_
  refine holds_openX (q := Mine.qv) (loose := Mine.looseN) (Xt := Mine.XtL) (XP := XL Mine.qv []) (Yf := Mine.obsL) (Ya := Mine.valL) (N := 4816) Mine.leftL (fun s e => xl_of s (Bool.and_eq_true_iff.mp e).1) XL.keeps (by rfl) (by rfl) (by rfl) (fun s e => recFacts_of (Bool.and_eq_true_iff.mp e).2) (by rfl) (by assumption) (by decide +kernel) ⟨rfl, rfl, rfl, rfl, rfl, by decide +kernel⟩ ?hw ?hc
  case hw => w_witness2
  case hc =>
    intro w s₀ s₁ mg mb G y fa o pm cd doc dV kV ho hd hcd hD hmg hg args vals as L hpre hlay hrd hwl hlo
    have hmg : mg (Str.ofString "law") = some (.ref fa) := hmg
    have hfa : fa = 184 := by
      have h1 := G.T.g.eq_nsMap
      have h2 := (Heap.Ns.keeps (Heap.Ns.of_isNs (h := s₀.heap) (a := mainGlobals) (congrArg (fun x : Mine.ObsT => x.2.2.2.2.2.2.1.getD 0 false) y)) L.keeps).eq_nsMap
      have h3 := (Mine.defs_of (hB := Mine.noTab s₁.heap) y (fun b o q e => by rw [Mine.noTab_ne q]; exact L.keeps b o e)).2.2.2
      rw [h2, ← h1] at h3
      have h3 : mg (Str.ofString "law") = some (.ref 184) := h3
      rw [hmg] at h3
      cases h3; rfl
    subst hfa
    clear G hD hd ho hcd hmg
    wrow_args hpre hlay hrd hwl hlo
    obtain ⟨hat, hsz⟩ := script_at L
    refine wpAny_mono (Mine.walk_law y L.keeps hat (script_obj L (by assumption)) (by assumption) (by (first | exact o289 (by assumption) | omega)) (script_toks L rfl)) (fun v s' h => ?_) (fun _ _ h => h.elim)
    obtain ⟨rfl, h1, h2, h3⟩ := h
    exact ⟨.inl ⟨.bool true, _, [], rfl, raisesW_false (by wrow_none_raised), .bool true, (by first | rfl | wrow_post), fun _ => ⟨.nil, fun a ha => by cases ha⟩⟩, h1, h2, .of_eq (h3.trans hg)⟩
