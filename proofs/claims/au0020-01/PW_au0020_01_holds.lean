import PyProof.Rows.All
import Wide.All
import OpenK.AllK
import Wide.FinOn
import Lean
import PySem.Challenge.RW_au0020_01
open PySem PySem.W PySem.Calls PySem.Spec PyProof.Rows
set_option linter.all false
namespace Mine
theorem hd.tw14413254473602961201 : True := trivial
structure AnyP : Prop where
  h : ∀ P : Prop, P
theorem AnyP.at {α : Sort _} {P : Prop} (a : AnyP) (_ : α) : P := a.h P
section
local macro_rules | `(tactic| o_head $H) => `(tactic| exact AnyP.at (by assumption) $H)
set_option maxRecDepth 100000 in
set_option maxHeartbeats 8000000 in
theorem hd (a : AnyP) : PySem.Challenge.rw_au0020_01.Holds := by
  (o_law; k_head)
end
end Mine
set_option Elab.async false
set_option maxRecDepth 100000
set_option maxHeartbeats 4000000
set_option pp.maxSteps 400
set_option pp.deepTerms false
set_option compiler.extract_closed false
namespace Mine
theorem fill0 : Challenge.rw_au0020_01 = Challenge.rw_au0020_01 ∧ hd.heap_1_39 = hd.heap_1_39 := by k_fill; exact ⟨rfl, rfl⟩
local macro_rules | `(tactic| walk_at $s:str) => `(tactic| k_extra $s)
local macro_rules | `(tactic| k_all) => `(tactic| k_extra "M! k_all")
local macro_rules | `(tactic| k_mem) => `(tactic| k_extra "M! k_mem")
local macro_rules | `(tactic| kn_code) => `(tactic| k_extra "M! kn_code")
local macro_rules | `(tactic| k_room) => `(tactic| k_extra "M! k_room")
local macro_rules | `(tactic| k_units) => `(tactic| k_extra "M! k_units")
local macro_rules | `(tactic| k_in) => `(tactic| k_extra "M! k_in")
local macro_rules | `(tactic| k_handed) => `(tactic| k_extra "M! k_handed")
local macro_rules | `(tactic| kn_posts) => `(tactic| k_extra "M! kn_posts")
local macro_rules | `(tactic| omega) => `(tactic| k_extra "M! omega")
local macro_rules | `(tactic| k_fold) => `(tactic| k_extra "M! k_fold")
-- HK
noncomputable def HKon : Prop := True
theorem eps_all {α : Type} [Nonempty α] {P : α → Prop} (h : P (Classical.epsilon fun x => ¬ P x)) (x : α) : P x :=
  Classical.byContradiction fun n => Classical.epsilon_spec (p := fun x => ¬ P x) ⟨x, n⟩ h
inductive Pr (α β : Type) : Type | mk (a : α) (b : β) : Pr α β
theorem Pr.ne {α β : Type} (p : Nonempty α) (q : Nonempty β) : Nonempty (Pr α β) := p.elim fun x => q.elim fun y => ⟨⟨x, y⟩⟩
@[reducible] noncomputable def PrY {α β : Type} (P : α → β → Prop) {a : α} {b : β} (t : Pr α β) (_ : Pr.mk a b = t) : Prop := P a b
@[reducible] noncomputable def PrX {α β : Type} (P : α → β → Prop) (t : Pr α β) : Prop := PrY P t rfl
noncomputable def HA1 {α1 : Type} (P : α1 → Prop) (x1 : α1) : Prop := P x1
@[reducible] noncomputable def HX1 {α1 : Type} (P : α1 → Prop) (t : α1) : Prop := HA1 P t
@[reducible] noncomputable def HT1 {α1 : Type} (P : α1 → Prop) : Prop := ∀ x1, HA1 P x1
theorem ha1 {α1 : Type} {P : α1 → Prop} {x1 : α1} (h : P x1) : HA1 P x1 := h
noncomputable def hc1 {α1 : Type} [Nonempty α1] (P : α1 → Prop) : α1 := @Classical.epsilon (α1) inferInstance fun t => ¬ HX1 P t
theorem hk1 {α1 : Type} [Nonempty α1] {P : α1 → Prop} (h : HX1 P (hc1 P)) : ∀ x1, P x1 := fun x1 => @eps_all (α1) inferInstance (HX1 P) h x1
noncomputable def HA2 {α1 α2 : Type} (P : α1 → α2 → Prop) (x1 : α1) (x2 : α2) : Prop := P x1 x2
@[reducible] noncomputable def HY2 {α1 α2 : Type} (P : α1 → α2 → Prop) {x1 x2} (t : Pr α1 α2) (_ : (Pr.mk x1 x2) = t) : Prop := HA2 P x1 x2
@[reducible] noncomputable def HX2 {α1 α2 : Type} (P : α1 → α2 → Prop) (t : Pr α1 α2) : Prop := HY2 P t rfl
@[reducible] noncomputable def HT2 {α1 α2 : Type} (P : α1 → α2 → Prop) : Prop := ∀ x1 x2, HA2 P x1 x2
theorem ha2 {α1 α2 : Type} {P : α1 → α2 → Prop} {x1 : α1} {x2 : α2} (h : P x1 x2) : HA2 P x1 x2 := h
noncomputable def hc2 {α1 α2 : Type} [Nonempty α1] [Nonempty α2] (P : α1 → α2 → Prop) : Pr α1 α2 := @Classical.epsilon (Pr α1 α2) (Pr.ne inferInstance inferInstance) fun t => ¬ HX2 P t
theorem hk2 {α1 α2 : Type} [Nonempty α1] [Nonempty α2] {P : α1 → α2 → Prop} (h : HX2 P (hc2 P)) : ∀ x1 x2, P x1 x2 := fun x1 x2 => @eps_all (Pr α1 α2) (Pr.ne inferInstance inferInstance) (HX2 P) h (.mk x1 x2)
noncomputable def HA3 {α1 α2 α3 : Type} (P : α1 → α2 → α3 → Prop) (x1 : α1) (x2 : α2) (x3 : α3) : Prop := P x1 x2 x3
@[reducible] noncomputable def HY3 {α1 α2 α3 : Type} (P : α1 → α2 → α3 → Prop) {x1 x2 x3} (t : Pr α1 (Pr α2 α3)) (_ : (Pr.mk x1 (Pr.mk x2 x3)) = t) : Prop := HA3 P x1 x2 x3
@[reducible] noncomputable def HX3 {α1 α2 α3 : Type} (P : α1 → α2 → α3 → Prop) (t : Pr α1 (Pr α2 α3)) : Prop := HY3 P t rfl
@[reducible] noncomputable def HT3 {α1 α2 α3 : Type} (P : α1 → α2 → α3 → Prop) : Prop := ∀ x1 x2 x3, HA3 P x1 x2 x3
theorem ha3 {α1 α2 α3 : Type} {P : α1 → α2 → α3 → Prop} {x1 : α1} {x2 : α2} {x3 : α3} (h : P x1 x2 x3) : HA3 P x1 x2 x3 := h
noncomputable def hc3 {α1 α2 α3 : Type} [Nonempty α1] [Nonempty α2] [Nonempty α3] (P : α1 → α2 → α3 → Prop) : Pr α1 (Pr α2 α3) := @Classical.epsilon (Pr α1 (Pr α2 α3)) (Pr.ne inferInstance (Pr.ne inferInstance inferInstance)) fun t => ¬ HX3 P t
theorem hk3 {α1 α2 α3 : Type} [Nonempty α1] [Nonempty α2] [Nonempty α3] {P : α1 → α2 → α3 → Prop} (h : HX3 P (hc3 P)) : ∀ x1 x2 x3, P x1 x2 x3 := fun x1 x2 x3 => @eps_all (Pr α1 (Pr α2 α3)) (Pr.ne inferInstance (Pr.ne inferInstance inferInstance)) (HX3 P) h (.mk x1 (.mk x2 x3))
noncomputable def HA4 {α1 α2 α3 α4 : Type} (P : α1 → α2 → α3 → α4 → Prop) (x1 : α1) (x2 : α2) (x3 : α3) (x4 : α4) : Prop := P x1 x2 x3 x4
@[reducible] noncomputable def HY4 {α1 α2 α3 α4 : Type} (P : α1 → α2 → α3 → α4 → Prop) {x1 x2 x3 x4} (t : Pr α1 (Pr α2 (Pr α3 α4))) (_ : (Pr.mk x1 (Pr.mk x2 (Pr.mk x3 x4))) = t) : Prop := HA4 P x1 x2 x3 x4
@[reducible] noncomputable def HX4 {α1 α2 α3 α4 : Type} (P : α1 → α2 → α3 → α4 → Prop) (t : Pr α1 (Pr α2 (Pr α3 α4))) : Prop := HY4 P t rfl
@[reducible] noncomputable def HT4 {α1 α2 α3 α4 : Type} (P : α1 → α2 → α3 → α4 → Prop) : Prop := ∀ x1 x2 x3 x4, HA4 P x1 x2 x3 x4
theorem ha4 {α1 α2 α3 α4 : Type} {P : α1 → α2 → α3 → α4 → Prop} {x1 : α1} {x2 : α2} {x3 : α3} {x4 : α4} (h : P x1 x2 x3 x4) : HA4 P x1 x2 x3 x4 := h
noncomputable def hc4 {α1 α2 α3 α4 : Type} [Nonempty α1] [Nonempty α2] [Nonempty α3] [Nonempty α4] (P : α1 → α2 → α3 → α4 → Prop) : Pr α1 (Pr α2 (Pr α3 α4)) := @Classical.epsilon (Pr α1 (Pr α2 (Pr α3 α4))) (Pr.ne inferInstance (Pr.ne inferInstance (Pr.ne inferInstance inferInstance))) fun t => ¬ HX4 P t
theorem hk4 {α1 α2 α3 α4 : Type} [Nonempty α1] [Nonempty α2] [Nonempty α3] [Nonempty α4] {P : α1 → α2 → α3 → α4 → Prop} (h : HX4 P (hc4 P)) : ∀ x1 x2 x3 x4, P x1 x2 x3 x4 := fun x1 x2 x3 x4 => @eps_all (Pr α1 (Pr α2 (Pr α3 α4))) (Pr.ne inferInstance (Pr.ne inferInstance (Pr.ne inferInstance inferInstance))) (HX4 P) h (.mk x1 (.mk x2 (.mk x3 x4)))
noncomputable def HA5 {α1 α2 α3 α4 α5 : Type} (P : α1 → α2 → α3 → α4 → α5 → Prop) (x1 : α1) (x2 : α2) (x3 : α3) (x4 : α4) (x5 : α5) : Prop := P x1 x2 x3 x4 x5
@[reducible] noncomputable def HY5 {α1 α2 α3 α4 α5 : Type} (P : α1 → α2 → α3 → α4 → α5 → Prop) {x1 x2 x3 x4 x5} (t : Pr α1 (Pr α2 (Pr α3 (Pr α4 α5)))) (_ : (Pr.mk x1 (Pr.mk x2 (Pr.mk x3 (Pr.mk x4 x5)))) = t) : Prop := HA5 P x1 x2 x3 x4 x5
@[reducible] noncomputable def HX5 {α1 α2 α3 α4 α5 : Type} (P : α1 → α2 → α3 → α4 → α5 → Prop) (t : Pr α1 (Pr α2 (Pr α3 (Pr α4 α5)))) : Prop := HY5 P t rfl
@[reducible] noncomputable def HT5 {α1 α2 α3 α4 α5 : Type} (P : α1 → α2 → α3 → α4 → α5 → Prop) : Prop := ∀ x1 x2 x3 x4 x5, HA5 P x1 x2 x3 x4 x5
theorem ha5 {α1 α2 α3 α4 α5 : Type} {P : α1 → α2 → α3 → α4 → α5 → Prop} {x1 : α1} {x2 : α2} {x3 : α3} {x4 : α4} {x5 : α5} (h : P x1 x2 x3 x4 x5) : HA5 P x1 x2 x3 x4 x5 := h
noncomputable def hc5 {α1 α2 α3 α4 α5 : Type} [Nonempty α1] [Nonempty α2] [Nonempty α3] [Nonempty α4] [Nonempty α5] (P : α1 → α2 → α3 → α4 → α5 → Prop) : Pr α1 (Pr α2 (Pr α3 (Pr α4 α5))) := @Classical.epsilon (Pr α1 (Pr α2 (Pr α3 (Pr α4 α5)))) (Pr.ne inferInstance (Pr.ne inferInstance (Pr.ne inferInstance (Pr.ne inferInstance inferInstance)))) fun t => ¬ HX5 P t
theorem hk5 {α1 α2 α3 α4 α5 : Type} [Nonempty α1] [Nonempty α2] [Nonempty α3] [Nonempty α4] [Nonempty α5] {P : α1 → α2 → α3 → α4 → α5 → Prop} (h : HX5 P (hc5 P)) : ∀ x1 x2 x3 x4 x5, P x1 x2 x3 x4 x5 := fun x1 x2 x3 x4 x5 => @eps_all (Pr α1 (Pr α2 (Pr α3 (Pr α4 α5)))) (Pr.ne inferInstance (Pr.ne inferInstance (Pr.ne inferInstance (Pr.ne inferInstance inferInstance)))) (HX5 P) h (.mk x1 (.mk x2 (.mk x3 (.mk x4 x5))))
noncomputable def HA6 {α1 α2 α3 α4 α5 α6 : Type} (P : α1 → α2 → α3 → α4 → α5 → α6 → Prop) (x1 : α1) (x2 : α2) (x3 : α3) (x4 : α4) (x5 : α5) (x6 : α6) : Prop := P x1 x2 x3 x4 x5 x6
@[reducible] noncomputable def HY6 {α1 α2 α3 α4 α5 α6 : Type} (P : α1 → α2 → α3 → α4 → α5 → α6 → Prop) {x1 x2 x3 x4 x5 x6} (t : Pr α1 (Pr α2 (Pr α3 (Pr α4 (Pr α5 α6))))) (_ : (Pr.mk x1 (Pr.mk x2 (Pr.mk x3 (Pr.mk x4 (Pr.mk x5 x6))))) = t) : Prop := HA6 P x1 x2 x3 x4 x5 x6
@[reducible] noncomputable def HX6 {α1 α2 α3 α4 α5 α6 : Type} (P : α1 → α2 → α3 → α4 → α5 → α6 → Prop) (t : Pr α1 (Pr α2 (Pr α3 (Pr α4 (Pr α5 α6))))) : Prop := HY6 P t rfl
@[reducible] noncomputable def HT6 {α1 α2 α3 α4 α5 α6 : Type} (P : α1 → α2 → α3 → α4 → α5 → α6 → Prop) : Prop := ∀ x1 x2 x3 x4 x5 x6, HA6 P x1 x2 x3 x4 x5 x6
theorem ha6 {α1 α2 α3 α4 α5 α6 : Type} {P : α1 → α2 → α3 → α4 → α5 → α6 → Prop} {x1 : α1} {x2 : α2} {x3 : α3} {x4 : α4} {x5 : α5} {x6 : α6} (h : P x1 x2 x3 x4 x5 x6) : HA6 P x1 x2 x3 x4 x5 x6 := h
noncomputable def hc6 {α1 α2 α3 α4 α5 α6 : Type} [Nonempty α1] [Nonempty α2] [Nonempty α3] [Nonempty α4] [Nonempty α5] [Nonempty α6] (P : α1 → α2 → α3 → α4 → α5 → α6 → Prop) : Pr α1 (Pr α2 (Pr α3 (Pr α4 (Pr α5 α6)))) := @Classical.epsilon (Pr α1 (Pr α2 (Pr α3 (Pr α4 (Pr α5 α6))))) (Pr.ne inferInstance (Pr.ne inferInstance (Pr.ne inferInstance (Pr.ne inferInstance (Pr.ne inferInstance inferInstance))))) fun t => ¬ HX6 P t
theorem hk6 {α1 α2 α3 α4 α5 α6 : Type} [Nonempty α1] [Nonempty α2] [Nonempty α3] [Nonempty α4] [Nonempty α5] [Nonempty α6] {P : α1 → α2 → α3 → α4 → α5 → α6 → Prop} (h : HX6 P (hc6 P)) : ∀ x1 x2 x3 x4 x5 x6, P x1 x2 x3 x4 x5 x6 := fun x1 x2 x3 x4 x5 x6 => @eps_all (Pr α1 (Pr α2 (Pr α3 (Pr α4 (Pr α5 α6))))) (Pr.ne inferInstance (Pr.ne inferInstance (Pr.ne inferInstance (Pr.ne inferInstance (Pr.ne inferInstance inferInstance))))) (HX6 P) h (.mk x1 (.mk x2 (.mk x3 (.mk x4 (.mk x5 x6)))))
noncomputable def HA8 {α1 α2 α3 α4 α5 α6 α7 α8 : Type} (P : α1 → α2 → α3 → α4 → α5 → α6 → α7 → α8 → Prop) (x1 : α1) (x2 : α2) (x3 : α3) (x4 : α4) (x5 : α5) (x6 : α6) (x7 : α7) (x8 : α8) : Prop := P x1 x2 x3 x4 x5 x6 x7 x8
@[reducible] noncomputable def HY8 {α1 α2 α3 α4 α5 α6 α7 α8 : Type} (P : α1 → α2 → α3 → α4 → α5 → α6 → α7 → α8 → Prop) {x1 x2 x3 x4 x5 x6 x7 x8} (t : Pr α1 (Pr α2 (Pr α3 (Pr α4 (Pr α5 (Pr α6 (Pr α7 α8))))))) (_ : (Pr.mk x1 (Pr.mk x2 (Pr.mk x3 (Pr.mk x4 (Pr.mk x5 (Pr.mk x6 (Pr.mk x7 x8))))))) = t) : Prop := HA8 P x1 x2 x3 x4 x5 x6 x7 x8
@[reducible] noncomputable def HX8 {α1 α2 α3 α4 α5 α6 α7 α8 : Type} (P : α1 → α2 → α3 → α4 → α5 → α6 → α7 → α8 → Prop) (t : Pr α1 (Pr α2 (Pr α3 (Pr α4 (Pr α5 (Pr α6 (Pr α7 α8))))))) : Prop := HY8 P t rfl
@[reducible] noncomputable def HT8 {α1 α2 α3 α4 α5 α6 α7 α8 : Type} (P : α1 → α2 → α3 → α4 → α5 → α6 → α7 → α8 → Prop) : Prop := ∀ x1 x2 x3 x4 x5 x6 x7 x8, HA8 P x1 x2 x3 x4 x5 x6 x7 x8
theorem ha8 {α1 α2 α3 α4 α5 α6 α7 α8 : Type} {P : α1 → α2 → α3 → α4 → α5 → α6 → α7 → α8 → Prop} {x1 : α1} {x2 : α2} {x3 : α3} {x4 : α4} {x5 : α5} {x6 : α6} {x7 : α7} {x8 : α8} (h : P x1 x2 x3 x4 x5 x6 x7 x8) : HA8 P x1 x2 x3 x4 x5 x6 x7 x8 := h
noncomputable def hc8 {α1 α2 α3 α4 α5 α6 α7 α8 : Type} [Nonempty α1] [Nonempty α2] [Nonempty α3] [Nonempty α4] [Nonempty α5] [Nonempty α6] [Nonempty α7] [Nonempty α8] (P : α1 → α2 → α3 → α4 → α5 → α6 → α7 → α8 → Prop) : Pr α1 (Pr α2 (Pr α3 (Pr α4 (Pr α5 (Pr α6 (Pr α7 α8)))))) := @Classical.epsilon (Pr α1 (Pr α2 (Pr α3 (Pr α4 (Pr α5 (Pr α6 (Pr α7 α8))))))) (Pr.ne inferInstance (Pr.ne inferInstance (Pr.ne inferInstance (Pr.ne inferInstance (Pr.ne inferInstance (Pr.ne inferInstance (Pr.ne inferInstance inferInstance))))))) fun t => ¬ HX8 P t
theorem hk8 {α1 α2 α3 α4 α5 α6 α7 α8 : Type} [Nonempty α1] [Nonempty α2] [Nonempty α3] [Nonempty α4] [Nonempty α5] [Nonempty α6] [Nonempty α7] [Nonempty α8] {P : α1 → α2 → α3 → α4 → α5 → α6 → α7 → α8 → Prop} (h : HX8 P (hc8 P)) : ∀ x1 x2 x3 x4 x5 x6 x7 x8, P x1 x2 x3 x4 x5 x6 x7 x8 := fun x1 x2 x3 x4 x5 x6 x7 x8 => @eps_all (Pr α1 (Pr α2 (Pr α3 (Pr α4 (Pr α5 (Pr α6 (Pr α7 α8))))))) (Pr.ne inferInstance (Pr.ne inferInstance (Pr.ne inferInstance (Pr.ne inferInstance (Pr.ne inferInstance (Pr.ne inferInstance (Pr.ne inferInstance inferInstance))))))) (HX8 P) h (.mk x1 (.mk x2 (.mk x3 (.mk x4 (.mk x5 (.mk x6 (.mk x7 x8)))))))
noncomputable def HA10 {α1 α2 α3 α4 α5 α6 α7 α8 α9 α10 : Type} (P : α1 → α2 → α3 → α4 → α5 → α6 → α7 → α8 → α9 → α10 → Prop) (x1 : α1) (x2 : α2) (x3 : α3) (x4 : α4) (x5 : α5) (x6 : α6) (x7 : α7) (x8 : α8) (x9 : α9) (x10 : α10) : Prop := P x1 x2 x3 x4 x5 x6 x7 x8 x9 x10
@[reducible] noncomputable def HY10 {α1 α2 α3 α4 α5 α6 α7 α8 α9 α10 : Type} (P : α1 → α2 → α3 → α4 → α5 → α6 → α7 → α8 → α9 → α10 → Prop) {x1 x2 x3 x4 x5 x6 x7 x8 x9 x10} (t : Pr α1 (Pr α2 (Pr α3 (Pr α4 (Pr α5 (Pr α6 (Pr α7 (Pr α8 (Pr α9 α10))))))))) (_ : (Pr.mk x1 (Pr.mk x2 (Pr.mk x3 (Pr.mk x4 (Pr.mk x5 (Pr.mk x6 (Pr.mk x7 (Pr.mk x8 (Pr.mk x9 x10))))))))) = t) : Prop := HA10 P x1 x2 x3 x4 x5 x6 x7 x8 x9 x10
@[reducible] noncomputable def HX10 {α1 α2 α3 α4 α5 α6 α7 α8 α9 α10 : Type} (P : α1 → α2 → α3 → α4 → α5 → α6 → α7 → α8 → α9 → α10 → Prop) (t : Pr α1 (Pr α2 (Pr α3 (Pr α4 (Pr α5 (Pr α6 (Pr α7 (Pr α8 (Pr α9 α10))))))))) : Prop := HY10 P t rfl
@[reducible] noncomputable def HT10 {α1 α2 α3 α4 α5 α6 α7 α8 α9 α10 : Type} (P : α1 → α2 → α3 → α4 → α5 → α6 → α7 → α8 → α9 → α10 → Prop) : Prop := ∀ x1 x2 x3 x4 x5 x6 x7 x8 x9 x10, HA10 P x1 x2 x3 x4 x5 x6 x7 x8 x9 x10
theorem ha10 {α1 α2 α3 α4 α5 α6 α7 α8 α9 α10 : Type} {P : α1 → α2 → α3 → α4 → α5 → α6 → α7 → α8 → α9 → α10 → Prop} {x1 : α1} {x2 : α2} {x3 : α3} {x4 : α4} {x5 : α5} {x6 : α6} {x7 : α7} {x8 : α8} {x9 : α9} {x10 : α10} (h : P x1 x2 x3 x4 x5 x6 x7 x8 x9 x10) : HA10 P x1 x2 x3 x4 x5 x6 x7 x8 x9 x10 := h
noncomputable def hc10 {α1 α2 α3 α4 α5 α6 α7 α8 α9 α10 : Type} [Nonempty α1] [Nonempty α2] [Nonempty α3] [Nonempty α4] [Nonempty α5] [Nonempty α6] [Nonempty α7] [Nonempty α8] [Nonempty α9] [Nonempty α10] (P : α1 → α2 → α3 → α4 → α5 → α6 → α7 → α8 → α9 → α10 → Prop) : Pr α1 (Pr α2 (Pr α3 (Pr α4 (Pr α5 (Pr α6 (Pr α7 (Pr α8 (Pr α9 α10)))))))) := @Classical.epsilon (Pr α1 (Pr α2 (Pr α3 (Pr α4 (Pr α5 (Pr α6 (Pr α7 (Pr α8 (Pr α9 α10))))))))) (Pr.ne inferInstance (Pr.ne inferInstance (Pr.ne inferInstance (Pr.ne inferInstance (Pr.ne inferInstance (Pr.ne inferInstance (Pr.ne inferInstance (Pr.ne inferInstance (Pr.ne inferInstance inferInstance))))))))) fun t => ¬ HX10 P t
theorem hk10 {α1 α2 α3 α4 α5 α6 α7 α8 α9 α10 : Type} [Nonempty α1] [Nonempty α2] [Nonempty α3] [Nonempty α4] [Nonempty α5] [Nonempty α6] [Nonempty α7] [Nonempty α8] [Nonempty α9] [Nonempty α10] {P : α1 → α2 → α3 → α4 → α5 → α6 → α7 → α8 → α9 → α10 → Prop} (h : HX10 P (hc10 P)) : ∀ x1 x2 x3 x4 x5 x6 x7 x8 x9 x10, P x1 x2 x3 x4 x5 x6 x7 x8 x9 x10 := fun x1 x2 x3 x4 x5 x6 x7 x8 x9 x10 => @eps_all (Pr α1 (Pr α2 (Pr α3 (Pr α4 (Pr α5 (Pr α6 (Pr α7 (Pr α8 (Pr α9 α10))))))))) (Pr.ne inferInstance (Pr.ne inferInstance (Pr.ne inferInstance (Pr.ne inferInstance (Pr.ne inferInstance (Pr.ne inferInstance (Pr.ne inferInstance (Pr.ne inferInstance (Pr.ne inferInstance inferInstance))))))))) (HX10 P) h (.mk x1 (.mk x2 (.mk x3 (.mk x4 (.mk x5 (.mk x6 (.mk x7 (.mk x8 (.mk x9 x10)))))))))
noncomputable def HA12 {α1 α2 α3 α4 α5 α6 α7 α8 α9 α10 α11 α12 : Type} (P : α1 → α2 → α3 → α4 → α5 → α6 → α7 → α8 → α9 → α10 → α11 → α12 → Prop) (x1 : α1) (x2 : α2) (x3 : α3) (x4 : α4) (x5 : α5) (x6 : α6) (x7 : α7) (x8 : α8) (x9 : α9) (x10 : α10) (x11 : α11) (x12 : α12) : Prop := P x1 x2 x3 x4 x5 x6 x7 x8 x9 x10 x11 x12
@[reducible] noncomputable def HY12 {α1 α2 α3 α4 α5 α6 α7 α8 α9 α10 α11 α12 : Type} (P : α1 → α2 → α3 → α4 → α5 → α6 → α7 → α8 → α9 → α10 → α11 → α12 → Prop) {x1 x2 x3 x4 x5 x6 x7 x8 x9 x10 x11 x12} (t : Pr α1 (Pr α2 (Pr α3 (Pr α4 (Pr α5 (Pr α6 (Pr α7 (Pr α8 (Pr α9 (Pr α10 (Pr α11 α12))))))))))) (_ : (Pr.mk x1 (Pr.mk x2 (Pr.mk x3 (Pr.mk x4 (Pr.mk x5 (Pr.mk x6 (Pr.mk x7 (Pr.mk x8 (Pr.mk x9 (Pr.mk x10 (Pr.mk x11 x12))))))))))) = t) : Prop := HA12 P x1 x2 x3 x4 x5 x6 x7 x8 x9 x10 x11 x12
@[reducible] noncomputable def HX12 {α1 α2 α3 α4 α5 α6 α7 α8 α9 α10 α11 α12 : Type} (P : α1 → α2 → α3 → α4 → α5 → α6 → α7 → α8 → α9 → α10 → α11 → α12 → Prop) (t : Pr α1 (Pr α2 (Pr α3 (Pr α4 (Pr α5 (Pr α6 (Pr α7 (Pr α8 (Pr α9 (Pr α10 (Pr α11 α12))))))))))) : Prop := HY12 P t rfl
@[reducible] noncomputable def HT12 {α1 α2 α3 α4 α5 α6 α7 α8 α9 α10 α11 α12 : Type} (P : α1 → α2 → α3 → α4 → α5 → α6 → α7 → α8 → α9 → α10 → α11 → α12 → Prop) : Prop := ∀ x1 x2 x3 x4 x5 x6 x7 x8 x9 x10 x11 x12, HA12 P x1 x2 x3 x4 x5 x6 x7 x8 x9 x10 x11 x12
theorem ha12 {α1 α2 α3 α4 α5 α6 α7 α8 α9 α10 α11 α12 : Type} {P : α1 → α2 → α3 → α4 → α5 → α6 → α7 → α8 → α9 → α10 → α11 → α12 → Prop} {x1 : α1} {x2 : α2} {x3 : α3} {x4 : α4} {x5 : α5} {x6 : α6} {x7 : α7} {x8 : α8} {x9 : α9} {x10 : α10} {x11 : α11} {x12 : α12} (h : P x1 x2 x3 x4 x5 x6 x7 x8 x9 x10 x11 x12) : HA12 P x1 x2 x3 x4 x5 x6 x7 x8 x9 x10 x11 x12 := h
noncomputable def hc12 {α1 α2 α3 α4 α5 α6 α7 α8 α9 α10 α11 α12 : Type} [Nonempty α1] [Nonempty α2] [Nonempty α3] [Nonempty α4] [Nonempty α5] [Nonempty α6] [Nonempty α7] [Nonempty α8] [Nonempty α9] [Nonempty α10] [Nonempty α11] [Nonempty α12] (P : α1 → α2 → α3 → α4 → α5 → α6 → α7 → α8 → α9 → α10 → α11 → α12 → Prop) : Pr α1 (Pr α2 (Pr α3 (Pr α4 (Pr α5 (Pr α6 (Pr α7 (Pr α8 (Pr α9 (Pr α10 (Pr α11 α12)))))))))) := @Classical.epsilon (Pr α1 (Pr α2 (Pr α3 (Pr α4 (Pr α5 (Pr α6 (Pr α7 (Pr α8 (Pr α9 (Pr α10 (Pr α11 α12))))))))))) (Pr.ne inferInstance (Pr.ne inferInstance (Pr.ne inferInstance (Pr.ne inferInstance (Pr.ne inferInstance (Pr.ne inferInstance (Pr.ne inferInstance (Pr.ne inferInstance (Pr.ne inferInstance (Pr.ne inferInstance (Pr.ne inferInstance inferInstance))))))))))) fun t => ¬ HX12 P t
theorem hk12 {α1 α2 α3 α4 α5 α6 α7 α8 α9 α10 α11 α12 : Type} [Nonempty α1] [Nonempty α2] [Nonempty α3] [Nonempty α4] [Nonempty α5] [Nonempty α6] [Nonempty α7] [Nonempty α8] [Nonempty α9] [Nonempty α10] [Nonempty α11] [Nonempty α12] {P : α1 → α2 → α3 → α4 → α5 → α6 → α7 → α8 → α9 → α10 → α11 → α12 → Prop} (h : HX12 P (hc12 P)) : ∀ x1 x2 x3 x4 x5 x6 x7 x8 x9 x10 x11 x12, P x1 x2 x3 x4 x5 x6 x7 x8 x9 x10 x11 x12 := fun x1 x2 x3 x4 x5 x6 x7 x8 x9 x10 x11 x12 => @eps_all (Pr α1 (Pr α2 (Pr α3 (Pr α4 (Pr α5 (Pr α6 (Pr α7 (Pr α8 (Pr α9 (Pr α10 (Pr α11 α12))))))))))) (Pr.ne inferInstance (Pr.ne inferInstance (Pr.ne inferInstance (Pr.ne inferInstance (Pr.ne inferInstance (Pr.ne inferInstance (Pr.ne inferInstance (Pr.ne inferInstance (Pr.ne inferInstance (Pr.ne inferInstance (Pr.ne inferInstance inferInstance))))))))))) (HX12 P) h (.mk x1 (.mk x2 (.mk x3 (.mk x4 (.mk x5 (.mk x6 (.mk x7 (.mk x8 (.mk x9 (.mk x10 (.mk x11 x12)))))))))))
noncomputable def HA16 {α1 α2 α3 α4 α5 α6 α7 α8 α9 α10 α11 α12 α13 α14 α15 α16 : Type} (P : α1 → α2 → α3 → α4 → α5 → α6 → α7 → α8 → α9 → α10 → α11 → α12 → α13 → α14 → α15 → α16 → Prop) (x1 : α1) (x2 : α2) (x3 : α3) (x4 : α4) (x5 : α5) (x6 : α6) (x7 : α7) (x8 : α8) (x9 : α9) (x10 : α10) (x11 : α11) (x12 : α12) (x13 : α13) (x14 : α14) (x15 : α15) (x16 : α16) : Prop := P x1 x2 x3 x4 x5 x6 x7 x8 x9 x10 x11 x12 x13 x14 x15 x16
@[reducible] noncomputable def HY16 {α1 α2 α3 α4 α5 α6 α7 α8 α9 α10 α11 α12 α13 α14 α15 α16 : Type} (P : α1 → α2 → α3 → α4 → α5 → α6 → α7 → α8 → α9 → α10 → α11 → α12 → α13 → α14 → α15 → α16 → Prop) {x1 x2 x3 x4 x5 x6 x7 x8 x9 x10 x11 x12 x13 x14 x15 x16} (t : Pr α1 (Pr α2 (Pr α3 (Pr α4 (Pr α5 (Pr α6 (Pr α7 (Pr α8 (Pr α9 (Pr α10 (Pr α11 (Pr α12 (Pr α13 (Pr α14 (Pr α15 α16))))))))))))))) (_ : (Pr.mk x1 (Pr.mk x2 (Pr.mk x3 (Pr.mk x4 (Pr.mk x5 (Pr.mk x6 (Pr.mk x7 (Pr.mk x8 (Pr.mk x9 (Pr.mk x10 (Pr.mk x11 (Pr.mk x12 (Pr.mk x13 (Pr.mk x14 (Pr.mk x15 x16))))))))))))))) = t) : Prop := HA16 P x1 x2 x3 x4 x5 x6 x7 x8 x9 x10 x11 x12 x13 x14 x15 x16
@[reducible] noncomputable def HX16 {α1 α2 α3 α4 α5 α6 α7 α8 α9 α10 α11 α12 α13 α14 α15 α16 : Type} (P : α1 → α2 → α3 → α4 → α5 → α6 → α7 → α8 → α9 → α10 → α11 → α12 → α13 → α14 → α15 → α16 → Prop) (t : Pr α1 (Pr α2 (Pr α3 (Pr α4 (Pr α5 (Pr α6 (Pr α7 (Pr α8 (Pr α9 (Pr α10 (Pr α11 (Pr α12 (Pr α13 (Pr α14 (Pr α15 α16))))))))))))))) : Prop := HY16 P t rfl
@[reducible] noncomputable def HT16 {α1 α2 α3 α4 α5 α6 α7 α8 α9 α10 α11 α12 α13 α14 α15 α16 : Type} (P : α1 → α2 → α3 → α4 → α5 → α6 → α7 → α8 → α9 → α10 → α11 → α12 → α13 → α14 → α15 → α16 → Prop) : Prop := ∀ x1 x2 x3 x4 x5 x6 x7 x8 x9 x10 x11 x12 x13 x14 x15 x16, HA16 P x1 x2 x3 x4 x5 x6 x7 x8 x9 x10 x11 x12 x13 x14 x15 x16
theorem ha16 {α1 α2 α3 α4 α5 α6 α7 α8 α9 α10 α11 α12 α13 α14 α15 α16 : Type} {P : α1 → α2 → α3 → α4 → α5 → α6 → α7 → α8 → α9 → α10 → α11 → α12 → α13 → α14 → α15 → α16 → Prop} {x1 : α1} {x2 : α2} {x3 : α3} {x4 : α4} {x5 : α5} {x6 : α6} {x7 : α7} {x8 : α8} {x9 : α9} {x10 : α10} {x11 : α11} {x12 : α12} {x13 : α13} {x14 : α14} {x15 : α15} {x16 : α16} (h : P x1 x2 x3 x4 x5 x6 x7 x8 x9 x10 x11 x12 x13 x14 x15 x16) : HA16 P x1 x2 x3 x4 x5 x6 x7 x8 x9 x10 x11 x12 x13 x14 x15 x16 := h
noncomputable def hc16 {α1 α2 α3 α4 α5 α6 α7 α8 α9 α10 α11 α12 α13 α14 α15 α16 : Type} [Nonempty α1] [Nonempty α2] [Nonempty α3] [Nonempty α4] [Nonempty α5] [Nonempty α6] [Nonempty α7] [Nonempty α8] [Nonempty α9] [Nonempty α10] [Nonempty α11] [Nonempty α12] [Nonempty α13] [Nonempty α14] [Nonempty α15] [Nonempty α16] (P : α1 → α2 → α3 → α4 → α5 → α6 → α7 → α8 → α9 → α10 → α11 → α12 → α13 → α14 → α15 → α16 → Prop) : Pr α1 (Pr α2 (Pr α3 (Pr α4 (Pr α5 (Pr α6 (Pr α7 (Pr α8 (Pr α9 (Pr α10 (Pr α11 (Pr α12 (Pr α13 (Pr α14 (Pr α15 α16)))))))))))))) := @Classical.epsilon (Pr α1 (Pr α2 (Pr α3 (Pr α4 (Pr α5 (Pr α6 (Pr α7 (Pr α8 (Pr α9 (Pr α10 (Pr α11 (Pr α12 (Pr α13 (Pr α14 (Pr α15 α16))))))))))))))) (Pr.ne inferInstance (Pr.ne inferInstance (Pr.ne inferInstance (Pr.ne inferInstance (Pr.ne inferInstance (Pr.ne inferInstance (Pr.ne inferInstance (Pr.ne inferInstance (Pr.ne inferInstance (Pr.ne inferInstance (Pr.ne inferInstance (Pr.ne inferInstance (Pr.ne inferInstance (Pr.ne inferInstance (Pr.ne inferInstance inferInstance))))))))))))))) fun t => ¬ HX16 P t
theorem hk16 {α1 α2 α3 α4 α5 α6 α7 α8 α9 α10 α11 α12 α13 α14 α15 α16 : Type} [Nonempty α1] [Nonempty α2] [Nonempty α3] [Nonempty α4] [Nonempty α5] [Nonempty α6] [Nonempty α7] [Nonempty α8] [Nonempty α9] [Nonempty α10] [Nonempty α11] [Nonempty α12] [Nonempty α13] [Nonempty α14] [Nonempty α15] [Nonempty α16] {P : α1 → α2 → α3 → α4 → α5 → α6 → α7 → α8 → α9 → α10 → α11 → α12 → α13 → α14 → α15 → α16 → Prop} (h : HX16 P (hc16 P)) : ∀ x1 x2 x3 x4 x5 x6 x7 x8 x9 x10 x11 x12 x13 x14 x15 x16, P x1 x2 x3 x4 x5 x6 x7 x8 x9 x10 x11 x12 x13 x14 x15 x16 := fun x1 x2 x3 x4 x5 x6 x7 x8 x9 x10 x11 x12 x13 x14 x15 x16 => @eps_all (Pr α1 (Pr α2 (Pr α3 (Pr α4 (Pr α5 (Pr α6 (Pr α7 (Pr α8 (Pr α9 (Pr α10 (Pr α11 (Pr α12 (Pr α13 (Pr α14 (Pr α15 α16))))))))))))))) (Pr.ne inferInstance (Pr.ne inferInstance (Pr.ne inferInstance (Pr.ne inferInstance (Pr.ne inferInstance (Pr.ne inferInstance (Pr.ne inferInstance (Pr.ne inferInstance (Pr.ne inferInstance (Pr.ne inferInstance (Pr.ne inferInstance (Pr.ne inferInstance (Pr.ne inferInstance (Pr.ne inferInstance (Pr.ne inferInstance inferInstance))))))))))))))) (HX16 P) h (.mk x1 (.mk x2 (.mk x3 (.mk x4 (.mk x5 (.mk x6 (.mk x7 (.mk x8 (.mk x9 (.mk x10 (.mk x11 (.mk x12 (.mk x13 (.mk x14 (.mk x15 x16)))))))))))))))
@[reducible] noncomputable def EX1 {α1 : Type} (P : α1 → Prop) (t : α1) : Prop := P t
@[irreducible] noncomputable def ce1 {α1 : Type} [Nonempty α1] (P : α1 → Prop) : α1 := @Classical.epsilon (α1) inferInstance (EX1 P)
theorem exS1 {α1 : Type} [Nonempty α1] {P : α1 → Prop} (h : ∃ x1, P x1) : EX1 P (ce1 P) := by
  unfold ce1; exact @Classical.epsilon_spec (α1) (EX1 P) h
theorem exI1 {α1 : Type} {P : α1 → Prop} {x1 : α1} (h : P x1) : ∃ x1, P x1 := ⟨x1, h⟩
@[reducible] noncomputable def ExE1 {α1 : Type} [Nonempty α1] {P : α1 → Prop} (_ : ∃ x1, P x1) (G : Prop) : Prop := ∀ x1, x1 = ce1 P → P x1 → G
@[reducible] noncomputable def EX2 {α1 α2 : Type} (P : α1 → α2 → Prop) (t : Pr α1 α2) : Prop := PrX (fun x1 u => EX1 (P x1) u) t
@[irreducible] noncomputable def ce2 {α1 α2 : Type} [Nonempty α1] [Nonempty α2] (P : α1 → α2 → Prop) : Pr α1 α2 := @Classical.epsilon (Pr α1 α2) (Pr.ne inferInstance inferInstance) (EX2 P)
theorem exS2 {α1 α2 : Type} [Nonempty α1] [Nonempty α2] {P : α1 → α2 → Prop} (h : ∃ x1 x2, P x1 x2) : EX2 P (ce2 P) := by
  unfold ce2; exact @Classical.epsilon_spec (Pr α1 α2) (EX2 P) (h.elim fun x h => ⟨.mk x _, exS1 h⟩)
theorem exI2 {α1 α2 : Type} {P : α1 → α2 → Prop} {x1 : α1} {x2 : α2} (h : P x1 x2) : ∃ x1 x2, P x1 x2 := ⟨x1, exI1 (P := P x1) h⟩
@[reducible] noncomputable def ExE2 {α1 α2 : Type} [Nonempty α1] [Nonempty α2] {P : α1 → α2 → Prop} (_ : ∃ x1 x2, P x1 x2) (G : Prop) : Prop := ∀ x1 x2, (Pr.mk x1 x2) = ce2 P → P x1 x2 → G
@[reducible] noncomputable def EX3 {α1 α2 α3 : Type} (P : α1 → α2 → α3 → Prop) (t : Pr α1 (Pr α2 α3)) : Prop := PrX (fun x1 u => EX2 (P x1) u) t
@[irreducible] noncomputable def ce3 {α1 α2 α3 : Type} [Nonempty α1] [Nonempty α2] [Nonempty α3] (P : α1 → α2 → α3 → Prop) : Pr α1 (Pr α2 α3) := @Classical.epsilon (Pr α1 (Pr α2 α3)) (Pr.ne inferInstance (Pr.ne inferInstance inferInstance)) (EX3 P)
theorem exS3 {α1 α2 α3 : Type} [Nonempty α1] [Nonempty α2] [Nonempty α3] {P : α1 → α2 → α3 → Prop} (h : ∃ x1 x2 x3, P x1 x2 x3) : EX3 P (ce3 P) := by
  unfold ce3; exact @Classical.epsilon_spec (Pr α1 (Pr α2 α3)) (EX3 P) (h.elim fun x h => ⟨.mk x _, exS2 h⟩)
theorem exI3 {α1 α2 α3 : Type} {P : α1 → α2 → α3 → Prop} {x1 : α1} {x2 : α2} {x3 : α3} (h : P x1 x2 x3) : ∃ x1 x2 x3, P x1 x2 x3 := ⟨x1, exI2 (P := P x1) h⟩
@[reducible] noncomputable def ExE3 {α1 α2 α3 : Type} [Nonempty α1] [Nonempty α2] [Nonempty α3] {P : α1 → α2 → α3 → Prop} (_ : ∃ x1 x2 x3, P x1 x2 x3) (G : Prop) : Prop := ∀ x1 x2 x3, (Pr.mk x1 (Pr.mk x2 x3)) = ce3 P → P x1 x2 x3 → G
@[reducible] noncomputable def EX4 {α1 α2 α3 α4 : Type} (P : α1 → α2 → α3 → α4 → Prop) (t : Pr α1 (Pr α2 (Pr α3 α4))) : Prop := PrX (fun x1 u => EX3 (P x1) u) t
@[irreducible] noncomputable def ce4 {α1 α2 α3 α4 : Type} [Nonempty α1] [Nonempty α2] [Nonempty α3] [Nonempty α4] (P : α1 → α2 → α3 → α4 → Prop) : Pr α1 (Pr α2 (Pr α3 α4)) := @Classical.epsilon (Pr α1 (Pr α2 (Pr α3 α4))) (Pr.ne inferInstance (Pr.ne inferInstance (Pr.ne inferInstance inferInstance))) (EX4 P)
theorem exS4 {α1 α2 α3 α4 : Type} [Nonempty α1] [Nonempty α2] [Nonempty α3] [Nonempty α4] {P : α1 → α2 → α3 → α4 → Prop} (h : ∃ x1 x2 x3 x4, P x1 x2 x3 x4) : EX4 P (ce4 P) := by
  unfold ce4; exact @Classical.epsilon_spec (Pr α1 (Pr α2 (Pr α3 α4))) (EX4 P) (h.elim fun x h => ⟨.mk x _, exS3 h⟩)
theorem exI4 {α1 α2 α3 α4 : Type} {P : α1 → α2 → α3 → α4 → Prop} {x1 : α1} {x2 : α2} {x3 : α3} {x4 : α4} (h : P x1 x2 x3 x4) : ∃ x1 x2 x3 x4, P x1 x2 x3 x4 := ⟨x1, exI3 (P := P x1) h⟩
@[reducible] noncomputable def ExE4 {α1 α2 α3 α4 : Type} [Nonempty α1] [Nonempty α2] [Nonempty α3] [Nonempty α4] {P : α1 → α2 → α3 → α4 → Prop} (_ : ∃ x1 x2 x3 x4, P x1 x2 x3 x4) (G : Prop) : Prop := ∀ x1 x2 x3 x4, (Pr.mk x1 (Pr.mk x2 (Pr.mk x3 x4))) = ce4 P → P x1 x2 x3 x4 → G
@[reducible] noncomputable def EX5 {α1 α2 α3 α4 α5 : Type} (P : α1 → α2 → α3 → α4 → α5 → Prop) (t : Pr α1 (Pr α2 (Pr α3 (Pr α4 α5)))) : Prop := PrX (fun x1 u => EX4 (P x1) u) t
@[irreducible] noncomputable def ce5 {α1 α2 α3 α4 α5 : Type} [Nonempty α1] [Nonempty α2] [Nonempty α3] [Nonempty α4] [Nonempty α5] (P : α1 → α2 → α3 → α4 → α5 → Prop) : Pr α1 (Pr α2 (Pr α3 (Pr α4 α5))) := @Classical.epsilon (Pr α1 (Pr α2 (Pr α3 (Pr α4 α5)))) (Pr.ne inferInstance (Pr.ne inferInstance (Pr.ne inferInstance (Pr.ne inferInstance inferInstance)))) (EX5 P)
theorem exS5 {α1 α2 α3 α4 α5 : Type} [Nonempty α1] [Nonempty α2] [Nonempty α3] [Nonempty α4] [Nonempty α5] {P : α1 → α2 → α3 → α4 → α5 → Prop} (h : ∃ x1 x2 x3 x4 x5, P x1 x2 x3 x4 x5) : EX5 P (ce5 P) := by
  unfold ce5; exact @Classical.epsilon_spec (Pr α1 (Pr α2 (Pr α3 (Pr α4 α5)))) (EX5 P) (h.elim fun x h => ⟨.mk x _, exS4 h⟩)
theorem exI5 {α1 α2 α3 α4 α5 : Type} {P : α1 → α2 → α3 → α4 → α5 → Prop} {x1 : α1} {x2 : α2} {x3 : α3} {x4 : α4} {x5 : α5} (h : P x1 x2 x3 x4 x5) : ∃ x1 x2 x3 x4 x5, P x1 x2 x3 x4 x5 := ⟨x1, exI4 (P := P x1) h⟩
@[reducible] noncomputable def ExE5 {α1 α2 α3 α4 α5 : Type} [Nonempty α1] [Nonempty α2] [Nonempty α3] [Nonempty α4] [Nonempty α5] {P : α1 → α2 → α3 → α4 → α5 → Prop} (_ : ∃ x1 x2 x3 x4 x5, P x1 x2 x3 x4 x5) (G : Prop) : Prop := ∀ x1 x2 x3 x4 x5, (Pr.mk x1 (Pr.mk x2 (Pr.mk x3 (Pr.mk x4 x5)))) = ce5 P → P x1 x2 x3 x4 x5 → G
@[reducible] noncomputable def EX6 {α1 α2 α3 α4 α5 α6 : Type} (P : α1 → α2 → α3 → α4 → α5 → α6 → Prop) (t : Pr α1 (Pr α2 (Pr α3 (Pr α4 (Pr α5 α6))))) : Prop := PrX (fun x1 u => EX5 (P x1) u) t
@[irreducible] noncomputable def ce6 {α1 α2 α3 α4 α5 α6 : Type} [Nonempty α1] [Nonempty α2] [Nonempty α3] [Nonempty α4] [Nonempty α5] [Nonempty α6] (P : α1 → α2 → α3 → α4 → α5 → α6 → Prop) : Pr α1 (Pr α2 (Pr α3 (Pr α4 (Pr α5 α6)))) := @Classical.epsilon (Pr α1 (Pr α2 (Pr α3 (Pr α4 (Pr α5 α6))))) (Pr.ne inferInstance (Pr.ne inferInstance (Pr.ne inferInstance (Pr.ne inferInstance (Pr.ne inferInstance inferInstance))))) (EX6 P)
theorem exS6 {α1 α2 α3 α4 α5 α6 : Type} [Nonempty α1] [Nonempty α2] [Nonempty α3] [Nonempty α4] [Nonempty α5] [Nonempty α6] {P : α1 → α2 → α3 → α4 → α5 → α6 → Prop} (h : ∃ x1 x2 x3 x4 x5 x6, P x1 x2 x3 x4 x5 x6) : EX6 P (ce6 P) := by
  unfold ce6; exact @Classical.epsilon_spec (Pr α1 (Pr α2 (Pr α3 (Pr α4 (Pr α5 α6))))) (EX6 P) (h.elim fun x h => ⟨.mk x _, exS5 h⟩)
theorem exI6 {α1 α2 α3 α4 α5 α6 : Type} {P : α1 → α2 → α3 → α4 → α5 → α6 → Prop} {x1 : α1} {x2 : α2} {x3 : α3} {x4 : α4} {x5 : α5} {x6 : α6} (h : P x1 x2 x3 x4 x5 x6) : ∃ x1 x2 x3 x4 x5 x6, P x1 x2 x3 x4 x5 x6 := ⟨x1, exI5 (P := P x1) h⟩
@[reducible] noncomputable def ExE6 {α1 α2 α3 α4 α5 α6 : Type} [Nonempty α1] [Nonempty α2] [Nonempty α3] [Nonempty α4] [Nonempty α5] [Nonempty α6] {P : α1 → α2 → α3 → α4 → α5 → α6 → Prop} (_ : ∃ x1 x2 x3 x4 x5 x6, P x1 x2 x3 x4 x5 x6) (G : Prop) : Prop := ∀ x1 x2 x3 x4 x5 x6, (Pr.mk x1 (Pr.mk x2 (Pr.mk x3 (Pr.mk x4 (Pr.mk x5 x6))))) = ce6 P → P x1 x2 x3 x4 x5 x6 → G
@[reducible] noncomputable def EX7 {α1 α2 α3 α4 α5 α6 α7 : Type} (P : α1 → α2 → α3 → α4 → α5 → α6 → α7 → Prop) (t : Pr α1 (Pr α2 (Pr α3 (Pr α4 (Pr α5 (Pr α6 α7)))))) : Prop := PrX (fun x1 u => EX6 (P x1) u) t
@[irreducible] noncomputable def ce7 {α1 α2 α3 α4 α5 α6 α7 : Type} [Nonempty α1] [Nonempty α2] [Nonempty α3] [Nonempty α4] [Nonempty α5] [Nonempty α6] [Nonempty α7] (P : α1 → α2 → α3 → α4 → α5 → α6 → α7 → Prop) : Pr α1 (Pr α2 (Pr α3 (Pr α4 (Pr α5 (Pr α6 α7))))) := @Classical.epsilon (Pr α1 (Pr α2 (Pr α3 (Pr α4 (Pr α5 (Pr α6 α7)))))) (Pr.ne inferInstance (Pr.ne inferInstance (Pr.ne inferInstance (Pr.ne inferInstance (Pr.ne inferInstance (Pr.ne inferInstance inferInstance)))))) (EX7 P)
theorem exS7 {α1 α2 α3 α4 α5 α6 α7 : Type} [Nonempty α1] [Nonempty α2] [Nonempty α3] [Nonempty α4] [Nonempty α5] [Nonempty α6] [Nonempty α7] {P : α1 → α2 → α3 → α4 → α5 → α6 → α7 → Prop} (h : ∃ x1 x2 x3 x4 x5 x6 x7, P x1 x2 x3 x4 x5 x6 x7) : EX7 P (ce7 P) := by
  unfold ce7; exact @Classical.epsilon_spec (Pr α1 (Pr α2 (Pr α3 (Pr α4 (Pr α5 (Pr α6 α7)))))) (EX7 P) (h.elim fun x h => ⟨.mk x _, exS6 h⟩)
theorem exI7 {α1 α2 α3 α4 α5 α6 α7 : Type} {P : α1 → α2 → α3 → α4 → α5 → α6 → α7 → Prop} {x1 : α1} {x2 : α2} {x3 : α3} {x4 : α4} {x5 : α5} {x6 : α6} {x7 : α7} (h : P x1 x2 x3 x4 x5 x6 x7) : ∃ x1 x2 x3 x4 x5 x6 x7, P x1 x2 x3 x4 x5 x6 x7 := ⟨x1, exI6 (P := P x1) h⟩
@[reducible] noncomputable def ExE7 {α1 α2 α3 α4 α5 α6 α7 : Type} [Nonempty α1] [Nonempty α2] [Nonempty α3] [Nonempty α4] [Nonempty α5] [Nonempty α6] [Nonempty α7] {P : α1 → α2 → α3 → α4 → α5 → α6 → α7 → Prop} (_ : ∃ x1 x2 x3 x4 x5 x6 x7, P x1 x2 x3 x4 x5 x6 x7) (G : Prop) : Prop := ∀ x1 x2 x3 x4 x5 x6 x7, (Pr.mk x1 (Pr.mk x2 (Pr.mk x3 (Pr.mk x4 (Pr.mk x5 (Pr.mk x6 x7)))))) = ce7 P → P x1 x2 x3 x4 x5 x6 x7 → G
@[reducible] noncomputable def EX8 {α1 α2 α3 α4 α5 α6 α7 α8 : Type} (P : α1 → α2 → α3 → α4 → α5 → α6 → α7 → α8 → Prop) (t : Pr α1 (Pr α2 (Pr α3 (Pr α4 (Pr α5 (Pr α6 (Pr α7 α8))))))) : Prop := PrX (fun x1 u => EX7 (P x1) u) t
@[irreducible] noncomputable def ce8 {α1 α2 α3 α4 α5 α6 α7 α8 : Type} [Nonempty α1] [Nonempty α2] [Nonempty α3] [Nonempty α4] [Nonempty α5] [Nonempty α6] [Nonempty α7] [Nonempty α8] (P : α1 → α2 → α3 → α4 → α5 → α6 → α7 → α8 → Prop) : Pr α1 (Pr α2 (Pr α3 (Pr α4 (Pr α5 (Pr α6 (Pr α7 α8)))))) := @Classical.epsilon (Pr α1 (Pr α2 (Pr α3 (Pr α4 (Pr α5 (Pr α6 (Pr α7 α8))))))) (Pr.ne inferInstance (Pr.ne inferInstance (Pr.ne inferInstance (Pr.ne inferInstance (Pr.ne inferInstance (Pr.ne inferInstance (Pr.ne inferInstance inferInstance))))))) (EX8 P)
theorem exS8 {α1 α2 α3 α4 α5 α6 α7 α8 : Type} [Nonempty α1] [Nonempty α2] [Nonempty α3] [Nonempty α4] [Nonempty α5] [Nonempty α6] [Nonempty α7] [Nonempty α8] {P : α1 → α2 → α3 → α4 → α5 → α6 → α7 → α8 → Prop} (h : ∃ x1 x2 x3 x4 x5 x6 x7 x8, P x1 x2 x3 x4 x5 x6 x7 x8) : EX8 P (ce8 P) := by
  unfold ce8; exact @Classical.epsilon_spec (Pr α1 (Pr α2 (Pr α3 (Pr α4 (Pr α5 (Pr α6 (Pr α7 α8))))))) (EX8 P) (h.elim fun x h => ⟨.mk x _, exS7 h⟩)
theorem exI8 {α1 α2 α3 α4 α5 α6 α7 α8 : Type} {P : α1 → α2 → α3 → α4 → α5 → α6 → α7 → α8 → Prop} {x1 : α1} {x2 : α2} {x3 : α3} {x4 : α4} {x5 : α5} {x6 : α6} {x7 : α7} {x8 : α8} (h : P x1 x2 x3 x4 x5 x6 x7 x8) : ∃ x1 x2 x3 x4 x5 x6 x7 x8, P x1 x2 x3 x4 x5 x6 x7 x8 := ⟨x1, exI7 (P := P x1) h⟩
@[reducible] noncomputable def ExE8 {α1 α2 α3 α4 α5 α6 α7 α8 : Type} [Nonempty α1] [Nonempty α2] [Nonempty α3] [Nonempty α4] [Nonempty α5] [Nonempty α6] [Nonempty α7] [Nonempty α8] {P : α1 → α2 → α3 → α4 → α5 → α6 → α7 → α8 → Prop} (_ : ∃ x1 x2 x3 x4 x5 x6 x7 x8, P x1 x2 x3 x4 x5 x6 x7 x8) (G : Prop) : Prop := ∀ x1 x2 x3 x4 x5 x6 x7 x8, (Pr.mk x1 (Pr.mk x2 (Pr.mk x3 (Pr.mk x4 (Pr.mk x5 (Pr.mk x6 (Pr.mk x7 x8))))))) = ce8 P → P x1 x2 x3 x4 x5 x6 x7 x8 → G
@[reducible] noncomputable def EX9 {α1 α2 α3 α4 α5 α6 α7 α8 α9 : Type} (P : α1 → α2 → α3 → α4 → α5 → α6 → α7 → α8 → α9 → Prop) (t : Pr α1 (Pr α2 (Pr α3 (Pr α4 (Pr α5 (Pr α6 (Pr α7 (Pr α8 α9)))))))) : Prop := PrX (fun x1 u => EX8 (P x1) u) t
@[irreducible] noncomputable def ce9 {α1 α2 α3 α4 α5 α6 α7 α8 α9 : Type} [Nonempty α1] [Nonempty α2] [Nonempty α3] [Nonempty α4] [Nonempty α5] [Nonempty α6] [Nonempty α7] [Nonempty α8] [Nonempty α9] (P : α1 → α2 → α3 → α4 → α5 → α6 → α7 → α8 → α9 → Prop) : Pr α1 (Pr α2 (Pr α3 (Pr α4 (Pr α5 (Pr α6 (Pr α7 (Pr α8 α9))))))) := @Classical.epsilon (Pr α1 (Pr α2 (Pr α3 (Pr α4 (Pr α5 (Pr α6 (Pr α7 (Pr α8 α9)))))))) (Pr.ne inferInstance (Pr.ne inferInstance (Pr.ne inferInstance (Pr.ne inferInstance (Pr.ne inferInstance (Pr.ne inferInstance (Pr.ne inferInstance (Pr.ne inferInstance inferInstance)))))))) (EX9 P)
theorem exS9 {α1 α2 α3 α4 α5 α6 α7 α8 α9 : Type} [Nonempty α1] [Nonempty α2] [Nonempty α3] [Nonempty α4] [Nonempty α5] [Nonempty α6] [Nonempty α7] [Nonempty α8] [Nonempty α9] {P : α1 → α2 → α3 → α4 → α5 → α6 → α7 → α8 → α9 → Prop} (h : ∃ x1 x2 x3 x4 x5 x6 x7 x8 x9, P x1 x2 x3 x4 x5 x6 x7 x8 x9) : EX9 P (ce9 P) := by
  unfold ce9; exact @Classical.epsilon_spec (Pr α1 (Pr α2 (Pr α3 (Pr α4 (Pr α5 (Pr α6 (Pr α7 (Pr α8 α9)))))))) (EX9 P) (h.elim fun x h => ⟨.mk x _, exS8 h⟩)
theorem exI9 {α1 α2 α3 α4 α5 α6 α7 α8 α9 : Type} {P : α1 → α2 → α3 → α4 → α5 → α6 → α7 → α8 → α9 → Prop} {x1 : α1} {x2 : α2} {x3 : α3} {x4 : α4} {x5 : α5} {x6 : α6} {x7 : α7} {x8 : α8} {x9 : α9} (h : P x1 x2 x3 x4 x5 x6 x7 x8 x9) : ∃ x1 x2 x3 x4 x5 x6 x7 x8 x9, P x1 x2 x3 x4 x5 x6 x7 x8 x9 := ⟨x1, exI8 (P := P x1) h⟩
@[reducible] noncomputable def ExE9 {α1 α2 α3 α4 α5 α6 α7 α8 α9 : Type} [Nonempty α1] [Nonempty α2] [Nonempty α3] [Nonempty α4] [Nonempty α5] [Nonempty α6] [Nonempty α7] [Nonempty α8] [Nonempty α9] {P : α1 → α2 → α3 → α4 → α5 → α6 → α7 → α8 → α9 → Prop} (_ : ∃ x1 x2 x3 x4 x5 x6 x7 x8 x9, P x1 x2 x3 x4 x5 x6 x7 x8 x9) (G : Prop) : Prop := ∀ x1 x2 x3 x4 x5 x6 x7 x8 x9, (Pr.mk x1 (Pr.mk x2 (Pr.mk x3 (Pr.mk x4 (Pr.mk x5 (Pr.mk x6 (Pr.mk x7 (Pr.mk x8 x9)))))))) = ce9 P → P x1 x2 x3 x4 x5 x6 x7 x8 x9 → G
@[reducible] noncomputable def EX10 {α1 α2 α3 α4 α5 α6 α7 α8 α9 α10 : Type} (P : α1 → α2 → α3 → α4 → α5 → α6 → α7 → α8 → α9 → α10 → Prop) (t : Pr α1 (Pr α2 (Pr α3 (Pr α4 (Pr α5 (Pr α6 (Pr α7 (Pr α8 (Pr α9 α10))))))))) : Prop := PrX (fun x1 u => EX9 (P x1) u) t
@[irreducible] noncomputable def ce10 {α1 α2 α3 α4 α5 α6 α7 α8 α9 α10 : Type} [Nonempty α1] [Nonempty α2] [Nonempty α3] [Nonempty α4] [Nonempty α5] [Nonempty α6] [Nonempty α7] [Nonempty α8] [Nonempty α9] [Nonempty α10] (P : α1 → α2 → α3 → α4 → α5 → α6 → α7 → α8 → α9 → α10 → Prop) : Pr α1 (Pr α2 (Pr α3 (Pr α4 (Pr α5 (Pr α6 (Pr α7 (Pr α8 (Pr α9 α10)))))))) := @Classical.epsilon (Pr α1 (Pr α2 (Pr α3 (Pr α4 (Pr α5 (Pr α6 (Pr α7 (Pr α8 (Pr α9 α10))))))))) (Pr.ne inferInstance (Pr.ne inferInstance (Pr.ne inferInstance (Pr.ne inferInstance (Pr.ne inferInstance (Pr.ne inferInstance (Pr.ne inferInstance (Pr.ne inferInstance (Pr.ne inferInstance inferInstance))))))))) (EX10 P)
theorem exS10 {α1 α2 α3 α4 α5 α6 α7 α8 α9 α10 : Type} [Nonempty α1] [Nonempty α2] [Nonempty α3] [Nonempty α4] [Nonempty α5] [Nonempty α6] [Nonempty α7] [Nonempty α8] [Nonempty α9] [Nonempty α10] {P : α1 → α2 → α3 → α4 → α5 → α6 → α7 → α8 → α9 → α10 → Prop} (h : ∃ x1 x2 x3 x4 x5 x6 x7 x8 x9 x10, P x1 x2 x3 x4 x5 x6 x7 x8 x9 x10) : EX10 P (ce10 P) := by
  unfold ce10; exact @Classical.epsilon_spec (Pr α1 (Pr α2 (Pr α3 (Pr α4 (Pr α5 (Pr α6 (Pr α7 (Pr α8 (Pr α9 α10))))))))) (EX10 P) (h.elim fun x h => ⟨.mk x _, exS9 h⟩)
theorem exI10 {α1 α2 α3 α4 α5 α6 α7 α8 α9 α10 : Type} {P : α1 → α2 → α3 → α4 → α5 → α6 → α7 → α8 → α9 → α10 → Prop} {x1 : α1} {x2 : α2} {x3 : α3} {x4 : α4} {x5 : α5} {x6 : α6} {x7 : α7} {x8 : α8} {x9 : α9} {x10 : α10} (h : P x1 x2 x3 x4 x5 x6 x7 x8 x9 x10) : ∃ x1 x2 x3 x4 x5 x6 x7 x8 x9 x10, P x1 x2 x3 x4 x5 x6 x7 x8 x9 x10 := ⟨x1, exI9 (P := P x1) h⟩
@[reducible] noncomputable def ExE10 {α1 α2 α3 α4 α5 α6 α7 α8 α9 α10 : Type} [Nonempty α1] [Nonempty α2] [Nonempty α3] [Nonempty α4] [Nonempty α5] [Nonempty α6] [Nonempty α7] [Nonempty α8] [Nonempty α9] [Nonempty α10] {P : α1 → α2 → α3 → α4 → α5 → α6 → α7 → α8 → α9 → α10 → Prop} (_ : ∃ x1 x2 x3 x4 x5 x6 x7 x8 x9 x10, P x1 x2 x3 x4 x5 x6 x7 x8 x9 x10) (G : Prop) : Prop := ∀ x1 x2 x3 x4 x5 x6 x7 x8 x9 x10, (Pr.mk x1 (Pr.mk x2 (Pr.mk x3 (Pr.mk x4 (Pr.mk x5 (Pr.mk x6 (Pr.mk x7 (Pr.mk x8 (Pr.mk x9 x10))))))))) = ce10 P → P x1 x2 x3 x4 x5 x6 x7 x8 x9 x10 → G
inductive PrQ (a b : Prop) : Type | mk (x : a) (y : b) : PrQ a b
inductive PrP (a : Prop) (β : Type) : Type | mk (x : a) (y : β) : PrP a β
@[irreducible] noncomputable def ad2 {a1 a2 : Prop} (h : a1 ∧ a2) : (PrQ a1 a2) := .mk h.1 h.2
@[reducible] noncomputable def AdE2 {a1 a2 : Prop} (h : a1 ∧ a2) (G : Prop) : Prop := ∀ (x1 : a1) (x2 : a2), (PrQ.mk x1 x2) = ad2 h → G
@[irreducible] noncomputable def ad3 {a1 a2 a3 : Prop} (h : a1 ∧ a2 ∧ a3) : (PrP a1 (PrQ a2 a3)) := .mk h.1 (ad2 h.2)
@[reducible] noncomputable def AdE3 {a1 a2 a3 : Prop} (h : a1 ∧ a2 ∧ a3) (G : Prop) : Prop := ∀ (x1 : a1) (x2 : a2) (x3 : a3), (PrP.mk x1 (PrQ.mk x2 x3)) = ad3 h → G
@[irreducible] noncomputable def ad4 {a1 a2 a3 a4 : Prop} (h : a1 ∧ a2 ∧ a3 ∧ a4) : (PrP a1 (PrP a2 (PrQ a3 a4))) := .mk h.1 (ad3 h.2)
@[reducible] noncomputable def AdE4 {a1 a2 a3 a4 : Prop} (h : a1 ∧ a2 ∧ a3 ∧ a4) (G : Prop) : Prop := ∀ (x1 : a1) (x2 : a2) (x3 : a3) (x4 : a4), (PrP.mk x1 (PrP.mk x2 (PrQ.mk x3 x4))) = ad4 h → G
@[irreducible] noncomputable def ad5 {a1 a2 a3 a4 a5 : Prop} (h : a1 ∧ a2 ∧ a3 ∧ a4 ∧ a5) : (PrP a1 (PrP a2 (PrP a3 (PrQ a4 a5)))) := .mk h.1 (ad4 h.2)
@[reducible] noncomputable def AdE5 {a1 a2 a3 a4 a5 : Prop} (h : a1 ∧ a2 ∧ a3 ∧ a4 ∧ a5) (G : Prop) : Prop := ∀ (x1 : a1) (x2 : a2) (x3 : a3) (x4 : a4) (x5 : a5), (PrP.mk x1 (PrP.mk x2 (PrP.mk x3 (PrQ.mk x4 x5)))) = ad5 h → G
@[irreducible] noncomputable def ad6 {a1 a2 a3 a4 a5 a6 : Prop} (h : a1 ∧ a2 ∧ a3 ∧ a4 ∧ a5 ∧ a6) : (PrP a1 (PrP a2 (PrP a3 (PrP a4 (PrQ a5 a6))))) := .mk h.1 (ad5 h.2)
@[reducible] noncomputable def AdE6 {a1 a2 a3 a4 a5 a6 : Prop} (h : a1 ∧ a2 ∧ a3 ∧ a4 ∧ a5 ∧ a6) (G : Prop) : Prop := ∀ (x1 : a1) (x2 : a2) (x3 : a3) (x4 : a4) (x5 : a5) (x6 : a6), (PrP.mk x1 (PrP.mk x2 (PrP.mk x3 (PrP.mk x4 (PrQ.mk x5 x6))))) = ad6 h → G
@[irreducible] noncomputable def ad7 {a1 a2 a3 a4 a5 a6 a7 : Prop} (h : a1 ∧ a2 ∧ a3 ∧ a4 ∧ a5 ∧ a6 ∧ a7) : (PrP a1 (PrP a2 (PrP a3 (PrP a4 (PrP a5 (PrQ a6 a7)))))) := .mk h.1 (ad6 h.2)
@[reducible] noncomputable def AdE7 {a1 a2 a3 a4 a5 a6 a7 : Prop} (h : a1 ∧ a2 ∧ a3 ∧ a4 ∧ a5 ∧ a6 ∧ a7) (G : Prop) : Prop := ∀ (x1 : a1) (x2 : a2) (x3 : a3) (x4 : a4) (x5 : a5) (x6 : a6) (x7 : a7), (PrP.mk x1 (PrP.mk x2 (PrP.mk x3 (PrP.mk x4 (PrP.mk x5 (PrQ.mk x6 x7)))))) = ad7 h → G
@[irreducible] noncomputable def ad8 {a1 a2 a3 a4 a5 a6 a7 a8 : Prop} (h : a1 ∧ a2 ∧ a3 ∧ a4 ∧ a5 ∧ a6 ∧ a7 ∧ a8) : (PrP a1 (PrP a2 (PrP a3 (PrP a4 (PrP a5 (PrP a6 (PrQ a7 a8))))))) := .mk h.1 (ad7 h.2)
@[reducible] noncomputable def AdE8 {a1 a2 a3 a4 a5 a6 a7 a8 : Prop} (h : a1 ∧ a2 ∧ a3 ∧ a4 ∧ a5 ∧ a6 ∧ a7 ∧ a8) (G : Prop) : Prop := ∀ (x1 : a1) (x2 : a2) (x3 : a3) (x4 : a4) (x5 : a5) (x6 : a6) (x7 : a7) (x8 : a8), (PrP.mk x1 (PrP.mk x2 (PrP.mk x3 (PrP.mk x4 (PrP.mk x5 (PrP.mk x6 (PrQ.mk x7 x8))))))) = ad8 h → G
instance : Nonempty World := ⟨⟨fun _ _ => 0, { strHash := fun _ => 0, shareClass := id, mergeTok := id, idOf := fun _ => 0, idOfShared := fun _ _ => 0, followText := fun _ => true, idOfImm := fun _ => 0 }⟩⟩
instance : Nonempty Shared := ⟨{}⟩
instance : Nonempty Around := ⟨{}⟩
@[reducible] noncomputable def ShE (s : Shared) (G : Prop) : Prop := ∀ a b c d e, s = ⟨a, b, c, d, e⟩ → G
theorem kwHK0 : True := by
  (k_with "M in0" => skip)
  (k_with "M hk1" => ((with_reducible refine' no_implicit_lambda% (hk1 ((_ : HT1 _) _))); intros _; (with_reducible refine' ha1 (no_implicit_lambda% _))))
  (k_with "M hk2" => ((with_reducible refine' no_implicit_lambda% (hk2 ((_ : HT2 _) _ _))); intros _ _; (with_reducible refine' ha2 (no_implicit_lambda% _))))
  (k_with "M hk3" => ((with_reducible refine' no_implicit_lambda% (hk3 ((_ : HT3 _) _ _ _))); intros _ _ _; (with_reducible refine' ha3 (no_implicit_lambda% _))))
  (k_with "M hk4" => ((with_reducible refine' no_implicit_lambda% (hk4 ((_ : HT4 _) _ _ _ _))); intros _ _ _ _; (with_reducible refine' ha4 (no_implicit_lambda% _))))
  (k_with "M hk5" => ((with_reducible refine' no_implicit_lambda% (hk5 ((_ : HT5 _) _ _ _ _ _))); intros _ _ _ _ _; (with_reducible refine' ha5 (no_implicit_lambda% _))))
  (k_with "M hk6" => ((with_reducible refine' no_implicit_lambda% (hk6 ((_ : HT6 _) _ _ _ _ _ _))); intros _ _ _ _ _ _; (with_reducible refine' ha6 (no_implicit_lambda% _))))
  (k_with "M hk8" => ((with_reducible refine' no_implicit_lambda% (hk8 ((_ : HT8 _) _ _ _ _ _ _ _ _))); intros _ _ _ _ _ _ _ _; (with_reducible refine' ha8 (no_implicit_lambda% _))))
  (k_with "M hk10" => ((with_reducible refine' no_implicit_lambda% (hk10 ((_ : HT10 _) _ _ _ _ _ _ _ _ _ _))); intros _ _ _ _ _ _ _ _ _ _; (with_reducible refine' ha10 (no_implicit_lambda% _))))
  (k_with "M hk12" => ((with_reducible refine' no_implicit_lambda% (hk12 ((_ : HT12 _) _ _ _ _ _ _ _ _ _ _ _ _))); intros _ _ _ _ _ _ _ _ _ _ _ _; (with_reducible refine' ha12 (no_implicit_lambda% _))))
  (k_with "M hk16" => ((with_reducible refine' no_implicit_lambda% (hk16 ((_ : HT16 _) _ _ _ _ _ _ _ _ _ _ _ _ _ _ _ _))); intros _ _ _ _ _ _ _ _ _ _ _ _ _ _ _ _; (with_reducible refine' ha16 (no_implicit_lambda% _))))
  (k_with "M in1" => first | (k_extra "M hk1"; k_extra "M in0") | (intros _; k_extra "M in0"))
  (k_with "M in2" => first | (k_extra "M hk2"; k_extra "M in0") | (k_extra "M hk1"; k_extra "M in1") | (intros _; k_extra "M in1"))
  (k_with "M in3" => first | (k_extra "M hk3"; k_extra "M in0") | (k_extra "M hk2"; k_extra "M in1") | (k_extra "M hk1"; k_extra "M in2") | (intros _; k_extra "M in2"))
  (k_with "M in4" => first | (k_extra "M hk4"; k_extra "M in0") | (k_extra "M hk3"; k_extra "M in1") | (k_extra "M hk2"; k_extra "M in2") | (k_extra "M hk1"; k_extra "M in3") | (intros _; k_extra "M in3"))
  (k_with "M in5" => first | (k_extra "M hk5"; k_extra "M in0") | (k_extra "M hk4"; k_extra "M in1") | (k_extra "M hk3"; k_extra "M in2") | (k_extra "M hk2"; k_extra "M in3") | (k_extra "M hk1"; k_extra "M in4") | (intros _; k_extra "M in4"))
  (k_with "M in6" => first | (k_extra "M hk6"; k_extra "M in0") | (k_extra "M hk5"; k_extra "M in1") | (k_extra "M hk4"; k_extra "M in2") | (k_extra "M hk3"; k_extra "M in3") | (k_extra "M hk2"; k_extra "M in4") | (k_extra "M hk1"; k_extra "M in5") | (intros _; k_extra "M in5"))
  (k_with "M in7" => first | (k_extra "M hk6"; k_extra "M in1") | (k_extra "M hk5"; k_extra "M in2") | (k_extra "M hk4"; k_extra "M in3") | (k_extra "M hk3"; k_extra "M in4") | (k_extra "M hk2"; k_extra "M in5") | (k_extra "M hk1"; k_extra "M in6") | (intros _; k_extra "M in6"))
  (k_with "M in8" => first | (k_extra "M hk8"; k_extra "M in0") | (k_extra "M hk6"; k_extra "M in2") | (k_extra "M hk5"; k_extra "M in3") | (k_extra "M hk4"; k_extra "M in4") | (k_extra "M hk3"; k_extra "M in5") | (k_extra "M hk2"; k_extra "M in6") | (k_extra "M hk1"; k_extra "M in7") | (intros _; k_extra "M in7"))
  (k_with "M in9" => first | (k_extra "M hk8"; k_extra "M in1") | (k_extra "M hk6"; k_extra "M in3") | (k_extra "M hk5"; k_extra "M in4") | (k_extra "M hk4"; k_extra "M in5") | (k_extra "M hk3"; k_extra "M in6") | (k_extra "M hk2"; k_extra "M in7") | (k_extra "M hk1"; k_extra "M in8") | (intros _; k_extra "M in8"))
  (k_with "M in10" => first | (k_extra "M hk10"; k_extra "M in0") | (k_extra "M hk8"; k_extra "M in2") | (k_extra "M hk6"; k_extra "M in4") | (k_extra "M hk5"; k_extra "M in5") | (k_extra "M hk4"; k_extra "M in6") | (k_extra "M hk3"; k_extra "M in7") | (k_extra "M hk2"; k_extra "M in8") | (k_extra "M hk1"; k_extra "M in9") | (intros _; k_extra "M in9"))
  (k_with "M in11" => first | (k_extra "M hk10"; k_extra "M in1") | (k_extra "M hk8"; k_extra "M in3") | (k_extra "M hk6"; k_extra "M in5") | (k_extra "M hk5"; k_extra "M in6") | (k_extra "M hk4"; k_extra "M in7") | (k_extra "M hk3"; k_extra "M in8") | (k_extra "M hk2"; k_extra "M in9") | (k_extra "M hk1"; k_extra "M in10") | (intros _; k_extra "M in10"))
  (k_with "M in12" => first | (k_extra "M hk12"; k_extra "M in0") | (k_extra "M hk10"; k_extra "M in2") | (k_extra "M hk8"; k_extra "M in4") | (k_extra "M hk6"; k_extra "M in6") | (k_extra "M hk5"; k_extra "M in7") | (k_extra "M hk4"; k_extra "M in8") | (k_extra "M hk3"; k_extra "M in9") | (k_extra "M hk2"; k_extra "M in10") | (k_extra "M hk1"; k_extra "M in11") | (intros _; k_extra "M in11"))
  (k_with "M in13" => first | (k_extra "M hk12"; k_extra "M in1") | (k_extra "M hk10"; k_extra "M in3") | (k_extra "M hk8"; k_extra "M in5") | (k_extra "M hk6"; k_extra "M in7") | (k_extra "M hk5"; k_extra "M in8") | (k_extra "M hk4"; k_extra "M in9") | (k_extra "M hk3"; k_extra "M in10") | (k_extra "M hk2"; k_extra "M in11") | (k_extra "M hk1"; k_extra "M in12") | (intros _; k_extra "M in12"))
  (k_with "M in14" => first | (k_extra "M hk12"; k_extra "M in2") | (k_extra "M hk10"; k_extra "M in4") | (k_extra "M hk8"; k_extra "M in6") | (k_extra "M hk6"; k_extra "M in8") | (k_extra "M hk5"; k_extra "M in9") | (k_extra "M hk4"; k_extra "M in10") | (k_extra "M hk3"; k_extra "M in11") | (k_extra "M hk2"; k_extra "M in12") | (k_extra "M hk1"; k_extra "M in13") | (intros _; k_extra "M in13"))
  (k_with "M in15" => first | (k_extra "M hk12"; k_extra "M in3") | (k_extra "M hk10"; k_extra "M in5") | (k_extra "M hk8"; k_extra "M in7") | (k_extra "M hk6"; k_extra "M in9") | (k_extra "M hk5"; k_extra "M in10") | (k_extra "M hk4"; k_extra "M in11") | (k_extra "M hk3"; k_extra "M in12") | (k_extra "M hk2"; k_extra "M in13") | (k_extra "M hk1"; k_extra "M in14") | (intros _; k_extra "M in14"))
  (k_with "M in16" => first | (k_extra "M hk16"; k_extra "M in0") | (k_extra "M hk12"; k_extra "M in4") | (k_extra "M hk10"; k_extra "M in6") | (k_extra "M hk8"; k_extra "M in8") | (k_extra "M hk6"; k_extra "M in10") | (k_extra "M hk5"; k_extra "M in11") | (k_extra "M hk4"; k_extra "M in12") | (k_extra "M hk3"; k_extra "M in13") | (k_extra "M hk2"; k_extra "M in14") | (k_extra "M hk1"; k_extra "M in15") | (intros _; k_extra "M in15"))
  (k_with "M in17" => first | (k_extra "M hk16"; k_extra "M in1") | (k_extra "M hk12"; k_extra "M in5") | (k_extra "M hk10"; k_extra "M in7") | (k_extra "M hk8"; k_extra "M in9") | (k_extra "M hk6"; k_extra "M in11") | (k_extra "M hk5"; k_extra "M in12") | (k_extra "M hk4"; k_extra "M in13") | (k_extra "M hk3"; k_extra "M in14") | (k_extra "M hk2"; k_extra "M in15") | (k_extra "M hk1"; k_extra "M in16") | (intros _; k_extra "M in16"))
  (k_with "M in18" => first | (k_extra "M hk16"; k_extra "M in2") | (k_extra "M hk12"; k_extra "M in6") | (k_extra "M hk10"; k_extra "M in8") | (k_extra "M hk8"; k_extra "M in10") | (k_extra "M hk6"; k_extra "M in12") | (k_extra "M hk5"; k_extra "M in13") | (k_extra "M hk4"; k_extra "M in14") | (k_extra "M hk3"; k_extra "M in15") | (k_extra "M hk2"; k_extra "M in16") | (k_extra "M hk1"; k_extra "M in17") | (intros _; k_extra "M in17"))
  (k_with "M in19" => first | (k_extra "M hk16"; k_extra "M in3") | (k_extra "M hk12"; k_extra "M in7") | (k_extra "M hk10"; k_extra "M in9") | (k_extra "M hk8"; k_extra "M in11") | (k_extra "M hk6"; k_extra "M in13") | (k_extra "M hk5"; k_extra "M in14") | (k_extra "M hk4"; k_extra "M in15") | (k_extra "M hk3"; k_extra "M in16") | (k_extra "M hk2"; k_extra "M in17") | (k_extra "M hk1"; k_extra "M in18") | (intros _; k_extra "M in18"))
  (k_with "M in20" => first | (k_extra "M hk16"; k_extra "M in4") | (k_extra "M hk12"; k_extra "M in8") | (k_extra "M hk10"; k_extra "M in10") | (k_extra "M hk8"; k_extra "M in12") | (k_extra "M hk6"; k_extra "M in14") | (k_extra "M hk5"; k_extra "M in15") | (k_extra "M hk4"; k_extra "M in16") | (k_extra "M hk3"; k_extra "M in17") | (k_extra "M hk2"; k_extra "M in18") | (k_extra "M hk1"; k_extra "M in19") | (intros _; k_extra "M in19"))
  (k_with "M in21" => first | (k_extra "M hk16"; k_extra "M in5") | (k_extra "M hk12"; k_extra "M in9") | (k_extra "M hk10"; k_extra "M in11") | (k_extra "M hk8"; k_extra "M in13") | (k_extra "M hk6"; k_extra "M in15") | (k_extra "M hk5"; k_extra "M in16") | (k_extra "M hk4"; k_extra "M in17") | (k_extra "M hk3"; k_extra "M in18") | (k_extra "M hk2"; k_extra "M in19") | (k_extra "M hk1"; k_extra "M in20") | (intros _; k_extra "M in20"))
  (k_with "M in22" => first | (k_extra "M hk16"; k_extra "M in6") | (k_extra "M hk12"; k_extra "M in10") | (k_extra "M hk10"; k_extra "M in12") | (k_extra "M hk8"; k_extra "M in14") | (k_extra "M hk6"; k_extra "M in16") | (k_extra "M hk5"; k_extra "M in17") | (k_extra "M hk4"; k_extra "M in18") | (k_extra "M hk3"; k_extra "M in19") | (k_extra "M hk2"; k_extra "M in20") | (k_extra "M hk1"; k_extra "M in21") | (intros _; k_extra "M in21"))
  (k_with "M in23" => first | (k_extra "M hk16"; k_extra "M in7") | (k_extra "M hk12"; k_extra "M in11") | (k_extra "M hk10"; k_extra "M in13") | (k_extra "M hk8"; k_extra "M in15") | (k_extra "M hk6"; k_extra "M in17") | (k_extra "M hk5"; k_extra "M in18") | (k_extra "M hk4"; k_extra "M in19") | (k_extra "M hk3"; k_extra "M in20") | (k_extra "M hk2"; k_extra "M in21") | (k_extra "M hk1"; k_extra "M in22") | (intros _; k_extra "M in22"))
  (k_with "M in24" => first | (k_extra "M hk16"; k_extra "M in8") | (k_extra "M hk12"; k_extra "M in12") | (k_extra "M hk10"; k_extra "M in14") | (k_extra "M hk8"; k_extra "M in16") | (k_extra "M hk6"; k_extra "M in18") | (k_extra "M hk5"; k_extra "M in19") | (k_extra "M hk4"; k_extra "M in20") | (k_extra "M hk3"; k_extra "M in21") | (k_extra "M hk2"; k_extra "M in22") | (k_extra "M hk1"; k_extra "M in23") | (intros _; k_extra "M in23"))
  (k_with "M in25" => first | (k_extra "M hk16"; k_extra "M in9") | (k_extra "M hk12"; k_extra "M in13") | (k_extra "M hk10"; k_extra "M in15") | (k_extra "M hk8"; k_extra "M in17") | (k_extra "M hk6"; k_extra "M in19") | (k_extra "M hk5"; k_extra "M in20") | (k_extra "M hk4"; k_extra "M in21") | (k_extra "M hk3"; k_extra "M in22") | (k_extra "M hk2"; k_extra "M in23") | (k_extra "M hk1"; k_extra "M in24") | (intros _; k_extra "M in24"))
  (k_with "M in26" => first | (k_extra "M hk16"; k_extra "M in10") | (k_extra "M hk12"; k_extra "M in14") | (k_extra "M hk10"; k_extra "M in16") | (k_extra "M hk8"; k_extra "M in18") | (k_extra "M hk6"; k_extra "M in20") | (k_extra "M hk5"; k_extra "M in21") | (k_extra "M hk4"; k_extra "M in22") | (k_extra "M hk3"; k_extra "M in23") | (k_extra "M hk2"; k_extra "M in24") | (k_extra "M hk1"; k_extra "M in25") | (intros _; k_extra "M in25"))
  (k_with "M in27" => first | (k_extra "M hk16"; k_extra "M in11") | (k_extra "M hk12"; k_extra "M in15") | (k_extra "M hk10"; k_extra "M in17") | (k_extra "M hk8"; k_extra "M in19") | (k_extra "M hk6"; k_extra "M in21") | (k_extra "M hk5"; k_extra "M in22") | (k_extra "M hk4"; k_extra "M in23") | (k_extra "M hk3"; k_extra "M in24") | (k_extra "M hk2"; k_extra "M in25") | (k_extra "M hk1"; k_extra "M in26") | (intros _; k_extra "M in26"))
  (k_with "M in28" => first | (k_extra "M hk16"; k_extra "M in12") | (k_extra "M hk12"; k_extra "M in16") | (k_extra "M hk10"; k_extra "M in18") | (k_extra "M hk8"; k_extra "M in20") | (k_extra "M hk6"; k_extra "M in22") | (k_extra "M hk5"; k_extra "M in23") | (k_extra "M hk4"; k_extra "M in24") | (k_extra "M hk3"; k_extra "M in25") | (k_extra "M hk2"; k_extra "M in26") | (k_extra "M hk1"; k_extra "M in27") | (intros _; k_extra "M in27"))
  (k_with "M in29" => first | (k_extra "M hk16"; k_extra "M in13") | (k_extra "M hk12"; k_extra "M in17") | (k_extra "M hk10"; k_extra "M in19") | (k_extra "M hk8"; k_extra "M in21") | (k_extra "M hk6"; k_extra "M in23") | (k_extra "M hk5"; k_extra "M in24") | (k_extra "M hk4"; k_extra "M in25") | (k_extra "M hk3"; k_extra "M in26") | (k_extra "M hk2"; k_extra "M in27") | (k_extra "M hk1"; k_extra "M in28") | (intros _; k_extra "M in28"))
  (k_with "M in30" => first | (k_extra "M hk16"; k_extra "M in14") | (k_extra "M hk12"; k_extra "M in18") | (k_extra "M hk10"; k_extra "M in20") | (k_extra "M hk8"; k_extra "M in22") | (k_extra "M hk6"; k_extra "M in24") | (k_extra "M hk5"; k_extra "M in25") | (k_extra "M hk4"; k_extra "M in26") | (k_extra "M hk3"; k_extra "M in27") | (k_extra "M hk2"; k_extra "M in28") | (k_extra "M hk1"; k_extra "M in29") | (intros _; k_extra "M in29"))
  (k_with "M ex1" => (refine' (_ : ExE1 hobE _) _ rfl (exS1 hobE); intros _ hobQ hobF; clear hobQ hobE; rename _ => hobE))
  (k_with "M ex2" => (refine' (_ : ExE2 hobE _) _ _ rfl (exS2 hobE); intros _ _ hobQ hobF; clear hobQ hobE; rename _ => hobE))
  (k_with "M ex3" => (refine' (_ : ExE3 hobE _) _ _ _ rfl (exS3 hobE); intros _ _ _ hobQ hobF; clear hobQ hobE; rename _ => hobE))
  (k_with "M ex4" => (refine' (_ : ExE4 hobE _) _ _ _ _ rfl (exS4 hobE); intros _ _ _ _ hobQ hobF; clear hobQ hobE; rename _ => hobE))
  (k_with "M ex5" => (refine' (_ : ExE5 hobE _) _ _ _ _ _ rfl (exS5 hobE); intros _ _ _ _ _ hobQ hobF; clear hobQ hobE; rename _ => hobE))
  (k_with "M ex6" => (refine' (_ : ExE6 hobE _) _ _ _ _ _ _ rfl (exS6 hobE); intros _ _ _ _ _ _ hobQ hobF; clear hobQ hobE; rename _ => hobE))
  (k_with "M ex7" => (refine' (_ : ExE7 hobE _) _ _ _ _ _ _ _ rfl (exS7 hobE); intros _ _ _ _ _ _ _ hobQ hobF; clear hobQ hobE; rename _ => hobE))
  (k_with "M ex8" => (refine' (_ : ExE8 hobE _) _ _ _ _ _ _ _ _ rfl (exS8 hobE); intros _ _ _ _ _ _ _ _ hobQ hobF; clear hobQ hobE; rename _ => hobE))
  (k_with "M ex9" => (refine' (_ : ExE9 hobE _) _ _ _ _ _ _ _ _ _ rfl (exS9 hobE); intros _ _ _ _ _ _ _ _ _ hobQ hobF; clear hobQ hobE; rename _ => hobE))
  (k_with "M ex10" => (refine' (_ : ExE10 hobE _) _ _ _ _ _ _ _ _ _ _ rfl (exS10 hobE); intros _ _ _ _ _ _ _ _ _ _ hobQ hobF; clear hobQ hobE; rename _ => hobE))
  (k_with "M ad2" => ((with_reducible refine' (_ : AdE2 hobE _) _ _ rfl); intros _ hobF hobQ; clear hobQ hobE; rename _ => hobE))
  (k_with "M ad3" => ((with_reducible refine' (_ : AdE3 hobE _) _ _ _ rfl); intros _ _ hobF hobQ; clear hobQ hobE; rename _ => hobE))
  (k_with "M ad4" => ((with_reducible refine' (_ : AdE4 hobE _) _ _ _ _ rfl); intros _ _ _ hobF hobQ; clear hobQ hobE; rename _ => hobE))
  (k_with "M ad5" => ((with_reducible refine' (_ : AdE5 hobE _) _ _ _ _ _ rfl); intros _ _ _ _ hobF hobQ; clear hobQ hobE; rename _ => hobE))
  (k_with "M ad6" => ((with_reducible refine' (_ : AdE6 hobE _) _ _ _ _ _ _ rfl); intros _ _ _ _ _ hobF hobQ; clear hobQ hobE; rename _ => hobE))
  (k_with "M ad7" => ((with_reducible refine' (_ : AdE7 hobE _) _ _ _ _ _ _ _ rfl); intros _ _ _ _ _ _ hobF hobQ; clear hobQ hobE; rename _ => hobE))
  (k_with "M ad8" => ((with_reducible refine' (_ : AdE8 hobE _) _ _ _ _ _ _ _ _ rfl); intros _ _ _ _ _ _ _ hobF hobQ; clear hobQ hobE; rename _ => hobE))
  (k_with "M ob1" => skip)
  (k_with "M ob2" => first | (k_extra "M ex1"; k_extra "M ob1") | (k_extra "M ad2"; k_extra "M ob1") | fail "mine: ob")
  (k_with "M ob3" => first | (k_extra "M ex2"; k_extra "M ob1") | (k_extra "M ex1"; k_extra "M ob2") | (k_extra "M ad3"; k_extra "M ob1") | (k_extra "M ad2"; k_extra "M ob2") | fail "mine: ob")
  (k_with "M ob4" => first | (k_extra "M ex3"; k_extra "M ob1") | (k_extra "M ex2"; k_extra "M ob2") | (k_extra "M ex1"; k_extra "M ob3") | (k_extra "M ad4"; k_extra "M ob1") | (k_extra "M ad3"; k_extra "M ob2") | (k_extra "M ad2"; k_extra "M ob3") | fail "mine: ob")
  (k_with "M ob5" => first | (k_extra "M ex4"; k_extra "M ob1") | (k_extra "M ex3"; k_extra "M ob2") | (k_extra "M ex2"; k_extra "M ob3") | (k_extra "M ex1"; k_extra "M ob4") | (k_extra "M ad5"; k_extra "M ob1") | (k_extra "M ad4"; k_extra "M ob2") | (k_extra "M ad3"; k_extra "M ob3") | (k_extra "M ad2"; k_extra "M ob4") | fail "mine: ob")
  (k_with "M ob6" => first | (k_extra "M ex5"; k_extra "M ob1") | (k_extra "M ex4"; k_extra "M ob2") | (k_extra "M ex3"; k_extra "M ob3") | (k_extra "M ex2"; k_extra "M ob4") | (k_extra "M ex1"; k_extra "M ob5") | (k_extra "M ad6"; k_extra "M ob1") | (k_extra "M ad5"; k_extra "M ob2") | (k_extra "M ad4"; k_extra "M ob3") | (k_extra "M ad3"; k_extra "M ob4") | (k_extra "M ad2"; k_extra "M ob5") | fail "mine: ob")
  (k_with "M ob7" => first | (k_extra "M ex6"; k_extra "M ob1") | (k_extra "M ex5"; k_extra "M ob2") | (k_extra "M ex4"; k_extra "M ob3") | (k_extra "M ex3"; k_extra "M ob4") | (k_extra "M ex2"; k_extra "M ob5") | (k_extra "M ex1"; k_extra "M ob6") | (k_extra "M ad7"; k_extra "M ob1") | (k_extra "M ad6"; k_extra "M ob2") | (k_extra "M ad5"; k_extra "M ob3") | (k_extra "M ad4"; k_extra "M ob4") | (k_extra "M ad3"; k_extra "M ob5") | (k_extra "M ad2"; k_extra "M ob6") | fail "mine: ob")
  (k_with "M ob8" => first | (k_extra "M ex7"; k_extra "M ob1") | (k_extra "M ex6"; k_extra "M ob2") | (k_extra "M ex5"; k_extra "M ob3") | (k_extra "M ex4"; k_extra "M ob4") | (k_extra "M ex3"; k_extra "M ob5") | (k_extra "M ex2"; k_extra "M ob6") | (k_extra "M ex1"; k_extra "M ob7") | (k_extra "M ad8"; k_extra "M ob1") | (k_extra "M ad7"; k_extra "M ob2") | (k_extra "M ad6"; k_extra "M ob3") | (k_extra "M ad5"; k_extra "M ob4") | (k_extra "M ad4"; k_extra "M ob5") | (k_extra "M ad3"; k_extra "M ob6") | (k_extra "M ad2"; k_extra "M ob7") | fail "mine: ob")
  (k_with "M ob9" => first | (k_extra "M ex8"; k_extra "M ob1") | (k_extra "M ex7"; k_extra "M ob2") | (k_extra "M ex6"; k_extra "M ob3") | (k_extra "M ex5"; k_extra "M ob4") | (k_extra "M ex4"; k_extra "M ob5") | (k_extra "M ex3"; k_extra "M ob6") | (k_extra "M ex2"; k_extra "M ob7") | (k_extra "M ex1"; k_extra "M ob8") | (k_extra "M ad8"; k_extra "M ob2") | (k_extra "M ad7"; k_extra "M ob3") | (k_extra "M ad6"; k_extra "M ob4") | (k_extra "M ad5"; k_extra "M ob5") | (k_extra "M ad4"; k_extra "M ob6") | (k_extra "M ad3"; k_extra "M ob7") | (k_extra "M ad2"; k_extra "M ob8") | fail "mine: ob")
  (k_with "M ob10" => first | (k_extra "M ex9"; k_extra "M ob1") | (k_extra "M ex8"; k_extra "M ob2") | (k_extra "M ex7"; k_extra "M ob3") | (k_extra "M ex6"; k_extra "M ob4") | (k_extra "M ex5"; k_extra "M ob5") | (k_extra "M ex4"; k_extra "M ob6") | (k_extra "M ex3"; k_extra "M ob7") | (k_extra "M ex2"; k_extra "M ob8") | (k_extra "M ex1"; k_extra "M ob9") | (k_extra "M ad8"; k_extra "M ob3") | (k_extra "M ad7"; k_extra "M ob4") | (k_extra "M ad6"; k_extra "M ob5") | (k_extra "M ad5"; k_extra "M ob6") | (k_extra "M ad4"; k_extra "M ob7") | (k_extra "M ad3"; k_extra "M ob8") | (k_extra "M ad2"; k_extra "M ob9") | fail "mine: ob")
  (k_with "M ob11" => first | (k_extra "M ex10"; k_extra "M ob1") | (k_extra "M ex9"; k_extra "M ob2") | (k_extra "M ex8"; k_extra "M ob3") | (k_extra "M ex7"; k_extra "M ob4") | (k_extra "M ex6"; k_extra "M ob5") | (k_extra "M ex5"; k_extra "M ob6") | (k_extra "M ex4"; k_extra "M ob7") | (k_extra "M ex3"; k_extra "M ob8") | (k_extra "M ex2"; k_extra "M ob9") | (k_extra "M ex1"; k_extra "M ob10") | (k_extra "M ad8"; k_extra "M ob4") | (k_extra "M ad7"; k_extra "M ob5") | (k_extra "M ad6"; k_extra "M ob6") | (k_extra "M ad5"; k_extra "M ob7") | (k_extra "M ad4"; k_extra "M ob8") | (k_extra "M ad3"; k_extra "M ob9") | (k_extra "M ad2"; k_extra "M ob10") | fail "mine: ob")
  (k_with "M ob12" => first | (k_extra "M ex10"; k_extra "M ob2") | (k_extra "M ex9"; k_extra "M ob3") | (k_extra "M ex8"; k_extra "M ob4") | (k_extra "M ex7"; k_extra "M ob5") | (k_extra "M ex6"; k_extra "M ob6") | (k_extra "M ex5"; k_extra "M ob7") | (k_extra "M ex4"; k_extra "M ob8") | (k_extra "M ex3"; k_extra "M ob9") | (k_extra "M ex2"; k_extra "M ob10") | (k_extra "M ex1"; k_extra "M ob11") | (k_extra "M ad8"; k_extra "M ob5") | (k_extra "M ad7"; k_extra "M ob6") | (k_extra "M ad6"; k_extra "M ob7") | (k_extra "M ad5"; k_extra "M ob8") | (k_extra "M ad4"; k_extra "M ob9") | (k_extra "M ad3"; k_extra "M ob10") | (k_extra "M ad2"; k_extra "M ob11") | fail "mine: ob")
  (k_with "M ob13" => first | (k_extra "M ex10"; k_extra "M ob3") | (k_extra "M ex9"; k_extra "M ob4") | (k_extra "M ex8"; k_extra "M ob5") | (k_extra "M ex7"; k_extra "M ob6") | (k_extra "M ex6"; k_extra "M ob7") | (k_extra "M ex5"; k_extra "M ob8") | (k_extra "M ex4"; k_extra "M ob9") | (k_extra "M ex3"; k_extra "M ob10") | (k_extra "M ex2"; k_extra "M ob11") | (k_extra "M ex1"; k_extra "M ob12") | (k_extra "M ad8"; k_extra "M ob6") | (k_extra "M ad7"; k_extra "M ob7") | (k_extra "M ad6"; k_extra "M ob8") | (k_extra "M ad5"; k_extra "M ob9") | (k_extra "M ad4"; k_extra "M ob10") | (k_extra "M ad3"; k_extra "M ob11") | (k_extra "M ad2"; k_extra "M ob12") | fail "mine: ob")
  (k_with "M ob14" => first | (k_extra "M ex10"; k_extra "M ob4") | (k_extra "M ex9"; k_extra "M ob5") | (k_extra "M ex8"; k_extra "M ob6") | (k_extra "M ex7"; k_extra "M ob7") | (k_extra "M ex6"; k_extra "M ob8") | (k_extra "M ex5"; k_extra "M ob9") | (k_extra "M ex4"; k_extra "M ob10") | (k_extra "M ex3"; k_extra "M ob11") | (k_extra "M ex2"; k_extra "M ob12") | (k_extra "M ex1"; k_extra "M ob13") | (k_extra "M ad8"; k_extra "M ob7") | (k_extra "M ad7"; k_extra "M ob8") | (k_extra "M ad6"; k_extra "M ob9") | (k_extra "M ad5"; k_extra "M ob10") | (k_extra "M ad4"; k_extra "M ob11") | (k_extra "M ad3"; k_extra "M ob12") | (k_extra "M ad2"; k_extra "M ob13") | fail "mine: ob")
  (k_with "M ob15" => first | (k_extra "M ex10"; k_extra "M ob5") | (k_extra "M ex9"; k_extra "M ob6") | (k_extra "M ex8"; k_extra "M ob7") | (k_extra "M ex7"; k_extra "M ob8") | (k_extra "M ex6"; k_extra "M ob9") | (k_extra "M ex5"; k_extra "M ob10") | (k_extra "M ex4"; k_extra "M ob11") | (k_extra "M ex3"; k_extra "M ob12") | (k_extra "M ex2"; k_extra "M ob13") | (k_extra "M ex1"; k_extra "M ob14") | (k_extra "M ad8"; k_extra "M ob8") | (k_extra "M ad7"; k_extra "M ob9") | (k_extra "M ad6"; k_extra "M ob10") | (k_extra "M ad5"; k_extra "M ob11") | (k_extra "M ad4"; k_extra "M ob12") | (k_extra "M ad3"; k_extra "M ob13") | (k_extra "M ad2"; k_extra "M ob14") | fail "mine: ob")
  (k_with "M ob16" => first | (k_extra "M ex10"; k_extra "M ob6") | (k_extra "M ex9"; k_extra "M ob7") | (k_extra "M ex8"; k_extra "M ob8") | (k_extra "M ex7"; k_extra "M ob9") | (k_extra "M ex6"; k_extra "M ob10") | (k_extra "M ex5"; k_extra "M ob11") | (k_extra "M ex4"; k_extra "M ob12") | (k_extra "M ex3"; k_extra "M ob13") | (k_extra "M ex2"; k_extra "M ob14") | (k_extra "M ex1"; k_extra "M ob15") | (k_extra "M ad8"; k_extra "M ob9") | (k_extra "M ad7"; k_extra "M ob10") | (k_extra "M ad6"; k_extra "M ob11") | (k_extra "M ad5"; k_extra "M ob12") | (k_extra "M ad4"; k_extra "M ob13") | (k_extra "M ad3"; k_extra "M ob14") | (k_extra "M ad2"; k_extra "M ob15") | fail "mine: ob")
  (k_with "M ob17" => first | (k_extra "M ex10"; k_extra "M ob7") | (k_extra "M ex9"; k_extra "M ob8") | (k_extra "M ex8"; k_extra "M ob9") | (k_extra "M ex7"; k_extra "M ob10") | (k_extra "M ex6"; k_extra "M ob11") | (k_extra "M ex5"; k_extra "M ob12") | (k_extra "M ex4"; k_extra "M ob13") | (k_extra "M ex3"; k_extra "M ob14") | (k_extra "M ex2"; k_extra "M ob15") | (k_extra "M ex1"; k_extra "M ob16") | (k_extra "M ad8"; k_extra "M ob10") | (k_extra "M ad7"; k_extra "M ob11") | (k_extra "M ad6"; k_extra "M ob12") | (k_extra "M ad5"; k_extra "M ob13") | (k_extra "M ad4"; k_extra "M ob14") | (k_extra "M ad3"; k_extra "M ob15") | (k_extra "M ad2"; k_extra "M ob16") | fail "mine: ob")
  (k_with "M ob18" => first | (k_extra "M ex10"; k_extra "M ob8") | (k_extra "M ex9"; k_extra "M ob9") | (k_extra "M ex8"; k_extra "M ob10") | (k_extra "M ex7"; k_extra "M ob11") | (k_extra "M ex6"; k_extra "M ob12") | (k_extra "M ex5"; k_extra "M ob13") | (k_extra "M ex4"; k_extra "M ob14") | (k_extra "M ex3"; k_extra "M ob15") | (k_extra "M ex2"; k_extra "M ob16") | (k_extra "M ex1"; k_extra "M ob17") | (k_extra "M ad8"; k_extra "M ob11") | (k_extra "M ad7"; k_extra "M ob12") | (k_extra "M ad6"; k_extra "M ob13") | (k_extra "M ad5"; k_extra "M ob14") | (k_extra "M ad4"; k_extra "M ob15") | (k_extra "M ad3"; k_extra "M ob16") | (k_extra "M ad2"; k_extra "M ob17") | fail "mine: ob")
  (k_with "M ob19" => first | (k_extra "M ex10"; k_extra "M ob9") | (k_extra "M ex9"; k_extra "M ob10") | (k_extra "M ex8"; k_extra "M ob11") | (k_extra "M ex7"; k_extra "M ob12") | (k_extra "M ex6"; k_extra "M ob13") | (k_extra "M ex5"; k_extra "M ob14") | (k_extra "M ex4"; k_extra "M ob15") | (k_extra "M ex3"; k_extra "M ob16") | (k_extra "M ex2"; k_extra "M ob17") | (k_extra "M ex1"; k_extra "M ob18") | (k_extra "M ad8"; k_extra "M ob12") | (k_extra "M ad7"; k_extra "M ob13") | (k_extra "M ad6"; k_extra "M ob14") | (k_extra "M ad5"; k_extra "M ob15") | (k_extra "M ad4"; k_extra "M ob16") | (k_extra "M ad3"; k_extra "M ob17") | (k_extra "M ad2"; k_extra "M ob18") | fail "mine: ob")
  (k_with "M ob20" => first | (k_extra "M ex10"; k_extra "M ob10") | (k_extra "M ex9"; k_extra "M ob11") | (k_extra "M ex8"; k_extra "M ob12") | (k_extra "M ex7"; k_extra "M ob13") | (k_extra "M ex6"; k_extra "M ob14") | (k_extra "M ex5"; k_extra "M ob15") | (k_extra "M ex4"; k_extra "M ob16") | (k_extra "M ex3"; k_extra "M ob17") | (k_extra "M ex2"; k_extra "M ob18") | (k_extra "M ex1"; k_extra "M ob19") | (k_extra "M ad8"; k_extra "M ob13") | (k_extra "M ad7"; k_extra "M ob14") | (k_extra "M ad6"; k_extra "M ob15") | (k_extra "M ad5"; k_extra "M ob16") | (k_extra "M ad4"; k_extra "M ob17") | (k_extra "M ad3"; k_extra "M ob18") | (k_extra "M ad2"; k_extra "M ob19") | fail "mine: ob")
  (k_with "M ob21" => first | (k_extra "M ex10"; k_extra "M ob11") | (k_extra "M ex9"; k_extra "M ob12") | (k_extra "M ex8"; k_extra "M ob13") | (k_extra "M ex7"; k_extra "M ob14") | (k_extra "M ex6"; k_extra "M ob15") | (k_extra "M ex5"; k_extra "M ob16") | (k_extra "M ex4"; k_extra "M ob17") | (k_extra "M ex3"; k_extra "M ob18") | (k_extra "M ex2"; k_extra "M ob19") | (k_extra "M ex1"; k_extra "M ob20") | (k_extra "M ad8"; k_extra "M ob14") | (k_extra "M ad7"; k_extra "M ob15") | (k_extra "M ad6"; k_extra "M ob16") | (k_extra "M ad5"; k_extra "M ob17") | (k_extra "M ad4"; k_extra "M ob18") | (k_extra "M ad3"; k_extra "M ob19") | (k_extra "M ad2"; k_extra "M ob20") | fail "mine: ob")
  (k_with "M ob22" => first | (k_extra "M ex10"; k_extra "M ob12") | (k_extra "M ex9"; k_extra "M ob13") | (k_extra "M ex8"; k_extra "M ob14") | (k_extra "M ex7"; k_extra "M ob15") | (k_extra "M ex6"; k_extra "M ob16") | (k_extra "M ex5"; k_extra "M ob17") | (k_extra "M ex4"; k_extra "M ob18") | (k_extra "M ex3"; k_extra "M ob19") | (k_extra "M ex2"; k_extra "M ob20") | (k_extra "M ex1"; k_extra "M ob21") | (k_extra "M ad8"; k_extra "M ob15") | (k_extra "M ad7"; k_extra "M ob16") | (k_extra "M ad6"; k_extra "M ob17") | (k_extra "M ad5"; k_extra "M ob18") | (k_extra "M ad4"; k_extra "M ob19") | (k_extra "M ad3"; k_extra "M ob20") | (k_extra "M ad2"; k_extra "M ob21") | fail "mine: ob")
  (k_with "M ob23" => first | (k_extra "M ex10"; k_extra "M ob13") | (k_extra "M ex9"; k_extra "M ob14") | (k_extra "M ex8"; k_extra "M ob15") | (k_extra "M ex7"; k_extra "M ob16") | (k_extra "M ex6"; k_extra "M ob17") | (k_extra "M ex5"; k_extra "M ob18") | (k_extra "M ex4"; k_extra "M ob19") | (k_extra "M ex3"; k_extra "M ob20") | (k_extra "M ex2"; k_extra "M ob21") | (k_extra "M ex1"; k_extra "M ob22") | (k_extra "M ad8"; k_extra "M ob16") | (k_extra "M ad7"; k_extra "M ob17") | (k_extra "M ad6"; k_extra "M ob18") | (k_extra "M ad5"; k_extra "M ob19") | (k_extra "M ad4"; k_extra "M ob20") | (k_extra "M ad3"; k_extra "M ob21") | (k_extra "M ad2"; k_extra "M ob22") | fail "mine: ob")
  (k_with "M ob24" => first | (k_extra "M ex10"; k_extra "M ob14") | (k_extra "M ex9"; k_extra "M ob15") | (k_extra "M ex8"; k_extra "M ob16") | (k_extra "M ex7"; k_extra "M ob17") | (k_extra "M ex6"; k_extra "M ob18") | (k_extra "M ex5"; k_extra "M ob19") | (k_extra "M ex4"; k_extra "M ob20") | (k_extra "M ex3"; k_extra "M ob21") | (k_extra "M ex2"; k_extra "M ob22") | (k_extra "M ex1"; k_extra "M ob23") | (k_extra "M ad8"; k_extra "M ob17") | (k_extra "M ad7"; k_extra "M ob18") | (k_extra "M ad6"; k_extra "M ob19") | (k_extra "M ad5"; k_extra "M ob20") | (k_extra "M ad4"; k_extra "M ob21") | (k_extra "M ad3"; k_extra "M ob22") | (k_extra "M ad2"; k_extra "M ob23") | fail "mine: ob")
  (k_with "M ob25" => first | (k_extra "M ex10"; k_extra "M ob15") | (k_extra "M ex9"; k_extra "M ob16") | (k_extra "M ex8"; k_extra "M ob17") | (k_extra "M ex7"; k_extra "M ob18") | (k_extra "M ex6"; k_extra "M ob19") | (k_extra "M ex5"; k_extra "M ob20") | (k_extra "M ex4"; k_extra "M ob21") | (k_extra "M ex3"; k_extra "M ob22") | (k_extra "M ex2"; k_extra "M ob23") | (k_extra "M ex1"; k_extra "M ob24") | (k_extra "M ad8"; k_extra "M ob18") | (k_extra "M ad7"; k_extra "M ob19") | (k_extra "M ad6"; k_extra "M ob20") | (k_extra "M ad5"; k_extra "M ob21") | (k_extra "M ad4"; k_extra "M ob22") | (k_extra "M ad3"; k_extra "M ob23") | (k_extra "M ad2"; k_extra "M ob24") | fail "mine: ob")
  (k_with "M ob26" => first | (k_extra "M ex10"; k_extra "M ob16") | (k_extra "M ex9"; k_extra "M ob17") | (k_extra "M ex8"; k_extra "M ob18") | (k_extra "M ex7"; k_extra "M ob19") | (k_extra "M ex6"; k_extra "M ob20") | (k_extra "M ex5"; k_extra "M ob21") | (k_extra "M ex4"; k_extra "M ob22") | (k_extra "M ex3"; k_extra "M ob23") | (k_extra "M ex2"; k_extra "M ob24") | (k_extra "M ex1"; k_extra "M ob25") | (k_extra "M ad8"; k_extra "M ob19") | (k_extra "M ad7"; k_extra "M ob20") | (k_extra "M ad6"; k_extra "M ob21") | (k_extra "M ad5"; k_extra "M ob22") | (k_extra "M ad4"; k_extra "M ob23") | (k_extra "M ad3"; k_extra "M ob24") | (k_extra "M ad2"; k_extra "M ob25") | fail "mine: ob")
  (k_with "M ob27" => first | (k_extra "M ex10"; k_extra "M ob17") | (k_extra "M ex9"; k_extra "M ob18") | (k_extra "M ex8"; k_extra "M ob19") | (k_extra "M ex7"; k_extra "M ob20") | (k_extra "M ex6"; k_extra "M ob21") | (k_extra "M ex5"; k_extra "M ob22") | (k_extra "M ex4"; k_extra "M ob23") | (k_extra "M ex3"; k_extra "M ob24") | (k_extra "M ex2"; k_extra "M ob25") | (k_extra "M ex1"; k_extra "M ob26") | (k_extra "M ad8"; k_extra "M ob20") | (k_extra "M ad7"; k_extra "M ob21") | (k_extra "M ad6"; k_extra "M ob22") | (k_extra "M ad5"; k_extra "M ob23") | (k_extra "M ad4"; k_extra "M ob24") | (k_extra "M ad3"; k_extra "M ob25") | (k_extra "M ad2"; k_extra "M ob26") | fail "mine: ob")
  (k_with "M ob28" => first | (k_extra "M ex10"; k_extra "M ob18") | (k_extra "M ex9"; k_extra "M ob19") | (k_extra "M ex8"; k_extra "M ob20") | (k_extra "M ex7"; k_extra "M ob21") | (k_extra "M ex6"; k_extra "M ob22") | (k_extra "M ex5"; k_extra "M ob23") | (k_extra "M ex4"; k_extra "M ob24") | (k_extra "M ex3"; k_extra "M ob25") | (k_extra "M ex2"; k_extra "M ob26") | (k_extra "M ex1"; k_extra "M ob27") | (k_extra "M ad8"; k_extra "M ob21") | (k_extra "M ad7"; k_extra "M ob22") | (k_extra "M ad6"; k_extra "M ob23") | (k_extra "M ad5"; k_extra "M ob24") | (k_extra "M ad4"; k_extra "M ob25") | (k_extra "M ad3"; k_extra "M ob26") | (k_extra "M ad2"; k_extra "M ob27") | fail "mine: ob")
  (k_with "M ob29" => first | (k_extra "M ex10"; k_extra "M ob19") | (k_extra "M ex9"; k_extra "M ob20") | (k_extra "M ex8"; k_extra "M ob21") | (k_extra "M ex7"; k_extra "M ob22") | (k_extra "M ex6"; k_extra "M ob23") | (k_extra "M ex5"; k_extra "M ob24") | (k_extra "M ex4"; k_extra "M ob25") | (k_extra "M ex3"; k_extra "M ob26") | (k_extra "M ex2"; k_extra "M ob27") | (k_extra "M ex1"; k_extra "M ob28") | (k_extra "M ad8"; k_extra "M ob22") | (k_extra "M ad7"; k_extra "M ob23") | (k_extra "M ad6"; k_extra "M ob24") | (k_extra "M ad5"; k_extra "M ob25") | (k_extra "M ad4"; k_extra "M ob26") | (k_extra "M ad3"; k_extra "M ob27") | (k_extra "M ad2"; k_extra "M ob28") | fail "mine: ob")
  (k_with "M ob30" => first | (k_extra "M ex10"; k_extra "M ob20") | (k_extra "M ex9"; k_extra "M ob21") | (k_extra "M ex8"; k_extra "M ob22") | (k_extra "M ex7"; k_extra "M ob23") | (k_extra "M ex6"; k_extra "M ob24") | (k_extra "M ex5"; k_extra "M ob25") | (k_extra "M ex4"; k_extra "M ob26") | (k_extra "M ex3"; k_extra "M ob27") | (k_extra "M ex2"; k_extra "M ob28") | (k_extra "M ex1"; k_extra "M ob29") | (k_extra "M ad8"; k_extra "M ob23") | (k_extra "M ad7"; k_extra "M ob24") | (k_extra "M ad6"; k_extra "M ob25") | (k_extra "M ad5"; k_extra "M ob26") | (k_extra "M ad4"; k_extra "M ob27") | (k_extra "M ad3"; k_extra "M ob28") | (k_extra "M ad2"; k_extra "M ob29") | fail "mine: ob")
  trivial
local macro_rules | `(tactic| intro $xs*) => do
  let ys := (xs.takeWhile fun x => x.raw.isIdent || x.raw.isOfKind ``Lean.Parser.Term.hole).extract 0 30
  if ys.size == 0 then Lean.Macro.throwUnsupported
  let mut ts := #[← `(tactic| with_reducible rename HKon => hkm), ← `(tactic| walk_at $(Lean.quote s!"M in{ys.size}")), ← `(tactic| rename_i $(ys.map fun y => ⟨Lean.mkNode ``Lean.binderIdent #[y]⟩)*)]
  if ys.size < xs.size then ts := ts.push (← `(tactic| intro $(xs.extract ys.size xs.size)*))
  `(tactic| ($[$ts]*))
local macro_rules | `(tactic| obtain ⟨$ps,*⟩ : $t := $e:term) => `(tactic| obtain ⟨$ps,*⟩ := ($e : $t))
local macro_rules | `(tactic| obtain ⟨$ps,*⟩ := $e:term) => do
  let a := ps.getElems
  if a.size < 2 then Lean.Macro.throwUnsupported
  let mut ns : Array (Lean.TSyntax `ident) := #[]
  let mut ts : Array (Lean.TSyntax `tactic) := #[]
  for p in a do
    let m := p.raw[0][0]
    let s := m[0]
    if m.getNumArgs == 1 && s.isOfKind ``Lean.Parser.Tactic.rcasesPat.one && s[0].getId != `rfl then ns := ns.push ⟨s[0]⟩
    else
      let h := Lean.mkIdent (← Lean.MonadQuotation.addMacroScope (.mkSimple s!"hp{ns.size}"))
      ns := ns.push h
      if m.getNumArgs > 1 || !s.isOfKind ``Lean.Parser.Tactic.rcasesPat.ignore then ts := ts.push (← `(tactic| (obtain $(⟨p.raw[0]⟩) := $h:ident; try clear $h)))
  let c ← if !e.raw.isIdent || a.any fun p => (p.raw.find? fun s => s.isIdent && s.getId == e.raw.getId).isSome then `(tactic| skip) else `(tactic| try clear $(⟨e.raw⟩))
  let hE := Lean.mkIdent `hobE
  ts := #[← `(tactic| with_reducible rename HKon => hkm), ← `(tactic| refine' no_implicit_lambda% ((_ : _ → _) $e)), ← `(tactic| intros $hE), c, ← `(tactic| walk_at $(Lean.quote s!"M ob{a.size}")), ← `(tactic| rename _ => $(Lean.mkIdent (← Lean.withFreshMacroScope (Lean.MonadQuotation.addMacroScope `hz)))), ← `(tactic| rename_i $(ns.map fun y => ⟨Lean.mkNode ``Lean.binderIdent #[y]⟩)*)] ++ ts
  `(tactic| ($[$ts]*))
local macro_rules | `(tactic| rintro $ps*) => do
  let mut run : Array (Lean.TSyntax `term) := #[]
  let mut ts : Array (Lean.TSyntax `tactic) := #[← `(tactic| with_reducible rename HKon => hkm)]
  for p in ps do
    let one := p.raw[0]
    if one.isOfKind ``Lean.Parser.Tactic.rcasesPat.one && one[0].getId != `rfl then run := run.push ⟨one[0]⟩
    else
      if run.size > 0 then ts := ts.push (← `(tactic| intro $run*))
      run := #[]
      ts := ts.push (← `(tactic| (intros ht; obtain $(⟨Lean.mkNode ``Lean.Parser.Tactic.rcasesPatMed #[Lean.mkNullNode #[one]]⟩) := ht)))
  if run.size > 0 then ts := ts.push (← `(tactic| intro $run*))
  `(tactic| ($[$ts]*))
theorem kwHK1 : True := by
  (k_with "M! k_fold" => ((with_reducible rename HKon => hkm); skip))
  trivial
theorem by_pred {P : Nat → Prop} (h : ∀ k, (∀ k', k = k' + 1 → P k') → P k) : ∀ k, P k
  | 0 => h 0 fun _ e => nomatch e
  | k + 1 => h (k + 1) fun _ e => Nat.succ.inj e ▸ by_pred h k
theorem room1 {d a n N : Nat} (h : d + n < N) (k : Nat.ble a n = true) : d + a < N := Nat.lt_of_le_of_lt (Nat.add_le_add_left (Nat.le_of_ble_eq_true k) d) h
theorem room2 {d a b n N : Nat} (h : d + n < N) (k : Nat.ble (a + b) n = true) : d + a + b < N := by rw [Nat.add_assoc]; exact room1 h k
theorem room3 {d a b c n N : Nat} (h : d + n < N) (k : Nat.ble (a + b + c) n = true) : d + a + b + c < N := by rw [Nat.add_assoc d, Nat.add_assoc d]; exact room1 h k
theorem rm0 {d n a N : Nat} (h : d + (n + a) < N) : d + a < N := Nat.lt_of_le_of_lt (Nat.add_le_add_left (Nat.le_add_left _ _) d) h
theorem rm1 {d n a b N : Nat} (h : d + (n + a) < N) (k : Nat.ble b a = true) : d + b + n < N := by
  have := Nat.le_of_ble_eq_true k
  rw [Nat.add_assoc]; exact Nat.lt_of_le_of_lt (Nat.add_le_add_left (by rw [Nat.add_comm b n]; exact Nat.add_le_add_left this n) d) h
theorem rm2 {d n a b c N : Nat} (h : d + (n + a) < N) (k : Nat.ble (b + c) a = true) : d + b + (n + c) < N := by
  rw [← Nat.add_assoc, Nat.add_right_comm]
  rw [Nat.add_assoc d b c]; exact rm1 h k
theorem rm4 {d a b c e n N : Nat} (h : d + n < N) (k : Nat.ble (a + b + c + e) n = true) : d + a + b + c + e < N := by rw [Nat.add_assoc d, Nat.add_assoc d, Nat.add_assoc d]; exact room1 h k
theorem rmx {d n a N : Nat} (h : d + (a + n) < N) : d + a < N := Nat.lt_of_le_of_lt (Nat.add_le_add_left (Nat.le_add_right _ _) d) h
theorem rmk {d a b c e k N : Nat} (hk : k ≤ 2) (h : d + a < N) (g : Nat.ble (b + (c * 2 + e)) a = true) : d + b + (c * k + e) < N := by
  rw [Nat.add_assoc]
  exact Nat.lt_of_le_of_lt (Nat.add_le_add_left (Nat.le_trans (Nat.add_le_add_left (Nat.add_le_add_right (Nat.mul_le_mul_left c hk) e) b) (Nat.le_of_ble_eq_true g)) d) h
theorem lc0 {a k m : Nat} (g : a ≤ k) (e : Nat.ble k m = true) : a ≤ m := Nat.le_trans g (Nat.le_of_ble_eq_true e)
theorem lc1 {a b k m : Nat} (h : a = b) (g : b ≤ k) (e : Nat.ble k m = true) : a ≤ m := h ▸ lc0 g e
theorem lc2 {a b c k m : Nat} (h : a = b) (h2 : b = c) (g : c ≤ k) (e : Nat.ble k m = true) : a ≤ m := h ▸ lc1 h2 g e
theorem lc3 {a b c d k m : Nat} (h : a = b) (h2 : b = c) (h3 : c = d) (g : d ≤ k) (e : Nat.ble k m = true) : a ≤ m := h ▸ lc2 h2 h3 g e
theorem lc4 {a b c d f k m : Nat} (h : a = b) (h2 : b = c) (h3 : c = d) (h4 : d = f) (g : f ≤ k) (e : Nat.ble k m = true) : a ≤ m := h ▸ lc3 h2 h3 h4 g e
theorem lcs {a b k m : Nat} (h : b = a) (g : b ≤ k) (e : Nat.ble k m = true) : a ≤ m := h ▸ lc0 g e
theorem ec {a b c : Nat} (h : a = c) (g : b = c) : a = b := h.trans g.symm
theorem lt1 {i b c : Nat} (g : i < b) (h : b = c) : i < c := h ▸ g
theorem lt1s {i b c : Nat} (h : c = b) (g : i < b) : i < c := h.symm ▸ g
theorem lt2 {i r v z : Nat} (g : i < r) (h : r = v) (f : z = v) : i < z := f.symm ▸ h ▸ g
theorem sl {i n : Nat} (h : i < n) : i + 1 ≤ n := h
theorem ls {i n : Nat} (h : i + 1 ≤ n) : i < n := h
theorem ls2 {i n : Nat} (h : i + 1 < n) : i < n := Nat.lt_of_succ_lt h
theorem ll1 {a L t : Nat} (h : a < L) (g : L + 1 < t) : a < t := Nat.lt_trans h (ls2 g)
theorem ll2 {a L t : Nat} (h : a < L) (g : L + 1 + 1 < t) : a < t := ll1 h (ls2 g)
theorem ll3 {a L t : Nat} (h : a < L) (g : L + 1 ≤ t) : a < t := Nat.lt_trans h g
theorem ll4 {a L D t : Nat} (h : a < L) (g : L < D) (f : D < t) : a < t := Nat.lt_trans h (Nat.lt_trans g f)
theorem ll5 {a L D C t : Nat} (h : a < L) (g : L < D) (f : D < C) (e : C < t) : a < t := Nat.lt_trans h (ll4 g f e)
theorem ll6 {a L D C c t : Nat} (h : a < L) (g : L < D) (f : D < C) (e : C < c) (d : c < t) : a < t := Nat.lt_trans h (ll5 g f e d)
theorem bi {x a b : Int} (h : 0 ≤ x) (g : x < a) (k : a ≤ b) : 0 ≤ x ∧ x < b := ⟨h, Int.lt_of_lt_of_le g k⟩
theorem bw {x a b : Int} (h : 0 ≤ x ∧ x < a) (k : a ≤ b) : 0 ≤ x ∧ x < b := ⟨h.1, Int.lt_of_lt_of_le h.2 k⟩
theorem bm {v n : Int} (k : 0 < n) : 0 ≤ v % n ∧ v % n < n := ⟨Int.emod_nonneg v (Int.ne_of_gt k), Int.emod_lt_of_pos v k⟩
theorem bmp {v : Int} : 0 ≤ v % 128 + 128 ∧ v % 128 + 128 < 256 := by have := @bm v 128 (by decide); omega
theorem bt {m c : Int} (h : 0 ≤ m) (g : m < 6) (k : 0 ≤ c) (e : c ≤ 200) : 0 ≤ 8 * (1 + m) + c ∧ 8 * (1 + m) + c < 256 := by omega
theorem bt0 {m : Int} (h : 0 ≤ m) (g : m < 6) : 0 ≤ 8 * (1 + m) ∧ 8 * (1 + m) < 256 := by omega
theorem bn {n k : Nat} {b : Int} (h : n ≤ k) (e : (k : Int) < b) : 0 ≤ (n : Int) ∧ (n : Int) < b := ⟨Int.natCast_nonneg n, Int.lt_of_le_of_lt (Int.ofNat_le.mpr h) e⟩
theorem o1 {m : Int} (h : 0 ≤ m) : 1 ≤ 1 + m := by omega
theorem o6 {m : Int} (h : m < 6) : 1 + m ≤ 6 := by omega
theorem sz {n k a m : Nat} (h : n ≤ k) (e : Nat.ble (a + k) m = true) : a + n ≤ m := Nat.le_trans (Nat.add_le_add_left h a) (Nat.le_of_ble_eq_true e)
theorem sz1 {n b k a m : Nat} (g : n = b) (h : b ≤ k) (e : Nat.ble (a + k) m = true) : a + n ≤ m := sz (g ▸ h) e
theorem kwHK2 : True := by
  (k_with "M pr" => with_reducible first | exact And.left (by assumption) | exact And.left (And.right (by assumption)) | exact And.left (And.right (And.right (by assumption))) | exact And.left (And.right (And.right (And.right (by assumption)))) | exact And.left (And.right (And.right (And.right (And.right (by assumption))))) | exact And.left (And.right (And.right (And.right (And.right (And.right (by assumption)))))) | exact And.left (And.right (And.right (And.right (And.right (And.right (And.right (by assumption))))))) | exact And.left (And.right (And.right (And.right (And.right (And.right (And.right (And.right (by assumption)))))))) | exact And.left (And.right (And.right (And.right (And.right (And.right (And.right (And.right (And.right (by assumption))))))))) | fail "mine: pr")
  (k_with "M lt" => with_reducible first | assumption | k_extra "M pr" | exact Nat.lt_succ_self _ | exact Nat.lt_add_right _ (Nat.lt_succ_self _) | exact Nat.lt_add_right _ (by assumption) | exact Nat.lt_add_right _ (Nat.lt_add_right _ (by assumption)) | exact Nat.lt_trans (And.left (by assumption)) (by assumption) | exact Nat.lt_trans (And.left (And.right (by assumption))) (by assumption) | exact Nat.lt_trans (And.left (And.right (And.right (by assumption)))) (by assumption) | exact Nat.lt_trans (by assumption) (by assumption) | exact ls2 (by assumption) | exact ls2 (And.left (by assumption)) | exact ll1 (by assumption) (by assumption) | exact ll2 (by assumption) (by assumption) | exact ll3 (by assumption) (by assumption) | exact ls (by assumption) | exact ll4 (by assumption) (by assumption) (by assumption) | exact ll5 (by assumption) (by assumption) (by assumption) (by assumption) | exact ll6 (by assumption) (by assumption) (by assumption) (by assumption) (by assumption) | fail "mine: lt")
  (k_with "M! omega" => with_reducible first
  | assumption
  | (show @LT.lt Nat _ _ _; first | k_extra "M lt" | decide | exact room1 (by assumption) rfl | exact room2 (by assumption) rfl | exact room3 (by assumption) rfl | exact rm1 (by assumption) rfl | exact rm2 (by assumption) rfl | exact rm4 (by assumption) rfl | exact room1 (rm0 (by assumption)) rfl | exact room2 (rm0 (by assumption)) rfl | exact room3 (rm0 (by assumption)) rfl | exact rm4 (rm0 (by assumption)) rfl | exact room2 (rmx (by assumption)) rfl | exact rmk (by assumption) (by assumption) rfl | exact lt1 (by assumption) (by assumption) | exact lt1s (by assumption) (by assumption) | exact lt2 (by assumption) (by assumption) (by assumption))
  | (show @LE.le Nat _ _ _; first | decide | exact lc0 (by assumption) rfl | k_extra "M pr" | exact sl (by assumption) | exact lc1 (by assumption) (by assumption) rfl | exact lc2 (by assumption) (by assumption) (by assumption) rfl | exact lc3 (by assumption) (by assumption) (by assumption) (by assumption) rfl | exact lc4 (by assumption) (by assumption) (by assumption) (by assumption) (by assumption) rfl | exact lcs (by assumption) (by assumption) rfl | exact sz (by assumption) rfl | exact sz1 (by assumption) (by assumption) rfl)
  | (show @Ne Nat _ _; first | exact Nat.ne_of_gt (by k_extra "M lt") | exact Nat.ne_of_lt (by k_extra "M lt") | k_extra "M pr")
  | (show @Eq Nat _ _; first | exact Eq.symm (by assumption) | exact Eq.trans (by assumption) (by assumption) | exact ec (by assumption) (by assumption))
  | (show @LE.le Int _ _ _; first | decide | k_extra "M pr" | exact o1 (by assumption) | exact o6 (by assumption))
  | (show @LT.lt Int _ _ _; first | decide | k_extra "M pr")
  | (show And _ _; first | exact bi (by assumption) (by assumption) (by decide) | exact bw (by assumption) (by decide) | exact bm (by decide) | exact bw (bm (by decide)) (by decide) | exact bmp | exact bt (by assumption) (by assumption) (by decide) (by decide) | exact bt0 (by assumption) (by assumption) | exact bn (by assumption) (by decide) | exact ⟨by assumption, by assumption⟩)
  | fail "mine: omega")
  trivial
set_option bootstrap.genMatcherCode false
-- H0
section
@[reducible] noncomputable def prg : Program := Challenge.rw_au0020_01.row.toRowW.prog
@[reducible] noncomputable def Led := List (Addr × Obj)
@[reducible] noncomputable def tabs (t1 t2 t3 : Array Value) : Led := [(266, tabObj t1), (280, tabObj t2), (159, tabObj t3)]
noncomputable def CodeE (kn : Led) (q : Str) (c : Addr) : Prop := ∃ oc vs tk, (c, oc) ∈ kn ∧ oc.data = .fields vs ∧ vs[1]? = some (.str q tk)
theorem CodeE.mono : ∀ {kn kn' : Led} {q : Str} {c : Addr} (x : CodeE kn q c) (h : ∀ p ∈ kn, p ∈ kn'), CodeE kn' q c := by
  have hon : HKon := trivial
  intro kn kn' q c x h
  obtain ⟨oc, vs, tk, a, b, d⟩ := x
  exact ⟨oc, vs, tk, h _ a, b, d⟩
structure TabOk (t1 t2 t3 : Array Value) (kn : Led) : Prop where
  a : t1 = #[] ∨ ∃ c, t1 = #[rawInt 142, rawInt 18, .ref c] ∧ CodeE kn "_VarintBytes.<locals>.<lambda>" c
  b : t2 = #[] ∨ ∃ c, t2 = #[rawInt 149, rawInt 4, .ref c] ∧ CodeE kn "_VarintDecoder.<locals>.DecodeVarint" c
  c : t3 = #[] ∨ ∃ c d, t3 = #[rawInt 86, rawInt 36, .ref c, rawInt 87, rawInt 49, .ref d] ∧ CodeE kn "UnknownFieldSet.__eq__.<locals>.<lambda>" c ∧ CodeE kn "UnknownFieldSet.__eq__.<locals>.<lambda>" d
  d : ∀ p ∈ kn, p.1 ≠ 266 ∧ p.1 ≠ 280 ∧ p.1 ≠ 159
theorem TabOk.mono {t1 t2 t3 : Array Value} {kn kn' : Led} (x : TabOk t1 t2 t3 kn) (h : ∀ p ∈ kn, p ∈ kn') (hd : ∀ p ∈ kn', p ∈ kn ∨ (p.1 ≠ 266 ∧ p.1 ≠ 280 ∧ p.1 ≠ 159)) : TabOk t1 t2 t3 kn' where
  d := fun p hp => (hd p hp).elim (x.d p) id
  a := x.a.imp id fun ⟨c, e, y⟩ => ⟨c, e, y.mono h⟩
  b := x.b.imp id fun ⟨c, e, y⟩ => ⟨c, e, y.mono h⟩
  c := x.c.imp id fun ⟨c, d, e, y, z⟩ => ⟨c, d, e, y.mono h, z.mono h⟩

structure Rdy (w : World) (A : Around) (n u : Nat) (s : Shared) (t1 t2 t3 : Array Value) (kn : Led) (base : Heap) (outs : List Env) (g : Heap) (loose : List Str) (mean : ExcName → Option Value) (mg mb : Str → Option Value) : Prop where
  below : Below A base outs g
  K : (hd.heap_1_39 w.params).In g
  top : Top topProg loose mean mg mb g
  c1 : CodeHd g 270 266
  c2 : CodeHd g 284 280
  c3 : CodeHd g 163 159
  sub : ∀ b o, g.get? b = some o → s.heap.get? b = some o
  size : g.objs.size ≤ s.heap.objs.size
  cov : ∀ b o, s.heap.get? b = some o → (∀ p ∈ tabs t1 t2 t3 ++ kn, p.1 ≠ b) → g.get? b = some o
  news : ∀ p ∈ tabs t1 t2 t3 ++ kn, s.heap.get? p.1 = some p.2 ∧ g.get? p.1 = none
  tok : TabOk t1 t2 t3 kn
  handled : A.handled = none
  depth : A.depth + n < recursionLimit
  units : A.units + u < cLine

structure Ext (h h' : Heap) (t1' t2' t3' : Array Value) (kn tl : Led) : Prop where
  keep : ∀ b o, h.get? b = some o → b ≠ 266 → b ≠ 280 → b ≠ 159 → h'.get? b = some o
  size : h.objs.size ≤ h'.objs.size
  news : ∀ p ∈ tabs t1' t2' t3' ++ (kn ++ tl), h'.get? p.1 = some p.2
  fresh : ∀ p ∈ tl, p ∈ kn ∨ h.get? p.1 = none
  tok : TabOk t1' t2' t3' (kn ++ tl)

noncomputable def Con (w : World) (f : Value) (args : List Value) (n u : Nat) (kn : Led) (Post : Led → Value → Prop) : Prop :=
  ∀ (A : Around) (s : Shared) (t1 t2 t3 : Array Value) (base : Heap) (outs : List Env) (g : Heap) (loose : List Str) (mean : ExcName → Option Value) (mg mb : Str → Option Value) (Z : Result → Shared → Prop),
    Rdy w A n u s t1 t2 t3 kn base outs g loose mean mg mb →
    (∀ r h' tk' gs' t1' t2' t3' tl, Ext s.heap h' t1' t2' t3' kn tl → (AllBare s.gens → AllBare gs') → Post (kn ++ tl) r → Z (.ok (.ret r)) { s with heap := h', toks := tk', gens := gs' }) → codeAny (model prg w) A (.call f ⟨args, []⟩) Z s

structure Same (h h' : Heap) : Prop where
  keep : ∀ b o, h.get? b = some o → h'.get? b = some o
  size : h.objs.size ≤ h'.objs.size
noncomputable def Con0 (w : World) (f : Value) (args : List Value) (n u : Nat) (kn : Led) (Post : Value → Prop) : Prop :=
  ∀ (A : Around) (s : Shared) (t1 t2 t3 : Array Value) (base : Heap) (outs : List Env) (g : Heap) (loose : List Str) (mean : ExcName → Option Value) (mg mb : Str → Option Value) (Z : Result → Shared → Prop),
    Rdy w A n u s t1 t2 t3 kn base outs g loose mean mg mb →
    (∀ r h' tk', Same s.heap h' → Post r → Z (.ok (.ret r)) { s with heap := h', toks := tk' }) → codeAny (model prg w) A (.call f ⟨args, []⟩) Z s

theorem enter {w : World} {A : Around} {n u : Nat} {s : Shared} {t1 t2 t3 : Array Value} {kn : Led} {base : Heap} {outs : List Env} {g : Heap} {loose : List Str} {mean : ExcName → Option Value} {mg mb : Str → Option Value}
    {name qual : Str} {params : Arguments} {body : List Stmt} {scope : Scope} {dV kV doc pm cdv ct oc : Value} {an od : Option Addr} {osl : Array (Option Value)} {f : Addr} {args : List Value} {binds : List (Str × Value)} {Z : Result → Shared → Prop}
    (R : Rdy w A n u s t1 t2 t3 kn base outs g loose mean mg mb)
    (ho : (hd.heap_1_39 w.params).lookup f = some ⟨oc, od, .func (fnOf name qual params body scope dV kV doc pm an cdv ct), osl⟩) (hcd : codeIn (hd.heap_1_39 w.params) cdv qual = true)
    (hbind : BindsTo s (fnOf name qual params body scope dV kV doc pm an cdv ct) ⟨args, []⟩ binds) (hloc : ∀ y ∈ binds, scope.names.lookup y.1 = some .local)
    (hcell : ∀ x ∈ scope.names, x.2 ≠ .cell) (hco : scope.isCoroutine = false) (hgen : scope.isGenerator = false) (hk : scope.kind = .function)
    (h : ∀ L h₁, L = s.heap.objs.size → Fr g L h₁ (fun y => binds.reverse.lookup y) → News g L h₁ ((266, tabObj t1) :: (280, tabObj t2) :: (159, tabObj t3) :: kn) → Below A base outs g → (hd.heap_1_39 w.params).In g → Top topProg loose mean mg mb g → CodeHd g 270 266 → CodeHd g 284 280 → CodeHd g 163 159 → TabOk t1 t2 t3 kn → @LT.lt Nat instLTNat 266 L → @LT.lt Nat instLTNat 280 L → @LT.lt Nat instLTNat 159 L → AllLt L kn →
      wpAny (model prg w) (A.deeper (envOf qual scope L f cdv)) (execs body (envOf qual scope L f cdv))
        (fun fl s' => Z (.ok (.ret (match fl with | .ret v => v | _ => .none))) s')
        (fun e s' => wpAny (model prg w) (A.deeper (envOf qual scope L f cdv)) (leaving (envOf qual scope L f cdv) e) (fun _ s'' => Z (.error e) s'') (fun e' s'' => Z (.error e') s'') s')
        { s with heap := h₁, toks := s.toks + binds.length }) :
    codeAny (model prg w) A (.call (.ref f) ⟨args, []⟩) Z s := by
  refine (codeAny_call_def (fd := fnX name qual params body scope [] dV kV doc pm an cdv ct) (body := body) (binds := binds) (Nat.lt_of_le_of_lt (Nat.le_add_right _ _) R.depth) (R.sub _ _ (R.K _ _ ho)) rfl (R.top.nolimit.keeps R.sub) (codeRec_of (R.K.keeps R.sub) hcd) rfl hbind hcell hloc (fun h₁ hns hk₁ => ?_) hco hgen hk)
  refine h _ h₁ rfl ⟨hns, fun b o e => hk₁ b o (R.sub b o e), R.size⟩ (fun p hp => ⟨hk₁ _ _ (R.news p hp).1, Nat.ne_of_lt (Heap.lt_size (R.news p hp).1), (R.news p hp).2⟩) R.below R.K R.top R.c1 R.c2 R.c3 R.tok (Heap.lt_size (R.news (266, tabObj t1) (by simp)).1) (Heap.lt_size (R.news (280, tabObj t2) (by simp)).1) (Heap.lt_size (R.news (159, tabObj t3) (by simp)).1) (allLt_of fun p hp => Heap.lt_size (R.news p (List.mem_append_right _ hp)).1)

theorem get_ne {h : Heap} {a b : Addr} {o : Obj} (e : h.get? a = some o) (q : h.get? b = none) : b ≠ a := fun z => nomatch (show none = some o from q.symm.trans (z ▸ e))
theorem obj_ne {h : Heap} {a b : Addr} {o o' : Obj} (e : h.get? a = some o) (e' : h.get? b = some o') (n : o.cls ≠ o'.cls) : a ≠ b := fun q => n (congrArg Obj.cls (Option.some.inj (e.symm.trans (q ▸ e'))))
theorem three {P : Addr × Obj → Prop} {t1 t2 t3 : Array Value} (h : ∀ p ∈ tabs t1 t2 t3, P p) : P (266, tabObj t1) ∧ P (280, tabObj t2) ∧ P (159, tabObj t3) := ⟨h _ (.head _), h _ (.tail _ (.head _)), h _ (.tail _ (.tail _ (.head _)))⟩
theorem tabs_all {P : Addr × Obj → Prop} {t1 t2 t3 : Array Value} (h : P (266, tabObj t1) ∧ P (280, tabObj t2) ∧ P (159, tabObj t3)) : ∀ p ∈ tabs t1 t2 t3, P p :=
  List.forall_mem_cons.mpr ⟨h.1, List.forall_mem_cons.mpr ⟨h.2.1, List.forall_mem_cons.mpr ⟨h.2.2, List.forall_mem_nil _⟩⟩⟩
section
variable {g h : Heap} {L : Addr} {news : Led} {t1 t2 t3 t1' t2' t3' : Array Value}
theorem ground_off (N : News g L h news) (sub : ∀ p ∈ tabs t1 t2 t3, p ∈ news) {b : Addr} {o : Obj} (e : g.get? b = some o) : b ≠ 266 ∧ b ≠ 280 ∧ b ≠ 159 := three (P := fun p => b ≠ p.1) fun p hp => (get_ne e (N p (sub p hp)).2.2).symm
theorem frame_off (N : News g L h news) (sub : ∀ p ∈ tabs t1 t2 t3, p ∈ news) : L ≠ 266 ∧ L ≠ 280 ∧ L ≠ 159 := three (P := fun p => L ≠ p.1) fun p hp => (N p (sub p hp)).2.1.symm
theorem obj_off (N : News g L h news) (sub : ∀ p ∈ tabs t1 t2 t3, p ∈ news) {b : Addr} {o : Obj} (e : h.get? b = some o) (n : o.cls ≠ .none) : b ≠ 266 ∧ b ≠ 280 ∧ b ≠ 159 :=
  have k := three fun p hp => (N p (sub p hp)).1
  ⟨obj_ne e k.1 n, obj_ne e k.2.1 n, obj_ne e k.2.2 n⟩
theorem tabs_ground (N : News g L h news) (sub : ∀ p ∈ tabs t1 t2 t3, p ∈ news) : ∀ p ∈ tabs t1' t2' t3', p.1 ≠ L ∧ g.get? p.1 = none := tabs_all (three (t1 := t1) (t2 := t2) (t3 := t3) (P := fun p => p.1 ≠ L ∧ g.get? p.1 = none) fun p hp => (N p (sub p hp)).2)
theorem new_ground {m : Str → Option Value} (F : Fr g L h m) {b : Addr} (fr : h.get? b = none) : b ≠ L ∧ g.get? b = none := by
  obtain ⟨oL, _, _, hL, _⟩ := F.ns
  refine ⟨get_ne hL fr, ?_⟩
  cases e : g.get? b with
  | none => rfl
  | some o => exact absurd rfl (get_ne (F.keep _ _ e) fr)
end
section
variable {w : World} {A A₀ : Around} {n u : Nat} {s : Shared} {h' : Heap} {t1 t2 t3 t1' t2' t3' : Array Value} {kn tl : Led} {base h₀ : Heap} {outs outer : List Env} {g : Heap} {loose : List Str} {mean : ExcName → Option Value} {mg mb : Str → Option Value}
  {L : Addr} {m m' : Str → Option Value} {news news' : Led} {env : Env} {f : Value} {args : List Value} {Post : Led → Value → Prop} {Post0 : Value → Prop} {Q E : Value → Shared → Prop} {Z : Result → Shared → Prop}

theorem ext_end (R : Rdy w A n u s t1 t2 t3 kn base outs g loose mean mg mb) (hL : L = s.heap.objs.size) (F : Fr g L h' m') (N : News g L h' news')
    (hsub : ∀ p ∈ tabs t1' t2' t3' ++ (kn ++ tl), p ∈ news') (hne : ∀ p ∈ tl, p ∈ kn ∨ ∀ q ∈ tabs t1 t2 t3 ++ kn, p.1 ≠ q.1) (tok : TabOk t1' t2' t3' (kn ++ tl)) : Ext s.heap h' t1' t2' t3' kn tl where
  keep := fun b o e h1 h2 h3 => by
    by_cases hb : ∃ p ∈ kn, p.1 = b
    · obtain ⟨p, hp, rfl⟩ := hb
      have e1 := (R.news p (List.mem_append_right _ hp)).1
      rw [e] at e1; cases e1
      exact (N p (hsub p (List.mem_append_right _ (List.mem_append_left _ hp)))).1
    · refine F.keep _ _ (R.cov b o e fun p hp => ?_)
      rcases List.mem_append.mp hp with hp | hp
      · intro q
        subst q
        simp only [List.mem_cons, List.not_mem_nil, or_false] at hp
        rcases hp with rfl | rfl | rfl
        · exact h1 rfl
        · exact h2 rfl
        · exact h3 rfl
      · exact fun q => hb ⟨p, hp, q⟩
  size := by rw [← hL]; exact Nat.le_of_lt F.ns.lt
  news := fun p hp => (N p (hsub p hp)).1
  fresh := fun p hp => by
    rcases hne p hp with hk | hk
    · exact .inl hk
    cases e : s.heap.get? p.1 with
    | none => exact .inr rfl
    | some o =>
      have := R.cov p.1 o e fun q hq => (hk q hq).symm
      rw [(N p (hsub p (List.mem_append_right _ (List.mem_append_right _ hp)))).2.2] at this
      cases this
  tok := tok

noncomputable def NewL (d : Nat) (kn : Led) : Prop := 266 < d ∧ 280 < d ∧ 159 < d ∧ AllLt d kn
theorem AllLt.ne {d : Nat} : ∀ {l : List (Addr × Obj)}, AllLt d l → ∀ p ∈ l, p.1 ≠ d
  | [], _ => fun _ h => nomatch h
  | (_, _) :: _, ⟨a, b⟩ => List.forall_mem_cons.mpr ⟨Nat.ne_of_lt a, AllLt.ne b⟩
theorem NewL.ne {d : Nat} {t1 t2 t3 : Array Value} {kn : Led} (x : NewL d kn) : ∀ q ∈ tabs t1 t2 t3 ++ kn, d ≠ q.1 := fun q hq => by
  obtain ⟨a, b, c, e⟩ := x
  rcases List.mem_append.mp hq with hq | hq
  · simp only [List.mem_cons, List.not_mem_nil, or_false] at hq
    rcases hq with rfl | rfl | rfl
    · exact Nat.ne_of_gt a
    · exact Nat.ne_of_gt b
    · exact Nat.ne_of_gt c
  · exact (AllLt.ne e q hq).symm
theorem fin {kn0 : Led} (R : Rdy w A n u s t1 t2 t3 kn base outs g loose mean mg mb) (hL : L = s.heap.objs.size) (F : Fr g L h' m') (N : News g L h' news') (TKx : TabOk t1' t2' t3' kn0)
    (ht : ∀ p ∈ tabs t1' t2' t3', p ∈ news') (hk : ∀ p ∈ kn, p ∈ news') (h0 : ∀ p ∈ kn0, p ∈ kn ++ tl)
    (htl : ∀ p ∈ tl, p ∈ news' ∧ (p ∈ kn0 ∨ p.2.cls ≠ .none) ∧ (p ∈ kn ∨ NewL p.1 kn)) : Ext s.heap h' t1' t2' t3' kn tl := by
  refine ext_end R hL F N (fun p hp => ?_) (fun p hp => (htl p hp).2.2.imp id NewL.ne) (TKx.mono h0 fun p hp => ?_)
  · rcases List.mem_append.mp hp with hp | hp
    · exact ht p hp
    · rcases List.mem_append.mp hp with hp | hp
      · exact hk p hp
      · exact (htl p hp).1
  · rcases List.mem_append.mp hp with hp | hp
    · exact .inr (R.tok.d p hp)
    · obtain ⟨hn, hc, _⟩ := htl p hp
      exact hc.imp id fun hc => obj_off N ht (N p hn).1 hc

theorem fin0 (R : Rdy w A n u s t1 t2 t3 kn base outs g loose mean mg mb) (hL : L = s.heap.objs.size) (F : Fr g L h' m') (N : News g L h' news') (TKx : TabOk t1' t2' t3' kn)
    (ht : ∀ p ∈ tabs t1' t2' t3', p ∈ news') (hk : ∀ p ∈ kn, p ∈ news')
    (htl : ∀ p ∈ tl, p ∈ news' ∧ p.2.cls ≠ .none ∧ (p ∈ kn ∨ NewL p.1 kn)) : Ext s.heap h' t1' t2' t3' kn tl :=
  fin R hL F N TKx ht hk (fun _ hp => List.mem_append_left _ hp) fun p hp => ⟨(htl p hp).1, .inr (htl p hp).2.1, (htl p hp).2.2⟩
theorem fin1 {ex : Addr × Obj} (R : Rdy w A n u s t1 t2 t3 kn base outs g loose mean mg mb) (hL : L = s.heap.objs.size) (F : Fr g L h' m') (N : News g L h' news') (TKx : TabOk t1' t2' t3' (ex :: kn)) (hex : ex ∈ kn ∨ NewL ex.1 kn)
    (ht : ∀ p ∈ tabs t1' t2' t3', p ∈ news') (hk : ∀ p ∈ kn, p ∈ news') (hx : ex ∈ news')
    (htl : ∀ p ∈ tl, p ∈ news' ∧ p.2.cls ≠ .none ∧ (p ∈ kn ∨ NewL p.1 kn)) : Ext s.heap h' t1' t2' t3' kn (ex :: tl) := by
  refine fin R hL F N TKx ht hk (fun p hp => ?_) fun p hp => ?_
  · rcases List.mem_cons.mp hp with rfl | hp
    · simp
    · exact List.mem_append_left _ hp
  · rcases List.mem_cons.mp hp with rfl | hp
    · exact ⟨hx, .inl (.head _), hex⟩
    · exact ⟨(htl p hp).1, .inr (htl p hp).2.1, (htl p hp).2.2⟩
theorem same_end (R : Rdy w A n u s t1 t2 t3 kn base outs g loose mean mg mb) (hL : L = s.heap.objs.size) (F : Fr g L h' m') (N : News g L h' news')
    (hsub : ∀ p ∈ tabs t1 t2 t3 ++ kn, p ∈ news') : Same s.heap h' where
  keep := fun b o e => by
    by_cases hb : ∃ p ∈ tabs t1 t2 t3 ++ kn, p.1 = b
    · obtain ⟨p, hp, rfl⟩ := hb
      have e1 := (R.news p hp).1
      rw [e] at e1; cases e1
      exact (N p (hsub p hp)).1
    · exact F.keep _ _ (R.cov b o e fun p hp q => hb ⟨p, hp, q⟩)
  size := by rw [← hL]; exact Nat.le_of_lt F.ns.lt

theorem rdy_of (B : Below A₀ base outer h₀) (F : Fr h₀ L s.heap m) (X : (hd.heap_1_39 w.params).In h₀) (N : News h₀ L s.heap news) (T : Top topProg loose mean mg mb h₀)
    (C1 : CodeHd h₀ 270 266) (C2 : CodeHd h₀ 284 280) (C3 : CodeHd h₀ 163 159) (hA : A.frames = some (env :: outer)) (hf : env.frame = some L) (hke : env.scope.kind = .function)
    (hsub : ∀ p ∈ tabs t1 t2 t3 ++ kn, p ∈ news) (TK : TabOk t1 t2 t3 kn) (hh : A.handled = none) (hd : A.depth + n < recursionLimit) (hu : A.units + u < cLine) :
    Rdy w A n u s t1 t2 t3 kn base (env :: outer) (hideAll s.heap ((tabs t1 t2 t3 ++ kn).map (·.1))) loose mean mg mb := by
  obtain ⟨_, BG, st, _⟩ := groundX (R := fun _ _ => True) B F (fun p hp => N p (hsub p hp)) hA hf hke
  exact ⟨BG, X.keeps st, T.keeps st, C1.keeps st, C2.keeps st, C3.keeps st, fun b o e => of_hideAll _ e, Nat.le_of_eq (hideAll_size _ _),
    fun b o e hb => hideAll_get _ e fun q => by obtain ⟨p, hp, e⟩ := List.mem_map.mp q; exact hb p hp e,
    fun p hp => ⟨(N p (hsub p hp)).1, hideAll_none _ (List.mem_map_of_mem hp)⟩, TK, hh, hd, hu⟩

structure Back (h₀ : Heap) (L : Addr) (m : Str → Option Value) (news : Led) (h h' : Heap) (t1' t2' t3' : Array Value) (kn tl : Led) : Prop where
  F : Fr h₀ L h' m
  N : News h₀ L h' (tabs t1' t2' t3' ++ (kn ++ tl))
  keep : ∀ b o, h.get? b = some o → b ≠ 266 → b ≠ 280 → b ≠ 159 → h'.get? b = some o
  size : h.objs.size ≤ h'.objs.size
  ne : ∀ p ∈ tl, p ∈ kn ∨ ∀ q ∈ news, p.1 ≠ q.1
  tok : TabOk t1' t2' t3' (kn ++ tl)

theorem back_of {h : Heap} (F : Fr h₀ L h m) (N : News h₀ L h news) (hsub : ∀ p ∈ tabs t1 t2 t3 ++ kn, p ∈ news) (X : Ext h h' t1' t2' t3' kn tl) : Back h₀ L m news h h' t1' t2' t3' kn tl := by
  have tb : ∀ p ∈ tabs t1 t2 t3, p ∈ news := fun p hp => hsub p (List.mem_append_left _ hp)
  have tL := frame_off N tb
  obtain ⟨oL, es, ep, hL, hLd, r⟩ := F.ns
  refine ⟨⟨⟨oL, es, ep, X.keep _ _ hL tL.1 tL.2.1 tL.2.2, hLd, r⟩, fun b o e => let k := ground_off N tb e; X.keep _ _ (F.keep b o e) k.1 k.2.1 k.2.2, F.above⟩, fun p hp => ⟨X.news p hp, ?_⟩, X.keep, X.size,
    fun p hp => (X.fresh p hp).imp id fun fr q hq => get_ne (N q hq).1 fr, X.tok⟩
  exact (List.mem_append.mp hp).elim (tabs_ground N tb p) fun hp => (List.mem_append.mp hp).elim (fun hp => (N p (hsub p (List.mem_append_right _ hp))).2) fun hp => (X.fresh p hp).elim (fun hk => (N p (hsub p (List.mem_append_right _ hk))).2) (new_ground F)

theorem use_con' (C : Con w f args n u kn Post) (B : Below A₀ base outer h₀) (F : Fr h₀ L s.heap m) (X : (hd.heap_1_39 w.params).In h₀) (N : News h₀ L s.heap news) (T : Top topProg loose mean mg mb h₀)
    (C1 : CodeHd h₀ 270 266) (C2 : CodeHd h₀ 284 280) (C3 : CodeHd h₀ 163 159) (TK : TabOk t1 t2 t3 kn) (hsub : ∀ p ∈ tabs t1 t2 t3 ++ kn, p ∈ news)
    (hA : A.frames = some (env :: outer)) (hf : env.frame = some L) (hke : env.scope.kind = .function)
    (hh : A.handled = none) (hd : A.depth + n < recursionLimit) (hu : A.units + u < cLine)
    (h : ∀ r h' tk' gs' t1' t2' t3' tl, Back h₀ L m news s.heap h' t1' t2' t3' kn tl → (AllBare s.gens → AllBare gs') → Post (kn ++ tl) r → Z (.ok (.ret r)) { s with heap := h', toks := tk', gens := gs' }) : codeAny (model prg w) A (.call f ⟨args, []⟩) Z s :=
  C A s t1 t2 t3 base (env :: outer) _ loose mean mg mb Z (rdy_of B F X N T C1 C2 C3 hA hf hke hsub TK hh hd hu) fun r h' tk' gs' t1' t2' t3' tl x hg p => h r h' tk' gs' t1' t2' t3' tl (back_of F N hsub x) hg p
theorem use_con (C : Con w f args n u kn Post) (B : Below A₀ base outer h₀) (F : Fr h₀ L s.heap m) (X : (hd.heap_1_39 w.params).In h₀) (N : News h₀ L s.heap news) (T : Top topProg loose mean mg mb h₀)
    (C1 : CodeHd h₀ 270 266) (C2 : CodeHd h₀ 284 280) (C3 : CodeHd h₀ 163 159) (TK : TabOk t1 t2 t3 kn) (hsub : ∀ p ∈ tabs t1 t2 t3 ++ kn, p ∈ news)
    (hA : A.frames = some (env :: outer)) (hf : env.frame = some L) (hke : env.scope.kind = .function)
    (hh : A.handled = none) (hd : A.depth + n < recursionLimit) (hu : A.units + u < cLine)
    (h : ∀ r h' tk' gs' t1' t2' t3' tl, Back h₀ L m news s.heap h' t1' t2' t3' kn tl → (AllBare s.gens → AllBare gs') → Post (kn ++ tl) r → Q r { s with heap := h', toks := tk', gens := gs' }) : wpAny (model prg w) A (call f args) Q E s :=
  wpAny_call (use_con' C B F X N T C1 C2 C3 TK hsub hA hf hke hh hd hu h)

theorem Same.fr {h : Heap} (F : Fr h₀ L h m) (x : Same h h') : Fr h₀ L h' m := by
  obtain ⟨oL, es, ep, hL, r⟩ := F.ns
  exact ⟨⟨oL, es, ep, x.keep _ _ hL, r⟩, fun b o e => x.keep _ _ (F.keep b o e), F.above⟩
theorem Same.led {h : Heap} (N : News h₀ L h news) (x : Same h h') : News h₀ L h' news := fun p hp => ⟨x.keep _ _ (N p hp).1, (N p hp).2⟩
theorem use_con0' (C : Con0 w f args n u kn Post0) (B : Below A₀ base outer h₀) (F : Fr h₀ L s.heap m) (X : (hd.heap_1_39 w.params).In h₀) (N : News h₀ L s.heap news) (T : Top topProg loose mean mg mb h₀)
    (C1 : CodeHd h₀ 270 266) (C2 : CodeHd h₀ 284 280) (C3 : CodeHd h₀ 163 159) (TK : TabOk t1 t2 t3 kn) (hsub : ∀ p ∈ tabs t1 t2 t3 ++ kn, p ∈ news)
    (hA : A.frames = some (env :: outer)) (hf : env.frame = some L) (hke : env.scope.kind = .function)
    (hh : A.handled = none) (hd : A.depth + n < recursionLimit) (hu : A.units + u < cLine)
    (h : ∀ r h' tk', Fr h₀ L h' m → News h₀ L h' news → Post0 r → Z (.ok (.ret r)) { s with heap := h', toks := tk' }) : codeAny (model prg w) A (.call f ⟨args, []⟩) Z s :=
  C A s t1 t2 t3 base (env :: outer) _ loose mean mg mb Z (rdy_of B F X N T C1 C2 C3 hA hf hke hsub TK hh hd hu) fun r h' tk' x p => h r h' tk' (x.fr F) (x.led N) p
theorem use_con0 (C : Con0 w f args n u kn Post0) (B : Below A₀ base outer h₀) (F : Fr h₀ L s.heap m) (X : (hd.heap_1_39 w.params).In h₀) (N : News h₀ L s.heap news) (T : Top topProg loose mean mg mb h₀)
    (C1 : CodeHd h₀ 270 266) (C2 : CodeHd h₀ 284 280) (C3 : CodeHd h₀ 163 159) (TK : TabOk t1 t2 t3 kn) (hsub : ∀ p ∈ tabs t1 t2 t3 ++ kn, p ∈ news)
    (hA : A.frames = some (env :: outer)) (hf : env.frame = some L) (hke : env.scope.kind = .function)
    (hh : A.handled = none) (hd : A.depth + n < recursionLimit) (hu : A.units + u < cLine)
    (h : ∀ r h' tk', Fr h₀ L h' m → News h₀ L h' news → Post0 r → Q r { s with heap := h', toks := tk' }) : wpAny (model prg w) A (call f args) Q E s :=
  wpAny_call (use_con0' C B F X N T C1 C2 C3 TK hsub hA hf hke hh hd hu h)
end
structure Op where
  s : Shared
  dp : Nat
  un : Nat
  gd : Option (List Code)
  t1 : Array Value
  t2 : Array Value
  t3 : Array Value
  base : Heap
  g : Heap
  outs : List Env
  loose : List Str
  mean : ExcName → Option Value
  mg : Str → Option Value
  mb : Str → Option Value
  Z : Result → Shared → Prop
theorem Op.ne : Nonempty Op := ⟨⟨{}, 0, 0, none, #[], #[], #[], {}, {}, [], [], fun _ => none, fun _ => none, fun _ => none, fun _ _ => True⟩⟩
noncomputable def opc (P : Shared → Nat → Nat → Option (List Code) → Array Value → Array Value → Array Value → Heap → Heap → List Env → List Str → (ExcName → Option Value) → (Str → Option Value) → (Str → Option Value) → (Result → Shared → Prop) → Prop) : Op := @Classical.epsilon Op Op.ne fun o => ¬ P o.s o.dp o.un o.gd o.t1 o.t2 o.t3 o.base o.g o.outs o.loose o.mean o.mg o.mb o.Z
@[reducible] noncomputable def HTO (P : Shared → Nat → Nat → Option (List Code) → Array Value → Array Value → Array Value → Heap → Heap → List Env → List Str → (ExcName → Option Value) → (Str → Option Value) → (Str → Option Value) → (Result → Shared → Prop) → Prop) : Prop := ∀ s dp un gd t1 t2 t3 base g outs loose mean mg mb Z, P s dp un gd t1 t2 t3 base g outs loose mean mg mb Z
theorem hkO {P : Shared → Nat → Nat → Option (List Code) → Array Value → Array Value → Array Value → Heap → Heap → List Env → List Str → (ExcName → Option Value) → (Str → Option Value) → (Str → Option Value) → (Result → Shared → Prop) → Prop} (h : P (opc P).s (opc P).dp (opc P).un (opc P).gd (opc P).t1 (opc P).t2 (opc P).t3 (opc P).base (opc P).g (opc P).outs (opc P).loose (opc P).mean (opc P).mg (opc P).mb (opc P).Z) : HTO P := fun s dp un gd t1 t2 t3 base g outs loose mean mg mb Z => @eps_all Op Op.ne (fun o => P o.s o.dp o.un o.gd o.t1 o.t2 o.t3 o.base o.g o.outs o.loose o.mean o.mg o.mb o.Z) h ⟨s, dp, un, gd, t1, t2, t3, base, g, outs, loose, mean, mg, mb, Z⟩
theorem Rdy.around {w : World} {A : Around} {n u : Nat} {s : Shared} {t1 t2 t3 : Array Value} {kn : Led} {base : Heap} {outs : List Env} {g : Heap} {loose : List Str} {mean : ExcName → Option Value} {mg mb : Str → Option Value} (R : Rdy w A n u s t1 t2 t3 kn base outs g loose mean mg mb) : ∃ dp gd un, A = ⟨none, dp, some outs, gd, un⟩ := by
  obtain ⟨ah, dp, fr, gd, un⟩ := A
  obtain rfl : ah = none := R.handled
  obtain rfl : fr = some outs := R.below.stack
  exact ⟨dp, gd, un, rfl⟩
theorem Con.open {w : World} {f : Value} {args : List Value} {n u : Nat} {kn : Led} {Post : Led → Value → Prop}
   (h : ∀ (s : Shared) (dp un : Nat) (gd : Option (List Code)) (t1 t2 t3 : Array Value) (base g : Heap) (outs : List Env) (loose : List Str) (mean : ExcName → Option Value) (mg mb : Str → Option Value) (Z : Result → Shared → Prop),
    Rdy w ⟨none, dp, some outs, gd, un⟩ n u s t1 t2 t3 kn base outs g loose mean mg mb →
    (∀ r h' tk' gs' t1' t2' t3' tl, Ext s.heap h' t1' t2' t3' kn tl → (AllBare s.gens → AllBare gs') → Post (kn ++ tl) r → Z (.ok (.ret r)) { s with heap := h', toks := tk', gens := gs' }) → dp + n < 1000 → un + u < 9900 → codeAny (model prg w) ⟨none, dp, some outs, gd, un⟩ (.call f ⟨args, []⟩) Z s) : Con w f args n u kn Post := by
  intro A s t1 t2 t3 base outs g loose mean mg mb Z R ret
  obtain ⟨ah, dp, fr, gd, un⟩ := A
  obtain rfl : ah = none := R.handled
  obtain rfl : fr = some outs := R.below.stack
  exact h s dp un gd t1 t2 t3 base g outs loose mean mg mb Z R ret R.depth R.units
noncomputable def ConG (w : World) (f : Value) (args : List Value) (n u : Nat) (kn : Led) (Post : Led → Value → Prop) (s : Shared) (dp un : Nat) (gd : Option (List Code)) (t1 t2 t3 : Array Value) (base g : Heap) (outs : List Env) (loose : List Str) (mean : ExcName → Option Value) (mg mb : Str → Option Value) (Z : Result → Shared → Prop) : Prop :=
    Rdy w ⟨none, dp, some outs, gd, un⟩ n u s t1 t2 t3 kn base outs g loose mean mg mb →
    (∀ r h' tk' gs' t1' t2' t3' tl, Ext s.heap h' t1' t2' t3' kn tl → (AllBare s.gens → AllBare gs') → Post (kn ++ tl) r → Z (.ok (.ret r)) { s with heap := h', toks := tk', gens := gs' }) → dp + n < 1000 → un + u < 9900 → codeAny (model prg w) ⟨none, dp, some outs, gd, un⟩ (.call f ⟨args, []⟩) Z s
theorem ConG.mk {w : World} {f : Value} {args : List Value} {n u : Nat} {kn : Led} {Post : Led → Value → Prop} {s : Shared} {dp un : Nat} {gd : Option (List Code)} {t1 t2 t3 : Array Value} {base g : Heap} {outs : List Env} {loose : List Str} {mean : ExcName → Option Value} {mg mb : Str → Option Value} {Z : Result → Shared → Prop}
   (h : Rdy w ⟨none, dp, some outs, gd, un⟩ n u s t1 t2 t3 kn base outs g loose mean mg mb →
    (∀ r h' tk' gs' t1' t2' t3' tl, Ext s.heap h' t1' t2' t3' kn tl → (AllBare s.gens → AllBare gs') → Post (kn ++ tl) r → Z (.ok (.ret r)) { s with heap := h', toks := tk', gens := gs' }) → dp + n < 1000 → un + u < 9900 → codeAny (model prg w) ⟨none, dp, some outs, gd, un⟩ (.call f ⟨args, []⟩) Z s) : ConG w f args n u kn Post s dp un gd t1 t2 t3 base g outs loose mean mg mb Z := h
theorem Con.openG {w : World} {f : Value} {args : List Value} {n u : Nat} {kn : Led} {Post : Led → Value → Prop} (h : HTO (ConG w f args n u kn Post)) : Con w f args n u kn Post := Con.open h
theorem Con0.open {w : World} {f : Value} {args : List Value} {n u : Nat} {kn : Led} {Post : Value → Prop}
   (h : ∀ (s : Shared) (dp un : Nat) (gd : Option (List Code)) (t1 t2 t3 : Array Value) (base g : Heap) (outs : List Env) (loose : List Str) (mean : ExcName → Option Value) (mg mb : Str → Option Value) (Z : Result → Shared → Prop),
    Rdy w ⟨none, dp, some outs, gd, un⟩ n u s t1 t2 t3 kn base outs g loose mean mg mb →
    (∀ r h' tk', Same s.heap h' → Post r → Z (.ok (.ret r)) { s with heap := h', toks := tk' }) → dp + n < 1000 → un + u < 9900 → codeAny (model prg w) ⟨none, dp, some outs, gd, un⟩ (.call f ⟨args, []⟩) Z s) : Con0 w f args n u kn Post := by
  intro A s t1 t2 t3 base outs g loose mean mg mb Z R ret
  obtain ⟨ah, dp, fr, gd, un⟩ := A
  obtain rfl : ah = none := R.handled
  obtain rfl : fr = some outs := R.below.stack
  exact h s dp un gd t1 t2 t3 base g outs loose mean mg mb Z R ret R.depth R.units
noncomputable def Con0G (w : World) (f : Value) (args : List Value) (n u : Nat) (kn : Led) (Post : Value → Prop) (s : Shared) (dp un : Nat) (gd : Option (List Code)) (t1 t2 t3 : Array Value) (base g : Heap) (outs : List Env) (loose : List Str) (mean : ExcName → Option Value) (mg mb : Str → Option Value) (Z : Result → Shared → Prop) : Prop :=
    Rdy w ⟨none, dp, some outs, gd, un⟩ n u s t1 t2 t3 kn base outs g loose mean mg mb →
    (∀ r h' tk', Same s.heap h' → Post r → Z (.ok (.ret r)) { s with heap := h', toks := tk' }) → dp + n < 1000 → un + u < 9900 → codeAny (model prg w) ⟨none, dp, some outs, gd, un⟩ (.call f ⟨args, []⟩) Z s
theorem Con0G.mk {w : World} {f : Value} {args : List Value} {n u : Nat} {kn : Led} {Post : Value → Prop} {s : Shared} {dp un : Nat} {gd : Option (List Code)} {t1 t2 t3 : Array Value} {base g : Heap} {outs : List Env} {loose : List Str} {mean : ExcName → Option Value} {mg mb : Str → Option Value} {Z : Result → Shared → Prop}
   (h : Rdy w ⟨none, dp, some outs, gd, un⟩ n u s t1 t2 t3 kn base outs g loose mean mg mb →
    (∀ r h' tk', Same s.heap h' → Post r → Z (.ok (.ret r)) { s with heap := h', toks := tk' }) → dp + n < 1000 → un + u < 9900 → codeAny (model prg w) ⟨none, dp, some outs, gd, un⟩ (.call f ⟨args, []⟩) Z s) : Con0G w f args n u kn Post s dp un gd t1 t2 t3 base g outs loose mean mg mb Z := h
theorem Con0.openG {w : World} {f : Value} {args : List Value} {n u : Nat} {kn : Led} {Post : Value → Prop} (h : HTO (Con0G w f args n u kn Post)) : Con0 w f args n u kn Post := Con0.open h
end
-- T0
section
theorem fillNow : Challenge.rw_au0020_01 = Challenge.rw_au0020_01 ∧ hd.heap_1_39 = hd.heap_1_39 := by k_fill; exact ⟨rfl, rfl⟩
@[reducible] noncomputable def tupO (vs : Array Value) : Obj := { cls := .type "tuple", data := .seq vs }
theorem AllLt.to {d e : Nat} (h : d < e) : ∀ {l : List (Addr × Obj)}, AllLt d l → AllLt e l
  | [], _ => trivial
  | (_, _) :: _, ⟨a, b⟩ => ⟨Nat.lt_trans a h, AllLt.to h b⟩
theorem TabOk.n1 {t1 t2 t3 : Array Value} {kn : Led} (x : TabOk t1 t2 t3 kn) : ∀ p ∈ kn, p.1 ≠ 266 := fun p hp => (x.d p hp).1
theorem TabOk.n2 {t1 t2 t3 : Array Value} {kn : Led} (x : TabOk t1 t2 t3 kn) : ∀ p ∈ kn, p.1 ≠ 280 := fun p hp => (x.d p hp).2.1
theorem TabOk.n3 {t1 t2 t3 : Array Value} {kn : Led} (x : TabOk t1 t2 t3 kn) : ∀ p ∈ kn, p.1 ≠ 159 := fun p hp => (x.d p hp).2.2
theorem kwT00 : True := by
  (k_with "M! k_all" => (refine' List.forall_mem_cons.mpr ⟨?azT00, ?bzT00⟩; (case azT00 => k_ne); (case bzT00 => k_all)))
  (k_with "M! k_all" => with_reducible first | exact TabOk.n1 (by assumption) | exact TabOk.n2 (by assumption) | exact TabOk.n3 (by assumption) | exact AllLt.ne (by assumption) | exact AllLt.ne (AllLt.to (by omega) (by assumption)))
  trivial
theorem memM {α : Type} {a : α} {l : List α} (h : a ∈ l) : List.Mem a l := h
theorem kwT01 : True := by
  (k_with "M! k_mem" => first | with_reducible assumption | (with_reducible refine memM ?_; with_reducible assumption))
  trivial
theorem off_list {h₀ h : Heap} {L D : Addr} {t1 t2 t3 a : Array Value} {kn : Led} {k : Nat} (N : News h₀ L h (tabs t1 t2 t3 ++ kn)) (e : h.get? D = some (W.listOf a k)) : D ≠ 266 ∧ D ≠ 280 ∧ D ≠ 159 :=
  obj_off N (fun p hp => List.mem_append_left _ hp) e (fun q => nomatch q)
theorem TabOk.cons {t1 t2 t3 : Array Value} {kn : Led} {p : Addr × Obj} (x : TabOk t1 t2 t3 kn) (h : p.1 ≠ 266 ∧ p.1 ≠ 280 ∧ p.1 ≠ 159) : TabOk t1 t2 t3 (p :: kn) :=
  x.mono (fun _ hp => List.mem_cons_of_mem _ hp) fun q hq => (List.mem_cons.mp hq).elim (fun e => .inr (e ▸ h)) .inl
theorem kwT02 : True := by
  (k_with "M! kn_code" => first | with_reducible assumption | exact CodeHd.keeps (by with_reducible assumption) (Fr.keep (by with_reducible assumption)))
  (k_with "callWith ref" => (k_here; k_dflt (refine' callWith_K ?zk1zT04 ?zk2zT04 ?_; (case zk1zT04 => k_asm); (case zk2zT04 => k_is); k_whole)))
  (k_with "M body" => (
  k_dflt (refine' enter ?kRzT05 ?hozT05 ?hcdzT05 ?hbindzT05 ?hloczT05 ?hcellzT05 ?hcozT05 ?hgenzT05 ?hkzT05 ?_; (case kRzT05 => with_reducible assumption); (case hozT05 => k_is); (case hcdzT05 => k_is); (case hbindzT05 => exact BindsTo.of_eq rfl); (case hloczT05 => exact locs rfl); (case hcellzT05 => decide); (case hcozT05 => exact rfl); (case hgenzT05 => exact rfl); (case hkzT05 => exact rfl))))
  (k_with "M sub" => (intro p hp; (simp only [List.mem_cons, List.mem_append, List.not_mem_nil, or_false, List.append_nil] at hp ⊢); first | done | assumption | grind))
  (k_with "M subq" => first
  | exact List.forall_mem_nil _
  | ((refine' List.forall_mem_cons.mpr ⟨?azT07, ?bzT07⟩); (case azT07 => k_mem); (case bzT07 => k_extra "M subq"))
  | (intros p hp; (repeat (first | exact hp | (with_reducible refine List.mem_append_right _ ?_) | (refine List.Mem.tail _ ?_))); done)
  | fail "mine: subq")
  (k_with "M sub" => k_extra "M subq")
  trivial
theorem app2 {α β : Type} {q : α → β → Prop} {a : α} {b : β} (h : q a b) : q a b := h
theorem kwT03 : True := by
  (k_with "M out" => (repeat (first | k_unfold | ((with_reducible refine app2 ?_); k_unfold) | dsimp only)))
  (k_with "M! k_in" => with_reducible first | assumption | exact Frag.In.keeps (by assumption) (Fr.keep (by assumption)) | fail "mine: in")
  (k_with "M! k_room" => ((simp only [depth_under_make, depth_under_kw, depth_in1, depth_deeper, recursionLimit]); (try dsimp only); omega))
  (k_with "M! k_units" => ((simp only [units_in1, units_deeper, Around.mark_units, cLine]); (try dsimp only); omega))
  trivial
section
variable {M : Model} {prog : Program} {w : World} {A : Around} {E : Value → Shared → Prop} {s : Shared} {h₀ : Heap} {L l : Addr} {news : Led} {vs : List Value} {n : Nat} {Q : Value → Shared → Prop}
theorem listL (N : News h₀ L s.heap news) (hm : (l, listOf vs.toArray n) ∈ news) : s.heap.IsList l vs.toArray := News.isList N hm
theorem len_led (N : News h₀ L s.heap news) (hm : (l, listOf vs.toArray n) ∈ news) (hfit : vs.length ≤ 1000)
    (h : Q (.int vs.length (s.toks + 1)) { s with toks := s.toks + 1 + 1 }) : wpAny (model prog w) A (call (.builtin "len") [.ref l]) Q E s :=
  len_list (listL N hm) (by rw [List.size_toArray]; omega) (by rw [List.size_toArray]; exact h)
theorem item_led {value slice : Expr} {k : Int} {u : Tok} {x : Value} (N : News h₀ L s.heap news) (hm : (l, listOf vs.toArray n) ∈ news)
    (h0 : 0 ≤ k) (hx : vs[k.toNat]? = some x) (hl : vs.length ≤ 1000) (h : Q x s)
    (hs : subscripted slice false (.ref l) (.int k u) = operate [.ref l, .int k u] (getItem (.ref l) (.int k u))) (hg : ∀ r, letTemporaryGo value (.ref l) r = pure ()) :
    wpAny (model prog w) A (subscriptTail value slice (.ref l) (.int k u)) Q E s :=
  item_listL (listL N hm) h0 (by have := (List.getElem?_eq_some_iff.mp hx).1; omega) hx h hs hg
end
theorem kwT04 : True := by
  (k_with "call builtin:len" => (k_here; (with_reducible show wpAny _ _ (call (Value.builtin "len") [Value.ref _]) _ _ _); k_dflt (refine' len_led ?m0zT013 ?m1zT013 ?m2zT013 ?_; (case m0zT013 => k_asm); (case m1zT013 => k_mem); (case m2zT013 => omega); k_whole)))
  (k_with "subscriptTail" => (k_here; (with_reducible show wpAny _ _ (subscriptTail _ _ (Value.ref _) (Value.int _ _)) _ _ _); k_dflt (refine' item_led ?m0zT014 ?m1zT014 ?m2zT014 ?m3zT014 ?m4zT014 ?_ ?m5zT014 ?m6zT014; (case m0zT014 => k_asm); (case m1zT014 => k_mem); (case m2zT014 => omega); (case m3zT014 => ((try simp only [Int.toNat_natCast]); assumption)); (case m4zT014 => omega); (case m5zT014 => with_unfolding_all rfl); (case m6zT014 => (intro _; with_unfolding_all rfl)); k_whole)))
  (k_with "ite" => (k_here; k_openite; first
  | (refine ite_neg (by (simp only [decide_eq_true_eq, decide_eq_false_iff_not, beq_iff_eq, bne_iff_ne]); omega) ?_; walk_say "MY PRUNE")
  | (refine ite_pos (by (simp only [decide_eq_true_eq, beq_iff_eq, bne_iff_ne]); omega) ?_; walk_say "MY PRUNE")))
  (k_with "M! k_handed" => with_reducible assumption)
  (k_with "M std" => (
  (case TK => k_asm); (case B => k_asm); (case F => k_asm); (case X => k_asm); (case Nq => k_asm); (case T => k_asm); (case C1 => k_asm); (case C2 => k_asm); (case C3 => k_asm);
  (case sub => k_extra "M sub"); (case hA => exact rfl); (case hf => exact rfl); (case hke => exact rfl); (case hh => exact rfl); (case hd => k_room); (case hu => k_units)))
  (k_with "M after" => (
  (try dsimp only [PySem.W.InitBack, PySem.W.CmpBack, PySem.W.LenBack, PySem.W.StrBack, PySem.W.BoolBack]); (try (refine ⟨rfl, ?_⟩)); (try (refine ⟨⟨by omega, by omega⟩, ?_⟩)); (try (refine handed_on rfl ?_; try dsimp only)); (try k_sweep); (try k_fold)))
  trivial
theorem tyNe {x : String} : Value.type x ≠ .none := fun q => nomatch q
theorem refNe {x : Addr} : Value.ref x ≠ .none := fun q => nomatch q
theorem kwT05 : True := by
  (k_with "M tl" => first
  | exact List.forall_mem_nil _
  | (refine List.forall_mem_cons.mpr ⟨⟨by k_mem, by first | exact tyNe | exact refNe, by first | assumption | exact .inr ⟨by omega, by omega, by omega, by first | assumption | grind⟩⟩, ?_⟩; k_extra "M tl"))
  (k_with "M fin" => first
  | ((refine' fin0 ?RzT020 ?hLzT020 ?FzT020 ?NzT020 ?TKzT020 ?htzT020 ?hkzT020 ?htlzT020); (case RzT020 => assumption); (case hLzT020 => assumption); (case FzT020 => k_asm); (case NzT020 => k_asm); (case TKzT020 => with_reducible assumption); (case htzT020 => k_extra "M sub"); (case hkzT020 => k_extra "M sub"); (case htlzT020 => k_extra "M tl"))
  | ((refine' fin1 ?RzT020 ?hLzT020 ?FzT020 ?NzT020 ?TKzT020 ?hexzT020 ?htzT020 ?hkzT020 ?hxzT020 ?htlzT020); (case RzT020 => assumption); (case hLzT020 => assumption); (case FzT020 => k_asm); (case NzT020 => k_asm); (case TKzT020 => with_reducible assumption); (case hexzT020 => assumption); (case htzT020 => k_extra "M sub"); (case hkzT020 => k_extra "M sub"); (case hxzT020 => k_mem); (case htlzT020 => k_extra "M tl")))
  trivial
noncomputable def SetTop (kn : Led) (u l : Addr) (vs : List Value) : Prop := ∃ du h k n m, (u, instObj 174 du) ∈ kn ∧ (du, dictOf [⟨h, .str "_values" k, .ref l⟩] n) ∈ kn ∧ (l, listOf vs.toArray m) ∈ kn
noncomputable def RefAt (kn : Led) (r u : Addr) (i : Nat) : Prop := ∃ dx h1 k1 h2 k2 n t, (r, instObj 97 dx) ∈ kn ∧ (dx, dictOf [⟨h1, .str "_parent" k1, .ref u⟩, ⟨h2, .str "_index" k2, .int i t⟩] n) ∈ kn
noncomputable def FieldTop (kn : Led) (f : Addr) (num wr : Int) (d : Value) : Prop := ∃ df h1 k1 t1 h2 k2 t2 h3 k3 n, (f, instObj 45 df) ∈ kn ∧ (df, dictOf [⟨h1, .str "_field_number" k1, .int num t1⟩, ⟨h2, .str "_wire_type" k2, .int wr t2⟩, ⟨h3, .str "_data" k3, d⟩] n) ∈ kn
theorem SetTop.mono : ∀ {kn kn' : Led} {u l : Addr} {vs : List Value} (x : SetTop kn u l vs) (h : ∀ p ∈ kn, p ∈ kn'), SetTop kn' u l vs := by
  have hon : HKon := trivial
  intro kn kn' u l vs x h
  obtain ⟨du, a, b, c, d, e, f, g⟩ := x
  first | exact exI5 ⟨h _ e, h _ f, h _ g⟩ | exact exI4 ⟨d, h _ e, h _ f, h _ g⟩ | exact exI3 ⟨c, d, h _ e, h _ f, h _ g⟩ | exact ⟨du, a, b, c, d, h _ e, h _ f, h _ g⟩
theorem RefAt.mono : ∀ {kn kn' : Led} {r u : Addr} {i : Nat} (x : RefAt kn r u i) (h : ∀ p ∈ kn, p ∈ kn'), RefAt kn' r u i := by
  have hon : HKon := trivial
  intro kn kn' r u i x h
  obtain ⟨du, a, b, c, d, e, f, g, k⟩ := x
  first | exact exI7 ⟨h _ g, h _ k⟩ | exact exI6 ⟨f, h _ g, h _ k⟩ | exact exI5 ⟨e, f, h _ g, h _ k⟩ | exact ⟨du, a, b, c, d, e, f, h _ g, h _ k⟩
theorem FieldTop.mono : ∀ {kn kn' : Led} {f : Addr} {num wr : Int} {d : Value} (x : FieldTop kn f num wr d) (h : ∀ p ∈ kn, p ∈ kn'), FieldTop kn' f num wr d := by
  have hon : HKon := trivial
  intro kn kn' f num wr d x h
  obtain ⟨du, a, b, c, d, e, f, g, k, l, m, n⟩ := x
  first | exact exI10 ⟨h _ m, h _ n⟩ | exact exI9 ⟨l, h _ m, h _ n⟩ | exact exI8 ⟨k, l, h _ m, h _ n⟩ | exact ⟨du, a, b, c, d, e, f, g, k, l, h _ m, h _ n⟩

section
variable {prog : Program} {w : World} {A A₀ : Around} {E : Value → Shared → Prop} {s : Shared} {h₀ base : Heap} {L x C dx : Addr} {m : Str → Option Value} {news kn : Led} {env : Env} {outer : List Env} {t1 t2 t3 : Array Value}
  {loose : List Str} {mean : ExcName → Option Value} {mg mb : Str → Option Value} {n u : Nat} {Post0 : Value → Prop} {name : Str} {expr : Bool} {Q : Value → Shared → Prop} {p fget : Addr} {rest : List Value} {od ox : Obj}
theorem get_con0 (C0 : Con0 w (.ref fget) [.ref x] n u kn Post0) (hv : ∀ r, Post0 r → handedIn r = true) (TK : TabOk t1 t2 t3 kn) (I : InstAt s.heap x ox C (some od))
    (hg : plainGet (hd.heap_1_39 w.params) C name = true) (hhd : hasDictIn (hd.heap_1_39 w.params) C = true)
    (ha : findIn (hd.heap_1_39 w.params) (.ref C) name = some (some (.ref p))) (hn : specialIn (hd.heap_1_39 w.params) (.ref p) "__get__" = some (some (.builtin "property.__get__"))) (ht : takesIn (hd.heap_1_39 w.params) (.ref p) = some true) (hp : recIn (hd.heap_1_39 w.params) p "property" = some (.ref fget :: rest))
    (B : Below A₀ base outer h₀) (F : Fr h₀ L s.heap m) (X : (hd.heap_1_39 w.params).In h₀) (N : News h₀ L s.heap news) (T : Top topProg loose mean mg mb h₀)
    (C1 : CodeHd h₀ 270 266) (C2 : CodeHd h₀ 284 280) (C3 : CodeHd h₀ 163 159) (hsub : ∀ p ∈ tabs t1 t2 t3 ++ kn, p ∈ news)
    (hA : A.frames = some (env :: outer)) (hf : env.frame = some L) (hke : env.scope.kind = .function)
    (hh : A.handled = none) (hd : A.depth + n < recursionLimit) (hu : A.units + (u + 1) < cLine)
    (h : ∀ r h' tk', Fr h₀ L h' m → News h₀ L h' news → Post0 r → Q r { s with heap := h', toks := tk' }) : wpAny (model prg w) A (getAttr (.ref x) name expr) Q E s :=
  get_prop F X I hg hhd ha hn ht hp (use_con0' (s := { s with toks := s.toks + 1 }) C0 B F X N T C1 C2 C3 TK hsub hA hf hke hh hd (by show A.units + 1 + u < cLine; omega) fun r h' tk' F' N' q => handed_on (hv r q) (h r h' tk' F' N' q))
end
end
-- R1
section
set_option maxHeartbeats 4000000 in
theorem c_len : ∀ {w : World} {kn : Led} {u l : Addr} {vs : List Value} (hs : SetTop kn u l vs) (hln : vs.length ≤ 100),
   Con0 w (.ref 136) [.ref u] 10 100 kn (fun r => ∃ t, r = .int vs.length t) := by
  have hon : HKon := trivial
  intro w kn u l vs hs hln
  obtain ⟨du, g1, g2, g3, g4, m1, m2, m3⟩ := hs
  refine Con0.openG (hkO (no_implicit_lambda% ((?hopq : HTO _) _ _ _ _ _ _ _ _ _ _ _ _ _ _ _)))
  intros s dp un gd t1 t2 t3 base g outs loose mean mg mb Z
  refine Con0G.mk ?_
  intro R ret hd hu
  k_extra "M body"
  intro L h₁ hL F N B X T C1 C2 C3 TK l1 l2 l3 l4
  try dsimp only
  try k_fold
  k_steps
  all_goals (k_extra "M out")
  refine ret _ _ _ (same_end R hL (by assumption) (by assumption) (fun _ h => h)) ⟨_, rfl⟩
theorem kwR10 : True := by
  (k_with "call ref" => (k_here; k_dflt (show wpAny _ _ (call (Value.ref 136) [Value.ref _]) _ _ _); k_dflt (refine' use_con0 (c_len ?hszR10 ?hlzR10) ?B ?F ?X ?Nq ?T ?C1 ?C2 ?C3 ?TK ?sub ?hA ?hf ?hke ?hh ?hd ?hu ?_; k_extra "M std"; (case hszR10 => k_asm); (case hlzR10 => omega)); intro r'w h'w tk'w F'w N'w p'w; obtain ⟨_, e'w⟩ := p'w; subst e'w; k_extra "M after"))
  trivial
set_option maxHeartbeats 4000000 in
theorem c_check : ∀ {w : World} {kn : Led} {r u l : Addr} {i : Nat} {vs : List Value} (hr : RefAt kn r u i) (hs : SetTop kn u l vs) (hln : vs.length ≤ 100) (hi : i < vs.length),
   Con0 w (.ref 70) [.ref r] 20 200 kn (fun r => r = .none) := by
  have hon : HKon := trivial
  intro w kn r u l i vs hr hs hln hi
  obtain ⟨dx, f1, f2, f3, f4, f5, f6, r1, r2⟩ := hr
  have hs0 := hs
  obtain ⟨du, g1, g2, g3, g4, m1, m2, m3⟩ := hs
  refine Con0.openG (hkO (no_implicit_lambda% ((?hopq : HTO _) _ _ _ _ _ _ _ _ _ _ _ _ _ _ _)))
  intros s dp un gd t1 t2 t3 base g outs loose mean mg mb Z
  refine Con0G.mk ?_
  intro R ret hd hu
  k_extra "M body"
  intro L h₁ hL F N B X T C1 C2 C3 TK l1 l2 l3 l4
  try dsimp only
  try k_fold
  k_steps
  all_goals (k_extra "M out")
  refine ret _ _ _ (same_end R hL (by assumption) (by assumption) (fun _ h => h)) rfl
theorem kwR11 : True := by
  (k_with "call ref" => (k_here; k_dflt (show wpAny _ _ (call (Value.ref 70) [Value.ref _]) _ _ _); k_dflt (refine' use_con0 (c_check ?hrzR11 ?hszR11 ?hlzR11 ?hizR11) ?B ?F ?X ?Nq ?T ?C1 ?C2 ?C3 ?TK ?sub ?hA ?hf ?hke ?hh ?hd ?hu ?_; k_extra "M std"; (case hrzR11 => k_asm); (case hszR11 => k_asm); (case hlzR11 => omega); (case hizR11 => omega)); intro r'w h'w tk'w F'w N'w p'w; subst p'w; k_extra "M after"))
  trivial
set_option maxHeartbeats 4000000 in
theorem c_fnum : ∀ {w : World} {kn : Led} {r u l f : Addr} {i : Nat} {vs : List Value} {num wr : Int} {d : Value} (hr : RefAt kn r u i) (hs : SetTop kn u l vs) (hln : vs.length ≤ 100) (hx : vs[i]? = some (.ref f)) (hf : FieldTop kn f num wr d) (hdd : handedIn d = true),
   Con0 w (.ref 77) [.ref r] 30 300 kn (fun r => ∃ t, r = .int num t) := by
  have hon : HKon := trivial
  intro w kn r u l f i vs num wr d hr hs hln hx hf hdd
  have hi : i < vs.length := (List.getElem?_eq_some_iff.mp hx).1
  have hr0 := hr
  obtain ⟨dx, f1, f2, f3, f4, f5, f6, r1, r2⟩ := hr
  have hs0 := hs
  obtain ⟨du, g1, g2, g3, g4, m1, m2, m3⟩ := hs
  obtain ⟨df, e1, e2, e3, e4, e5, e6, e7, e8, e9, q1, q2⟩ := hf
  refine Con0.openG (hkO (no_implicit_lambda% ((?hopq : HTO _) _ _ _ _ _ _ _ _ _ _ _ _ _ _ _)))
  intros s dp un gd t1 t2 t3 base g outs loose mean mg mb Z
  refine Con0G.mk ?_
  intro R ret hd hu
  k_extra "M body"
  intro L h₁ hL F N B X T C1 C2 C3 TK l1 l2 l3 l4
  try dsimp only
  try k_fold
  k_steps
  all_goals (k_extra "M out")
  refine ret _ _ _ (same_end R hL (by assumption) (by assumption) (fun _ h => h)) ⟨_, rfl⟩
set_option maxHeartbeats 4000000 in
theorem c_wtype : ∀ {w : World} {kn : Led} {r u l f : Addr} {i : Nat} {vs : List Value} {num wr : Int} {d : Value} (hr : RefAt kn r u i) (hs : SetTop kn u l vs) (hln : vs.length ≤ 100) (hx : vs[i]? = some (.ref f)) (hf : FieldTop kn f num wr d) (hdd : handedIn d = true),
   Con0 w (.ref 85) [.ref r] 30 300 kn (fun r => ∃ t, r = .int wr t) := by
  have hon : HKon := trivial
  intro w kn r u l f i vs num wr d hr hs hln hx hf hdd
  have hi : i < vs.length := (List.getElem?_eq_some_iff.mp hx).1
  have hr0 := hr
  obtain ⟨dx, f1, f2, f3, f4, f5, f6, r1, r2⟩ := hr
  have hs0 := hs
  obtain ⟨du, g1, g2, g3, g4, m1, m2, m3⟩ := hs
  obtain ⟨df, e1, e2, e3, e4, e5, e6, e7, e8, e9, q1, q2⟩ := hf
  refine Con0.openG (hkO (no_implicit_lambda% ((?hopq : HTO _) _ _ _ _ _ _ _ _ _ _ _ _ _ _ _)))
  intros s dp un gd t1 t2 t3 base g outs loose mean mg mb Z
  refine Con0G.mk ?_
  intro R ret hd hu
  k_extra "M body"
  intro L h₁ hL F N B X T C1 C2 C3 TK l1 l2 l3 l4
  try dsimp only
  try k_fold
  k_steps
  all_goals (k_extra "M out")
  refine ret _ _ _ (same_end R hL (by assumption) (by assumption) (fun _ h => h)) ⟨_, rfl⟩
set_option maxHeartbeats 4000000 in
theorem c_data : ∀ {w : World} {kn : Led} {r u l f : Addr} {i : Nat} {vs : List Value} {num wr : Int} {d : Value} (hr : RefAt kn r u i) (hs : SetTop kn u l vs) (hln : vs.length ≤ 100) (hx : vs[i]? = some (.ref f)) (hf : FieldTop kn f num wr d) (hdd : handedIn d = true),
   Con0 w (.ref 93) [.ref r] 30 300 kn (fun r => r = d) := by
  have hon : HKon := trivial
  intro w kn r u l f i vs num wr d hr hs hln hx hf hdd
  have hi : i < vs.length := (List.getElem?_eq_some_iff.mp hx).1
  have hr0 := hr
  obtain ⟨dx, f1, f2, f3, f4, f5, f6, r1, r2⟩ := hr
  have hs0 := hs
  obtain ⟨du, g1, g2, g3, g4, m1, m2, m3⟩ := hs
  obtain ⟨df, e1, e2, e3, e4, e5, e6, e7, e8, e9, q1, q2⟩ := hf
  refine Con0.openG (hkO (no_implicit_lambda% ((?hopq : HTO _) _ _ _ _ _ _ _ _ _ _ _ _ _ _ _)))
  intros s dp un gd t1 t2 t3 base g outs loose mean mg mb Z
  refine Con0G.mk ?_
  intro R ret hd hu
  k_extra "M body"
  intro L h₁ hL F N B X T C1 C2 C3 TK l1 l2 l3 l4
  try dsimp only
  try k_fold
  k_steps
  all_goals (k_extra "M out")
  refine ret _ _ _ (same_end R hL (by assumption) (by assumption) (fun _ h => h)) rfl
end
-- C0
section
noncomputable def Keep3 (h h' : Heap) : Prop := ∀ b o, h.get? b = some o → b ≠ 266 → b ≠ 280 → b ≠ 159 → h'.get? b = some o
theorem Keep3.refl (h : Heap) : Keep3 h h := fun _ _ e _ _ _ => e
theorem Keep3.trans {h h' h'' : Heap} (x : Keep3 h h') (y : Keep3 h' h'') : Keep3 h h'' := fun b o e a c d => y b o (x b o e a c d) a c d
theorem Keep3.of {h h' : Heap} (x : ∀ b o, h.get? b = some o → h'.get? b = some o) : Keep3 h h' := fun b o e _ _ _ => x b o e

noncomputable def TurnP (s : Shared) (led : Led) (J : Led → Prop) (s' : Shared) : Prop :=
  ∃ h' tk gs t1 t2 t3 led', s' = { s with heap := h', toks := tk, gens := gs } ∧ Keep3 s.heap h' ∧ s.heap.objs.size ≤ h'.objs.size ∧ (AllBare s.gens → AllBare gs) ∧
    (∀ p ∈ tabs t1 t2 t3 ++ led', h'.get? p.1 = some p.2) ∧ TabOk t1 t2 t3 led' ∧ (∀ p ∈ led', p ∈ led ∨ s.heap.get? p.1 = none) ∧ J led'

theorem fr_keep3 {h₀ h h' : Heap} {L : Addr} {m : Str → Option Value} {t1 t2 t3 : Array Value} {led : Led} (F : Fr h₀ L h m) (N : News h₀ L h (tabs t1 t2 t3 ++ led)) (k : Keep3 h h') : Fr h₀ L h' m := by
  have sub : ∀ p ∈ tabs t1 t2 t3, p ∈ tabs t1 t2 t3 ++ led := fun p hp => List.mem_append_left _ hp
  have tL := frame_off N sub
  obtain ⟨oL, es, ep, hL, r⟩ := F.ns
  exact ⟨⟨oL, es, ep, k _ _ hL tL.1 tL.2.1 tL.2.2, r⟩, fun b o e => let q := ground_off N sub e; k _ _ (F.keep b o e) q.1 q.2.1 q.2.2, F.above⟩

theorem news_turn {h₀ h h' : Heap} {L : Addr} {m : Str → Option Value} {t1 t2 t3 t1' t2' t3' : Array Value} {led led' : Led} (F : Fr h₀ L h m) (N : News h₀ L h (tabs t1 t2 t3 ++ led))
    (n : ∀ p ∈ tabs t1' t2' t3' ++ led', h'.get? p.1 = some p.2) (f : ∀ p ∈ led', p ∈ led ∨ h.get? p.1 = none) : News h₀ L h' (tabs t1' t2' t3' ++ led') := fun p hp =>
  ⟨n p hp, (List.mem_append.mp hp).elim (tabs_ground N (fun p hp => List.mem_append_left _ hp) p) fun hp => (f p hp).elim (fun hq => (N p (List.mem_append_right _ hq)).2) (new_ground F)⟩
inductive StI (s : Shared) (P : Heap → Tok → Array GenState → Prop) : Shared → Prop
  | mk {h : Heap} {tk : Tok} {gs : Array GenState} : P h tk gs → StI s P { s with heap := h, toks := tk, gens := gs }
noncomputable def PutI (s : Shared) (D : Addr) (zs : List Value) (x : Value) (P : Heap → Tok → Array GenState → Prop) : Shared → Prop :=
  StI s fun h tk gs => ∃ c, h.get? D = some (listOf zs.toArray c) ∧ ∀ h' c', (∀ b o, b ≠ D → h.get? b = some o → h'.get? b = some o) → h'.get? D = some (listOf (zs ++ [x]).toArray c') → P h' tk gs
theorem put_get {h : Heap} {D : Addr} {zs : List Value} {x : Value} {c : Nat} (hd : h.get? D = some (listOf zs.toArray c)) : ∃ c', (h.update D (Obj.mapSeq (·.push x))).get? D = some (listOf (zs ++ [x]).toArray c') := by
  have e := get?_update_seq hd (·.push x)
  exact ⟨_, e.trans (by rw [List.push_toArray])⟩
section
variable {w : World} {A : Around} {E : Value → Shared → Prop} {s : Shared} {RR : Value → Addr → Result → Shared → Prop}
theorem put_list {D : Addr} {zs : List Value} {x : Value} {P : Heap → Tok → Array GenState → Prop} {s₄ : Shared} {Q : Shared → Prop} (hz : zs.length ≤ 999) (h : PutI s D zs x P s₄) (q : ∀ s', StI s P s' → Q s') :
    wpAny (model prg w) A (call (.builtin "list.append") [.ref D, x]) (fun _ s' => Q s') E s₄ := by
  obtain @⟨hh, tk, gs, c, hd, k⟩ := h
  have hl : Heap.IsList hh D zs.toArray := ⟨_, hd, rfl, c, rfl⟩
  refine wpAny_call_entry slot_list_append hl.typeIs entry_list_append ?_ (args_list_append _ _)
  show wpAny _ _ (updateSeq D (·.push x) >>= fun _ => PySem.ret .none) _ _ _
  have hs5 := Heap.SameBut.update hh D (Obj.mapSeq (·.push x))
  have ⟨c', e⟩ := put_get (x := x) hd
  exact wpAny_bind (wpAny_updateSeq (o := listOf zs.toArray c) hd rfl (wpAny_pure ⟨.none, rfl, q _ (.mk (k _ c' (fun b o hb e => (hs5.2 b hb).trans e) e))⟩) (by rw [List.size_toArray]; have := sizeLine_eq; omega))
theorem loop_abs {elt target iter : Expr} {ifs : List Expr} {scope : Scope} {pos : Pos} {it : Value} {env : Env} {n : Nat} {C D : Addr} (I : Nat → List Value → Heap → Tok → Array GenState → Prop) (hsz : n ≤ 1000)
    (turn : ∀ i zs h tk gs, I i zs h tk gs → zs.length ≤ i → i ≤ n → wpAny (model prg w) A (pyNext it) (fun r s₁ => match r with
      | none => RR (.ref D) C (.ok .next) s₁
      | some v => i < n ∧ wpAny (model prg w) A (letOwnedTupleGo target it v) (fun _ s₀ => wpAny (model prg w) A (assign target env v) (fun _ s₂ =>
          wpAny (model prg w) A (forIn ifs true fun c r => if r = true then do let ok ← isTrue c env (eval c env); pure (ForInStep.yield ok) else pure (ForInStep.yield r)) (fun ok s₃ =>
            if ok = true then wpAny (model prg w) A (eval elt env) (fun x s₄ => PutI s D zs x (I (i + 1) (zs ++ [x])) s₄) (notedBy (model prg w) A env fun e s' => RR (.ref D) C (.error e) s') s₃
            else StI s (I (i + 1) zs) s₃) (notedBy (model prg w) A env fun e s' => RR (.ref D) C (.error e) s') s₂) (notedBy (model prg w) A env fun e s' => RR (.ref D) C (.error e) s') s₀) (notedBy (model prg w) A env fun e s' => RR (.ref D) C (.error e) s') s₁)
        (notedBy (model prg w) A env fun e s' => RR (.ref D) C (.error e) s') { s with heap := h, toks := tk, gens := gs })
    {h : Heap} {tk : Tok} {gs : Array GenState} (h0 : I 0 [] h tk gs) :
    codeAny (model prg w) A (.compLoop (.ListComp elt [⟨target, iter, ifs, 0⟩] scope pos) 0 it (.ref D) env) (RR (.ref D) C) { s with heap := h, toks := tk, gens := gs } := by
  refine codeAny_loop rfl (fun k s' => ∃ i zs, StI s (I i zs) s' ∧ zs.length ≤ i ∧ i ≤ n ∧ k = n - i) (fun k s' hI => ?_) (n - 0) ⟨0, [], .mk h0, Nat.le_refl _, Nat.zero_le _, rfl⟩
  obtain ⟨i, zs, ⟨hi⟩, hz, hn, rfl⟩ := hI
  refine wpAny_noted ?_
  rw [compTurn_list]
  refine wpAny_bind (wpAny_standAt (wpAny_bind (wpAny_mono (turn i zs _ _ _ hi hz hn) (fun r s₁ h₁ => ?_) fun _ _ h' => h')))
  cases r with
  | none => exact wpAny_pure h₁
  | some v =>
    have ⟨hlt, h₁⟩ := h₁
    have lt : n - (i + 1) < n - i := Nat.sub_lt_sub_left hlt (Nat.lt_succ_self i)
    refine wpAny_bind (wpAny_mono h₁ (fun _ s₀ h₀ => wpAny_bind (wpAny_mono h₀ (fun _ s₂ h₂ => wpAny_bind (wpAny_mono h₂ (fun ok s₃ h₃ => ?_) fun _ _ h' => h')) fun _ _ h' => h')) fun _ _ h' => h')
    cases ok with
    | false => exact wpAny_pure ⟨rfl, _, lt, i + 1, zs, h₃, Nat.le_succ_of_le hz, hlt, rfl⟩
    | true =>
      refine wpAny_bind (wpAny_bind (wpAny_mono h₃ (fun x s₄ h₄ => wpAny_bind (put_list (Nat.le_trans hz (Nat.le_of_lt_succ (Nat.lt_of_lt_of_le hlt hsz))) h₄ fun s₅ h₅ => ?_)) fun _ _ h' => h'))
      exact wpAny_pure (wpAny_pure ⟨rfl, _, lt, i + 1, zs ++ [x], h₅, by rw [List.length_append]; exact Nat.succ_le_succ hz, hlt, rfl⟩)
theorem comp_open {elt target iter : Expr} {ifs : List Expr} {scope : Scope} {cl : List (Str × Addr)} {pos : Pos} {it : Value} {env : Env} (hcell : ∀ y ∈ scope.names, y.2 ≠ .cell) (hkind : scope.kind = .function)
    (h : ∀ C D h₁ tk, s.heap.objs.size = D → D + 1 = C → h₁.Ns C (fun _ => none) → h₁.get? D = some (listOf ([] : List Value).toArray 0) → (∀ b o, s.heap.get? b = some o → h₁.get? b = some o) →
      codeAny (model prg w) A (.compLoop (.ListComp elt [⟨target, iter, ifs, 0⟩] scope pos) 0 it (.ref D) (compEnvC scope cl C env)) (RR (.ref D) C) { s with heap := h₁, toks := tk } ∧
        ∀ Q E', Q it { s with heap := h₁, toks := tk } → wpAny (model prg w) A (pyIter it) Q E' { s with heap := h₁, toks := tk }) :
    wpAny (model prg w) A (newList []) (fun acc s₃ => wpAny (model prg w) A (newFunctionEnv scope env.globals cl [] env.qual none .none (some env)) (fun cenv s₄ =>
      codeAny (model prg w) A (.compStart (.ListComp elt [⟨target, iter, ifs, 0⟩] scope pos) 0 it acc { cenv with scope := relabel scope env }) (RR acc cenv.locals) s₄) E s₃) E s := by
  refine wpAny_newObj_type (wpAny_newFunctionEnv hcell (by intro y hy; simp at hy) ?_ hkind)
  intro h₁ hns₁ hsb₁
  dsimp only at hns₁ hsb₁ ⊢
  have hC : (s.heap.push { cls := .type "list", dict := none, data := .seq ([] : List Value).toArray }).objs.size = s.heap.objs.size + 1 := Heap.size_push ..
  have hDC : (s.heap.push { cls := .type "list", dict := none, data := .seq ([] : List Value).toArray }).objs.size ≠ s.heap.objs.size := fun e => Nat.succ_ne_self _ (hC.symm.trans e)
  have kp : ∀ b o, (s.heap.push { cls := .type "list", dict := none, data := .seq ([] : List Value).toArray }).get? b = some o → h₁.get? b = some o := fun b o e => hsb₁.extBut b o (Nat.ne_of_lt (Heap.lt_size e)) (Heap.get?_push_of_some _ e)
  have ⟨a, b⟩ := h _ _ h₁ (s.toks + ([] : List (Str × Value)).length) rfl hC.symm hns₁ (kp _ _ (Heap.get?_push_size _ rfl)) fun b o e => kp _ _ (Heap.get?_push_of_some _ e)
  exact codeAny_compStart_list a (b _ _ a)
end
theorem go_skip {w : World} {A : Around} {E : Value → Shared → Prop} {s : Shared} {target : Expr} {I : Addr} {v : Value} {o : Obj} {n : String} {fs : Array Value} {Q : Unit → Shared → Prop} (e : s.heap.get? I = some o) (hc : o.cls = .type n) (hd : o.data = .fields fs)
    (hn : ["enumerate", "zip", "dict_itemiterator", "dict_reverseitemiterator", "odict_iterator", "itertools.zip_longest", "itertools.pairwise"].contains n = false) (hQ : Q () s) : wpAny (model prg w) A (letOwnedTupleGo target (.ref I) v) Q E s := by
  have k : wpAny (model prg w) A (do
      let (.ref r, .ref a) := (Value.ref I, v) | return
      let o ← load r
      match o.cls, o.data with
      | .type n, .fields vs =>
        if ["enumerate", "zip", "dict_itemiterator", "dict_reverseitemiterator", "odict_iterator", "itertools.zip_longest", "itertools.pairwise"].contains n && vs[0]? == some (rawInt a) then
          rule "for.unpacks-the-owned-tuple"
          updateField r 0 .none
      | _, _ => pure ()) Q E s := by
    cases v with
    | ref a =>
      refine wpAny_bind (wpAny_load e ?_)
      rw [hc, hd]
      dsimp only
      rw [hn]
      exact wpAny_pure hQ
    | _ => exact wpAny_pure hQ
  cases target <;> first | exact k | exact wpAny_pure hQ
structure CompSt (h₀ : Heap) (L : Addr) (m : Str → Option Value) (I C D : Addr) (t1 t2 t3 : Array Value) (led : Led) (h : Heap) : Prop where
  F : Fr h₀ L h m
  N : News h₀ L h (tabs t1 t2 t3 ++ led)
  tok : TabOk t1 t2 t3 led
  off : ∀ p ∈ led, p.1 ≠ I ∧ p.1 ≠ C ∧ p.1 ≠ D

section
variable {w : World} {A : Around} {E : Value → Shared → Prop} {s₂ : Shared} {env : Env} {h₀ : Heap} {L I : Addr} {m : Str → Option Value} {t1 t2 t3 : Array Value} {led : Led}

theorem CompSt.step {C D : Addr} {h h' : Heap} (x : CompSt h₀ L m I C D t1 t2 t3 led h) (hI : h₀.get? I = none) (hC : h₀.get? C = none) (hD : h₀.get? D = none) (hLI : L ≠ I) (hLC : L ≠ C) (hLD : L ≠ D)
    (hT : ∀ b ∈ [I, C, D], b ≠ 266 ∧ b ≠ 280 ∧ b ≠ 159) (k : ∀ b o, b ≠ I → b ≠ C → b ≠ D → h.get? b = some o → h'.get? b = some o) : CompSt h₀ L m I C D t1 t2 t3 led h' := by
  obtain ⟨oL, es, ep, hL, r⟩ := x.F.ns
  refine ⟨⟨⟨oL, es, ep, k _ _ hLI hLC hLD hL, r⟩, fun b o e => k _ _ (fun q => by rw [q, hI] at e; cases e) (fun q => by rw [q, hC] at e; cases e) (fun q => by rw [q, hD] at e; cases e) (x.F.keep b o e), x.F.above⟩, fun p hp => ⟨?_, (x.N p hp).2⟩, x.tok, x.off⟩
  have ne : p.1 ≠ I ∧ p.1 ≠ C ∧ p.1 ≠ D := by
    rcases List.mem_append.mp hp with hp | hp
    · have a := hT I (by simp); have b := hT C (by simp); have c := hT D (by simp)
      simp only [List.mem_cons, List.not_mem_nil, or_false] at hp
      rcases hp with rfl | rfl | rfl
      · exact ⟨a.1.symm, b.1.symm, c.1.symm⟩
      · exact ⟨a.2.1.symm, b.2.1.symm, c.2.1.symm⟩
      · exact ⟨a.2.2.symm, b.2.2.symm, c.2.2.symm⟩
    · exact x.off p hp
  exact k _ _ ne.1 ne.2.1 ne.2.2 (x.N p hp).1

theorem tab_ne {g h : Heap} {L : Addr} {t1 t2 t3 : Array Value} {led : Led} (N : News g L h (tabs t1 t2 t3 ++ led)) {b : Nat} (hb : @LE.le Nat instLENat h.objs.size b) : b ≠ 266 ∧ b ≠ 280 ∧ b ≠ 159 :=
  have k : ∀ p ∈ tabs t1 t2 t3, b ≠ p.1 := fun p hp => Nat.ne_of_gt (Nat.lt_of_lt_of_le (Heap.lt_size (N p (List.mem_append_left _ hp)).1) hb)
  ⟨k _ (.head _), k _ (.tail _ (.head _)), k _ (.tail _ (.tail _ (.head _)))⟩
inductive Aft {ι : Type} (gr : ι → Heap) (L : Addr) (m : Str → Option Value) (ok : Addr → Prop) (led : Led) (J : Led → Prop) (h : Heap) (gs : Array GenState) (h' : Heap) (gs' : Array GenState) : Prop
  | mk {a : ι} {u1 u2 u3 : Array Value} {led' : Led} : Fr (gr a) L h' m → News (gr a) L h' (tabs u1 u2 u3 ++ led') → TabOk u1 u2 u3 led' → (∀ p ∈ led', p ∈ led ∨ h.get? p.1 = none) →
      (∀ b o, h.get? b = some o → b ≠ 266 ∧ b ≠ 280 ∧ b ≠ 159 → ok b → h'.get? b = some o) → (AllBare gs → AllBare gs') → J led' → Aft gr L m ok led J h gs h' gs'
inductive CInv {ι : Type} (gr : ι → Heap) (L : Addr) (m : Str → Option Value) (I C D : Addr) (St : Nat → Heap → Prop) (J : Nat → List Value → Led → Prop) (g0 : Array GenState) (i : Nat) (zs : List Value) (h : Heap) (gs : Array GenState) : Prop
  | mk {a : ι} {m' : Str → Option Value} {c : Nat} {u1 u2 u3 : Array Value} {led : Led} : (AllBare g0 → AllBare gs) → CompSt (gr a) L m I C D u1 u2 u3 led h → St i h → J i zs led → h.Ns C m' → h.get? D = some (listOf zs.toArray c) → CInv gr L m I C D St J g0 i zs h gs
theorem comp_walk {ι : Type} {gr : ι → Heap} {a0 : ι} {elt target iter : Expr} {ifs : List Expr} {scope : Scope} {cl : List (Str × Addr)} {pos : Pos} {fp : List Addr} {n : Nat} {P : Nat → Value → Prop} {St : Nat → Heap → Prop} (ok : Addr → Prop) (Tn : ι → Shared → Led → (Led → Prop) → Shared → Prop) (M : Nat → Value → (Str → Option Value) → Prop) (J : Nat → List Value → Led → Prop) {RR : Value → Addr → Result → Shared → Prop} (W : Walks prg w A I fp [I] n P St) (hsz : n ≤ 1000) (hcell : ∀ y ∈ scope.names, y.2 ≠ .cell) (hkind : scope.kind = .function) (hst : St 0 s₂.heap) (hfp : ∀ b ∈ fp, b < s₂.heap.objs.size ∧ b ≠ 266 ∧ b ≠ 280 ∧ b ≠ 159) (hfo : ∀ b ∈ fp, b ≠ L ∧ (gr a0).get? b = none) (hok : ∀ b, b ≠ L → (gr a0).get? b = none → ok b) (hex : ∀ i h, St i h → ∃ o, h.get? I = some o) (gn : ∀ a b, (gr a0).get? b = none → (gr a).get? b = none) (F : Fr (gr a0) L s₂.heap m) (N : News (gr a0) L s₂.heap (tabs t1 t2 t3 ++ led)) (TK : TabOk t1 t2 t3 led) (hIl : ∀ p ∈ led, p.1 ≠ I) (J0 : J 0 [] led) (hgo : ∀ i v s Q E', St i s.heap → Q () s → wpAny (model prg w) A (letOwnedTupleGo target (.ref I) v) Q E' s)
    (hasg : ∀ a C D i v t1 t2 t3 led zs s m₁ (Q : Unit → Shared → Prop) E', i < n → P i v → CompSt (gr a) L m I C D t1 t2 t3 led s.heap → J i zs led → s.heap.Ns C m₁ → C ≠ D →
      (∀ h' tk m₂, h'.Ns C m₂ → M i v m₂ → (∀ b o, b ≠ C → s.heap.get? b = some o → h'.get? b = some o) → Q () { s with heap := h', toks := tk }) → wpAny (model prg w) A (assign target (compEnvC scope cl C env) v) Q E' s)
    (turn : ∀ a C D i v t1 t2 t3 led zs s m₂ E', i < n → P i v → CompSt (gr a) L m I C D t1 t2 t3 led s.heap → ok C → ok D → J i zs led → zs.length ≤ i → s.heap.Ns C m₂ → M i v m₂ →
      wpAny (model prg w) A (forIn ifs true fun c r => if r = true then do let ok ← isTrue c (compEnvC scope cl C env) (eval c (compEnvC scope cl C env)); pure (ForInStep.yield ok) else pure (ForInStep.yield r))
        (fun ok s₃ => if ok = true then wpAny (model prg w) A (eval elt (compEnvC scope cl C env)) (fun y s₄ => Tn a s led (J (i + 1) (zs ++ [y])) s₄) E' s₃ else Tn a s led (J (i + 1) zs) s₃) E' s)
    (hafter : ∀ a led h tk gs J' s₄ u1 u2 u3, Fr (gr a) L h m → News (gr a) L h (tabs u1 u2 u3 ++ led) → Tn a { s₂ with heap := h, toks := tk, gens := gs } led J' s₄ → StI s₂ (fun h' _ gs' => Aft gr L m ok led J' h gs h' gs') s₄)
    (hRR : ∀ a C D h' tk gs m' zs k t1 t2 t3 led', CompSt (gr a) L m I C D t1 t2 t3 led' h' → (AllBare s₂.gens → AllBare gs) → J n zs led' → zs.length ≤ n → h'.Ns C m' → h'.get? D = some (listOf zs.toArray k) → (gr a).get? C = none → (gr a).get? D = none → L ≠ C → L ≠ D → C ≠ D → (C ≠ 266 ∧ C ≠ 280 ∧ C ≠ 159) →
      RR (.ref D) C (.ok .next) { s₂ with heap := h', toks := tk, gens := gs }) :
    wpAny (model prg w) A (newList []) (fun acc s₃ => wpAny (model prg w) A (newFunctionEnv scope env.globals cl [] env.qual none .none (some env)) (fun cenv s₄ =>
      codeAny (model prg w) A (.compStart (.ListComp elt [⟨target, iter, ifs, 0⟩] scope pos) 0 (.ref I) acc { cenv with scope := relabel scope env }) (RR acc cenv.locals) s₄) E s₃) E s₂ := by
  refine comp_open hcell hkind fun C D h₁ tk hD hC hn₁ hd₁ old => ?_
  have hDz : @LE.le Nat instLENat s₂.heap.objs.size D := Nat.le_of_eq hD
  have lt : ∀ b o, s₂.heap.get? b = some o → @LT.lt Nat instLTNat b D := fun b o e => Nat.lt_of_lt_of_le (Heap.lt_size e) hDz
  have hLD : @LT.lt Nat instLTNat L D := Nat.lt_of_lt_of_le F.ns.lt hDz
  have hDC : @LT.lt Nat instLTNat D C := hC ▸ Nat.lt_succ_self D
  have lC : ∀ b : Nat, b < D → b < C := fun b h => Nat.lt_trans h hDC
  have tD := tab_ne N hDz
  have tC := tab_ne N (Nat.le_trans hDz (Nat.le_of_lt hDC))
  have hI3 := (hfp I (W.sub I (.head _))).2
  have ltI : @LT.lt Nat instLTNat I D := Nat.lt_of_lt_of_le (hfp I (W.sub I (.head _))).1 hDz
  have fresh : ∀ b : Nat, L ≤ b → (gr a0).get? b = none := fun b h => Heap.get?_none_of_le (Nat.le_trans F.above h)
  have fC := fresh C (Nat.le_of_lt (lC _ hLD))
  have fD := fresh D (Nat.le_of_lt hLD)
  have fI := hfo I (W.sub I (.head _))
  have okC := hok C (Nat.ne_of_gt (lC _ hLD)) fC
  have okD := hok D (Nat.ne_of_gt hLD) fD
  have fpD : ∀ b ∈ fp, @LT.lt Nat instLTNat b D := fun b hb => Nat.lt_of_lt_of_le (hfp b hb).1 hDz
  have step : ∀ a u1 u2 u3 K h h', CompSt (gr a) L m I C D u1 u2 u3 K h → (∀ b o, b ≠ I → b ≠ C → b ≠ D → h.get? b = some o → h'.get? b = some o) → CompSt (gr a) L m I C D u1 u2 u3 K h' := fun a u1 u2 u3 K h h' S k =>
    S.step (gn a _ fI.2) (gn a _ fC) (gn a _ fD) fI.1.symm (Nat.ne_of_lt (lC _ hLD)) (Nat.ne_of_lt hLD) (List.forall_mem_cons.mpr ⟨hI3, List.forall_mem_cons.mpr ⟨tC, List.forall_mem_cons.mpr ⟨tD, List.forall_mem_nil _⟩⟩⟩) k
  have stp : ∀ i h h', St i h → (∀ b o, @LT.lt Nat instLTNat b D → h.get? b = some o → h'.get? b = some o) → St i h' := fun i h h' S k => W.frame _ _ _ S fun b hb o e => k b o (fpD b hb) e
  have S₁ : CompSt (gr a0) L m I C D t1 t2 t3 led h₁ := ⟨⟨F.ns.keeps old, fun b o e => old _ _ (F.keep b o e), F.above⟩, fun p hp => ⟨old _ _ (N p hp).1, (N p hp).2⟩, TK, fun p hp => by
    have l := lt _ _ (N p (List.mem_append_right _ hp)).1
    exact ⟨hIl p hp, Nat.ne_of_lt (lC _ l), Nat.ne_of_lt l⟩⟩
  have hst₁ : St 0 h₁ := W.frame _ _ _ hst fun b _ o e => old b o e
  refine ⟨loop_abs (fun i zs h _ gs => CInv gr L m I C D St J s₂.gens i zs h gs) hsz (fun i zs h tk gs ci hz hn => ?_) (CInv.mk id S₁ hst₁ J0 hn₁ hd₁), fun Q E' q => W.self 0 _ _ _ hst₁ q⟩
  obtain @⟨a, m', c, u1, u2, u3, K, hg, S, hst, hJ, hns, hd⟩ := ci
  by_cases hlt : i < n
  · refine W.item i _ _ _ hlt hst ?_
    intro v h₂ tk₂ hP hst₂ hk₂
    have k₂ : ∀ b o, b ≠ I → h.get? b = some o → h₂.get? b = some o := fun b o hb e => hk₂ b o (fun q => hb (List.mem_singleton.mp q)) e
    have S₂ := step _ _ _ _ _ _ _ S fun b o h1 _ _ e => k₂ b o h1 e
    refine ⟨hlt, hgo (i + 1) v _ _ _ hst₂ (hasg a C D i v u1 u2 u3 K zs _ m' _ _ hlt hP S₂ hJ (hns.at' fun o e => k₂ _ o (Nat.ne_of_gt (lC _ ltI)) e) (Nat.ne_of_gt hDC) ?_)⟩
    intro h₃ tk₃ m₂ hn₃ hM hk₃
    have S₃ := step _ _ _ _ _ _ _ S₂ fun b o _ h2 _ e => hk₃ b o h2 e
    have hst₃ : St (i + 1) h₃ := stp _ _ _ hst₂ fun b o l e => hk₃ b o (Nat.ne_of_lt (lC _ l)) e
    have hd₃ : h₃.get? D = some (listOf zs.toArray c) := hk₃ _ _ (Nat.ne_of_lt hDC) (k₂ _ _ (Nat.ne_of_gt ltI) hd)
    have after : ∀ J' s₄, Tn a { s₂ with heap := h₃, toks := tk₃, gens := gs } K J' s₄ → StI s₂ (fun h₄ _ gs₄ => (AllBare gs → AllBare gs₄) ∧ ∃ a u1 u2 u3 K, CompSt (gr a) L m I C D u1 u2 u3 K h₄ ∧ St (i + 1) h₄ ∧ J' K ∧ h₄.Ns C m₂ ∧ h₄.get? D = some (listOf zs.toArray c)) s₄ := fun J' s₄ ht => by
      obtain @⟨h₄, tk₄, gs₄, @⟨a', v1, v2, v3, K', F', N', TK', fr, kp, bare, j⟩⟩ := hafter _ _ _ _ _ _ _ _ _ _ S₃.F S₃.N ht
      obtain ⟨oC, esC, epC, hCo, rC⟩ := id hn₃
      obtain ⟨oI, hIo⟩ := hex _ _ hst₃
      refine .mk ⟨bare, a', v1, v2, v3, K', ⟨F', N', TK', fun p hp => ?_⟩, W.frame _ _ _ hst₃ fun b hb o e => kp b o e (hfp b hb).2 (hok b (hfo b hb).1 (hfo b hb).2), j, hn₃.at' fun o e => kp _ o e tC okC, kp _ _ hd₃ tD okD⟩
      rcases fr p hp with q | q
      · exact S₃.off p q
      · exact ⟨get_ne hIo q, get_ne hCo q, get_ne hd₃ q⟩
    refine wpAny_mono (turn a C D i v u1 u2 u3 K zs { s₂ with heap := h₃, toks := tk₃, gens := gs } m₂ _ hlt hP S₃ okC okD hJ hz hn₃ hM) (fun ok s₄ h₄ => ?_) fun _ _ e => e
    cases ok with
    | false =>
      obtain ⟨bare, a', v1, v2, v3, K', S₄, st₄, j, n₄, d₄⟩ := after _ _ h₄
      exact .mk (.mk (fun q => bare (hg q)) S₄ st₄ j n₄ d₄)
    | true =>
      refine wpAny_mono h₄ (fun y s₅ q₅ => ?_) fun _ _ e => e
      obtain ⟨bare, a', v1, v2, v3, K', S₄, st₄, j, n₄, d₄⟩ := after _ _ q₅
      exact .mk ⟨c, d₄, fun h' c' k d => .mk (fun q => bare (hg q)) (step _ _ _ _ _ _ _ S₄ fun b o _ _ h3 e => k b o h3 e) (stp _ _ _ st₄ fun b o l e => k b o (Nat.ne_of_lt l) e) j (n₄.at' fun o e => k _ o (Nat.ne_of_gt hDC) e) d⟩
  · obtain rfl : n = i := Nat.le_antisymm (Nat.le_of_not_lt hlt) hn
    refine W.done _ _ _ hst ?_
    intro h₂ tk₂ hk₂
    have k₂ : ∀ b o, b ≠ I → h.get? b = some o → h₂.get? b = some o := fun b o hb e => hk₂ b o (fun q => hb (List.mem_singleton.mp q)) e
    exact hRR a C D h₂ tk₂ gs m' zs c u1 u2 u3 K (step _ _ _ _ _ _ _ S fun b o h1 _ _ e => k₂ b o h1 e) hg hJ hz (hns.at' fun o e => k₂ _ o (Nat.ne_of_gt (lC _ ltI)) e) (k₂ _ _ (Nat.ne_of_gt ltI) hd) (gn a _ fC) (gn a _ fD) (Nat.ne_of_lt (lC _ hLD)) (Nat.ne_of_lt hLD) (Nat.ne_of_gt hDC) tC
@[reducible] noncomputable def rangeO (n : Nat) (t u v : Tok) : Obj := { cls := .type "range", dict := none, data := .fields #[.int 0 t, .int n u, .int 1 v], slots := #[] }
theorem range_size (n : Nat) : Builtin.Range.rangeSize 0 n 1 = (n : Int) := by
  unfold Builtin.Range.rangeSize
  simp
  omega
theorem range_small (n : Nat) (h : n ≤ 1000) : Builtin.Range.small 0 n 1 = true := by
  unfold Builtin.Range.small
  rw [range_size]
  simp [Builtin.Range.rangeFitsLong]
  omega
theorem walk_L {ι : Type} {gr : ι → Heap} {a0 : ι} {L : Addr} {s : Shared} {elt target iter : Expr} {ifs : List Expr} {scope : Scope} {cl : List (Str × Addr)} {pos : Pos} {l : Addr} {vs : List Value} {kl : Nat} {RR : Value → Addr → Result → Shared → Prop} (ok : Addr → Prop) (Tn : ι → Shared → Led → (Led → Prop) → Shared → Prop) (M : Nat → Value → (Str → Option Value) → Prop) (J : Nat → List Value → Led → Prop)
    (hok : ∀ b, b ≠ L → (gr a0).get? b = none → ok b) (gn : ∀ a b, (gr a0).get? b = none → (gr a).get? b = none) (hh : A.handled = none) (F : Fr (gr a0) L s.heap m) (N : News (gr a0) L s.heap (tabs t1 t2 t3 ++ led)) (TK : TabOk t1 t2 t3 led) (hm : (l, listOf vs.toArray kl) ∈ led) (hlen : vs.length ≤ 1000) (hcell : ∀ y ∈ scope.names, y.2 ≠ .cell) (hkind : scope.kind = .function) (J0 : J 0 [] led)
    (hasg : ∀ a I C D i v t1 t2 t3 led zs s m₁ (Q : Unit → Shared → Prop) E', vs[i]? = some v → CompSt (gr a) L m I C D t1 t2 t3 led s.heap → J i zs led → s.heap.Ns C m₁ → C ≠ D →
      (∀ h' tk m₂, h'.Ns C m₂ → M i v m₂ → (∀ b o, b ≠ C → s.heap.get? b = some o → h'.get? b = some o) → Q () { s with heap := h', toks := tk }) → wpAny (model prg w) A (assign target (compEnvC scope cl C env) v) Q E' s)
    (turn : ∀ a I C D i v t1 t2 t3 led zs s m₂ E', vs[i]? = some v → CompSt (gr a) L m I C D t1 t2 t3 led s.heap → ok C → ok D → J i zs led → zs.length ≤ i → s.heap.Ns C m₂ → M i v m₂ →
      wpAny (model prg w) A (forIn ifs true fun c r => if r = true then do let ok ← isTrue c (compEnvC scope cl C env) (eval c (compEnvC scope cl C env)); pure (ForInStep.yield ok) else pure (ForInStep.yield r))
        (fun ok s₃ => if ok = true then wpAny (model prg w) A (eval elt (compEnvC scope cl C env)) (fun y s₄ => Tn a s led (J (i + 1) (zs ++ [y])) s₄) E' s₃ else Tn a s led (J (i + 1) zs) s₃) E' s)
    (hafter : ∀ s₂ a led h tk gs J' s₄ u1 u2 u3, Fr (gr a) L h m → News (gr a) L h (tabs u1 u2 u3 ++ led) → Tn a { s₂ with heap := h, toks := tk, gens := gs } led J' s₄ → StI s₂ (fun h' _ gs' => Aft gr L m ok led J' h gs h' gs') s₄)
    (hRR : ∀ a I C D h' tk gs m' zs k t1 t2 t3 led', CompSt (gr a) L m I C D t1 t2 t3 led' h' → (AllBare s.gens → AllBare gs) → J vs.length zs led' → zs.length ≤ vs.length → h'.Ns C m' → h'.get? D = some (listOf zs.toArray k) → (gr a).get? C = none → (gr a).get? D = none → L ≠ C → L ≠ D → C ≠ D → (C ≠ 266 ∧ C ≠ 280 ∧ C ≠ 159) →
      RR (.ref D) C (.ok .next) { s with heap := h', toks := tk, gens := gs }) :
    wpAny (model prg w) A (pyIter (.ref l)) (fun it s₂ => wpAny (model prg w) A (newList []) (fun acc s₃ => wpAny (model prg w) A (newFunctionEnv scope env.globals cl [] env.qual none .none (some env)) (fun cenv s₄ =>
      codeAny (model prg w) A (.compStart (.ListComp elt [⟨target, iter, ifs, 0⟩] scope pos) 0 it acc { cenv with scope := relabel scope env }) (RR acc cenv.locals) s₄) E s₃) E s₂) E s := by
  have hl := listL N (List.mem_append_right _ hm)
  have hls : @LT.lt Nat instLTNat l s.heap.objs.size := Heap.lt_size (N _ (List.mem_append_right _ hm)).1
  refine wpAny_pyIter_list hl ?_
  have W := Walks.list (prog := prg) (w := w) hh s.heap.objs.size l (Nat.ne_of_lt hls) vs.toArray
  rw [List.size_toArray] at W
  have pv : ∀ {i v}, vs.toArray[i]? = some v → vs[i]? = some v := fun e => List.getElem?_toArray.symm.trans e
  have hn := hl.at fun o e => Heap.get?_push_of_some { cls := .type "list_iterator", data := .fields #[.ref l, .int 0 0] } e
  refine comp_walk (s₂ := { s with heap := s.heap.push { cls := .type "list_iterator", data := .fields #[.ref l, .int 0 0] } }) (I := s.heap.objs.size) (led := led) ok Tn M J W hlen hcell hkind
    ⟨⟨_, Heap.get?_push_size _ rfl, rfl, rfl⟩, hn⟩ (fun b hb => ?_) (fun b hb => ?_) hok (fun i h ⟨⟨o, e, _⟩, _⟩ => ⟨o, e⟩) gn (F.push _) (fun p hp => ⟨Heap.get?_push_of_some _ (N p hp).1, (N p hp).2⟩) TK (fun p hp => Nat.ne_of_lt (Heap.lt_size (N p (List.mem_append_right _ hp)).1)) J0
    (fun i v s' Q E' ⟨⟨o, e, hc, hd⟩, _⟩ hQ => go_skip e hc hd rfl hQ)
    (fun a C D i v u1 u2 u3 led zs s' m₁ Q E' _ hP => hasg a _ C D i v u1 u2 u3 led zs s' m₁ Q E' (pv hP))
    (fun a C D i v u1 u2 u3 led zs s' m₂ E' _ hP => turn a _ C D i v u1 u2 u3 led zs s' m₂ E' (pv hP))
    (hafter _) (fun a C D => hRR a _ C D)
  · rcases List.mem_cons.mp hb with e | hb
    · rw [e]; exact ⟨Nat.lt_of_lt_of_eq (Nat.lt_succ_self _) (Heap.size_push ..).symm, tab_ne N (Nat.le_refl _)⟩
    · rw [List.mem_singleton.mp hb]; exact ⟨Nat.lt_of_lt_of_eq (Nat.lt_succ_of_lt hls) (Heap.size_push ..).symm, TK.d _ hm⟩
  · rcases List.mem_cons.mp hb with e | hb
    · rw [e]; exact ⟨Nat.ne_of_gt F.ns.lt, Heap.get?_none_of_le (Nat.le_trans F.above (Nat.le_of_lt F.ns.lt))⟩
    · rw [List.mem_singleton.mp hb]; exact (N _ (List.mem_append_right _ hm)).2
theorem walk_R {ι : Type} {gr : ι → Heap} {a0 : ι} {L : Addr} {s : Shared} {elt target iter : Expr} {ifs : List Expr} {scope : Scope} {cl : List (Str × Addr)} {pos : Pos} {r : Addr} {n : Nat} {ta tb tc : Tok} {RR : Value → Addr → Result → Shared → Prop} (ok : Addr → Prop) (Tn : ι → Shared → Led → (Led → Prop) → Shared → Prop) (M : Nat → Value → (Str → Option Value) → Prop) (J : Nat → List Value → Led → Prop)
    (hok : ∀ b, b ≠ L → (gr a0).get? b = none → ok b) (gn : ∀ a b, (gr a0).get? b = none → (gr a).get? b = none) (hh : A.handled = none) (F : Fr (gr a0) L s.heap m) (N : News (gr a0) L s.heap (tabs t1 t2 t3 ++ led)) (TK : TabOk t1 t2 t3 led) (hr : s.heap.get? r = some (rangeO n ta tb tc)) (hlen : n ≤ 1000) (hcell : ∀ y ∈ scope.names, y.2 ≠ .cell) (hkind : scope.kind = .function) (J0 : J 0 [] led) (hgo : ∀ it v, letOwnedTupleGo target it v = pure ())
    (hasg : ∀ a I C D i v t1 t2 t3 led zs s m₁ (Q : Unit → Shared → Prop) E', (i < n ∧ ∃ t, v = .int (i : Int) t) → CompSt (gr a) L m I C D t1 t2 t3 led s.heap → J i zs led → s.heap.Ns C m₁ → C ≠ D →
      (∀ h' tk m₂, h'.Ns C m₂ → M i v m₂ → (∀ b o, b ≠ C → s.heap.get? b = some o → h'.get? b = some o) → Q () { s with heap := h', toks := tk }) → wpAny (model prg w) A (assign target (compEnvC scope cl C env) v) Q E' s)
    (turn : ∀ a I C D i v t1 t2 t3 led zs s m₂ E', (i < n ∧ ∃ t, v = .int (i : Int) t) → CompSt (gr a) L m I C D t1 t2 t3 led s.heap → ok C → ok D → J i zs led → zs.length ≤ i → s.heap.Ns C m₂ → M i v m₂ →
      wpAny (model prg w) A (forIn ifs true fun c r => if r = true then do let ok ← isTrue c (compEnvC scope cl C env) (eval c (compEnvC scope cl C env)); pure (ForInStep.yield ok) else pure (ForInStep.yield r))
        (fun ok s₃ => if ok = true then wpAny (model prg w) A (eval elt (compEnvC scope cl C env)) (fun y s₄ => Tn a s led (J (i + 1) (zs ++ [y])) s₄) E' s₃ else Tn a s led (J (i + 1) zs) s₃) E' s)
    (hafter : ∀ s₂ a led h tk gs J' s₄ u1 u2 u3, Fr (gr a) L h m → News (gr a) L h (tabs u1 u2 u3 ++ led) → Tn a { s₂ with heap := h, toks := tk, gens := gs } led J' s₄ → StI s₂ (fun h' _ gs' => Aft gr L m ok led J' h gs h' gs') s₄)
    (hRR : ∀ a I C D h' tk gs m' zs k t1 t2 t3 led', CompSt (gr a) L m I C D t1 t2 t3 led' h' → (AllBare s.gens → AllBare gs) → J n zs led' → zs.length ≤ n → h'.Ns C m' → h'.get? D = some (listOf zs.toArray k) → (gr a).get? C = none → (gr a).get? D = none → L ≠ C → L ≠ D → C ≠ D → (C ≠ 266 ∧ C ≠ 280 ∧ C ≠ 159) →
      RR (.ref D) C (.ok .next) { s with heap := h', toks := tk, gens := gs }) :
    wpAny (model prg w) A (pyIter (.ref r)) (fun it s₂ => wpAny (model prg w) A (newList []) (fun acc s₃ => wpAny (model prg w) A (newFunctionEnv scope env.globals cl [] env.qual none .none (some env)) (fun cenv s₄ =>
      codeAny (model prg w) A (.compStart (.ListComp elt [⟨target, iter, ifs, 0⟩] scope pos) 0 it acc { cenv with scope := relabel scope env }) (RR acc cenv.locals) s₄) E s₃) E s₂) E s := by
  refine wpAny_pyIter_range hr (range_small n hlen) ?_
  rw [range_size]
  have W := (Walks.range (prog := prg) (w := w) hh s.heap.objs.size 0 1 n).bound
  have cv : ∀ i v, (i < n ∧ ∃ t, v = Value.int (0 + (i : Int) * 1) t) → i < n ∧ ∃ t, v = Value.int (i : Int) t := fun i v ⟨a, t, e⟩ => ⟨a, t, by rw [e, Int.zero_add, Int.mul_one]⟩
  refine comp_walk (s₂ := { s with heap := s.heap.push { cls := .type "range_iterator", data := .fields #[rawInt 0, rawInt n, rawInt 1] } }) (I := s.heap.objs.size) (led := led) ok Tn M J W hlen hcell hkind
    (by show IsRangeIter _ _ _ _ _; simpa using Heap.get?_push_size _ rfl) (fun b hb => ?_) (fun b hb => ?_) hok (fun i h hst => ⟨_, hst⟩) gn (F.push _) (fun p hp => ⟨Heap.get?_push_of_some _ (N p hp).1, (N p hp).2⟩) TK (fun p hp => Nat.ne_of_lt (Heap.lt_size (N p (List.mem_append_right _ hp)).1)) J0
    (fun i v s' Q E' hst hQ => by rw [hgo]; exact wpAny_pure hQ)
    (fun a C D i v u1 u2 u3 led zs s' m₁ Q E' _ hP => hasg a _ C D i v u1 u2 u3 led zs s' m₁ Q E' (cv i v hP))
    (fun a C D i v u1 u2 u3 led zs s' m₂ E' _ hP => turn a _ C D i v u1 u2 u3 led zs s' m₂ E' (cv i v hP))
    (hafter _) (fun a C D => hRR a _ C D)
  · rw [List.mem_singleton.mp hb]; exact ⟨Nat.lt_of_lt_of_eq (Nat.lt_succ_self _) (Heap.size_push ..).symm, tab_ne N (Nat.le_refl _)⟩
  · rw [List.mem_singleton.mp hb]; exact ⟨Nat.ne_of_gt F.ns.lt, Heap.get?_none_of_le (Nat.le_trans F.above (Nat.le_of_lt F.ns.lt))⟩
theorem turn_aft {g h : Heap} {L : Addr} {m : Str → Option Value} {u1 u2 u3 : Array Value} {led : Led} {tk : Tok} {gs : Array GenState} {J' : Led → Prop} {s₂ s₄ : Shared} (F : Fr g L h m) (N : News g L h (tabs u1 u2 u3 ++ led)) (t : TurnP { s₂ with heap := h, toks := tk, gens := gs } led J' s₄) :
    StI s₂ (fun h' _ gs' => Aft (fun _ : Unit => g) L m (fun _ => True) led J' h gs h' gs') s₄ := by
  obtain ⟨h', tk', gs', v1, v2, v3, led', rfl, k3, hz, hg, hn, tok, hf, j⟩ := t
  exact .mk (.mk (a := ()) (fr_keep3 F N k3) (news_turn F N hn hf) tok hf (fun b o e q _ => k3 b o e q.1 q.2.1 q.2.2) hg j)
end
end
-- C1
section
section
variable {w : World} {A : Around} {E : Value → Shared → Prop} {s : Shared} {env : Env} {h₀ : Heap} {L I C D : Addr} {m : Str → Option Value} {t1 t2 t3 : Array Value} {led : Led} {h' : Heap} {tk : Nat} {gs : Array GenState} {m' : Str → Option Value} {zs : List Value} {k : Nat}

theorem post_none {Q : Value → Shared → Prop} (S : CompSt h₀ L m I C D t1 t2 t3 led h') (hn : h'.Ns C m') (hd : h'.get? D = some (W.listOf zs.toArray k)) (h0C : h₀.get? C = none) (h0D : h₀.get? D = none) (hLC : L ≠ C) (hLD : L ≠ D) (hCD : C ≠ D)
    (hC3 : C ≠ 266 ∧ C ≠ 280 ∧ C ≠ 159)
    (hQ : ∀ h'', Fr h₀ L h'' m → News h₀ L h'' (tabs t1 t2 t3 ++ ((D, W.listOf zs.toArray k) :: led)) → TabOk t1 t2 t3 ((D, W.listOf zs.toArray k) :: led) → (∀ p ∈ led, p.1 ≠ D) → Q (.ref D) { s with heap := h'', toks := tk, gens := gs }) :
    compPost (model prg w) A E none Q (.ref D) C (.ok .next) { s with heap := h', toks := tk, gens := gs } := by
  refine ⟨m', hn, fun h'' hs => ?_⟩
  have kk : ∀ b o, b ≠ C → h'.get? b = some o → h''.get? b = some o := fun b o hb e => (hs.2 b hb).trans e
  obtain ⟨oL, es, ep, hL, r⟩ := S.F.ns
  refine hQ h'' ⟨⟨oL, es, ep, kk _ _ hLC hL, r⟩, fun b o e => kk _ _ (fun q => by rw [q, h0C] at e; cases e) (S.F.keep b o e), S.F.above⟩ (fun p hp => ?_) (S.tok.cons (off_list S.N hd)) fun p hp => (S.off p hp).2.2
  have base : ∀ p ∈ tabs t1 t2 t3 ++ led, h''.get? p.1 = some p.2 ∧ p.1 ≠ L ∧ h₀.get? p.1 = none := fun p hp => by
    refine ⟨kk _ _ ?_ (S.N p hp).1, (S.N p hp).2⟩
    rcases List.mem_append.mp hp with hp | hp
    · simp only [List.mem_cons, List.not_mem_nil, or_false] at hp
      rcases hp with rfl | rfl | rfl
      · exact hC3.1.symm
      · exact hC3.2.1.symm
      · exact hC3.2.2.symm
    · exact (S.off p hp).2.1
  rcases List.mem_append.mp hp with hp | hp
  · exact base p (List.mem_append_left _ hp)
  · rcases List.mem_cons.mp hp with rfl | hp
    · exact ⟨kk _ _ hCD.symm hd, hLD.symm, h0D⟩
    · exact base p (List.mem_append_right _ hp)

theorem post_assign {Q : Flow → Shared → Prop} {y : Str} {py : Pos} (hloc : env.locals = L) (hy : env.kindOf y = some .local) (hp : (env.scope.kind == .class || (env.scope.kind == .module && env.locals != env.globals)) = false)
    (S : CompSt h₀ L m I C D t1 t2 t3 led h') (hn : h'.Ns C m') (hd : h'.get? D = some (W.listOf zs.toArray k)) (h0C : h₀.get? C = none) (h0D : h₀.get? D = none) (hLC : L ≠ C) (hLD : L ≠ D) (hCD : C ≠ D)
    (hC3 : C ≠ 266 ∧ C ≠ 280 ∧ C ≠ 159)
    (hQ : ∀ h'' tk', Fr h₀ L h'' (fun z => if z = y then some (.ref D) else m z) → News h₀ L h'' (tabs t1 t2 t3 ++ ((D, W.listOf zs.toArray k) :: led)) → TabOk t1 t2 t3 ((D, W.listOf zs.toArray k) :: led) → (∀ p ∈ led, p.1 ≠ D) → Q .next { s with heap := h'', toks := tk', gens := gs }) :
    compPost (model prg w) A E (some (assign (.Name y py) env)) (fun _ s' => Q .next s') (.ref D) C (.ok .next) { s with heap := h', toks := tk, gens := gs } := by
  show wpAny _ A (assign (.Name y py) env (.ref D)) _ _ _
  refine wpAny_assign_Name (wpAny_storeName_local hy (by rw [hloc]; exact S.F.ns) (fun h₂ hn₂ hs₂ => ?_) hp)
  rw [hloc] at hn₂ hs₂
  refine ⟨m', hn.sameBut hs₂ hLC.symm, fun h'' hs => ?_⟩
  have kk : ∀ b o, b ≠ C → b ≠ L → h'.get? b = some o → h''.get? b = some o := fun b o hb hl e => (hs.2 b hb).trans ((hs₂.2 b hl).trans e)
  have hns : h''.Ns L (fun z => if z = y then some (.ref D) else m z) := hn₂.sameBut hs hLC
  refine hQ h'' _ ⟨hns, fun b o e => kk _ _ (fun q => by rw [q, h0C] at e; cases e) (fun q => ?_) (S.F.keep b o e), S.F.above⟩ (fun p hp => ?_) (S.tok.cons (off_list S.N hd)) fun p hp => (S.off p hp).2.2
  · have := Heap.lt_size e
    rw [q] at this
    exact absurd (Nat.lt_of_lt_of_le this S.F.above) (Nat.lt_irrefl _)
  have base : ∀ p ∈ tabs t1 t2 t3 ++ led, h''.get? p.1 = some p.2 ∧ p.1 ≠ L ∧ h₀.get? p.1 = none := fun p hp => by
    refine ⟨kk _ _ ?_ (S.N p hp).2.1 (S.N p hp).1, (S.N p hp).2⟩
    rcases List.mem_append.mp hp with hp | hp
    · simp only [List.mem_cons, List.not_mem_nil, or_false] at hp
      rcases hp with rfl | rfl | rfl
      · exact hC3.1.symm
      · exact hC3.2.1.symm
      · exact hC3.2.2.symm
    · exact (S.off p hp).2.1
  rcases List.mem_append.mp hp with hp | hp
  · exact base p (List.mem_append_left _ hp)
  · rcases List.mem_cons.mp hp with rfl | hp
    · exact ⟨kk _ _ hCD.symm hLD.symm hd, hLD.symm, h0D⟩
    · exact base p (List.mem_append_right _ hp)

theorem comp_L {elt target iter : Expr} {ifs : List Expr} {scope : Scope} {cl : List (Str × Addr)} {pos : Pos} {l : Addr} {vs : List Value} {kl : Nat} {RR : Value → Addr → Result → Shared → Prop}
    (M : Nat → Value → (Str → Option Value) → Prop) (J : Nat → List Value → Led → Prop)
    (hh : A.handled = none) (F : Fr h₀ L s.heap m) (N : News h₀ L s.heap (tabs t1 t2 t3 ++ led)) (TK : TabOk t1 t2 t3 led) (hm : (l, W.listOf vs.toArray kl) ∈ led) (hlen : vs.length ≤ 1000)
    (hcell : ∀ y ∈ scope.names, y.2 ≠ .cell) (hkind : scope.kind = .function) (J0 : J 0 [] led)
    (hasg : ∀ I C D i v t1 t2 t3 led zs s m₁ (Q : Unit → Shared → Prop) E', vs[i]? = some v → CompSt h₀ L m I C D t1 t2 t3 led s.heap → J i zs led → s.heap.Ns C m₁ → C ≠ D →
      (∀ h' tk m₂, h'.Ns C m₂ → M i v m₂ → (∀ b o, b ≠ C → s.heap.get? b = some o → h'.get? b = some o) → Q () { s with heap := h', toks := tk }) → wpAny (model prg w) A (assign target (compEnvC scope cl C env) v) Q E' s)
    (turn : ∀ I C D i v t1 t2 t3 led zs s m₂ E', vs[i]? = some v → CompSt h₀ L m I C D t1 t2 t3 led s.heap → J i zs led → zs.length ≤ i → s.heap.Ns C m₂ → M i v m₂ →
      wpAny (model prg w) A (forIn ifs true fun c r => if r = true then do let ok ← isTrue c (compEnvC scope cl C env) (eval c (compEnvC scope cl C env)); pure (ForInStep.yield ok) else pure (ForInStep.yield r))
        (fun ok s₃ => if ok = true then wpAny (model prg w) A (eval elt (compEnvC scope cl C env)) (fun y s₄ => TurnP s led (J (i + 1) (zs ++ [y])) s₄) E' s₃ else TurnP s led (J (i + 1) zs) s₃) E' s)
    (hRR : ∀ I C D h' tk gs m' zs k t1 t2 t3 led', CompSt h₀ L m I C D t1 t2 t3 led' h' → (AllBare s.gens → AllBare gs) → J vs.length zs led' → zs.length ≤ vs.length → h'.Ns C m' → h'.get? D = some (W.listOf zs.toArray k) → h₀.get? C = none → h₀.get? D = none → L ≠ C → L ≠ D → C ≠ D → (C ≠ 266 ∧ C ≠ 280 ∧ C ≠ 159) →
      RR (.ref D) C (.ok .next) { s with heap := h', toks := tk, gens := gs }) :
    wpAny (model prg w) A (pyIter (.ref l)) (fun it s₂ => wpAny (model prg w) A (newList []) (fun acc s₃ => wpAny (model prg w) A (newFunctionEnv scope env.globals cl [] env.qual none .none (some env)) (fun cenv s₄ =>
      codeAny (model prg w) A (.compStart (.ListComp elt [⟨target, iter, ifs, 0⟩] scope pos) 0 it acc { cenv with scope := relabel scope env }) (RR acc cenv.locals) s₄) E s₃) E s₂) E s :=
  walk_L (gr := fun _ : Unit => h₀) (a0 := ()) (fun _ => True) (fun _ => TurnP) M J (fun _ _ _ => trivial) (fun _ _ e => e) hh F N TK hm hlen hcell hkind J0 (fun _ => hasg) (fun _ I C D i v t1 t2 t3 led zs s m₂ E' a b _ _ => turn I C D i v t1 t2 t3 led zs s m₂ E' a b) (fun _ _ _ _ _ _ _ _ _ _ _ F N t => turn_aft F N t) (fun _ => hRR)
end
end
-- C2
section
section
variable {w : World} {A : Around} {E : Value → Shared → Prop} {s : Shared} {env : Env} {h₀ : Heap} {L I C D : Addr} {m : Str → Option Value} {t1 t2 t3 : Array Value} {led : Led}
theorem comp_R {elt target iter : Expr} {ifs : List Expr} {scope : Scope} {cl : List (Str × Addr)} {pos : Pos} {r : Addr} {n : Nat} {ta tb tc : Tok} {RR : Value → Addr → Result → Shared → Prop}
    (M : Nat → Value → (Str → Option Value) → Prop) (J : Nat → List Value → Led → Prop)
    (hh : A.handled = none) (F : Fr h₀ L s.heap m) (N : News h₀ L s.heap (tabs t1 t2 t3 ++ led)) (TK : TabOk t1 t2 t3 led) (hr : s.heap.get? r = some (rangeO n ta tb tc)) (hlen : n ≤ 1000)
    (hcell : ∀ y ∈ scope.names, y.2 ≠ .cell) (hkind : scope.kind = .function) (J0 : J 0 [] led)
    (hasg : ∀ I C D i v t1 t2 t3 led zs s m₁ (Q : Unit → Shared → Prop) E', (i < n ∧ ∃ t, v = .int (i : Int) t) → CompSt h₀ L m I C D t1 t2 t3 led s.heap → J i zs led → s.heap.Ns C m₁ → C ≠ D →
      (∀ h' tk m₂, h'.Ns C m₂ → M i v m₂ → (∀ b o, b ≠ C → s.heap.get? b = some o → h'.get? b = some o) → Q () { s with heap := h', toks := tk }) → wpAny (model prg w) A (assign target (compEnvC scope cl C env) v) Q E' s)
    (turn : ∀ I C D i v t1 t2 t3 led zs s m₂ E', (i < n ∧ ∃ t, v = .int (i : Int) t) → CompSt h₀ L m I C D t1 t2 t3 led s.heap → J i zs led → zs.length ≤ i → s.heap.Ns C m₂ → M i v m₂ →
      wpAny (model prg w) A (forIn ifs true fun c r => if r = true then do let ok ← isTrue c (compEnvC scope cl C env) (eval c (compEnvC scope cl C env)); pure (ForInStep.yield ok) else pure (ForInStep.yield r))
        (fun ok s₃ => if ok = true then wpAny (model prg w) A (eval elt (compEnvC scope cl C env)) (fun y s₄ => TurnP s led (J (i + 1) (zs ++ [y])) s₄) E' s₃ else TurnP s led (J (i + 1) zs) s₃) E' s)
    (hRR : ∀ I C D h' tk gs m' zs k t1 t2 t3 led', CompSt h₀ L m I C D t1 t2 t3 led' h' → (AllBare s.gens → AllBare gs) → J n zs led' → zs.length ≤ n → h'.Ns C m' → h'.get? D = some (W.listOf zs.toArray k) → h₀.get? C = none → h₀.get? D = none → L ≠ C → L ≠ D → C ≠ D → (C ≠ 266 ∧ C ≠ 280 ∧ C ≠ 159) →
      RR (.ref D) C (.ok .next) { s with heap := h', toks := tk, gens := gs })
    (hgo : ∀ it v, letOwnedTupleGo target it v = pure ()) :
    wpAny (model prg w) A (pyIter (.ref r)) (fun it s₂ => wpAny (model prg w) A (newList []) (fun acc s₃ => wpAny (model prg w) A (newFunctionEnv scope env.globals cl [] env.qual none .none (some env)) (fun cenv s₄ =>
      codeAny (model prg w) A (.compStart (.ListComp elt [⟨target, iter, ifs, 0⟩] scope pos) 0 it acc { cenv with scope := relabel scope env }) (RR acc cenv.locals) s₄) E s₃) E s₂) E s :=
  walk_R (gr := fun _ : Unit => h₀) (a0 := ()) (fun _ => True) (fun _ => TurnP) M J (fun _ _ _ => trivial) (fun _ _ e => e) hh F N TK hr hlen hcell hkind J0 hgo (fun _ => hasg) (fun _ I C D i v t1 t2 t3 led zs s m₂ E' a b _ _ => turn I C D i v t1 t2 t3 led zs s m₂ E' a b) (fun _ _ _ _ _ _ _ _ _ _ _ F N t => turn_aft F N t) (fun _ => hRR)

theorem asg_name {s : Shared} {scope : Scope} {cl : List (Str × Addr)} {x : Str} {px : Pos} {v : Value} {m₁ : Str → Option Value} {Q : Unit → Shared → Prop} {E' : Value → Shared → Prop} (hx : scope.names.lookup x = some .local) (hkind : scope.kind = .function) (hn : s.heap.Ns C m₁)
    (h : ∀ h' tk, h'.Ns C (fun z => if z = x then some v else m₁ z) → (∀ b o, b ≠ C → s.heap.get? b = some o → h'.get? b = some o) → Q () { s with heap := h', toks := tk }) :
    wpAny (model prg w) A (assign (.Name x px) (compEnvC scope cl C env) v) Q E' s :=
  wpAny_assign_Name (wpAny_storeName_local (env := compEnvC scope cl C env) (lookup_relabel_local hx) hn (fun h' hn' hs => h h' _ hn' fun b o hb e => (hs.2 b hb).trans e) (by simp [compEnvC, relabel, hkind]))
theorem asg_pair {s : Shared} {scope : Scope} {cl : List (Str × Addr)} {x y : Str} {px py pos : Pos} {kk : Nat} {T : Addr} {u v : Value} {m₁ : Str → Option Value} {Q : Unit → Shared → Prop} {E' : Value → Shared → Prop} (hh : A.handled = none) (hx : scope.names.lookup x = some .local) (hy : scope.names.lookup y = some .local) (hkind : scope.kind = .function) (hn : s.heap.Ns C m₁)
    (hT : s.heap.get? T = some (tupO #[u, v]))
    (h : ∀ h' tk, h'.Ns C (fun z => if z = y then some v else if z = x then some u else m₁ z) → (∀ b o, b ≠ C → s.heap.get? b = some o → h'.get? b = some o) → Q () { s with heap := h', toks := tk }) :
    wpAny (model prg w) A (assign (.Tuple [.Name x px, .Name y py] kk pos) (compEnvC scope cl C env) (.ref T)) Q E' s := by
  refine assign_Tuple_tuple (items := #[u, v]) hh ⟨_, hT, rfl, 0, rfl⟩ rfl rfl fun h₁ he => ?_
  have k₁ : ∀ b o, s.heap.get? b = some o → h₁.get? b = some o := fun b o e => he b o (Nat.ne_of_lt (Heap.lt_size e)) e
  show wpAny _ _ (assignInOrder [assign (.Name x px) (compEnvC scope cl C env), assign (.Name y py) (compEnvC scope cl C env)] [u, v]) _ _ _
  exact assignInOrder_cons (asg_name (w := w) (env := env) (C := C) hx hkind (hn.keeps k₁) fun h₂ tk₂ hn₂ k₂ =>
    assignInOrder_cons (asg_name (w := w) (env := env) (C := C) hy hkind hn₂ fun h₃ tk₃ hn₃ k₃ =>
      assignInOrder_nil (h h₃ _ hn₃ fun b o hb e => k₃ b o hb (k₂ b o hb (k₁ b o e)))))
theorem asg_triple {s : Shared} {scope : Scope} {cl : List (Str × Addr)} {x y z' : Str} {px py pz pos : Pos} {kk : Nat} {T : Addr} {u v q : Value} {m₁ : Str → Option Value} {Q : Unit → Shared → Prop} {E' : Value → Shared → Prop} (hh : A.handled = none) (hx : scope.names.lookup x = some .local) (hy : scope.names.lookup y = some .local) (hz : scope.names.lookup z' = some .local) (hkind : scope.kind = .function) (hn : s.heap.Ns C m₁)
    (hT : s.heap.get? T = some (tupO #[u, v, q]))
    (h : ∀ h' tk, h'.Ns C (fun z => if z = z' then some q else if z = y then some v else if z = x then some u else m₁ z) → (∀ b o, b ≠ C → s.heap.get? b = some o → h'.get? b = some o) → Q () { s with heap := h', toks := tk }) :
    wpAny (model prg w) A (assign (.Tuple [.Name x px, .Name y py, .Name z' pz] kk pos) (compEnvC scope cl C env) (.ref T)) Q E' s := by
  refine assign_Tuple_tuple (items := #[u, v, q]) hh ⟨_, hT, rfl, 0, rfl⟩ rfl rfl fun h₁ he => ?_
  have k₁ : ∀ b o, s.heap.get? b = some o → h₁.get? b = some o := fun b o e => he b o (Nat.ne_of_lt (Heap.lt_size e)) e
  show wpAny _ _ (assignInOrder [assign (.Name x px) (compEnvC scope cl C env), assign (.Name y py) (compEnvC scope cl C env), assign (.Name z' pz) (compEnvC scope cl C env)] [u, v, q]) _ _ _
  exact assignInOrder_cons (asg_name (w := w) (env := env) (C := C) hx hkind (hn.keeps k₁) fun h₂ tk₂ hn₂ k₂ =>
    assignInOrder_cons (asg_name (w := w) (env := env) (C := C) hy hkind hn₂ fun h₃ tk₃ hn₃ k₃ =>
      assignInOrder_cons (asg_name (w := w) (env := env) (C := C) hz hkind hn₃ fun h₄ tk₄ hn₄ k₄ =>
        assignInOrder_nil (h h₄ _ hn₄ fun b o hb e => k₄ b o hb (k₃ b o hb (k₂ b o hb (k₁ b o e)))))))
end
end
-- C3
section
inductive PairsR (led : Led) : List Value → List (Value × Value) → Prop
  | nil : PairsR led [] []
  | cons {t : Addr} {p : Value × Value} {vs : List Value} {ps : List (Value × Value)} : (t, tupO #[p.1, p.2]) ∈ led → PairsR led vs ps → PairsR led (.ref t :: vs) (p :: ps)
theorem PairsR.mono {led led' : Led} {vs : List Value} {ps : List (Value × Value)} (x : PairsR led vs ps) (h : ∀ p ∈ led, p ∈ led') : PairsR led' vs ps := by
  induction x with
  | nil => exact .nil
  | cons a _ ih => exact .cons (h _ a) ih
theorem PairsR.length {led : Led} {vs : List Value} {ps : List (Value × Value)} (x : PairsR led vs ps) : vs.length = ps.length := by
  induction x with
  | nil => rfl
  | cons _ _ ih => simp [ih]
theorem PairsR.at {led : Led} {vs : List Value} {ps : List (Value × Value)} (x : PairsR led vs ps) : ∀ {i : Nat} {v : Value}, vs[i]? = some v → ∃ t p, v = .ref t ∧ ps[i]? = some p ∧ (t, tupO #[p.1, p.2]) ∈ led := by
  induction x with
  | nil => intro i v h; simp at h
  | cons a _ ih =>
    intro i v h
    cases i with
    | zero => simp at h; exact ⟨_, _, h.symm, rfl, a⟩
    | succ i => simpa using ih (by simpa using h)
section
variable {w : World} {A : Around} {E : Value → Shared → Prop} {s : Shared} {env : Env} {h₀ : Heap} {L I C D : Addr} {m : Str → Option Value} {t1 t2 t3 : Array Value} {led : Led}
theorem turn_still {J : Led → Prop} (S : CompSt h₀ L m I C D t1 t2 t3 led s.heap) (hj : J led) (tk : Nat) : TurnP s led J { s with toks := tk } :=
  ⟨s.heap, tk, s.gens, t1, t2, t3, led, rfl, Keep3.refl _, Nat.le_refl _, id, fun p hp => (S.N p hp).1, S.tok, fun _ hp => .inl hp, hj⟩
theorem name_comp {s : Shared} {scope : Scope} {cl : List (Str × Addr)} {x : Str} {px : Pos} {v : Value} {m₁ : Str → Option Value} {Q : Value → Shared → Prop} {E' : Value → Shared → Prop} (hx : scope.names.lookup x = some .local) (hkind : scope.kind = .function) (hn : s.heap.Ns C m₁) (hv : m₁ x = some v)
    (hd : (x == ("__debug__" : Str)) = false) (h : Q v s) : wpAny (model prg w) A (eval (.Name x px) (compEnvC scope cl C env)) Q E' s :=
  wpAny_Name (wpAny_loadName_local (env := compEnvC scope cl C env) (by simp [compEnvC, relabel, hkind]) (lookup_relabel_local hx) hn hv h) hd

theorem comp_pairs {x y z : Str} {px py pz p1 : Pos} {kk : Nat} {iter : Expr} {scope : Scope} {cl : List (Str × Addr)} {pos : Pos} {l : Addr} {vs : List Value} {ps : List (Value × Value)} {kl : Nat} {RR : Value → Addr → Result → Shared → Prop}
    (sel : Value × Value → Value) (hsel : (z = x ∧ sel = Prod.fst ∧ x ≠ y) ∨ (z = y ∧ sel = Prod.snd))
    (hh : A.handled = none) (F : Fr h₀ L s.heap m) (N : News h₀ L s.heap (tabs t1 t2 t3 ++ led)) (TK : TabOk t1 t2 t3 led) (hm : (l, W.listOf vs.toArray kl) ∈ led) (hlen : vs.length ≤ 1000) (hp : PairsR led vs ps)
    (hcell : ∀ y ∈ scope.names, y.2 ≠ .cell) (hkind : scope.kind = .function) (hx : scope.names.lookup x = some .local) (hy : scope.names.lookup y = some .local) (hd : (z == ("__debug__" : Str)) = false)
    (hRR : ∀ I C D h' tk gs m' k u1 u2 u3, CompSt h₀ L m I C D u1 u2 u3 led h' → (AllBare s.gens → AllBare gs) → h'.Ns C m' → h'.get? D = some (W.listOf (ps.map sel).toArray k) → h₀.get? C = none → h₀.get? D = none → L ≠ C → L ≠ D → C ≠ D → (C ≠ 266 ∧ C ≠ 280 ∧ C ≠ 159) →
      RR (.ref D) C (.ok .next) { s with heap := h', toks := tk, gens := gs }) :
    wpAny (model prg w) A (pyIter (.ref l)) (fun it s₂ => wpAny (model prg w) A (newList []) (fun acc s₃ => wpAny (model prg w) A (newFunctionEnv scope env.globals cl [] env.qual none .none (some env)) (fun cenv s₄ =>
      codeAny (model prg w) A (.compStart (.ListComp (.Name z pz) [⟨.Tuple [.Name x px, .Name y py] kk p1, iter, [], 0⟩] scope pos) 0 it acc { cenv with scope := relabel scope env }) (RR acc cenv.locals) s₄) E s₃) E s₂) E s := by
  refine comp_L (fun i _ m₂ => ∃ p, ps[i]? = some p ∧ m₂ z = some (sel p)) (fun i zs led' => led' = led ∧ zs = (ps.take i).map sel) hh F N TK hm hlen hcell hkind ⟨rfl, by simp⟩ ?_ ?_ ?_
  · rintro I C D i v u1 u2 u3 led' zs s m₁ Q E' hv S ⟨rfl, rfl⟩ hn hCD h
    obtain ⟨T, p, rfl, hpi, hT⟩ := hp.at hv
    refine asg_pair hh hx hy hkind hn (S.N _ (List.mem_append_right _ hT)).1 fun h' tk hn' hk => h h' tk _ hn' ⟨p, hpi, ?_⟩ hk
    rcases hsel with ⟨rfl, rfl, hxy⟩ | ⟨rfl, rfl⟩
    · simp [hxy]
    · simp
  · rintro I C D i v u1 u2 u3 led' zs s m₂ E' hv S ⟨rfl, rfl⟩ hz hn ⟨p, hpi, hm₂⟩
    refine wpAny_tests_nil ?_
    simp only [if_true]
    refine name_comp ?_ hkind hn hm₂ hd ?_
    · rcases hsel with ⟨rfl, _⟩ | ⟨rfl, _⟩
      · exact hx
      · exact hy
    · exact turn_still (tk := s.toks) S ⟨rfl, by rw [List.take_add_one, hpi]; simp⟩
  · rintro I C D h' tk gs m' zs k u1 u2 u3 led' S hg ⟨rfl, rfl⟩ hz hn hd' a b c d e f
    have hl := hp.length
    rw [hl, List.take_length] at hd'
    exact hRR I C D h' tk gs m' k u1 u2 u3 S hg hn hd' a b c d e f
end
end
-- H1
section
theorem enterC {w : World} {A : Around} {n u : Nat} {s : Shared} {t1 t2 t3 : Array Value} {kn : Led} {base : Heap} {outs : List Env} {g : Heap} {loose : List Str} {mean : ExcName → Option Value} {mg mb : Str → Option Value}
    {name qual : Str} {params : Arguments} {body : List Stmt} {scope : Scope} {dV kV doc pm cdv ct oc : Value} {an od : Option Addr} {osl : Array (Option Value)} {f : Addr} {args : List Value} {binds : List (Str × Value)} {Z : Result → Shared → Prop}
    (R : Rdy w A n u s t1 t2 t3 kn base outs g loose mean mg mb)
    (ho : (hd.heap_1_39 w.params).lookup f = some ⟨oc, od, .func (fnOf name qual params body scope dV kV doc pm an cdv ct), osl⟩) (hcd : codeIn (hd.heap_1_39 w.params) cdv qual = true)
    (hbind : BindsTo s (fnOf name qual params body scope dV kV doc pm an cdv ct) ⟨args, []⟩ binds) (hkind : (binds.all fun y => scope.names.lookup y.1 == some .local || scope.names.lookup y.1 == some .cell) = true)
    (hnd : ((cellsFrom 0 scope.names []).map (·.1)).Nodup) (hco : scope.isCoroutine = false) (hgen : scope.isGenerator = false) (hk : scope.kind = .function)
    (h : ∀ L h₁ tk cells, L = s.heap.objs.size → Fr g L h₁ (bindL (envOfC qual scope L f cdv).kindOf binds fun _ => none) → News g L h₁ (cells ++ (266, tabObj t1) :: (280, tabObj t2) :: (159, tabObj t3) :: kn) →
      CellsAre (bindC (envOfC qual scope L f cdv).kindOf binds fun _ => none) (cellsFrom (L + 1) scope.names []) cells → Below A base outs g → (hd.heap_1_39 w.params).In g → Top topProg loose mean mg mb g → CodeHd g 270 266 → CodeHd g 284 280 → CodeHd g 163 159 → TabOk t1 t2 t3 kn → @LT.lt Nat instLTNat 266 L → @LT.lt Nat instLTNat 280 L → @LT.lt Nat instLTNat 159 L → AllLt L kn →
      wpAny (model prg w) (A.deeper (envOfC qual scope L f cdv)) (execs body (envOfC qual scope L f cdv))
        (fun fl s' => Z (.ok (.ret (match fl with | .ret v => v | _ => .none))) s')
        (fun e s' => wpAny (model prg w) (A.deeper (envOfC qual scope L f cdv)) (leaving (envOfC qual scope L f cdv) e) (fun _ s'' => Z (.error e) s'') (fun e' s'' => Z (.error e') s'') s')
        { s with heap := h₁, toks := tk }) :
    codeAny (model prg w) A (.call (.ref f) ⟨args, []⟩) Z s := by
  refine codeAny_call_function (fd := fnOf name qual params body scope dV kV doc pm an cdv ct) (Nat.lt_of_le_of_lt (Nat.le_add_right _ _) R.depth) (R.sub _ _ (R.K _ _ ho)) rfl hco hgen rfl (codeRec_of (R.K.keeps R.sub) hcd) (hbind _ _ _ _ ?_)
  refine wpAny_newFunctionEnv_cells hk (kindsX hkind _) fun env' he s' x => ?_
  subst he
  refine ⟨(R.top.nolimit.keeps R.sub).keeps x.toInCall.keep, codeAny_func ?_⟩
  obtain ⟨h₁, tk, rfl, _⟩ := x.done
  have hk₁ := x.toInCall.keep
  obtain ⟨cells, NC, Y⟩ := Cl.news (h₀ := s.heap) (Nat.le_refl _) fun n c hm => ⟨x.cell n c (lookup_of_mem_nodup (cellsFrom_names scope.names 0 (s.heap.objs.size + 1) [] [] rfl ▸ hnd) hm), x.above n c hm⟩
  refine h _ h₁ tk cells rfl ⟨x.toInCall.ns, fun b o e => hk₁ b o (R.sub b o e), R.size⟩ (fun p hp => ?_) Y R.below R.K R.top R.c1 R.c2 R.c3 R.tok (Heap.lt_size (R.news (266, tabObj t1) (by simp)).1) (Heap.lt_size (R.news (280, tabObj t2) (by simp)).1) (Heap.lt_size (R.news (159, tabObj t3) (by simp)).1) (allLt_of fun p hp => Heap.lt_size (R.news p (List.mem_append_right _ hp)).1)
  rcases List.mem_append.mp hp with hp | hp
  · refine ⟨(NC p hp).1, (NC p hp).2.1, ?_⟩
    cases q : g.get? p.1 with
    | none => rfl
    | some o => have := R.sub _ _ q; rw [(NC p hp).2.2] at this; cases this
  · exact ⟨hk₁ _ _ (R.news p hp).1, Nat.ne_of_lt (Heap.lt_size (R.news p hp).1), (R.news p hp).2⟩
theorem kwH10 : True := by
  (k_with "M bodyC" => (
  k_dflt (refine' enterC ?kRzH10 ?hozH10 ?hcdzH10 ?hbindzH10 ?hkindzH10 ?hndzH10 ?hcozH10 ?hgenzH10 ?hkzH10 ?_; (case kRzH10 => with_reducible assumption); (case hozH10 => k_is); (case hcdzH10 => k_is); (case hbindzH10 => exact BindsTo.of_eq rfl); (case hkindzH10 => exact rfl); (case hndzH10 => decide); (case hcozH10 => exact rfl); (case hgenzH10 => exact rfl); (case hkzH10 => exact rfl))))
  trivial
end
-- T1
section
noncomputable def At (x : List UInt8) (k : Int) (c : Int) : Prop := 0 ≤ k ∧ k < x.length ∧ (((x.getD k.toNat 0).toNat : Nat) : Int) = c
section
variable {M : Model} {prog : Program} {w : World} {A : Around} {E : Value → Shared → Prop} {s : Shared} {h₀ : Heap} {L l : Addr} {news : Led} {n : Nat} {Q : Value → Shared → Prop}
theorem At.lt {B : List UInt8} {k c : Int} (x : At B k c) : 0 ≤ c ∧ c < 256 := by
  obtain ⟨_, _, e⟩ := x
  have := (B.getD k.toNat 0).toNat_lt
  subst e
  exact ⟨Int.natCast_nonneg _, by omega⟩
theorem item_by {value slice : Expr} {B : List UInt8} {k c : Int} {t u : Tok} (hsz : B.length ≤ 100000) (x : At B k c) (h : Q (.int c s.toks) { s with toks := s.toks + 1 })
    (hs : subscripted slice false (.bytes B.toArray t) (.int k u) = operate [.bytes B.toArray t, .int k u] (getItem (.bytes B.toArray t) (.int k u)) := by rfl) (hg : ∀ r, letTemporaryGo value (.bytes B.toArray t) r = pure () := by intro _; rfl) :
    wpAny (model prog w) A (subscriptTail value slice (.bytes B.toArray t) (.int k u)) Q E s := by
  obtain ⟨h0, h1, e⟩ := x
  exact bytes_item_K (by omega) h0 h1 e h hs hg
end
theorem kwT10 : True := by
  (k_with "subscriptTail" => (k_here; (with_reducible show wpAny _ _ (subscriptTail _ _ (Value.bytes (List.toArray _) _) (Value.int _ _)) _ _ _); k_dflt (refine' item_by ?m0zT10 ?m1zT10 ?_ ?m2zT10 ?m3zT10; (case m0zT10 => assumption); (case m1zT10 => assumption); (case m2zT10 => with_unfolding_all rfl); (case m3zT10 => (intro _; with_unfolding_all rfl)); k_whole)))
  trivial
section
variable {M : Model} {A : Around} {E : Value → Shared → Prop} {s : Shared} {h₀ : Heap} {L a : Addr} {m : Str → Option Value} {cn : Str} {cs : Scope} {ccd : Value} {cl : List (Str × Addr)} {x : Str} {v : Value}
theorem loadX_L {Q : Value → Shared → Prop} (F : Fr h₀ L s.heap m) (hv : m x = some v) (h : Q v s)
    (hk : cs.kind = .function := by rfl) (hx : (envX cn cs L a ccd cl).kindOf x = some .local := by rfl) : wpAny M A (loadName (envX cn cs L a ccd cl) x) Q E s :=
  wpAny_loadName_local hk hx F.ns hv h
end
theorem kwT11 : True := by
  (k_with "loadName" => (k_here; k_dflt (refine' loadX_L ?FzT11 ?vzT11 ?_ ?azT11 ?bzT11; (case azT11 => rfl); (case bzT11 => rfl); (case FzT11 => k_asm); (case vzT11 => exact rfl); k_whole)))
  (k_with "exec" => (k_here; (with_reducible show wpAny _ _ (exec (Stmt.While _ _ _ _) _) _ _ _); k_dflt (refine whl_start 100 ?_)))
  (k_with "WhlIf" => (first | (refine WhlIf.yes (by first | rfl | (simp only [decide_eq_true_eq, bne_iff_ne, beq_iff_eq, ne_eq]; omega)) ?_) | (refine WhlIf.no (by first | rfl | (simp only [decide_eq_false_iff_not, bne_eq_false_iff_eq, beq_eq_false_iff_ne, ne_eq]; omega)) ?_)))
  trivial
section
variable {M : Model} {A : Around} {E : Value → Shared → Prop} {s : Shared} {h₀ : Heap} {L a : Addr} {m mg mb : Str → Option Value} {cn : Str} {cs : Scope} {ccd : Value} {cl : List (Str × Addr)} {news kn : List (Addr × Obj)} {g : Obj → List (Addr × Obj)}
  {p : Program} {loose : List Str} {mean : ExcName → Option Value} {params : Arguments} {body : List Stmt} {scope : Scope} {t1 t2 t3 : Array Value} {el ec : Nat} {firstLine : Nat} {clos : List (Str × Addr)} {name : Str}
theorem def280 {Q : Value → Shared → Prop} (F : Fr h₀ L s.heap m) (N : News h₀ L s.heap news) (T : Top p loose mean mg mb h₀) (C : CodeHd h₀ 284 280) (hcd : ccd = .ref 284) (U : UpdF 280 (tabObj t2) news g) (TK : TabOk t1 t2 t3 kn) (hsub : ∀ p ∈ kn, p ∈ news)
    (hcl : closureFor scope (envX cn cs L a ccd cl) = pure clos)
    (h : ∀ f c' oc vs t ctv doc h' tk t2', Fr h₀ L h' m →
      News h₀ L h' ((f, fnMade name "_VarintDecoder.<locals>.DecodeVarint" params body scope clos doc ((mg "__name__").getD .none) c' ctv) :: (c', oc) :: g (tabObj t2')) →
      oc.data = .fields vs → vs[1]? = some (.str "_VarintDecoder.<locals>.DecodeVarint" t) → TabOk t1 t2' t3 ((c', oc) :: kn) → ((c', oc) ∈ kn ∨ ((266, tabObj t1) ∈ news → (159, tabObj t3) ∈ news → NewL c' kn)) → (∀ q ∈ news, q.1 < f) → c' < f → Q (.ref f) { s with heap := h', toks := tk }) :
    wpAny M A (makeFunction name "_VarintDecoder.<locals>.DecodeVarint" params (.stmts body) scope (envX cn cs L a ccd cl) [] [] [] ⟨149, 4, el, ec⟩ firstLine) Q E s := by
  have hU := U.split
  obtain ⟨own, rest, e1, e2, e3, e4⟩ := hU
  have hm : (280, tabObj t2) ∈ news := by rw [e1]; simp
  rcases TK.b with e | ⟨c, e, oc, vs, tk, hc, hd, hv⟩
  · subst e
    refine nest_K F N T C hcd U (by simp [TriplesOk]) rfl hcl fun f c' oc vs t ctv doc h' tk F' N' hd hv hl hlf => h f c' oc vs t ctv doc h' tk _ F' N' hd hv ⟨?_, .inr ⟨c', rfl, oc, vs, t, .head _, hd, hv⟩, ?_, ?_⟩ (.inr fun h1 h3 => ⟨hl _ h1, hl _ hm, hl _ h3, allLt_of fun p hp => hl p (hsub p hp)⟩) (fun q hq => Nat.lt_trans (hl q hq) hlf) hlf
    · exact TK.a.imp id fun ⟨c, e, y⟩ => ⟨c, e, y.mono fun p hp => List.mem_cons_of_mem _ hp⟩
    · exact TK.c.imp id fun ⟨c, d, e, y, z⟩ => ⟨c, d, e, y.mono fun p hp => List.mem_cons_of_mem _ hp, z.mono fun p hp => List.mem_cons_of_mem _ hp⟩
    · intro q hq
      rcases List.mem_cons.mp hq with rfl | hq
      · have h2 := hl _ hm
        have h1 : ∀ b o, h'.get? b = some o → b = c' → oc = o := fun b o e q => by subst q; have := (N' (b, oc) (by simp)).1; rw [e] at this; cases this; rfl
        refine ⟨fun q => ?_, fun q => ?_, fun q => ?_⟩
        · have : c' = 266 := q
          subst this
          exact absurd h2 (by decide)
        · have : c' = 280 := q
          subst this
          exact absurd h2 (by decide)
        · have : c' = 159 := q
          subst this
          exact absurd h2 (by decide)
      · exact TK.d q hq
  · subst e
    refine nestHit_K F N T C hcd hm (by simp [TriplesOk, rawInt]) rfl hcl fun f ctv doc h' tk' F' N' hl => h f c oc vs tk ctv doc h' tk' _ F' (fun p hp => ?_) hd hv ⟨?_, .inr ⟨c, rfl, oc, vs, tk, .head _, hd, hv⟩, ?_, ?_⟩ (.inl hc) hl (hl _ (hsub _ hc))
    · rcases List.mem_cons.mp hp with rfl | hp
      · exact N' _ (.head _)
      · rcases List.mem_cons.mp hp with rfl | hp
        · exact N' _ (.tail _ (hsub _ hc))
        · rw [e2] at hp
          exact N' _ (.tail _ (by rw [e1]; exact hp))
    · exact TK.a.imp id fun ⟨c, e, y⟩ => ⟨c, e, y.mono fun p hp => List.mem_cons_of_mem _ hp⟩
    · exact TK.c.imp id fun ⟨c, d, e, y, z⟩ => ⟨c, d, e, y.mono fun p hp => List.mem_cons_of_mem _ hp, z.mono fun p hp => List.mem_cons_of_mem _ hp⟩
    · intro q hq
      rcases List.mem_cons.mp hq with rfl | hq
      · exact TK.d (c, oc) hc
      · exact TK.d q hq
end
theorem kwT12 : True := by
  (k_with "exec FunctionDef" => (k_here; k_dflt (refine' nestDef_K ?d0zT14 ?k0zT14 ?a0zT14 ?_; (case d0zT14 => exact rfl); (case k0zT14 => exact rfl); (case a0zT14 => exact rfl)); (k_dflt (refine' def280 ?FzT14 ?NzT14 ?TzT14 ?CzT14 ?cdzT14 ?UzT14 ?TKzT14 ?subzT14 ?clzT14 ?_; (case FzT14 => k_asm); (case NzT14 => k_asm); (case TzT14 => k_asm); (case cdzT14 => exact rfl); (case CzT14 => kn_code); (case UzT14 => k_updF); (case TKzT14 => k_asm); (case subzT14 => k_extra "M sub"); (case clzT14 => exact rfl); k_whole); intro f'w c'w oc'w vs'w t'w ct'w dc'w h'w tk'w t2'w F'w N'w d1'w d2'w TK'w hc'w l1 l2; (replace hc'w := hc'w.imp id fun x => x (by k_mem) (by k_mem)); (try dsimp only at N'w); (try k_lt l1); (try k_lt2 l2))))
  trivial
section
variable {prog : Program} {w : World} {A : Around} {E : Value → Shared → Prop} {s : Shared} {a b c n : Int} {t u : Tok} {Q : Value → Shared → Prop}
theorem and_e (e : Builtin.bitAnd a b = c) (h : Q (.int c s.toks) { s with toks := s.toks + 1 }) : wpAny (model prog w) A (binaryOp .BitAnd (.int a t) (.int b u)) Q E s := and_int (by rw [e]; exact h)
theorem iand_e (e : Builtin.bitAnd a b = c) (h : Q (.int c s.toks) { s with toks := s.toks + 1 }) : wpAny (model prog w) A (inplaceOp .BitAnd (.int a t) (.int b u)) Q E s := iand_int (by rw [e]; exact h)
theorem ior_e (e : Builtin.bitOr a b = c) (h : Q (.int c s.toks) { s with toks := s.toks + 1 }) : wpAny (model prog w) A (inplaceOp .BitOr (.int a t) (.int b u)) Q E s := ior_int (by rw [e]; exact h)
theorem shl_e (e : a * 2 ^ n.toNat = c ∧ (Builtin.Int.intBits a : Int) + n ≤ 2 ^ 27 ∧ 0 ≤ n) (h : Q (.int c s.toks) { s with toks := s.toks + 1 }) : wpAny (model prog w) A (binaryOp .LShift (.int a t) (.int n u)) Q E s := lshift_int e.2.2 e.2.1 (by rw [e.1]; exact h)
theorem shr_e (e : a.fdiv (2 ^ n.toNat) = c ∧ 0 ≤ n) (h : Q (.int c s.toks) { s with toks := s.toks + 1 }) : wpAny (model prog w) A (binaryOp .RShift (.int a t) (.int n u)) Q E s := rshift_int e.2 (by rw [e.1]; exact h)
end
theorem kwT13 : True := by
  (k_with "binaryOp BitAnd int int" => (k_here; (with_reducible refine' and_e ?ezT15 ?_); (case ezT15 => assumption)))
  (k_with "inplaceOp BitAnd int int" => (k_here; (with_reducible refine' iand_e ?ezT16 ?_); (case ezT16 => assumption)))
  (k_with "inplaceOp BitOr int int" => (k_here; (with_reducible refine' ior_e ?ezT17 ?_); (case ezT17 => assumption)))
  (k_with "binaryOp LShift int int" => (k_here; (with_reducible refine' shl_e ?ezT18 ?_); (case ezT18 => assumption)))
  (k_with "binaryOp RShift int int" => (k_here; (with_reducible refine' shr_e ?ezT19 ?_); (case ezT19 => assumption)))
  trivial
theorem and_nat (a b : Nat) : Builtin.bitAnd a b = ((a &&& b : Nat) : Int) := by
  unfold Builtin.bitAnd
  simp
theorem and_127 {b : Int} (h : 0 ≤ b ∧ b < 256) : Builtin.bitAnd b 127 = b % 128 := by
  obtain ⟨n, rfl⟩ := Int.eq_ofNat_of_zero_le h.1
  have := and_nat n 127
  rw [show (127 : Int) = ((127 : Nat) : Int) from rfl, this, show (127 : Nat) = 2 ^ 7 - 1 from rfl, Nat.and_two_pow_sub_one_eq_mod]
  rfl
theorem and_7 {b : Int} (h : 0 ≤ b) : Builtin.bitAnd b 7 = b % 8 := by
  obtain ⟨n, rfl⟩ := Int.eq_ofNat_of_zero_le h
  have := and_nat n 7
  rw [show (7 : Int) = ((7 : Nat) : Int) from rfl, this, show (7 : Nat) = 2 ^ 3 - 1 from rfl, Nat.and_two_pow_sub_one_eq_mod]
  rfl
theorem and_mask {b : Int} (h : 0 ≤ b ∧ b < 2 ^ 64) : Builtin.bitAnd b 18446744073709551615 = b := by
  obtain ⟨n, rfl⟩ := Int.eq_ofNat_of_zero_le h.1
  have := and_nat n 18446744073709551615
  rw [show (18446744073709551615 : Int) = ((18446744073709551615 : Nat) : Int) from rfl, this, show (18446744073709551615 : Nat) = 2 ^ 64 - 1 from rfl, Nat.and_two_pow_sub_one_eq_mod, Nat.mod_eq_of_lt (by have := h.2; omega)]
theorem and_128 {b : Int} (h : 0 ≤ b ∧ b < 256) : Builtin.bitAnd b 128 = if b < 128 then 0 else 128 := by
  obtain ⟨n, rfl⟩ := Int.eq_ofNat_of_zero_le h.1
  have hn : n < 256 := by omega
  have := and_nat n 128
  rw [show (128 : Int) = ((128 : Nat) : Int) from rfl, this]
  have : ∀ n : Fin 256, ((n.val &&& 128 : Nat) : Int) = if (n.val : Int) < ((128 : Nat) : Int) then 0 else ((128 : Nat) : Int) := by decide +kernel
  exact this ⟨n, hn⟩
theorem or_nat (a b : Nat) : Builtin.bitOr a b = ((a ||| b : Nat) : Int) := by
  have h1 : decide ((0 : Int) ≤ Builtin.bitNot (a : Int)) = false := by unfold Builtin.bitNot; exact decide_eq_false (by omega)
  have h2 : decide ((0 : Int) ≤ Builtin.bitNot (b : Int)) = false := by unfold Builtin.bitNot; exact decide_eq_false (by omega)
  have e : ∀ n : Nat, (Builtin.bitNot (Builtin.bitNot (n : Int))) = n := fun n => by unfold Builtin.bitNot; omega
  unfold Builtin.bitOr Builtin.bitAnd
  rw [h1, h2]
  show Builtin.bitNot (Builtin.bitNot (((Builtin.bitNot (Builtin.bitNot (a : Int))).toNat ||| (Builtin.bitNot (Builtin.bitNot (b : Int))).toNat : Nat) : Int)) = _
  rw [e, e, e]
  rfl
theorem or_add {a b : Int} {k : Nat} (ha : 0 ≤ a ∧ a < 2 ^ k) (hb : 0 ≤ b) : Builtin.bitOr a (b * 2 ^ k) = a + b * 2 ^ k := by
  obtain ⟨n, rfl⟩ := Int.eq_ofNat_of_zero_le ha.1
  obtain ⟨q, rfl⟩ := Int.eq_ofNat_of_zero_le hb
  have hn : n < 2 ^ k := by have := ha.2; exact_mod_cast this
  have := or_nat n (q * 2 ^ k)
  rw [show ((q : Int) * 2 ^ k) = ((q * 2 ^ k : Nat) : Int) by push_cast; rfl, this]
  have e : n ||| q * 2 ^ k = n + q * 2 ^ k := by
    have h1 := Nat.shiftLeft_add_eq_or_of_lt hn q
    rw [Nat.shiftLeft_eq] at h1
    rw [Nat.or_comm, ← h1, Nat.add_comm]
  rw [e]
  push_cast
  rfl
theorem bits_small {a : Int} (ha : 0 ≤ a ∧ a < 256) : (Builtin.Int.intBits a : Int) ≤ 100 := by
  obtain ⟨n, rfl⟩ := Int.eq_ofNat_of_zero_le ha.1
  have hn : n < 256 := by omega
  have : ∀ n : Fin 256, (Builtin.Int.intBits ((n.val : Nat) : Int) : Int) ≤ 100 := by decide +kernel
  exact this ⟨n, hn⟩
theorem shl_ok {a n : Int} (ha : 0 ≤ a ∧ a < 256) (hn : 0 ≤ n ∧ n ≤ 100) : a * 2 ^ n.toNat = a * 2 ^ n.toNat ∧ (Builtin.Int.intBits a : Int) + n ≤ 2 ^ 27 ∧ 0 ≤ n := ⟨rfl, by have := bits_small ha; omega, hn.1⟩
noncomputable def VarAt (bb : List UInt8) (p v k : Int) : Prop :=
  0 ≤ v ∧ ((v < 128 ∧ At bb p v ∧ k = 1) ∨ (128 ≤ v ∧ v < 16384 ∧ At bb p (v % 128 + 128) ∧ At bb (p + 1) (v / 128) ∧ k = 2)
    ∨ (16384 ≤ v ∧ v < 2097152 ∧ At bb p (v % 128 + 128) ∧ At bb (p + 1) (v / 128 % 128 + 128) ∧ At bb (p + 1 + 1) (v / 16384) ∧ k = 3))
end
-- D1
section
set_option maxHeartbeats 4000000 in
theorem c_dv1 : ∀ {w : World} {kn : Led} {bb : List UInt8} {p v : Int} {tb tp : Tok} (hB : bb.length ≤ 100000) (h0 : At bb p v) (hv : v < 128) (hp : p ≤ 100000),
   Con w (.ref 292) [.bytes bb.toArray tb, .int p tp] 30 300 kn (fun kn' r => ∃ t t1 t2, r = .ref t ∧ (t, tupO #[.int v t1, .int (p + 1) t2]) ∈ kn') := by
  have hon : HKon := trivial
  intro w kn bb p v tb tp hB h0 hv hp
  refine Con.openG (hkO (no_implicit_lambda% ((?hopq : HTO _) _ _ _ _ _ _ _ _ _ _ _ _ _ _ _)))
  intros s dp un gd t1 t2 t3 base g outs loose mean mg mb Z
  refine ConG.mk ?_
  intro R ret hd hu
  k_extra "M body"
  intro L h₁ hL F N B X T C1 C2 C3 TK l1 l2 l3 l4
  try dsimp only
  try k_fold
  have hv0 := h0.lt
  have hp0 : 0 ≤ p := h0.1
  have q1 : Builtin.bitAnd v 127 = v := by rw [and_127 hv0]; omega
  have q2 : Builtin.bitAnd v 128 = 0 := by rw [and_128 hv0, if_pos hv]
  have q3 : v * 2 ^ (0 : Int).toNat = v ∧ (Builtin.Int.intBits v : Int) + 0 ≤ 2 ^ 27 ∧ (0 : Int) ≤ 0 := by
    have := shl_ok hv0 (n := 0) (by omega)
    exact ⟨by show v * 1 = v; omega, this.2⟩
  have q4 : Builtin.bitOr 0 v = v := by
    have := or_add (a := 0) (b := v) (k := 0) (by omega) hv0.1
    simpa using this
  have q5 : Builtin.bitAnd v 18446744073709551615 = v := and_mask (by omega)
  k_steps
  all_goals (k_extra "M out")
  refine' ret _ _ _ _ _ _ _ [_, (_, _)] ?X id ⟨_, _, _, rfl, List.mem_append_right _ (.tail _ (.head _))⟩
  case X => k_extra "M fin"
end
-- D2
section
set_option maxHeartbeats 4000000 in
theorem c_dv2 : ∀ {w : World} {kn : Led} {bb : List UInt8} {p v : Int} {tb tp : Tok} (hB : bb.length ≤ 100000) (a0 : At bb p (v % 128 + 128)) (a1 : At bb (p + 1) (v / 128)) (hv : 128 ≤ v ∧ v < 16384) (hp : p ≤ 100000),
   Con w (.ref 292) [.bytes bb.toArray tb, .int p tp] 30 300 kn (fun kn' r => ∃ t t1 t2, r = .ref t ∧ (t, tupO #[.int v t1, .int (p + 1 + 1) t2]) ∈ kn') := by
  have hon : HKon := trivial
  intro w kn bb p v tb tp hB a0 a1 hv hp
  refine Con.openG (hkO (no_implicit_lambda% ((?hopq : HTO _) _ _ _ _ _ _ _ _ _ _ _ _ _ _ _)))
  intros s dp un gd t1 t2 t3 base g outs loose mean mg mb Z
  refine ConG.mk ?_
  intro R ret hd hu
  k_extra "M body"
  intro L h₁ hL F N B X T C1 C2 C3 TK l1 l2 l3 l4
  try dsimp only
  try k_fold
  have hp0 : 0 ≤ p := a0.1
  have b0 : 0 ≤ v % 128 ∧ v % 128 < 128 := by omega
  have q1 : Builtin.bitAnd (v % 128 + 128) 127 = v % 128 := by rw [and_127 (by omega)]; omega
  have q2 : Builtin.bitAnd (v % 128 + 128) 128 = 128 := by rw [and_128 (by omega), if_neg (by omega)]
  have q3 : v % 128 * 2 ^ (0 : Int).toNat = v % 128 ∧ (Builtin.Int.intBits (v % 128) : Int) + 0 ≤ 2 ^ 27 ∧ (0 : Int) ≤ 0 := by
    have := shl_ok (a := v % 128) (n := 0) (by omega) (by omega)
    exact ⟨by show v % 128 * 1 = v % 128; omega, this.2⟩
  have q4 : Builtin.bitOr 0 (v % 128) = v % 128 := by
    have := or_add (a := 0) (b := v % 128) (k := 0) (by omega) b0.1
    simpa using this
  have c1 : 0 ≤ v / 128 ∧ v / 128 < 128 := by omega
  have r1 : Builtin.bitAnd (v / 128) 127 = v / 128 := by rw [and_127 (by omega)]; omega
  have r2 : Builtin.bitAnd (v / 128) 128 = 0 := by rw [and_128 (by omega), if_pos (by omega)]
  have r3 : v / 128 * 2 ^ ((0 : Int) + 7).toNat = v / 128 * 128 ∧ (Builtin.Int.intBits (v / 128) : Int) + (0 + 7) ≤ 2 ^ 27 ∧ (0 : Int) ≤ 0 + 7 := by
    have := shl_ok (a := v / 128) (n := 7) (by omega) (by omega)
    exact ⟨rfl, this.2⟩
  have r4 : Builtin.bitOr (v % 128) (v / 128 * 128) = v := by
    have := or_add (a := v % 128) (b := v / 128) (k := 7) (by omega) c1.1
    have e : v % 128 + v / 128 * 128 = v := by omega
    exact this.trans e
  have q5 : Builtin.bitAnd v 18446744073709551615 = v := and_mask (by omega)
  k_steps
  all_goals (k_extra "M out")
  refine' ret _ _ _ _ _ _ _ [_, (_, _)] ?X id ⟨_, _, _, rfl, List.mem_append_right _ (.tail _ (.head _))⟩
  case X => k_extra "M fin"
end
-- D3
section
set_option maxHeartbeats 4000000 in
theorem c_dv3 : ∀ {w : World} {kn : Led} {bb : List UInt8} {p v : Int} {tb tp : Tok} (hB : bb.length ≤ 100000) (a0 : At bb p (v % 128 + 128)) (a1 : At bb (p + 1) (v / 128 % 128 + 128)) (a2 : At bb (p + 1 + 1) (v / 16384)) (hv : 16384 ≤ v ∧ v < 2097152) (hp : p ≤ 100000),
   Con w (.ref 292) [.bytes bb.toArray tb, .int p tp] 30 300 kn (fun kn' r => ∃ t t1 t2, r = .ref t ∧ (t, tupO #[.int v t1, .int (p + 1 + 1 + 1) t2]) ∈ kn') := by
  have hon : HKon := trivial
  intro w kn bb p v tb tp hB a0 a1 a2 hv hp
  refine Con.openG (hkO (no_implicit_lambda% ((?hopq : HTO _) _ _ _ _ _ _ _ _ _ _ _ _ _ _ _)))
  intros s dp un gd t1 t2 t3 base g outs loose mean mg mb Z
  refine ConG.mk ?_
  intro R ret hd hu
  k_extra "M body"
  intro L h₁ hL F N B X T C1 C2 C3 TK l1 l2 l3 l4
  try dsimp only
  try k_fold
  have hp0 : 0 ≤ p := a0.1
  have b0 : 0 ≤ v % 128 ∧ v % 128 < 128 := by omega
  have q1 : Builtin.bitAnd (v % 128 + 128) 127 = v % 128 := by rw [and_127 (by omega)]; omega
  have q2 : Builtin.bitAnd (v % 128 + 128) 128 = 128 := by rw [and_128 (by omega), if_neg (by omega)]
  have q3 : v % 128 * 2 ^ (0 : Int).toNat = v % 128 ∧ (Builtin.Int.intBits (v % 128) : Int) + 0 ≤ 2 ^ 27 ∧ (0 : Int) ≤ 0 := by
    have := shl_ok (a := v % 128) (n := 0) (by omega) (by omega)
    exact ⟨by show v % 128 * 1 = v % 128; omega, this.2⟩
  have q4 : Builtin.bitOr 0 (v % 128) = v % 128 := by
    have := or_add (a := 0) (b := v % 128) (k := 0) (by omega) b0.1
    simpa using this
  have c1 : 0 ≤ v / 128 % 128 ∧ v / 128 % 128 < 128 := by omega
  have r1 : Builtin.bitAnd (v / 128 % 128 + 128) 127 = v / 128 % 128 := by rw [and_127 (by omega)]; omega
  have r2 : Builtin.bitAnd (v / 128 % 128 + 128) 128 = 128 := by rw [and_128 (by omega), if_neg (by omega)]
  have r3 : v / 128 % 128 * 2 ^ ((0 : Int) + 7).toNat = v / 128 % 128 * 128 ∧ (Builtin.Int.intBits (v / 128 % 128) : Int) + (0 + 7) ≤ 2 ^ 27 ∧ (0 : Int) ≤ 0 + 7 := by
    have := shl_ok (a := v / 128 % 128) (n := 7) (by omega) (by omega)
    exact ⟨rfl, this.2⟩
  have r4 : Builtin.bitOr (v % 128) (v / 128 % 128 * 128) = v % 16384 := by
    have := or_add (a := v % 128) (b := v / 128 % 128) (k := 7) (by omega) c1.1
    have e : v % 128 + v / 128 % 128 * 128 = v % 16384 := by omega
    rw [← e]; exact this
  have d1 : 0 ≤ v / 16384 ∧ v / 16384 < 128 := by omega
  have s1 : Builtin.bitAnd (v / 16384) 127 = v / 16384 := by rw [and_127 (by omega)]; omega
  have s2 : Builtin.bitAnd (v / 16384) 128 = 0 := by rw [and_128 (by omega), if_pos (by omega)]
  have s3 : v / 16384 * 2 ^ ((0 : Int) + 7 + 7).toNat = v / 16384 * 16384 ∧ (Builtin.Int.intBits (v / 16384) : Int) + (0 + 7 + 7) ≤ 2 ^ 27 ∧ (0 : Int) ≤ 0 + 7 + 7 := by
    have := shl_ok (a := v / 16384) (n := 14) (by omega) (by omega)
    exact ⟨rfl, this.2⟩
  have s4 : Builtin.bitOr (v % 16384) (v / 16384 * 16384) = v := by
    have := or_add (a := v % 16384) (b := v / 16384) (k := 14) (by omega) d1.1
    rw [show (16384 : Int) = 2 ^ 14 from rfl] at this ⊢
    rw [this]; omega
  have q5 : Builtin.bitAnd v 18446744073709551615 = v := and_mask (by omega)
  k_steps
  all_goals (k_extra "M out")
  refine' ret _ _ _ _ _ _ _ [_, (_, _)] ?X id ⟨_, _, _, rfl, List.mem_append_right _ (.tail _ (.head _))⟩
  case X => k_extra "M fin"
end
-- D4
section
theorem Con.imp {w : World} {f : Value} {args : List Value} {n u : Nat} {kn : Led} {P Q : Led → Value → Prop} (x : Con w f args n u kn P) (h : ∀ k r, P k r → Q k r) : Con w f args n u kn Q :=
  fun A s t1 t2 t3 base outs g loose mean mg mb Z R ret => x A s t1 t2 t3 base outs g loose mean mg mb Z R fun r h' tk' gs' t1' t2' t3' tl e hg p => ret r h' tk' gs' t1' t2' t3' tl e hg (h _ _ p)
theorem Con.le {w : World} {f : Value} {args : List Value} {n u n' u' : Nat} {kn : Led} {P : Led → Value → Prop} (x : Con w f args n u kn P) (h : n ≤ n') (h' : u ≤ u') : Con w f args n' u' kn P :=
  fun A s t1 t2 t3 base outs g loose mean mg mb Z R ret => x A s t1 t2 t3 base outs g loose mean mg mb Z { R with depth := Nat.lt_of_le_of_lt (Nat.add_le_add_left h _) R.depth, units := Nat.lt_of_le_of_lt (Nat.add_le_add_left h' _) R.units } ret
theorem c_dv {w : World} {kn : Led} {bb : List UInt8} {p v k : Int} {tb tp : Tok} (hB : bb.length ≤ 100000) (hv : VarAt bb p v k) (hp : p ≤ 100000) :
   Con w (.ref 292) [.bytes bb.toArray tb, .int p tp] 30 300 kn (fun kn' r => ∃ t t1 t2, r = .ref t ∧ (t, tupO #[.int v t1, .int (p + k) t2]) ∈ kn') := by
  obtain ⟨h0, ⟨h1, h2, rfl⟩ | ⟨h1, h2, h3, h4, rfl⟩ | ⟨h1, h2, h3, h4, h5, rfl⟩⟩ := hv
  · exact c_dv1 hB h2 h1 hp
  · have := c_dv2 (w := w) (kn := kn) (tb := tb) (tp := tp) hB h3 h4 ⟨h1, h2⟩ hp
    rwa [show p + 1 + 1 = p + 2 by omega] at this
  · have := c_dv3 (w := w) (kn := kn) (tb := tb) (tp := tp) hB h3 h4 h5 ⟨h1, h2⟩ hp
    rwa [show p + 1 + 1 + 1 = p + 3 by omega] at this
end
-- P1
section
section
variable {M : Model} {prog : Program} {w : World} {A : Around} {E : Value → Shared → Prop} {s : Shared} {h₀ : Heap} {L l : Addr} {news : Led} {n : Nat} {m : Str → Option Value} {value slice : Expr} {t : Tok} {lo hi : Option Int} {lv uv : Value}
theorem picked_some {x : List UInt8} {i j : Int} (h0 : 0 ≤ i) (h1 : i ≤ j) (h2 : j ≤ x.length) : KBy.picked x.toArray (some i) (some j) = ((x.drop i.toNat).take (j.toNat - i.toNat)).toArray := by
  rw [KBc.picked_eq]
  have e1 : clipAt x.toArray.size i = i.toNat := by
    have := clipAt_nat x.toArray.size i.toNat
    rw [Int.toNat_of_nonneg h0] at this
    rw [this, List.size_toArray]; omega
  have e2 : clipAt x.toArray.size j = j.toNat := by
    have := clipAt_nat x.toArray.size j.toNat
    rw [Int.toNat_of_nonneg (by omega)] at this
    rw [this, List.size_toArray]; omega
  simp only [Option.elim, e1, e2]
theorem slice_by {x ys : List UInt8} {Q : Value → Shared → Prop} (hF : Fr h₀ L s.heap m) (hN : News h₀ L s.heap news) (hl : IsPart lv lo) (hu : IsPart uv hi) (hx : KBy.picked x.toArray lo hi = ys.toArray) (hz : x.length ≤ 100000)
    (h : ∀ h' t' k, Fr h₀ L h' m → News h₀ L h' news → Q (.bytes ys.toArray t') { s with heap := h', toks := k })
    (hs : subscripted slice false (.bytes x.toArray t) (.ref s.heap.objs.size) = operate [.ref s.heap.objs.size, .bytes x.toArray t] (getItem (.bytes x.toArray t) (.ref s.heap.objs.size)))
    (ht : ∀ r, letTemporaryGo value (.bytes x.toArray t) r = pure ()) :
    wpAny (model prog w) A (subscriptTail value slice (.bytes x.toArray t) (.ref s.heap.objs.size)) Q E { s with heap := s.heap.push { cls := .type "slice", data := .fields #[lv, uv, .none] } } :=
  KBc.slice_K hF hN rfl hl hu (by rw [KBw.ints_length, List.size_toArray]; omega) (fun h' t' k F' N' _ => by rw [hx]; exact h h' t' k F' N') hs ht
end
theorem kwP10 : True := by
  (k_with "subscriptTail" => (k_here; (with_reducible show wpAny _ _ (subscriptTail _ (Expr.Slice _ _ none _) (Value.bytes (List.toArray _) _) (Value.ref _)) _ _ _); (with_reducible rename Fr _ _ _ _ => F'w); (with_reducible rename News _ _ _ _ => N'w); (refine' slice_by (s := ⟨_, _, _, _, _⟩) F'w N'w ?m2zP10 ?m3zP10 ?m4zP10 ?m5zP10 ?_ ?m6zP10 ?m7zP10; (case m2zP10 => constructor); (case m3zP10 => constructor); (case m4zP10 => assumption); (case m5zP10 => first | assumption | (simp only [List.length_cons, List.length_nil]; omega)); (case m6zP10 => with_unfolding_all rfl); (case m7zP10 => (intro _; with_unfolding_all rfl))); intro h'w t'w k'w F'w N'w; (try k_sweep)))
  (k_with "call builtin:len" => (k_here; (with_reducible show wpAny _ _ (call (Value.builtin "len") [Value.bytes (List.toArray _) _]) _ _ _); (refine len_bytes (by rw [List.size_toArray]; first | omega | (simp only [List.length_cons, List.length_nil]; omega)) ?_); (try simp only [List.size_toArray])))
  trivial
noncomputable def leI (x : List UInt8) : Int := KFB.value (KBw.bInts x.toArray).reverse
section
variable {prog : Program} {w : World} {A : Around} {E : Value → Shared → Prop} {s : Shared} {h₀ : Heap} {L l : Addr} {news : Led} {x : Addr} {t u : Tok}
theorem fromb {y : List UInt8} {Q : Value → Shared → Prop} (N : News h₀ L s.heap news) (hm : (x, KFB.bound) ∈ news) (hl : y.length ≤ 8) (h : ∀ t' k, Q (.int (leI y) t') { s with toks := k }) :
    wpAny (model prog w) A (call (.ref x) [.bytes y.toArray t, .str "little" u]) Q E s :=
  KFB.call_little N hm rfl (by rw [KBw.ints_length, List.size_toArray]; omega) h
end
theorem kwP11 : True := by
  (k_with "call ref" => (k_here; (with_reducible show wpAny _ _ (call (Value.ref _) [Value.bytes (List.toArray _) _, Value.str _ _]) _ _ _); k_dflt ((refine' fromb ?m1zP12 ?m2zP12 ?m3zP12 ?_); (case m1zP12 => k_asm); (case m2zP12 => k_mem); (case m3zP12 => omega)); intro _ _))
  (k_with "exec While" => (k_here; (with_reducible show wpAny _ _ (exec (Stmt.While _ _ _ _) _) _ _ _); k_dflt (refine whl_start 100 ?_)))
  trivial
set_option maxHeartbeats 4000000 in
theorem c_rtag : ∀ {w : World} {kn : Led} {bb : List UInt8} {p c : Int} {b : UInt8} {tb tp : Tok} (hB : bb.length ≤ 100000) (h0 : At bb p c) (hv : c < 128) (hb : KBy.picked bb.toArray (some p) (some (p + 1)) = [b].toArray) (hp : p ≤ 100000),
   Con w (.ref 299) [.bytes bb.toArray tb, .int p tp] 30 300 kn (fun kn' r => ∃ t t1 t2, r = .ref t ∧ (t, tupO #[.bytes [b].toArray t1, .int (p + 1) t2]) ∈ kn') := by
  have hon : HKon := trivial
  intro w kn bb p c b tb tp hB h0 hv hb hp
  refine Con.openG (hkO (no_implicit_lambda% ((?hopq : HTO _) _ _ _ _ _ _ _ _ _ _ _ _ _ _ _)))
  intros s dp un gd t1 t2 t3 base g outs loose mean mg mb Z
  refine ConG.mk ?_
  intro R ret hd hu
  k_extra "M body"
  intro L h₁ hL F N B X T C1 C2 C3 TK l1 l2 l3 l4
  try dsimp only
  try k_fold
  have hc0 := h0.lt
  have q2 : Builtin.bitAnd c 128 = 0 := by rw [and_128 hc0, if_pos hv]
  k_steps
  all_goals (k_extra "M out")
  refine' ret _ _ _ _ _ _ _ [(_, _)] ?X id ⟨_, _, _, rfl, List.mem_append_right _ (.head _)⟩
  case X => k_extra "M fin"
end
-- U0
section
noncomputable def NE (kn : Led) (p : Addr × Obj) : Prop := p.1 ≠ 266 ∧ p.1 ≠ 280 ∧ p.1 ≠ 159 ∧ ∀ q ∈ kn, p.1 ≠ q.1
noncomputable def Gr (kn kn' : Led) : Prop := (∀ p ∈ kn, p ∈ kn') ∧ ∀ p ∈ kn', p ∈ kn ∨ NE kn p
theorem Gr.refl (kn : Led) : Gr kn kn := ⟨fun _ h => h, fun _ h => .inl h⟩
theorem Gr.trans {a b c : Led} (x : Gr a b) (y : Gr b c) : Gr a c :=
  ⟨fun p hp => y.1 p (x.1 p hp), fun p hp => (y.2 p hp).elim (x.2 p) fun ne => .inr ⟨ne.1, ne.2.1, ne.2.2.1, fun q hq => ne.2.2.2 q (x.1 q hq)⟩⟩
theorem Gr.sub {a b : Led} {p : Addr × Obj} (x : Gr a b) (h : p ∈ a) : p ∈ b := x.1 p h
inductive Own (t1 t2 t3 : Array Value) (kn : Led) : Led → (Array Value → Array Value → Array Value → Led → Led) → Prop
  | nil : Own t1 t2 t3 kn ((266, tabObj t1) :: (280, tabObj t2) :: (159, tabObj t3) :: kn) (fun a b c k => (266, tabObj a) :: (280, tabObj b) :: (159, tabObj c) :: k)
  | cons {p : Addr × Obj} {r : Led} {G : Array Value → Array Value → Array Value → Led → Led} : p.1 ≠ 266 ∧ p.1 ≠ 280 ∧ p.1 ≠ 159 → Own t1 t2 t3 kn r G → Own t1 t2 t3 kn (p :: r) (fun a b c k => p :: G a b c k)
theorem Own.shape {t1 t2 t3 : Array Value} {kn news : Led} {G : Array Value → Array Value → Array Value → Led → Led} (x : Own t1 t2 t3 kn news G) :
    ∃ own, news = own ++ (tabs t1 t2 t3 ++ kn) ∧ (∀ a b c k, G a b c k = own ++ (tabs a b c ++ k)) ∧ ∀ p ∈ own, p.1 ≠ 266 ∧ p.1 ≠ 280 ∧ p.1 ≠ 159 := by
  induction x with
  | nil => exact ⟨[], rfl, fun _ _ _ _ => rfl, fun _ h => nomatch h⟩
  | cons hp _ ih =>
    obtain ⟨own, e1, e2, e3⟩ := ih
    exact ⟨_ :: own, by rw [e1]; rfl, fun a b c k => by show _ :: _ = _; rw [e2]; rfl, List.forall_mem_cons.mpr ⟨hp, e3⟩⟩
section
variable {w : World} {A A₀ : Around} {n u : Nat} {s : Shared} {h' : Heap} {t1 t2 t3 t1' t2' t3' : Array Value} {kn tl : Led} {base h₀ : Heap} {outs outer : List Env} {g : Heap} {loose : List Str} {mean : ExcName → Option Value} {mg mb : Str → Option Value}
  {L : Addr} {m m' : Str → Option Value} {news news' : Led} {env : Env} {f : Value} {args : List Value} {Post : Led → Value → Prop} {Q E : Value → Shared → Prop} {Z : Result → Shared → Prop} {G : Array Value → Array Value → Array Value → Led → Led}
theorem Own.sub (x : Own t1 t2 t3 kn news G) : ∀ p ∈ tabs t1 t2 t3 ++ kn, p ∈ news := by
  obtain ⟨own, e, _⟩ := x.shape
  intro p hp
  rw [e]
  exact List.mem_append_right _ hp
theorem Own.back {h : Heap} (x : Own t1 t2 t3 kn news G) (N : News h₀ L h news) (b : Back h₀ L m news h h' t1' t2' t3' kn tl) : News h₀ L h' (G t1' t2' t3' (kn ++ tl)) := by
  obtain ⟨own, e1, e2, e3⟩ := x.shape
  rw [e2]
  intro p hp
  rcases List.mem_append.mp hp with hp | hp
  · have := N p (by rw [e1]; exact List.mem_append_left _ hp)
    exact ⟨b.keep _ _ this.1 (e3 p hp).1 (e3 p hp).2.1 (e3 p hp).2.2, this.2⟩
  · exact b.N p hp
theorem use_con3' (C : Con w f args n u kn Post) (B : Below A₀ base outer h₀) (F : Fr h₀ L s.heap m) (X : (hd.heap_1_39 w.params).In h₀) (N : News h₀ L s.heap news) (T : Top topProg loose mean mg mb h₀)
    (C1 : CodeHd h₀ 270 266) (C2 : CodeHd h₀ 284 280) (C3 : CodeHd h₀ 163 159) (TK : TabOk t1 t2 t3 kn) (hO : Own t1 t2 t3 kn news G)
    (hA : A.frames = some (env :: outer)) (hf : env.frame = some L) (hke : env.scope.kind = .function)
    (hh : A.handled = none) (hd : A.depth + n < recursionLimit) (hu : A.units + u < cLine)
    (h : ∀ r h' tk' gs' t1' t2' t3' kn', Fr h₀ L h' m → News h₀ L h' (G t1' t2' t3' kn') → Gr kn kn' → (∀ p ∈ kn', p ∈ kn ∨ ∀ q ∈ news, p.1 ≠ q.1) → TabOk t1' t2' t3' kn' → (AllBare s.gens → AllBare gs') → Post kn' r → Z (.ok (.ret r)) { s with heap := h', toks := tk', gens := gs' }) : codeAny (model prg w) A (.call f ⟨args, []⟩) Z s :=
  use_con' C B F X N T C1 C2 C3 TK hO.sub hA hf hke hh hd hu fun r h' tk' gs' t1' t2' t3' tl b hg p =>
    have e : ∀ p ∈ kn ++ tl, p ∈ kn ∨ ∀ q ∈ news, p.1 ≠ q.1 := fun p hp => (List.mem_append.mp hp).elim .inl (b.ne p)
    h r h' tk' gs' t1' t2' t3' (kn ++ tl) b.F (hO.back N b) ⟨fun _ hp => List.mem_append_left _ hp, fun p hp => (e p hp).imp id fun ne => ⟨ne _ (hO.sub (266, tabObj t1) (by simp)), ne _ (hO.sub (280, tabObj t2) (by simp)), ne _ (hO.sub (159, tabObj t3) (by simp)), fun q hq => ne _ (hO.sub q (List.mem_append_right _ hq))⟩⟩ e b.tok hg p
theorem use_con3 (C : Con w f args n u kn Post) (B : Below A₀ base outer h₀) (F : Fr h₀ L s.heap m) (X : (hd.heap_1_39 w.params).In h₀) (N : News h₀ L s.heap news) (T : Top topProg loose mean mg mb h₀)
    (C1 : CodeHd h₀ 270 266) (C2 : CodeHd h₀ 284 280) (C3 : CodeHd h₀ 163 159) (TK : TabOk t1 t2 t3 kn) (hO : Own t1 t2 t3 kn news G)
    (hA : A.frames = some (env :: outer)) (hf : env.frame = some L) (hke : env.scope.kind = .function)
    (hh : A.handled = none) (hd : A.depth + n < recursionLimit) (hu : A.units + u < cLine)
    (h : ∀ r h' tk' gs' t1' t2' t3' kn', Fr h₀ L h' m → News h₀ L h' (G t1' t2' t3' kn') → Gr kn kn' → (∀ p ∈ kn', p ∈ kn ∨ ∀ q ∈ news, p.1 ≠ q.1) → TabOk t1' t2' t3' kn' → (AllBare s.gens → AllBare gs') → Post kn' r → Q r { s with heap := h', toks := tk', gens := gs' }) : wpAny (model prg w) A (call f args) Q E s :=
  wpAny_call (use_con3' C B F X N T C1 C2 C3 TK hO hA hf hke hh hd hu h)
theorem fin3 {K0 : Led} {own : Led} (R : Rdy w A n u s t1 t2 t3 kn base outs g loose mean mg mb) (hL : L = s.heap.objs.size) (F : Fr g L h' m') (N : News g L h' news') (TKx : TabOk t1' t2' t3' K0) (gr : Gr kn K0)
    (ht : ∀ p ∈ tabs t1' t2' t3', p ∈ news') (hk : ∀ p ∈ K0, p ∈ news')
    (htl : ∀ p ∈ own, p ∈ news' ∧ p.2.cls ≠ .none ∧ (p ∈ K0 ∨ NewL p.1 K0 ∨ NewL p.1 kn)) : Ext s.heap h' t1' t2' t3' kn (own ++ K0) := by
  refine ext_end R hL F N (fun p hp => ?_) (fun p hp => ?_) (TKx.mono (fun p hp => List.mem_append_right _ (List.mem_append_right _ hp)) fun p hp => ?_)
  · simp only [List.mem_append] at hp
    rcases hp with hp | hp | hp | hp
    · exact ht p hp
    · exact hk p (gr.1 p hp)
    · exact (htl p hp).1
    · exact hk p hp
  · have nt : ∀ p : Addr × Obj, NE kn p → ∀ q ∈ tabs t1 t2 t3 ++ kn, p.1 ≠ q.1 := fun p ne q hq => by
      rcases List.mem_append.mp hq with hq | hq
      · simp only [List.mem_cons, List.not_mem_nil, or_false] at hq
        rcases hq with rfl | rfl | rfl
        · exact ne.1
        · exact ne.2.1
        · exact ne.2.2.1
      · exact ne.2.2.2 q hq
    have hK : ∀ p ∈ K0, p ∈ kn ∨ ∀ q ∈ tabs t1 t2 t3 ++ kn, p.1 ≠ q.1 := fun p hp => (gr.2 p hp).imp id (nt p)
    rcases List.mem_append.mp hp with hp | hp
    · rcases (htl p hp).2.2 with h | ⟨a, b, c, d⟩ | h
      · exact hK p h
      · exact .inr (nt p ⟨Nat.ne_of_gt a, Nat.ne_of_gt b, Nat.ne_of_gt c, fun q hq => (AllLt.ne d q (gr.1 q hq)).symm⟩)
      · exact .inr h.ne
    · exact hK p hp
  · simp only [List.mem_append] at hp
    rcases hp with hp | hp | hp
    · exact .inr (R.tok.d p hp)
    · obtain ⟨hn, hc, _⟩ := htl p hp
      exact .inr (obj_off N ht (N p hn).1 hc)
    · exact .inl hp
end
theorem kwU00 : True := by
  (k_with "M own" => first | exact Own.nil | (refine' Own.cons ⟨?oazU00, ?obzU00, ?oczU00⟩ ?_; (case oazU00 => k_ne); (case obzU00 => k_ne); (case oczU00 => k_ne); k_extra "M own") | fail "mine: no shape")
  (k_with "M! k_mem" => first | with_reducible assumption | (with_reducible refine memM ?_; with_reducible assumption) | (refine' Gr.sub ?gzU01 ?mzU01; (case gzU01 => with_reducible assumption); (case mzU01 => k_mem)) | fail "mine: none")
  (k_with "M gr" => first | exact Gr.refl _ | with_reducible assumption | (refine' Gr.trans ?_ ?gzU02; (case gzU02 => with_reducible assumption); k_extra "M gr") | fail "mine: no growth")
  (k_with "M tl3" => first
  | exact List.forall_mem_nil _
  | (refine List.forall_mem_cons.mpr ⟨⟨by k_mem, by first | exact tyNe | exact refNe, by first | exact .inr (.inl ⟨by omega, by omega, by omega, by first | assumption | grind⟩) | exact .inr (.inr ⟨by omega, by omega, by omega, by first | assumption | grind⟩)⟩, ?_⟩; k_extra "M tl3") | fail "mine: tl3")
  (k_with "M fin3" => (
  (refine' fin3 ?RzU04 ?hLzU04 ?FzU04 ?NzU04 ?TKzU04 ?grzU04 ?htzU04 ?hkzU04 ?htlzU04); (case RzU04 => assumption); (case hLzU04 => assumption); (case FzU04 => k_asm); (case NzU04 => k_asm); (case TKzU04 => with_reducible assumption); (case grzU04 => k_extra "M gr"); (case htzU04 => k_extra "M sub"); (case hkzU04 => k_extra "M sub"); (case htlzU04 => k_extra "M tl3")))
  (k_with "M std2" => (
  (case hA => exact rfl); (case hf => exact rfl); (case hke => exact rfl); (case hh => exact rfl); (case F => k_asm); (case Nq => k_asm); (case B => k_asm); (case X => k_asm); (case T => k_asm); (case C1 => k_asm); (case C2 => k_asm); (case C3 => k_asm); (case TK => k_asm);
  (case hO => k_extra "M own"); (case hd => k_room); (case hu => k_units)))
  (k_with "M body" => (
  k_dflt (refine' enter ?kRzU06 ?hozU06 ?hcdzU06 ?hbindzU06 ?hloczU06 ?hcellzU06 ?hcozU06 ?hgenzU06 ?hkzU06 ?_; (case kRzU06 => with_reducible assumption); (case hozU06 => k_is); (case hcdzU06 => k_is); (case hbindzU06 => first | exact BindsTo.of_eq rfl | exact binds_K (Frag.In.keeps (Rdy.K (by assumption)) (Rdy.sub (by assumption))) rfl (by k_is) rfl rfl rfl); (case hloczU06 => exact locs rfl); (case hcellzU06 => decide); (case hcozU06 => exact rfl); (case hgenzU06 => exact rfl); (case hkzU06 => exact rfl))))
  (k_with "call ref" => (k_here; k_dflt (show wpAny _ _ (call (Value.ref 292) [Value.bytes _ _, Value.int _ _]) _ _ _); k_dflt (refine' use_con3 (c_dv ?hBzU07 ?hvzU07 ?hpzU07) ?B ?F ?X ?Nq ?T ?C1 ?C2 ?C3 ?TK ?hO ?hA ?hf ?hke ?hh ?hd ?hu ?_; k_extra "M std2"; (case hBzU07 => first | assumption | (simp only [List.length_cons, List.length_nil]; omega)); (case hvzU07 => assumption); (case hpzU07 => omega)); intro r'w h'w tk'w gs'w t1'w t2'w t3'w kn'w F'w N'w gr'w ne'w TK'w hg'w p'w; obtain ⟨_, _, _, e'w, m'w⟩ := p'w; subst e'w; (try dsimp only at N'w); k_extra "M after"))
  (k_with "call ref" => (k_here; k_dflt (show wpAny _ _ (call (Value.ref 299) [Value.bytes _ _, Value.int _ _]) _ _ _); k_dflt (refine' use_con3 (c_rtag ?hBzU08 ?h0zU08 ?hvzU08 ?hbzU08 ?hpzU08) ?B ?F ?X ?Nq ?T ?C1 ?C2 ?C3 ?TK ?hO ?hA ?hf ?hke ?hh ?hd ?hu ?_; k_extra "M std2"; (case hBzU08 => assumption); (case h0zU08 => assumption); (case hvzU08 => omega); (case hbzU08 => assumption); (case hpzU08 => omega)); intro r'w h'w tk'w gs'w t1'w t2'w t3'w kn'w F'w N'w gr'w ne'w TK'w hg'w p'w; obtain ⟨_, _, _, e'w, m'w⟩ := p'w; subst e'w; (try dsimp only at N'w); k_extra "M after"))
  trivial

structure HoldW (P : Prop) : Prop where
  h : P
theorem HoldW.out {P : Prop} (x : HoldW P) : P := x.h
end
-- F0
section
set_option maxHeartbeats 4000000 in
theorem c_f0 : ∀ {w : World} {kn : Led} {bb : List UInt8} {p e v k num dep : Int} {tb tp te tn tw td : Tok} (hB : bb.length ≤ 100000) (hv : VarAt bb p v k) (hp : p ≤ 100000) (he : p + k ≤ e),
   Con w (.ref 329) [.bytes bb.toArray tb, .int p tp, .int e te, .int num tn, .int 0 tw, .int dep td] 60 600 kn (fun kn' r => ∃ t t1 t2, r = .ref t ∧ (t, tupO #[.int v t1, .int (p + k) t2]) ∈ kn') := by
  have hon : HKon := trivial
  intro w kn bb p e v k num dep tb tp te tn tw td hB hv hp he
  refine Con.openG (hkO (no_implicit_lambda% ((?hopq : HTO _) _ _ _ _ _ _ _ _ _ _ _ _ _ _ _)))
  intros s dp un gd t1 t2 t3 base g outs loose mean mg mb Z
  refine ConG.mk ?_
  intro R ret hd hu
  k_extra "M body"
  intro L h₁ hL F N B X T C1 C2 C3 TK l1 l2 l3 l4
  try dsimp only
  try k_fold
  k_steps
  all_goals (k_extra "M out")
  refine' ret _ _ _ _ _ _ _ ([(_, _)] ++ _) ?X (by assumption) ⟨_, _, _, rfl, List.mem_append_right _ (.head _)⟩
  case X => k_extra "M fin3" 
end
-- F1
section
set_option maxHeartbeats 4000000 in
theorem c_f1 : ∀ {w : World} {kn : Led} {bb ys : List UInt8} {p e v k num dep : Int} {tb tp te tn tw td : Tok} (hB : bb.length ≤ 100000) (hp0 : 0 ≤ p) (hs : KBy.picked bb.toArray (some p) (some (p + 8)) = ys.toArray) (hy : ys.length = 8) (he : p + 8 ≤ e) (hp : p ≤ 100000),
   Con w (.ref 329) [.bytes bb.toArray tb, .int p tp, .int e te, .int num tn, .int 1 tw, .int dep td] 60 600 kn (fun kn' r => ∃ t t1 t2, r = .ref t ∧ (t, tupO #[.int (leI ys) t1, .int (p + 8) t2]) ∈ kn') := by
  have hon : HKon := trivial
  intro w kn bb ys p e v k num dep tb tp te tn tw td hB hp0 hs hy he hp
  refine Con.openG (hkO (no_implicit_lambda% ((?hopq : HTO _) _ _ _ _ _ _ _ _ _ _ _ _ _ _ _)))
  intros s dp un gd t1 t2 t3 base g outs loose mean mg mb Z
  refine ConG.mk ?_
  intro R ret hd hu
  k_extra "M body"
  intro L h₁ hL F N B X T C1 C2 C3 TK l1 l2 l3 l4
  try dsimp only
  try k_fold
  k_steps
  all_goals (k_extra "M out")
  refine' ret _ _ _ _ _ _ _ ([(_, _)] ++ _) ?X id ⟨_, _, _, rfl, List.mem_append_right _ (.head _)⟩
  case X => k_extra "M fin3"
end
-- F2
section
set_option maxHeartbeats 4000000 in
theorem c_f2 : ∀ {w : World} {kn : Led} {bb ys : List UInt8} {p e v k num dep : Int} {tb tp te tn tw td : Tok} (hB : bb.length ≤ 100000) (hp0 : 0 ≤ p) (hv : VarAt bb p v k) (hs : KBy.picked bb.toArray (some (p + k)) (some (p + k + v)) = ys.toArray) (he : p + k + v ≤ e) (hp : p ≤ 100000),
   Con w (.ref 329) [.bytes bb.toArray tb, .int p tp, .int e te, .int num tn, .int 2 tw, .int dep td] 60 600 kn (fun kn' r => ∃ t t1 t2, r = .ref t ∧ (t, tupO #[.bytes ys.toArray t1, .int (p + k + v) t2]) ∈ kn') := by
  have hon : HKon := trivial
  intro w kn bb ys p e v k num dep tb tp te tn tw td hB hp0 hv hs he hp
  refine Con.openG (hkO (no_implicit_lambda% ((?hopq : HTO _) _ _ _ _ _ _ _ _ _ _ _ _ _ _ _)))
  intros s dp un gd t1 t2 t3 base g outs loose mean mg mb Z
  refine ConG.mk ?_
  intro R ret hd hu
  k_extra "M body"
  intro L h₁ hL F N B X T C1 C2 C3 TK l1 l2 l3 l4
  try dsimp only
  try k_fold
  k_steps
  all_goals (k_extra "M out")
  refine' ret _ _ _ _ _ _ _ ([(_, _)] ++ _) ?X (by assumption) ⟨_, _, _, rfl, List.mem_append_right _ (.head _)⟩
  case X => k_extra "M fin3"
end
-- F5
section
set_option maxHeartbeats 4000000 in
theorem c_f5 : ∀ {w : World} {kn : Led} {bb ys : List UInt8} {p e v k num dep : Int} {tb tp te tn tw td : Tok} (hB : bb.length ≤ 100000) (hp0 : 0 ≤ p) (hs : KBy.picked bb.toArray (some p) (some (p + 4)) = ys.toArray) (hy : ys.length = 4) (he : p + 4 ≤ e) (hp : p ≤ 100000),
   Con w (.ref 329) [.bytes bb.toArray tb, .int p tp, .int e te, .int num tn, .int 5 tw, .int dep td] 60 600 kn (fun kn' r => ∃ t t1 t2, r = .ref t ∧ (t, tupO #[.int (leI ys) t1, .int (p + 4) t2]) ∈ kn') := by
  have hon : HKon := trivial
  intro w kn bb ys p e v k num dep tb tp te tn tw td hB hp0 hs hy he hp
  refine Con.openG (hkO (no_implicit_lambda% ((?hopq : HTO _) _ _ _ _ _ _ _ _ _ _ _ _ _ _ _)))
  intros s dp un gd t1 t2 t3 base g outs loose mean mg mb Z
  refine ConG.mk ?_
  intro R ret hd hu
  k_extra "M body"
  intro L h₁ hL F N B X T C1 C2 C3 TK l1 l2 l3 l4
  try dsimp only
  try k_fold
  k_steps
  all_goals (k_extra "M out")
  refine' ret _ _ _ _ _ _ _ ([(_, _)] ++ _) ?X id ⟨_, _, _, rfl, List.mem_append_right _ (.head _)⟩
  case X => k_extra "M fin3"
end
-- J0
section
namespace BJ
open Builtin
theorem slot_join : Slot "bytes" "join" "bytes.join" :=
  .of (owner := "bytes") (n := "join") (by rw [typeLookup_type, builtinLookup_eq_fast]; kernel_rfl) (by decide +kernel) (by decide +kernel) (by decide +kernel)
    (by first | exact .inl (by decide +kernel) | exact .inr (by decide +kernel)) (by rw [isSubtype_type]; kernel_rfl)
theorem type_join : typeOf (.builtin "bytes.join") = pure (.type "method_descriptor") := by show builtinType _ = _; rw [builtinType_eq_fast]; kernel_rfl
theorem entry_join : entryFor table "bytes.join" = some Builtin.«bytes.join» := by first | exact entryFor_of_tree (by kernel_rfl) | exact entryFor_of_fast (by kernel_rfl)
theorem args_join (a b : Value) : argsOk "bytes.join" ⟨[a, b], []⟩ := by
  unfold argsOk; rw [signature?_of (id := "bytes.join") (n := ['n', 'i', 'o', 'j']) (o := ['s', 'e', 't', 'y', 'b']) (by kernel_rfl) FB.owner_bytes]; kernel_rfl
theorem take_eq {id : String} {b : Array UInt8} {t : Tok} : Bytes.takeBuffer? id (.bytes b t) 0 = pure (some (b, none)) := by
  unfold Bytes.takeBuffer?
  rw [KBy.special_eq KBy.look_buffer]
  simp only [pure_bind]
  rw [KBy.own_buffer]
  simp only [pure_bind]
  have e : Bytes.buffer? id (.bytes b t) (full := ((0 : Int) == Bytes.fullReadOnly)) = pure (some b) := KBy.buffer_eq
  first
    | (rw [e]; rfl)
    | (show (Bytes.buffer? id (.bytes b t) (full := ((0 : Int) == Bytes.fullReadOnly)) >>= fun r => _) = _; rw [e]; rfl)
theorem quiet_eq {id : String} {b : Array UInt8} {t : Tok} : Bytes.takeBufferQuiet? id (.bytes b t) 0 = pure (some (b, none)) := by
  unfold Bytes.takeBufferQuiet?
  rw [take_eq]
  rfl
theorem letgo_eq {M : Model} {A : Around} {E : Value → Shared → Prop} {s : Shared} {Q : Unit → Shared → Prop} : ∀ (l : List Value) (keep : List Value), Q () s → wpAny M A (Bytes.joinLetGo (l.map fun x => (x, none)) keep) Q E s
  | [], _, h => wpAny_pure h
  | x :: r, keep, h => by
    show wpAny M A (do
      let later := keep ++ (r.map fun x => (x, (none : Option Value))).flatMap fun (y, u) => y :: u.toList
      (pure () : Sem Unit)
      letGo (x :: (none : Option Value).toList) later
      Bytes.joinLetGo (r.map fun x => (x, none)) keep) Q E s
    refine wpAny_bind (wpAny_letGo ?_)
    exact letgo_eq r keep h
noncomputable def val (p : List UInt8 × Tok) : Value := .bytes p.1.toArray p.2
theorem joined_eq : ∀ (ps : List (Array UInt8)), Bytes.joined #[] ps = (ps.map Array.toList).flatten.toArray := by
  have key : ∀ (ps : List (Array UInt8)) (k : Nat) (acc : Array UInt8), ((ps.zipIdx k).foldl (fun out (x : Array UInt8 × Nat) => (if x.2 > 0 then out ++ #[] else out) ++ x.1) acc) = (acc.toList ++ (ps.map Array.toList).flatten).toArray := by
    intro ps
    induction ps with
    | nil => intro k acc; simp
    | cons p r ih =>
      intro k acc
      rw [List.zipIdx_cons, List.foldl_cons, ih]
      have : (if k > 0 then acc ++ #[] else acc) = acc := by split <;> simp
      simp only [this]
      simp
  intro ps
  have := key ps 0 #[]
  simpa [Bytes.joined] using this
theorem loop {M : Model} {A : Around} {E : Value → Shared → Prop} {s : Shared} {Q : Array (Array UInt8) × List (Value × Option Value) → Shared → Prop} {f : Nat → Array (Array UInt8) × List (Value × Option Value) → Sem (ForInStep (Array (Array UInt8) × List (Value × Option Value)))}
    (xs : List (List UInt8 × Tok)) {n : Nat} (hn : n = xs.length)
    (hf : ∀ i (hi : i < xs.length), wpAny M A (f i ((((xs.take i).map fun p => p.1.toArray).toArray), (xs.take i).map fun p => (val p, (none : Option Value))))
      (fun r s' => r = .yield ((((xs.take i).map fun p => p.1.toArray).toArray).push (xs[i]).1.toArray, ((xs.take i).map fun p => (val p, (none : Option Value))) ++ [(val xs[i], none)]) ∧ s' = s) E s)
    (hq : Q (((xs.map fun p => p.1.toArray).toArray), xs.map fun p => (val p, (none : Option Value))) s) :
    wpAny M A (forIn [:n] ((#[] : Array (Array UInt8)), ([] : List (Value × Option Value))) f) Q E s := by
  subst hn
  rw [Std.Legacy.Range.forIn_eq_forIn_range']
  refine wpAny_forIn_list _ (fun rest b s' => s' = s ∧ ∃ i, rest = List.range' i (xs.length - i) ∧ i ≤ xs.length ∧ b = ((((xs.take i).map fun p => p.1.toArray).toArray), (xs.take i).map fun p => (val p, (none : Option Value)))) _ ?_ ?_ _ _ ⟨rfl, 0, by simp [Std.Legacy.Range.size], Nat.zero_le _, by simp⟩
  · rintro x rest b s' ⟨rfl, i, hr, hi, rfl⟩
    have hlt : i < xs.length := by
      rcases Nat.lt_or_ge i xs.length with h | h
      · exact h
      · rw [Nat.sub_eq_zero_of_le h] at hr; simp at hr
    obtain ⟨k, hk⟩ : ∃ k, xs.length - i = k + 1 := ⟨xs.length - i - 1, by omega⟩
    rw [hk, List.range'_succ] at hr
    obtain ⟨rfl, rfl⟩ := List.cons.inj hr
    refine wpAny_mono (hf x hlt) (fun r s' hr => ?_) fun _ _ e => e
    obtain ⟨rfl, rfl⟩ := hr
    refine ⟨rfl, x + 1, by rw [show xs.length - (x + 1) = k by omega], hlt, ?_⟩
    have e : xs.take (x + 1) = xs.take x ++ [xs[x]] := by rw [List.take_add_one, List.getElem?_eq_getElem hlt]; rfl
    simp only [e, List.map_append, List.map_cons, List.map_nil, List.push_toArray]
  · rintro b s' ⟨rfl, i, hr, hi, rfl⟩
    have : xs.length - i = 0 := by
      cases h : xs.length - i with
      | zero => rfl
      | succ k => rw [h, List.range'_succ] at hr; cases hr
    rw [show i = xs.length by omega, List.take_length]
    exact hq
theorem noheap (l : List (List UInt8 × Tok)) : (l.map fun p => (val p, (none : Option Value))).any (fun x => x.1.onHeap) = false := by
  induction l with
  | nil => rfl
  | cons p r ih => rw [List.map_cons, List.any_cons, ih]; rfl
theorem meets_join {sp : Tok} {a : Addr} {xs : List (List UInt8 × Tok)} {n : Nat} (hsz : (xs.map (·.1)).flatten.length ≤ 100000) :
    Meets («bytes.join» ⟨[.bytes #[] sp, .ref a], []⟩) (fun _ R s => s.heap.get? a = some (W.listOf (xs.map val).toArray n) ∧ ∀ t' k, R (.ok (.ret (.bytes (xs.map (·.1)).flatten.toArray t'))) { s with toks := k }) := by
  refine .of_wp fun prog w A R s hS => ?_
  obtain ⟨ha, h⟩ := hS
  have hT : s.TypeIs (.ref a) "list" := ⟨_, ha, rfl⟩
  show wpAny _ _ (Bytes.joinItems (.ref a) >>= fun r => _) _ _ s
  refine wpAny_bind ?_
  unfold Bytes.joinItems
  refine wpAny_bind (wpAny_typeOf hT ?_)
  refine wpAny_ite (KBc.ite_yes rfl ?_)
  refine wpAny_pure ?_
  refine wpAny_bind (wpAny_seqItems ha rfl ?_)
  match xs, h, hsz, ha with
  | [p], h, hsz, ha =>
    show wpAny _ _ (typeOf (val p) >>= fun r => _) _ _ s
    refine wpAny_bind (wpAny_typeOf (typeIs_bytes _ _ _) ?_)
    refine wpAny_ite (KBc.ite_yes rfl ?_)
    refine wpAny_bind (wpAny_rule ?_)
    refine wpAny_pure ⟨_, rfl, ?_⟩
    have := h p.2 s.toks
    rw [show ([p].map (·.1)).flatten = p.1 by simp] at this
    exact this
  | [], h, hsz, ha =>
    refine wpAny_bind (m := forIn [:((([] : List (List UInt8 × Tok)).map val).toArray).size] ((#[] : Array (Array UInt8)), ([] : List (Value × Option Value))) _) ?_
    refine loop [] (by simp) (fun i hi => ?_) ?_
    · simp at hi
    refine wpAny_bind (wpAny_of_eq (a := (#[] : Array UInt8)) rfl ?_)
    refine wpAny_ite (KBy.ite_no (by decide) ?_)
    refine wpAny_bind (wpAny_mkBytes ?_ (by decide))
    refine wpAny_bind (wpAny_holding (wpAny_point ?_))
    refine wpAny_bind (letgo_eq [] _ ?_)
    exact wpAny_pure ⟨_, rfl, h _ _⟩
  | p :: q :: r, h, hsz, ha =>
    refine wpAny_bind (m := forIn [:(((p :: q :: r).map val).toArray).size] ((#[] : Array (Array UInt8)), ([] : List (Value × Option Value))) _) ?_
    refine loop (p :: q :: r) (by simp) (fun i hi => ?_) ?_
    · refine wpAny_bind (wpAny_seqItems ha rfl ?_)
      refine wpAny_ite (KBy.ite_no (by rw [noheap]; decide) ?_)
      have ex : ((p :: q :: r).map val).toArray.getD i Value.none = val ((p :: q :: r)[i]) := by
        have : i < ((p :: q :: r).map val).toArray.size := by simpa using hi
        rw [Array.getD_eq_getD_getElem?, Array.getElem?_eq_getElem this]
        simp only [Option.getD_some, List.getElem_toArray, List.getElem_map]
      simp only [ex]
      refine wpAny_bind (wpAny_holding (wpAny_of_eq quiet_eq ?_))
      refine wpAny_bind (wpAny_seqItems ha rfl ?_)
      refine wpAny_ite (KBy.ite_no (by simp) ?_)
      exact wpAny_pure ⟨rfl, rfl⟩
    refine wpAny_bind (wpAny_of_eq (a := (#[] : Array UInt8)) rfl ?_)
    refine wpAny_ite (KBy.ite_no ?_ ?_)
    · intro hbad
      have e : (((p :: q :: r).map fun p => p.1.toArray).toArray).foldl (fun x1 x2 => x1 + x2.size) ((#[] : Array UInt8).size * ((((p :: q :: r).map fun p => p.1.toArray).toArray).size - 1)) = ((p :: q :: r).map (·.1)).flatten.length := by
        rw [List.foldl_toArray]
        have key : ∀ (l : List (List UInt8 × Tok)) (k : Nat), (l.map fun p => p.1.toArray).foldl (fun x1 (x2 : Array UInt8) => x1 + x2.size) k = k + (l.map (·.1)).flatten.length := by
          intro l
          induction l with
          | nil => intro k; simp
          | cons x l ih => intro k; simp only [List.map_cons, List.foldl_cons, ih, List.flatten_cons, List.length_append, List.size_toArray]; omega
        rw [key]; simp
      rw [e] at hbad
      unfold Bytes.tooLong at hbad
      rw [sizeLine_eq] at hbad
      have := of_decide_eq_true hbad
      omega
    have ej : Bytes.joined #[] (((p :: q :: r).map fun p => p.1.toArray).toArray).toList = ((p :: q :: r).map (·.1)).flatten.toArray := by
      rw [joined_eq]
      congr 2
      simp
    refine wpAny_bind (wpAny_mkBytes ?_ (by rw [ej, List.size_toArray, sizeLine_eq]; omega))
    refine wpAny_bind (wpAny_holding (wpAny_point ?_))
    have em : ((p :: q :: r).map fun p => (val p, (none : Option Value))) = ((p :: q :: r).map val).map fun x => (x, none) := by simp
    refine wpAny_bind ?_
    rw [em]
    refine letgo_eq _ _ ?_
    refine wpAny_pure ⟨_, rfl, ?_⟩
    rw [ej]
    exact h _ _
end BJ
end
-- J1
section
namespace BJ
open Builtin
theorem look_bytes : typeLookup (.type "bytes") "__bytes__" = pure (some (.builtin "bytes.__bytes__")) := by rw [typeLookup_type, builtinLookup_eq_fast]; kernel_rfl
section
variable {prog : Program} {w : World} {A : Around} {E : Value → Shared → Prop} {s : Shared} {b : Array UInt8} {t : Tok} {Q : Value → Shared → Prop}
theorem new_bytes (hh : A.handled = none) (hQ : Q (.bytes b t) s) : codeAny (model prog w) A (.call (.builtin "bytes.__new__") ⟨[.type "bytes", .bytes b t], []⟩) (wants Q E) s := by
  refine codeAny_of_tree ?_
  show wpAny _ A.in1 (do checkBuiltinCall "bytes.__new__" ⟨[.type "bytes", .bytes b t], []⟩; again (.builtin "bytes.__new__" ⟨[.type "bytes", .bytes b t], []⟩)) _ _ s
  refine wpAny_bind (wpAny_of_eq (F.bm_newCall _) (wpAny_pure ⟨plainId_quiet F.bm_plain _, codeAny_builtin F.bm_entry ?_⟩))
  rw [Around.under_plainId F.bm_plain _]
  unfold Builtin.«bytes.__new__»
  refine wpAny_bind (wpAny_of_eq (a := true) rfl ?_)
  refine bm_if_false rfl ?_
  refine wpAny_bind (wpAny_of_eq F.bm_sub ?_)
  refine bm_if_false rfl ?_
  refine wpAny_bind (wpAny_of_eq (F.bm_bind _) ?_)
  refine wpAny_bind (wpAny_of_eq (a := ()) rfl ?_)
  refine wpAny_bind (wpAny_of_eq (a := ()) rfl ?_)
  refine bm_if_false rfl ?_
  refine wpAny_bind (wpAny_of_eq (KBy.special_eq look_bytes) ?_)
  refine wpAny_bind (wpAny_rule ?_)
  refine wpAny_bind (wpAny_typeOf (typeIs_bytes _ _ _) ?_)
  refine bm_if_true rfl ?_
  exact fun _ _ _ => hQ
theorem call_bytes_bytes (hh : A.handled = none) (hQ : Q (.bytes b t) s) : wpAny (model prog w) A (call (.type "bytes") [.bytes b t]) Q E s := by
  refine callType_codes (Q₁ := fun obj s₁ => s₁.TypeIs obj "bytes" ∧ Q obj s₁) F.bm_called (F.bm_typeCall _) F.entry_object_init
    (new_bytes (Q := fun obj s₁ => s₁.TypeIs obj "bytes" ∧ Q obj s₁) hh ⟨PySem.W.typeIs_bytes _ _ _, hQ⟩) fun obj s₁ h₁ => ?_
  exact ⟨h₁.1, F.args_object_init_2 obj _, object_init_meets F.bm_called.init.lookup F.bm_called.made (by decide) prog w A.in1 _ s₁ ⟨h₁.1, rfl, h₁.2⟩⟩
end
section
variable {M : Model} {prog : Program} {w : World} {A : Around} {E : Value → Shared → Prop} {s : Shared} {b : Array UInt8} {t sp : Tok} {h₀ : Heap} {L l : Addr} {news : Led} {n : Nat}
theorem meth {pl : Sem Bool} {Q : Value × List Value → Shared → Prop} (h : Q (.builtin "bytes.join", [.bytes b t]) s) : wpAny M A (getMethod (.bytes b t) "join" pl) Q E s := by
  with_reducible exact KBd.method_of (.bytes b t) (typeIs_bytes _ _ _) slot_join type_join KBd.noRef h
theorem join {xs : List (List UInt8 × Tok)} {Q : Value → Shared → Prop} (N : News h₀ L s.heap news) (hm : (l, W.listOf (xs.map val).toArray n) ∈ news) (hsz : (xs.map (·.1)).flatten.length ≤ 100000)
    (h : ∀ t' k, Q (.bytes (xs.map (·.1)).flatten.toArray t') { s with toks := k }) : wpAny (model prog w) A (call (.builtin "bytes.join") [.bytes #[] sp, .ref l]) Q E s :=
  call_meets slot_join (typeIs_bytes _ _ _) entry_join (args_join _ _) (meets_join (n := n) hsz) ⟨(N _ hm).1, h⟩
theorem join1 {x : List UInt8} {u : Tok} {Q : Value → Shared → Prop} (N : News h₀ L s.heap news) (hm : (l, W.listOf #[.bytes x.toArray u] n) ∈ news) (hsz : x.length ≤ 100000)
    (h : ∀ t' k, Q (.bytes x.toArray t') { s with toks := k }) : wpAny (model prog w) A (call (.builtin "bytes.join") [.bytes #[] sp, .ref l]) Q E s :=
  join (xs := [(x, u)]) N hm (by simpa using hsz) fun t' k => by simpa using h t' k
end
end BJ
theorem kwJ10 : True := by
  (k_with "call type:bytes" => (k_here; (with_reducible show wpAny _ _ (call (Value.type "bytes") [Value.bytes _ _]) _ _ _); k_dflt (refine BJ.call_bytes_bytes rfl ?_)))
  (k_with "getMethod bytes" => (k_here; (with_reducible refine BJ.meth ?_)))
  (k_with "call builtin:bytes.join" => (k_here; (with_reducible show wpAny _ _ (call (Value.builtin "bytes.join") [Value.bytes _ _, Value.ref _]) _ _ _); k_dflt ((refine' BJ.join1 ?m0zJ12 ?m1zJ12 ?m2zJ12 ?_); (case m0zJ12 => k_asm); (case m1zJ12 => k_mem); (case m2zJ12 => (simp only [List.length_cons, List.length_nil]; omega))); intro _ _))
  (k_with "M! k_all" => ((refine' AllLt.ne (AllLt.to ?kazJ13 ?kbzJ13)); (case kbzJ13 => assumption); (case kazJ13 => omega)))
  trivial
end
-- TB
section
theorem tabA {t2 t3 : Array Value} {kn : Led} {c : Addr} {oc : Obj} {vs : Array Value} {t : Tok} (x : TabOk #[] t2 t3 kn) (e1 : oc.data = .fields vs) (e2 : vs[1]? = some (.str "_VarintBytes.<locals>.<lambda>" t)) (h : NewL c kn) :
    TabOk (#[] ++ #[rawInt 142, rawInt 18, .ref c]) t2 t3 ((c, oc) :: kn) where
  a := .inr ⟨c, rfl, oc, vs, t, .head _, e1, e2⟩
  b := x.b.imp id fun ⟨c, e, y⟩ => ⟨c, e, y.mono fun p hp => List.mem_cons_of_mem _ hp⟩
  c := x.c.imp id fun ⟨c, d, e, y, z⟩ => ⟨c, d, e, y.mono fun p hp => List.mem_cons_of_mem _ hp, z.mono fun p hp => List.mem_cons_of_mem _ hp⟩
  d := List.forall_mem_cons.mpr ⟨⟨Nat.ne_of_gt h.1, Nat.ne_of_gt h.2.1, Nat.ne_of_gt h.2.2.1⟩, x.d⟩
set_option maxHeartbeats 4000000 in
theorem c_vb : ∀ {w : World} {kn : Led} {v : Int} {tv : Tok} (hv : 0 ≤ v ∧ v < 128),
   Con w (.ref 271) [.int v tv] 60 600 kn (fun kn' r => ∃ t, r = .bytes [v.toNat.toUInt8].toArray t) := by
  have hon : HKon := trivial
  intro w kn v tv hv
  refine Con.openG (hkO (no_implicit_lambda% ((?hopq : HTO _) _ _ _ _ _ _ _ _ _ _ _ _ _ _ _)))
  intros s dp un gd t1 t2 t3 base g outs loose mean mg mb Z
  refine ConG.mk ?_
  intro R ret hd hu
  k_extra "M bodyC"
  intro L h₁ tk₁ cells hL F N Y B X T C1 C2 C3 TK l1 l2 l3 l4
  k_cells Y
  simp only [List.cons_append, List.nil_append] at N
  try dsimp only
  try k_fold
  have q1 : Builtin.bitAnd v 127 = v := by rw [and_127 (by omega)]; omega
  have q2 : v.fdiv (2 ^ (7 : Int).toNat) = 0 := by
    rw [Int.fdiv_eq_ediv_of_nonneg _ (by decide)]
    show v / 128 = 0
    omega
  rcases TK.a with e | hTa
  rotate_left
  obtain ⟨c, e, oc, ovs, otk, hoc, hod, hov⟩ := hTa
  rotate_left
  all_goals subst e
  all_goals k_steps
  all_goals (k_extra "M out")
  · rename _ = Data.fields _ => e1
    rename _[1]? = some _ => e2
    refine' ret _ _ _ _ _ _ _ [(_, _)] ?X id ⟨_, rfl⟩
    case X =>
      refine' fin1 ?R ?hL ?F ?Nq (tabA TK e1 e2 ?hne) ?hex ?ht ?hk ?kx ?htl
      case R => assumption
      case hL => assumption
      case F => k_asm
      case Nq => k_asm
      case kx => k_mem
      case hne => exact ⟨by omega, by omega, by omega, by first | assumption | grind⟩
      case hex => exact .inr ⟨by omega, by omega, by omega, by first | assumption | grind⟩
      case ht => k_extra "M sub"
      case hk => k_extra "M sub"
      case htl => exact List.forall_mem_nil _
  · refine' ret _ _ _ _ _ _ _ [] ?X id ⟨_, rfl⟩
    case X =>
      refine' fin0 ?R ?hL ?F ?Nq ?TK ?ht ?hk ?htl
      case R => assumption
      case hL => assumption
      case F => k_asm
      case Nq => k_asm
      case TK => with_reducible assumption
      case ht => k_extra "M sub"
      case hk => k_extra "M sub"
      case htl => exact List.forall_mem_nil _
end
-- Q0
section
inductive All2 {α β : Type} (R : α → β → Prop) : List α → List β → Prop
  | nil : All2 R [] []
  | cons {a : α} {b : β} {as : List α} {bs : List β} : R a b → All2 R as bs → All2 R (a :: as) (b :: bs)
section
variable {α β γ : Type} {R S : α → β → Prop}
theorem All2.length {as : List α} {bs : List β} (x : All2 R as bs) : as.length = bs.length := by
  induction x with
  | nil => rfl
  | cons _ _ ih => simp [ih]
theorem All2.imp (h : ∀ a b, R a b → S a b) {as : List α} {bs : List β} (x : All2 R as bs) : All2 S as bs := by
  induction x with
  | nil => exact .nil
  | cons a _ ih => exact .cons (h _ _ a) ih
theorem All2.at {as : List α} {bs : List β} (x : All2 R as bs) : ∀ {i : Nat} {a : α} {b : β}, as[i]? = some a → bs[i]? = some b → R a b := by
  induction x with
  | nil => intro i a b h; simp at h
  | cons r _ ih =>
    intro i a b h g
    cases i with
    | zero => simp at h g; subst h g; exact r
    | succ i => exact ih (by simpa using h) (by simpa using g)
theorem All2.snoc {as : List α} {bs : List β} {a : α} {b : β} (x : All2 R as bs) (r : R a b) : All2 R (as ++ [a]) (bs ++ [b]) := by
  induction x with
  | nil => exact .cons r .nil
  | cons q _ ih => exact .cons q ih
theorem All2.append {as as' : List α} {bs bs' : List β} (x : All2 R as bs) (y : All2 R as' bs') : All2 R (as ++ as') (bs ++ bs') := by
  induction x with
  | nil => exact y
  | cons q _ ih => exact .cons q ih
end
inductive Fld
  | int (n w v : Int)
  | byt (n : Int) (b : List UInt8)
  | grp (n : Int) (fs : List Fld)
instance : Nonempty Fld := ⟨.int 0 0 0⟩
noncomputable def Fld.num : Fld → Int
  | .int n _ _ => n
  | .byt n _ => n
  | .grp n _ => n
noncomputable def Fld.wire : Fld → Int
  | .int _ w _ => w
  | .byt _ _ => 2
  | .grp _ _ => 3
noncomputable def DataR (kn : Led) : Nat → Value → Fld → Prop
  | _, d, .int _ w v => w ≠ 3 ∧ ∃ t, d = .int v t
  | _, d, .byt _ b => ∃ t, d = .bytes b.toArray t
  | 0, _, .grp _ _ => False
  | k + 1, d, .grp _ fs => fs.length ≤ 2 ∧ ∃ u l vs, d = .ref u ∧ SetTop kn u l vs ∧ All2 (fun v f => ∃ a e, v = .ref a ∧ FieldTop kn a f.num f.wire e ∧ DataR kn k e f) vs fs
noncomputable def FieldR (kn : Led) (k : Nat) (v : Value) (f : Fld) : Prop := ∃ a e, v = .ref a ∧ FieldTop kn a f.num f.wire e ∧ DataR kn k e f
noncomputable def SetR (kn : Led) (k : Nat) (u : Addr) (fs : List Fld) : Prop := ∃ l vs, SetTop kn u l vs ∧ All2 (FieldR kn k) vs fs
theorem DataR.mono {kn kn' : Led} (h : ∀ p ∈ kn, p ∈ kn') : ∀ {k : Nat} {d : Value} {f : Fld}, DataR kn k d f → DataR kn' k d f
  | 0, _, .int .., x => by unfold DataR at *; exact x
  | 0, _, .byt .., x => by unfold DataR at *; exact x
  | 0, _, .grp .., x => by unfold DataR at *; exact x
  | k + 1, _, .int .., x => by unfold DataR at *; exact x
  | k + 1, _, .byt .., x => by unfold DataR at *; exact x
  | k + 1, _, .grp _ fs, x => by
    unfold DataR at *
    obtain ⟨a, u, l, vs, b, c, d⟩ := x
    exact ⟨a, u, l, vs, b, c.mono h, d.imp fun v f ⟨a, e, p, q, r⟩ => ⟨a, e, p, q.mono h, DataR.mono h r⟩⟩
theorem FieldR.mono : ∀ {kn kn' : Led} (h : ∀ p ∈ kn, p ∈ kn') {k : Nat} {v : Value} {f : Fld} (x : FieldR kn k v f), FieldR kn' k v f := by
  have hon : HKon := trivial
  intro kn kn' h k v f x
  obtain ⟨a, e, p, q, r⟩ := x
  first | exact exI3 ⟨q.mono h, r.mono h⟩ | exact exI2 ⟨p, q.mono h, r.mono h⟩ | exact exI1 ⟨e, p, q.mono h, r.mono h⟩ | exact ⟨a, e, p, q.mono h, r.mono h⟩
theorem SetR.mono : ∀ {kn kn' : Led} (h : ∀ p ∈ kn, p ∈ kn') {k : Nat} {u : Addr} {fs : List Fld} (x : SetR kn k u fs), SetR kn' k u fs := by
  have hon : HKon := trivial
  intro kn kn' h k u fs x
  obtain ⟨l, vs, a, b⟩ := x
  exact ⟨l, vs, a.mono h, b.imp fun _ _ y => y.mono h⟩
noncomputable def FrA (kn : Led) (d : Addr) : Prop := d ≠ 266 ∧ d ≠ 280 ∧ d ≠ 159 ∧ ∀ q ∈ kn, d ≠ q.1
theorem FrA.anti {kn kn' : Led} {d : Addr} (x : FrA kn' d) (h : ∀ p ∈ kn, p ∈ kn') : FrA kn d := ⟨x.1, x.2.1, x.2.2.1, fun q hq => x.2.2.2 q (h q hq)⟩
noncomputable def SetTopD (kn : Led) (u du l : Addr) (vs : List Value) : Prop := ∃ h k n m, (u, instObj 174 du) ∈ kn ∧ (du, dictOf [⟨h, .str "_values" k, .ref l⟩] n) ∈ kn ∧ (l, W.listOf vs.toArray m) ∈ kn
theorem SetTopD.mono : ∀ {kn kn' : Led} {u du l : Addr} {vs : List Value} (x : SetTopD kn u du l vs) (h : ∀ p ∈ kn, p ∈ kn'), SetTopD kn' u du l vs := by
  have hon : HKon := trivial
  intro kn kn' u du l vs x h
  obtain ⟨b, c, d, e, f, g, i⟩ := x
  first | exact exI4 ⟨h _ f, h _ g, h _ i⟩ | exact exI3 ⟨e, h _ f, h _ g, h _ i⟩ | exact exI2 ⟨d, e, h _ f, h _ g, h _ i⟩ | exact ⟨b, c, d, e, h _ f, h _ g, h _ i⟩
theorem SetTopD.top {kn : Led} {u du l : Addr} {vs : List Value} (x : SetTopD kn u du l vs) : SetTop kn u l vs := ⟨du, x⟩
inductive All2D {α β : Type} (R : α → β → List Addr → Prop) : List α → List β → List Addr → Prop
  | nil : All2D R [] [] []
  | cons {a : α} {b : β} {as : List α} {bs : List β} {d ds : List Addr} : R a b d → All2D R as bs ds → All2D R (a :: as) (b :: bs) (d ++ ds)
section
variable {α β : Type} {R S : α → β → List Addr → Prop}
theorem All2D.imp (h : ∀ a b d, R a b d → S a b d) {as : List α} {bs : List β} {ds : List Addr} (x : All2D R as bs ds) : All2D S as bs ds := by
  induction x with
  | nil => exact .nil
  | cons a _ ih => exact .cons (h _ _ _ a) ih
theorem All2D.two {T : α → β → Prop} (h : ∀ a b d, R a b d → T a b) {as : List α} {bs : List β} {ds : List Addr} (x : All2D R as bs ds) : All2 T as bs := by
  induction x with
  | nil => exact .nil
  | cons a _ ih => exact .cons (h _ _ _ a) ih
theorem All2D.length {as : List α} {bs : List β} {ds : List Addr} (x : All2D R as bs ds) : as.length = bs.length := by
  induction x with
  | nil => rfl
  | cons _ _ ih => simp [ih]
theorem All2D.snoc {as : List α} {bs : List β} {ds : List Addr} {a : α} {b : β} {d : List Addr} (x : All2D R as bs ds) (r : R a b d) : All2D R (as ++ [a]) (bs ++ [b]) (ds ++ d) := by
  induction x with
  | nil => simpa using All2D.cons r .nil
  | cons q _ ih => rw [List.append_assoc]; exact .cons q ih
theorem All2D.dom {P : Addr → Prop} (h : ∀ a b d, R a b d → ∀ e ∈ d, P e) {as : List α} {bs : List β} {ds : List Addr} (x : All2D R as bs ds) : ∀ e ∈ ds, P e := by
  induction x with
  | nil => intro e he; simp at he
  | cons a _ ih => intro e he; rcases List.mem_append.mp he with he | he; exact h _ _ _ a e he; exact ih e he
end
noncomputable def DataD (kn : Led) : Nat → Value → Fld → List Addr → Prop
  | _, d, .int _ w v, D => D = [] ∧ w ≠ 3 ∧ ∃ t, d = .int v t
  | _, d, .byt _ b, D => D = [] ∧ ∃ t, d = .bytes b.toArray t
  | 0, _, .grp _ _, _ => False
  | k + 1, d, .grp _ fs, D => fs.length ≤ 2 ∧ ∃ u du l vs D', d = .ref u ∧ SetTopD kn u du l vs ∧ D = du :: l :: D' ∧ All2D (fun v f D => ∃ a e, v = .ref a ∧ FieldTop kn a f.num f.wire e ∧ DataD kn k e f D) vs fs D'
noncomputable def FieldD (kn : Led) (k : Nat) (v : Value) (f : Fld) (D : List Addr) : Prop := ∃ a e, v = .ref a ∧ FieldTop kn a f.num f.wire e ∧ DataD kn k e f D
noncomputable def SetD (kn : Led) (k : Nat) (u : Addr) (fs : List Fld) (D : List Addr) : Prop := ∃ du l vs D', SetTopD kn u du l vs ∧ D = du :: l :: D' ∧ All2D (FieldD kn k) vs fs D'
theorem DataD.mono {kn kn' : Led} (h : ∀ p ∈ kn, p ∈ kn') : ∀ {k : Nat} {d : Value} {f : Fld} {D : List Addr}, DataD kn k d f D → DataD kn' k d f D
  | 0, _, .int .., _, x => by unfold DataD at *; exact x
  | 0, _, .byt .., _, x => by unfold DataD at *; exact x
  | 0, _, .grp .., _, x => by unfold DataD at *; exact x
  | k + 1, _, .int .., _, x => by unfold DataD at *; exact x
  | k + 1, _, .byt .., _, x => by unfold DataD at *; exact x
  | k + 1, _, .grp _ fs, _, x => by
    unfold DataD at *
    obtain ⟨a, u, du, l, vs, D', b, c, e, d⟩ := x
    exact ⟨a, u, du, l, vs, D', b, c.mono h, e, d.imp fun v f D ⟨a, e, p, q, r⟩ => ⟨a, e, p, q.mono h, DataD.mono h r⟩⟩
theorem DataD.dom {kn : Led} : ∀ {k : Nat} {d : Value} {f : Fld} {D : List Addr}, DataD kn k d f D → ∀ e ∈ D, ∃ o, (e, o) ∈ kn
  | 0, _, .int .., _, x => by unfold DataD at x; obtain ⟨rfl, _⟩ := x; intro e he; simp at he
  | 0, _, .byt .., _, x => by unfold DataD at x; obtain ⟨rfl, _⟩ := x; intro e he; simp at he
  | 0, _, .grp .., _, x => by unfold DataD at x; exact x.elim
  | k + 1, _, .int .., _, x => by unfold DataD at x; obtain ⟨rfl, _⟩ := x; intro e he; simp at he
  | k + 1, _, .byt .., _, x => by unfold DataD at x; obtain ⟨rfl, _⟩ := x; intro e he; simp at he
  | k + 1, _, .grp _ fs, _, x => by
    unfold DataD at x
    obtain ⟨a, u, du, l, vs, D', b, ⟨_, _, _, _, c1, c2, c3⟩, rfl, d⟩ := x
    intro e he
    rcases List.mem_cons.mp he with rfl | he
    · exact ⟨_, c2⟩
    rcases List.mem_cons.mp he with rfl | he
    · exact ⟨_, c3⟩
    · exact d.dom (P := fun e => ∃ o, (e, o) ∈ kn) (fun v f D ⟨a, e, p, q, r⟩ => DataD.dom r) e he
theorem DataD.plain {kn : Led} : ∀ {k : Nat} {d : Value} {f : Fld} {D : List Addr}, DataD kn k d f D → DataR kn k d f
  | 0, _, .int .., _, x => by unfold DataD at x; unfold DataR; exact x.2
  | 0, _, .byt .., _, x => by unfold DataD at x; unfold DataR; exact x.2
  | 0, _, .grp .., _, x => by unfold DataD at x; exact x.elim
  | k + 1, _, .int .., _, x => by unfold DataD at x; unfold DataR; exact x.2
  | k + 1, _, .byt .., _, x => by unfold DataD at x; unfold DataR; exact x.2
  | k + 1, _, .grp _ fs, _, x => by
    unfold DataD at x
    unfold DataR
    obtain ⟨a, u, du, l, vs, D', b, c, _, d⟩ := x
    exact ⟨a, u, l, vs, b, c.top, d.two fun v f D ⟨a, e, p, q, r⟩ => ⟨a, e, p, q, DataD.plain r⟩⟩
theorem FieldD.mono : ∀ {kn kn' : Led} (h : ∀ p ∈ kn, p ∈ kn') {k : Nat} {v : Value} {f : Fld} {D : List Addr} (x : FieldD kn k v f D), FieldD kn' k v f D := by
  have hon : HKon := trivial
  intro kn kn' h k v f D x
  obtain ⟨a, e, p, q, r⟩ := x
  first | exact exI3 ⟨q.mono h, r.mono h⟩ | exact exI2 ⟨p, q.mono h, r.mono h⟩ | exact exI1 ⟨e, p, q.mono h, r.mono h⟩ | exact ⟨a, e, p, q.mono h, r.mono h⟩
theorem SetD.mono : ∀ {kn kn' : Led} (h : ∀ p ∈ kn, p ∈ kn') {k : Nat} {u : Addr} {fs : List Fld} {D : List Addr} (x : SetD kn k u fs D), SetD kn' k u fs D := by
  have hon : HKon := trivial
  intro kn kn' h k u fs D x
  obtain ⟨du, l, vs, D', a, e, b⟩ := x
  first | exact exI4 ⟨a.mono h, e, b.imp fun _ _ _ y => y.mono h⟩ | exact exI3 ⟨D', a.mono h, e, b.imp fun _ _ _ y => y.mono h⟩ | exact exI2 ⟨vs, D', a.mono h, e, b.imp fun _ _ _ y => y.mono h⟩ | exact ⟨du, l, vs, D', a.mono h, e, b.imp fun _ _ _ y => y.mono h⟩
theorem SetD.plain : ∀ {kn : Led} {k : Nat} {u : Addr} {fs : List Fld} {D : List Addr} (x : SetD kn k u fs D), SetR kn k u fs := by
  have hon : HKon := trivial
  intro kn k u fs D x
  obtain ⟨_, l, vs, _, a, _, b⟩ := x
  exact ⟨l, vs, a.top, b.two fun _ _ _ ⟨a, e, p, q, r⟩ => ⟨a, e, p, q, r.plain⟩⟩
noncomputable def SetN (k0 kn : Led) (k : Nat) (u : Addr) (fs : List Fld) : Prop := ∃ D, SetD kn k u fs D ∧ D.Nodup ∧ ∀ d ∈ D, FrA k0 d
theorem SetN.mono : ∀ {k0 kn kn' : Led} {k : Nat} {u : Addr} {fs : List Fld} (x : SetN k0 kn k u fs) (h : ∀ p ∈ kn, p ∈ kn'), SetN k0 kn' k u fs := by
  have hon : HKon := trivial
  intro k0 kn kn' k u fs x h
  obtain ⟨D, a, b, c⟩ := x
  first | exact exI1 ⟨a.mono h, b, c⟩ | exact ⟨D, a.mono h, b, c⟩
theorem SetN.anti : ∀ {k0 k1 kn : Led} {k : Nat} {u : Addr} {fs : List Fld} (x : SetN k1 kn k u fs) (h : ∀ p ∈ k0, p ∈ k1), SetN k0 kn k u fs := by
  have hon : HKon := trivial
  intro k0 k1 kn k u fs x h
  obtain ⟨D, a, b, c⟩ := x
  first | exact exI3 (fun d hd => (c d hd).anti h) | exact exI2 ⟨b, fun d hd => (c d hd).anti h⟩ | exact exI1 ⟨a, b, fun d hd => (c d hd).anti h⟩ | exact ⟨D, a, b, fun d hd => (c d hd).anti h⟩
theorem SetN.plain : ∀ {k0 kn : Led} {k : Nat} {u : Addr} {fs : List Fld} (x : SetN k0 kn k u fs), SetR kn k u fs := by
  have hon : HKon := trivial
  intro k0 kn k u fs x
  obtain ⟨_, a, _⟩ := x
  exact a.plain
noncomputable def SayR (kn : Led) : Nat → Value → Fld → Prop
  | _, d, .int _ w v => w ≠ 3 ∧ ∃ t, d = .int v t
  | _, d, .byt _ b => ∃ t, d = .bytes b.toArray t
  | 0, _, .grp _ _ => False
  | k + 1, d, .grp _ fs => fs.length ≤ 2 ∧ ∃ l vs n, d = .ref l ∧ (l, W.listOf vs.toArray n) ∈ kn ∧ All2 (fun v f => ∃ a e t1 t2, v = .ref a ∧ (a, tupO #[.int f.num t1, .int f.wire t2, e]) ∈ kn ∧ SayR kn k e f) vs fs
noncomputable def SaidR (kn : Led) (k : Nat) (v : Value) (f : Fld) : Prop := ∃ a e t1 t2, v = .ref a ∧ (a, tupO #[.int f.num t1, .int f.wire t2, e]) ∈ kn ∧ SayR kn k e f
noncomputable def RowR (kn : Led) (k : Nat) (l : Addr) (fs : List Fld) : Prop := ∃ vs n, (l, W.listOf vs.toArray n) ∈ kn ∧ All2 (SaidR kn k) vs fs
theorem SayR.mono {kn kn' : Led} (h : ∀ p ∈ kn, p ∈ kn') : ∀ {k : Nat} {d : Value} {f : Fld}, SayR kn k d f → SayR kn' k d f
  | 0, _, .int .., x => by unfold SayR at *; exact x
  | 0, _, .byt .., x => by unfold SayR at *; exact x
  | 0, _, .grp .., x => by unfold SayR at *; exact x
  | k + 1, _, .int .., x => by unfold SayR at *; exact x
  | k + 1, _, .byt .., x => by unfold SayR at *; exact x
  | k + 1, _, .grp _ fs, x => by
    unfold SayR at *
    obtain ⟨a, l, vs, n, b, c, d⟩ := x
    exact ⟨a, l, vs, n, b, h _ c, d.imp fun v f ⟨a, e, t1, t2, p, q, r⟩ => ⟨a, e, t1, t2, p, h _ q, SayR.mono h r⟩⟩
theorem SaidR.mono : ∀ {kn kn' : Led} (h : ∀ p ∈ kn, p ∈ kn') {k : Nat} {v : Value} {f : Fld} (x : SaidR kn k v f), SaidR kn' k v f := by
  have hon : HKon := trivial
  intro kn kn' h k v f x
  obtain ⟨a, e, t1, t2, p, q, r⟩ := x
  first | exact exI5 ⟨h _ q, r.mono h⟩ | exact exI4 ⟨p, h _ q, r.mono h⟩ | exact exI3 ⟨t2, p, h _ q, r.mono h⟩ | exact ⟨a, e, t1, t2, p, h _ q, r.mono h⟩
noncomputable def u8 (n : Int) : UInt8 := n.toNat.toUInt8
theorem u8_n {n : Int} (h : 0 ≤ n ∧ n < 256) : (((u8 n).toNat : Nat) : Int) = n := byte_back h.1 h.2
noncomputable def varint (v : Int) : List UInt8 := if v < 128 then [u8 v] else if v < 16384 then [u8 (v % 128 + 128), u8 (v / 128)] else [u8 (v % 128 + 128), u8 (v / 128 % 128 + 128), u8 (v / 16384)]
noncomputable def EncR : Nat → Fld → List UInt8 → Prop
  | _, .int n w v, bs => 1 ≤ n ∧ n ≤ 6 ∧ ((w = 0 ∧ 0 ≤ v ∧ v < 70000 ∧ bs = u8 (8 * n) :: varint v) ∨ (∃ ys, w = 1 ∧ ys.length = 8 ∧ v = leI ys ∧ bs = u8 (8 * n + 1) :: ys) ∨ (∃ ys, w = 5 ∧ ys.length = 4 ∧ v = leI ys ∧ bs = u8 (8 * n + 5) :: ys))
  | _, .byt n b, bs => 1 ≤ n ∧ n ≤ 6 ∧ b.length ≤ 3 ∧ bs = u8 (8 * n + 2) :: u8 b.length :: b
  | 0, .grp _ _, _ => False
  | k + 1, .grp n fs, bs => 1 ≤ n ∧ n ≤ 6 ∧ fs.length ≤ 2 ∧ ∃ parts, All2 (EncR k) fs parts ∧ bs = u8 (8 * n + 3) :: (parts.flatten ++ [u8 (8 * n + 4)])
noncomputable def EncsR (k : Nat) (fs : List Fld) (bs : List UInt8) : Prop := ∃ parts, All2 (EncR k) fs parts ∧ bs = parts.flatten
end
-- TG
section
section
variable {prog : Program} {w : World} {A : Around} {E : Value → Shared → Prop} {s : Shared} {a b c n : Int} {t u : Tok} {Q : Value → Shared → Prop}
theorem or_e (e : Builtin.bitOr a b = c) (h : Q (.int c s.toks) { s with toks := s.toks + 1 }) : wpAny (model prog w) A (binaryOp .BitOr (.int a t) (.int b u)) Q E s := or_int (by rw [e]; exact h)
end
theorem kwTG0 : True := by
  (k_with "binaryOp BitOr int int" => (k_here; (with_reducible refine' or_e ?ezTG0 ?_); (case ezTG0 => assumption)))
  trivial
theorem or_low {a : Int} (b : Int) (k : Nat) (hb : 0 ≤ b ∧ b < 2 ^ k) (ha : 0 ≤ a) : Builtin.bitOr (a * 2 ^ k) b = a * 2 ^ k + b := by
  have h := or_add (a := b) (b := a) (k := k) hb ha
  obtain ⟨n, rfl⟩ := Int.eq_ofNat_of_zero_le hb.1
  obtain ⟨q, rfl⟩ := Int.eq_ofNat_of_zero_le ha
  have e1 := or_nat n (q * 2 ^ k)
  have e2 := or_nat (q * 2 ^ k) n
  have ec : ((q : Int) * 2 ^ k) = ((q * 2 ^ k : Nat) : Int) := by push_cast; rfl
  rw [ec] at h ⊢
  rw [e2, Nat.or_comm, ← e1, h]; omega
theorem kwTG1 : True := by
  (k_with "call ref" => (k_here; k_dflt (show wpAny _ _ (call (Value.ref 271) [Value.int _ _]) _ _ _); k_dflt (refine' use_con3 (c_vb ?hvzTG1) ?B ?F ?X ?Nq ?T ?C1 ?C2 ?C3 ?TK ?hO ?hA ?hf ?hke ?hh ?hd ?hu ?_; k_extra "M std2"; (case hvzTG1 => omega)); intro r'w h'w tk'w gs'w t1'w t2'w t3'w kn'w F'w N'w gr'w ne'w TK'w hg'w p'w; obtain ⟨_, e'w⟩ := p'w; subst e'w; (try dsimp only at N'w); k_extra "M after"))
  trivial
set_option maxHeartbeats 4000000 in
theorem c_tagb : ∀ {w : World} {kn : Led} {num : Int} {tn tw : Tok} (hn : 1 ≤ num ∧ num ≤ 6),
   Con w (.ref 278) [.int num tn, .int 4 tw] 80 800 kn (fun kn' r => ∃ t, r = .bytes [u8 (8 * num + 4)].toArray t) := by
  have hon : HKon := trivial
  intro w kn num tn tw hn
  refine Con.openG (hkO (no_implicit_lambda% ((?hopq : HTO _) _ _ _ _ _ _ _ _ _ _ _ _ _ _ _)))
  intros s dp un gd t1 t2 t3 base g outs loose mean mg mb Z
  refine ConG.mk ?_
  intro R ret hd hu
  k_extra "M body"
  intro L h₁ hL F N B X T C1 C2 C3 TK l1 l2 l3 l4
  try dsimp only
  try k_fold
  have q1 : num * 2 ^ (3 : Int).toNat = 8 * num ∧ (Builtin.Int.intBits num : Int) + 3 ≤ 2 ^ 27 ∧ (0 : Int) ≤ 3 := by
    have := shl_ok (a := num) (n := 3) (by omega) (by omega)
    exact ⟨by show num * 8 = 8 * num; omega, this.2⟩
  have q2 : Builtin.bitOr (8 * num) 4 = 8 * num + 4 := by
    have := or_low (a := num) 4 3 (by omega) (by omega)
    rw [show num * 2 ^ 3 = 8 * num by omega] at this
    exact this
  k_steps
  all_goals (k_extra "M out")
  refine' ret _ _ _ _ _ _ _ ([] ++ _) ?X (by assumption) ⟨_, rfl⟩
  case X => k_extra "M fin3"
end
-- F3
section
noncomputable def SetC (w : World) (bb : List UInt8) (p e d p2 : Int) (n u : Nat) (S : Led → Led → Addr → Prop) : Prop :=
  ∀ kn tb tp te td, Con w (.ref 321) [.bytes bb.toArray tb, .int p tp, .int e te, .int d td] n u kn (fun kn' r => ∃ t a t2, r = .ref t ∧ (t, tupO #[.ref a, .int p2 t2]) ∈ kn' ∧ S kn kn' a)
theorem SetC.use {w : World} {bb : List UInt8} {p e d p2 : Int} {n u : Nat} {S : Led → Led → Addr → Prop} (h : SetC w bb p e d p2 n u S) {kn : Led} {tb tp te td : Tok} :
  Con w (.ref 321) [.bytes bb.toArray tb, .int p tp, .int e te, .int d td] n u kn (fun kn' r => ∃ t a t2, r = .ref t ∧ (t, tupO #[.ref a, .int p2 t2]) ∈ kn' ∧ S kn kn' a) := h kn tb tp te td
theorem kwF30 : True := by
  (k_with "call ref" => (k_here; k_dflt (show wpAny _ _ (call (Value.ref 278) [Value.int _ _, Value.int _ _]) _ _ _); k_dflt (refine' use_con3 (c_tagb ?hvzF30) ?B ?F ?X ?Nq ?T ?C1 ?C2 ?C3 ?TK ?hO ?hA ?hf ?hke ?hh ?hd ?hu ?_; k_extra "M std2"; (case hvzF30 => omega)); intro r'w h'w tk'w gs'w t1'w t2'w t3'w kn'w F'w N'w gr'w ne'w TK'w hg'w p'w; obtain ⟨_, e'w⟩ := p'w; subst e'w; (try dsimp only at N'w); k_extra "M after"))
  (k_with "call ref" => (k_here; k_dflt (show wpAny _ _ (call (Value.ref 321) [Value.bytes _ _, Value.int _ _, Value.int _ _, Value.int _ _]) _ _ _); k_dflt (refine' use_con3 (SetC.use ?hSzF31) ?B ?F ?X ?Nq ?T ?C1 ?C2 ?C3 ?TK ?hO ?hA ?hf ?hke ?hh ?hd ?hu ?_; (case hSzF31 => assumption); k_extra "M std2"); intro r'w h'w tk'w gs'w t1'w t2'w t3'w kn'w F'w N'w gr'w ne'w TK'w hg'w p'w; obtain ⟨_, _, _, e'w, m'w, s'w⟩ := p'w; subst e'w; (try dsimp only at N'w); k_extra "M after"))
  trivial
theorem ne_same {prog : Program} {w : World} {A : Around} {E : Value → Shared → Prop} {s : Shared} {b : Array UInt8} {t u : Tok} {Q : Value → Shared → Prop} (h : Q (.bool false) s) : wpAny (model prog w) A (compareOp .NotEq (.bytes b t) (.bytes b u)) Q E s :=
  ne_bytes (by simpa using h)
theorem kwF31 : True := by
  (k_with "compareOp NotEq bytes bytes" => (k_here; k_dflt (refine ne_same ?_)))
  (k_with "compareOp NotEq" => (k_here; (with_reducible show wpAny _ _ (compareOp _ (Value.bytes _ _) (Value.bytes _ _)) _ _ _); k_dflt (refine ne_same ?_)))
  trivial
theorem Gr.sub' {a b : Led} (x : Gr a b) : ∀ p ∈ a, p ∈ b := x.1
set_option maxHeartbeats 4000000 in
theorem c_f3 : ∀ {w : World} {kn : Led} {bb : List UInt8} {p e num dep p2 : Int} {tb tp te tn tw td : Tok} {n u : Nat} {S : Led → Led → Addr → Prop} (hB : bb.length ≤ 100000) (hn : 1 ≤ num ∧ num ≤ 6) (hdep : dep ≤ 50) (hC : SetC w bb p e (dep + 1) p2 n u S) (mono : ∀ k0 kn kn' a, (∀ p ∈ kn, p ∈ kn') → S k0 kn a → S k0 kn' a) (anti : ∀ k0 k1 kn a, (∀ p ∈ k0, p ∈ k1) → S k1 kn a → S k0 kn a) (hs : KBy.picked bb.toArray (some (p2 - 1)) (some p2) = [u8 (8 * num + 4)].toArray) (he : p2 ≤ e),
   Con w (.ref 329) [.bytes bb.toArray tb, .int p tp, .int e te, .int num tn, .int 3 tw, .int dep td] (n + 100) (u + 1000) kn (fun kn' r => ∃ t a t2, r = .ref t ∧ (t, tupO #[.ref a, .int p2 t2]) ∈ kn' ∧ S kn kn' a) := by
  have hon : HKon := trivial
  intro w kn bb p e num dep p2 tb tp te tn tw td n u S hB hn hdep hC mono anti hs he
  refine Con.openG (hkO (no_implicit_lambda% ((?hopq : HTO _) _ _ _ _ _ _ _ _ _ _ _ _ _ _ _)))
  intros s dp un gd t1 t2 t3 base g outs loose mean mg mb Z
  refine ConG.mk ?_
  intro R ret hd hu
  k_extra "M body"
  intro L h₁ hL F N B X T C1 C2 C3 TK l1 l2 l3 l4
  try dsimp only
  try k_fold
  k_steps
  all_goals (k_extra "M out")
  rename S _ _ _ => hS
  refine' ret _ _ _ _ _ _ _ ([(_, _)] ++ _) ?X ?Y ⟨_, _, _, rfl, List.mem_append_right _ (.head _), mono _ _ _ _ (fun _ h => List.mem_append_right _ (List.mem_append_right _ h)) (anti _ _ _ _ ?AN hS)⟩
  case AN => exact Gr.sub' (by k_extra "M gr")
  case X => k_extra "M fin3"
  case Y => grind
end
-- S0
section
noncomputable def FieldC (w : World) (bb : List UInt8) (p e num wr d p2 : Int) (n u : Nat) (D : Led → Led → Value → Prop) : Prop :=
  ∀ kn tb tp te tn tw td, Con w (.ref 329) [.bytes bb.toArray tb, .int p tp, .int e te, .int num tn, .int wr tw, .int d td] n u kn (fun kn' r => ∃ t x t2, r = .ref t ∧ (t, tupO #[x, .int p2 t2]) ∈ kn' ∧ handedIn x = true ∧ D kn kn' x)
theorem FieldC.use {w : World} {bb : List UInt8} {p e num wr d p2 : Int} {n u : Nat} {D : Led → Led → Value → Prop} (h : FieldC w bb p e num wr d p2 n u D) {kn : Led} {tb tp te tn tw td : Tok} :
  Con w (.ref 329) [.bytes bb.toArray tb, .int p tp, .int e te, .int num tn, .int wr tw, .int d td] n u kn (fun kn' r => ∃ t x t2, r = .ref t ∧ (t, tupO #[x, .int p2 t2]) ∈ kn' ∧ handedIn x = true ∧ D kn kn' x) := h kn tb tp te tn tw td
theorem kwS00 : True := by
  (k_with "call ref" => (k_here; k_dflt (show wpAny _ _ (call (Value.ref 329) [Value.bytes _ _, Value.int _ _, Value.int _ _, Value.int _ _, Value.int _ _, Value.int _ _]) _ _ _); k_dflt (refine' use_con3 (FieldC.use ?hSzS00) ?B ?F ?X ?Nq ?T ?C1 ?C2 ?C3 ?TK ?hO ?hA ?hf ?hke ?hh ?hd ?hu ?_; (case hSzS00 => assumption); k_extra "M std2"); intro r'w h'w tk'w gs'w t1'w t2'w t3'w kn'w F'w N'w gr'w ne'w TK'w hg'w p'w; obtain ⟨_, _, _, e'w, m'w, hx'w, s'w⟩ := p'w; subst e'w; (try dsimp only at N'w); k_extra "M after"))
  (k_with "exec While BoolOp" => (k_here; refine HoldW.out ?_))
  trivial
theorem off_next {kn kn' news : Led} {d : Addr} {o : Obj} (ne : ∀ p ∈ kn', p ∈ kn ∨ ∀ q ∈ news, p.1 ≠ q.1) (hm : (d, o) ∈ news) (off : ∀ p ∈ kn, p.1 ≠ d) : ∀ p ∈ kn', p.1 ≠ d :=
  fun p hp => (ne p hp).elim (off p) fun h => h _ hm
theorem kwS01 : True := by
  (k_with "M! k_all" => first | with_reducible assumption | (refine' off_next ?oazS02 ?obzS02 ?oczS02; (case oazS02 => with_reducible assumption); (case obzS02 => k_mem); (case oczS02 => k_all)) | fail "mine: off")
  trivial
noncomputable def loc5 (bv pv ev dv uv : Value) (m0 : Str → Option Value) : Str → Option Value := fun y =>
  if y = "pos" then some pv else if y = "buffer" then some bv else if y = "end_pos" then some ev else if y = "current_depth" then some dv else if y = "unknown_field_set" then some uv else m0 y
theorem loc5_of {bv pv ev dv uv : Value} {m : Str → Option Value} (h1 : m "pos" = some pv) (h2 : m "buffer" = some bv) (h3 : m "end_pos" = some ev) (h4 : m "current_depth" = some dv) (h5 : m "unknown_field_set" = some uv) : m = loc5 bv pv ev dv uv m := by
  funext y
  unfold loc5
  split
  · rename_i h; rw [h, h1]
  split
  · rename_i h; rw [h, h2]
  split
  · rename_i h; rw [h, h3]
  split
  · rename_i h; rw [h, h4]
  split
  · rename_i h; rw [h, h5]
  rfl
theorem own_cons {t1 t2 t3 : Array Value} {kn r : Led} {a : Addr} {o : Obj} {G : Array Value → Array Value → Array Value → Led → Led} (h : @LT.lt Nat instLTNat 280 a) (x : Own t1 t2 t3 kn r G) : Own t1 t2 t3 kn ((a, o) :: r) (fun a' b c k => (a, o) :: G a' b c k) :=
  .cons ⟨Nat.ne_of_gt (Nat.lt_trans (by decide : (266 : Nat) < 280) h), Nat.ne_of_gt h, Nat.ne_of_gt (Nat.lt_trans (by decide : (159 : Nat) < 280) h)⟩ x
theorem kwS02 : True := by
  (k_with "M own" => first | exact Own.nil | (refine' own_cons ?oazS03 ?oxzS03; (case oazS03 => omega); (case oxzS03 => k_extra "M own")) | fail "mine: no shape")
  trivial
noncomputable def FinAt (bb : List UInt8) (e p p2 : Int) : Prop := (p = e ∧ p2 = e) ∨ (0 ≤ p ∧ p < e ∧ p2 = p + 1 ∧ ∃ c b, At bb p c ∧ c < 128 ∧ c % 8 = 4 ∧ KBy.picked bb.toArray (some p) (some (p + 1)) = [b].toArray ∧ ((b.toNat : Nat) : Int) = c)
noncomputable def NewD (R : Led → Value → Fld → List Addr → Prop) (kn kn' : Led) (x : Value) (f : Fld) : Prop := ∃ D, R kn' x f D ∧ D.Nodup ∧ ∀ d ∈ D, FrA kn d
inductive Seq (w : World) (bb : List UInt8) (e d : Int) (n u : Nat) (R : Led → Value → Fld → List Addr → Prop) : Int → List Fld → Int → Prop
  | done {p p2 : Int} : FinAt bb e p p2 → Seq w bb e d n u R p [] p2
  | more {p p1 p2 c : Int} {f : Fld} {fs : List Fld} {b : UInt8} : 0 ≤ p → p < e → At bb p c → c < 128 → KBy.picked bb.toArray (some p) (some (p + 1)) = [b].toArray → ((b.toNat : Nat) : Int) = c → c / 8 = f.num → c % 8 = f.wire → f.wire ≠ 4 →
      FieldC w bb (p + 1) e f.num f.wire d p1 n u (fun kn kn' x => NewD R kn kn' x f) → p1 ≤ 100000 → Seq w bb e d n u R p1 fs p2 → Seq w bb e d n u R p (f :: fs) p2
@[reducible] noncomputable def RowF (R : Led → Value → Fld → List Addr → Prop) (kn : Led) (v : Value) (f : Fld) (D : List Addr) : Prop := ∃ a x, v = .ref a ∧ FieldTop kn a f.num f.wire x ∧ R kn x f D
noncomputable def RowsN (R : Led → Value → Fld → List Addr → Prop) (k0 kn : Led) (vs : List Value) (fs : List Fld) : Prop := ∃ D, All2D (RowF R kn) vs fs D ∧ D.Nodup ∧ (∀ d ∈ D, FrA k0 d) ∧ ∀ d ∈ D, ∃ o, (d, o) ∈ kn
theorem Fr.loc5 {g h : Heap} {L : Addr} {m : Str → Option Value} {bv pv ev dv uv : Value} (F : Fr g L h m) (h1 : m "pos" = some pv) (h2 : m "buffer" = some bv) (h3 : m "end_pos" = some ev) (h4 : m "current_depth" = some dv) (h5 : m "unknown_field_set" = some uv) : Fr g L h (loc5 bv pv ev dv uv m) :=
  (congrArg (Fr g L h) (loc5_of h1 h2 h3 h4 h5)).mp F
theorem wpStrip {α : Type} {M : Model} {A : Around} {m : Sem α} {Q : α → Shared → Prop} {E : Value → Shared → Prop} {s : Shared} (h : wpAny M A m Q E s) : wpAny M A m Q E s := h
theorem tagvar {b : UInt8} {c : Int} (h : 0 ≤ c ∧ c < 256) (h3 : c < 128) (h5 : ((b.toNat : Nat) : Int) = c) : VarAt [b] 0 c 1 :=
  ⟨h.1, .inl ⟨h3, ⟨by decide, by show (0 : Int) < ((1 : Nat) : Int); decide, h5⟩, rfl⟩⟩
theorem tagnum {c n : Int} (h : 0 ≤ c ∧ c < 256) (h6 : c / 8 = n) : c.fdiv (2 ^ (3 : Int).toNat) = n ∧ (0 : Int) ≤ 3 := by
  rw [Int.fdiv_eq_ediv_of_nonneg _ (by decide)]
  exact ⟨h6, by decide⟩
theorem tagwire {c n : Int} (h : 0 ≤ c ∧ c < 256) (h7 : c % 8 = n) : Builtin.bitAnd c 7 = n := (and_7 h.1).trans h7
noncomputable def WhI (w : World) (bb : List UInt8) (tb te td : Tok) (e dep : Int) (n u : Nat) (R : Led → Value → Fld → List Addr → Prop) (p2 : Int) (fs : List Fld) (g : Heap) (L : Addr) (kn : Led) (l x d : Addr) (dobj : Obj) (s₀ : Shared) (k : Nat) (s₁ : Shared) : Prop :=
  ∃ h' tk gs t1 t2 t3 K0 m0 vs kk done todo p' tp', s₁ = { s₀ with heap := h', toks := tk, gens := gs } ∧ k = todo.length ∧ fs = done ++ todo ∧ p' ≤ 100000 ∧
    Fr g L h' (loc5 (.bytes bb.toArray tb) (.int p' tp') (.int e te) (.int dep td) (.ref x) m0) ∧
    News g L h' ((l, W.listOf vs.toArray kk) :: (x, instObj 174 d) :: (d, dobj) :: (266, tabObj t1) :: (280, tabObj t2) :: (159, tabObj t3) :: K0) ∧ TabOk t1 t2 t3 K0 ∧ Gr kn K0 ∧ (∀ p ∈ K0, p.1 ≠ l) ∧ (∀ p ∈ K0, p.1 ≠ d) ∧ (AllBare s₀.gens → AllBare gs) ∧
    RowsN R kn K0 vs done ∧ Seq w bb e dep n u R p' todo p2
theorem kwS03 : True := by
  (k_with "call builtin:list.append" => (k_here; (with_reducible show wpAny _ _ (call (Value.builtin _) [Value.ref _, _]) _ _ _); k_dflt (refine' append_K ?k1zS04 ?k2zS04 ?k3zS04 ?_ ?zzS04; (case k1zS04 => k_asm); (case k2zS04 => k_asm); (case k3zS04 => k_upd); (case zzS04 => ((simp only [List.size_toArray, sizeLine_eq]); omega)); k_whole); intro h'w F'w N'w; (try k_sweep)))
  trivial
theorem Gr.cons {K : Led} {p : Addr × Obj} (h : NewL p.1 K) : Gr K (p :: K) :=
  ⟨fun _ h => List.mem_cons_of_mem _ h, fun q hq => (List.mem_cons.mp hq).elim (fun e => .inr (by
    subst e
    exact ⟨Nat.ne_of_gt h.1, Nat.ne_of_gt h.2.1, Nat.ne_of_gt h.2.2.1, fun r hr => (AllLt.ne h.2.2.2 r hr).symm⟩)) .inl⟩
theorem NewL.off {d : Nat} {K : Led} (h : NewL d K) : d ≠ 266 ∧ d ≠ 280 ∧ d ≠ 159 := ⟨Nat.ne_of_gt h.1, Nat.ne_of_gt h.2.1, Nat.ne_of_gt h.2.2.1⟩
theorem WhI.next {w : World} {bb : List UInt8} {tb te td tq : Tok} {e dep q p2 : Int} {n u : Nat} {R : Led → Value → Fld → List Addr → Prop} {fs done rest : List Fld} {f : Fld} {g h' : Heap} {L : Addr} {kn K0 K1 Kc : Led} {l x d D xf df : Addr} {dobj oD : Obj} {s₀ : Shared} {vs : List Value} {kk tk : Nat} {gs : Array GenState} {a1 a2 a3 : Array Value} {m : Str → Option Value}
    {h1 h2 h3 : Int} {k1 t1 k2 t2 k3 : Tok} {nn : Nat} {xv : Value}
    (mono : ∀ kn kn' x f D, (∀ p ∈ kn, p ∈ kn') → R kn x f D → R kn' x f D) (dom : ∀ kn x f D, R kn x f D → ∀ d ∈ D, ∃ o, (d, o) ∈ kn)
    (hrow : RowsN R kn K0 vs done) (efs : fs = done ++ f :: rest) (gr : Gr kn K0) (hs : Seq w bb e dep n u R q rest p2) (hq : q ≤ 100000)
    (F : Fr g L h' m) (N : News g L h' ((xf, instObj 45 df) :: (df, dictOf [⟨h1, .str "_field_number" k1, .int f.num t1⟩, ⟨h2, .str "_wire_type" k2, .int f.wire t2⟩, ⟨h3, .str "_data" k3, xv⟩] nn) :: (D, oD) :: (l, W.listOf (vs.toArray.push (.ref xf)) (kk + 1)) :: (x, instObj 174 d) :: (d, dobj) :: (266, tabObj a1) :: (280, tabObj a2) :: (159, tabObj a3) :: K1))
    (TK : TabOk a1 a2 a3 K1) (gK : Gr K0 K1) (gc : Gr K0 Kc) (off : ∀ p ∈ K1, p.1 ≠ l) (off' : ∀ p ∈ K1, p.1 ≠ d) (hd : @LT.lt Nat instLTNat d df) (hl : @LT.lt Nat instLTNat l df) (hdx : @LT.lt Nat instLTNat df xf) (hN : NewL df K1) (hg : AllBare s₀.gens → AllBare gs) (hx : NewD R Kc K1 xv f)
    (m1 : m "pos" = some (.int q tq)) (m2 : m "buffer" = some (.bytes bb.toArray tb)) (m3 : m "end_pos" = some (.int e te)) (m4 : m "current_depth" = some (.int dep td)) (m5 : m "unknown_field_set" = some (.ref x)) :
    WhI w bb tb te td e dep n u R p2 fs g L kn l x d dobj s₀ rest.length { s₀ with heap := h', toks := tk, gens := gs } := by
  have hN2 : NewL xf ((df, dictOf [⟨h1, .str "_field_number" k1, .int f.num t1⟩, ⟨h2, .str "_wire_type" k2, .int f.wire t2⟩, ⟨h3, .str "_data" k3, xv⟩] nn) :: K1) :=
    ⟨Nat.lt_trans hN.1 hdx, Nat.lt_trans hN.2.1 hdx, Nat.lt_trans hN.2.2.1 hdx, hdx, AllLt.to hdx hN.2.2.2⟩
  have sub : ∀ p ∈ K1, p ∈ (xf, instObj 45 df) :: (df, dictOf [⟨h1, .str "_field_number" k1, .int f.num t1⟩, ⟨h2, .str "_wire_type" k2, .int f.wire t2⟩, ⟨h3, .str "_data" k3, xv⟩] nn) :: K1 := fun p hp => .tail _ (.tail _ hp)
  refine ⟨h', tk, gs, a1, a2, a3, (xf, instObj 45 df) :: (df, dictOf [⟨h1, .str "_field_number" k1, .int f.num t1⟩, ⟨h2, .str "_wire_type" k2, .int f.wire t2⟩, ⟨h3, .str "_data" k3, xv⟩] nn) :: K1, m, vs ++ [.ref xf], kk + 1, done ++ [f], rest, q, tq, rfl, rfl, by simp [efs], hq, Mine.Fr.loc5 F m1 m2 m3 m4 m5, fun p hp => ?_, (TK.cons hN.off).cons hN2.off, (gr.trans gK).trans ((Gr.cons (p := (df, _)) hN).trans (Gr.cons (p := (xf, _)) hN2)), ?_, ?_, hg, ?_, hs⟩
  · rw [← List.push_toArray] at hp
    refine N p ?_
    simp only [List.mem_cons] at hp ⊢
    grind
  · refine List.forall_mem_cons.mpr ⟨Nat.ne_of_gt (Nat.lt_trans hl hdx), List.forall_mem_cons.mpr ⟨Nat.ne_of_gt hl, off⟩⟩
  · refine List.forall_mem_cons.mpr ⟨Nat.ne_of_gt (Nat.lt_trans hd hdx), List.forall_mem_cons.mpr ⟨Nat.ne_of_gt hd, off'⟩⟩
  · obtain ⟨Ds, hrow, nd, fr, dm⟩ := hrow
    obtain ⟨Dx, hx, ndx, frx⟩ := hx
    refine ⟨Ds ++ Dx, (hrow.imp fun v f D ⟨a, x, e, ft, r⟩ => ⟨a, x, e, ft.mono fun p hp => sub p (gK.1 p hp), mono _ _ _ _ _ (fun p hp => sub p (gK.1 p hp)) r⟩).snoc ⟨xf, xv, rfl, ?_, mono _ _ _ _ _ sub hx⟩, ?_, fun e he => ?_, fun e he => ?_⟩
    · exact ⟨df, h1, k1, t1, h2, k2, t2, h3, k3, nn, by simp, by simp⟩
    · refine List.nodup_append.mpr ⟨nd, ndx, fun a ha b hb e => ?_⟩
      obtain ⟨o, ho⟩ := dm a ha
      exact (frx b hb).2.2.2 _ (gc.1 _ ho) e.symm
    · rcases List.mem_append.mp he with he | he
      · exact fr e he
      · exact (frx e he).anti fun p hp => gc.1 p (gr.1 p hp)
    · rcases List.mem_append.mp he with he | he
      · obtain ⟨o, ho⟩ := dm e he
        exact ⟨o, sub _ (gK.1 _ ho)⟩
      · obtain ⟨o, ho⟩ := dom _ _ _ _ hx e he
        exact ⟨o, sub _ ho⟩
theorem RowsN.length : ∀ {R : Led → Value → Fld → List Addr → Prop} {k0 kn : Led} {vs : List Value} {fs : List Fld} (x : RowsN R k0 kn vs fs), vs.length = fs.length := by
  have hon : HKon := trivial
  intro R k0 kn vs fs x
  obtain ⟨_, a, _⟩ := x
  exact a.length
noncomputable def SetX (R : Led → Value → Fld → List Addr → Prop) (k0 kn : Led) (a : Addr) (fs : List Fld) : Prop := ∃ du l vs D, SetTopD kn a du l vs ∧ All2D (RowF R kn) vs fs D ∧ (du :: l :: D).Nodup ∧ ∀ d ∈ du :: l :: D, FrA k0 d
theorem RowsN.set {R : Led → Value → Fld → List Addr → Prop} {k0 K0 kn : Led} {vs : List Value} {fs : List Fld} {a du l : Addr} (mono : ∀ kn kn' x f D, (∀ p ∈ kn, p ∈ kn') → R kn x f D → R kn' x f D) (x : RowsN R k0 K0 vs fs) (h : ∀ p ∈ K0, p ∈ kn) (ht : SetTopD kn a du l vs) (off : ∀ p ∈ K0, p.1 ≠ l) (off' : ∀ p ∈ K0, p.1 ≠ du) (ne : du ≠ l) (f1 : FrA k0 du) (f2 : FrA k0 l) : SetX R k0 kn a fs := by
  obtain ⟨D, hrow, nd, fr, dm⟩ := x
  refine ⟨du, l, vs, D, ht, hrow.imp fun v f D ⟨a, x, e, ft, r⟩ => ⟨a, x, e, ft.mono h, mono _ _ _ _ _ h r⟩, ?_, ?_⟩
  · refine List.nodup_cons.mpr ⟨fun hm => ?_, List.nodup_cons.mpr ⟨fun hm => ?_, nd⟩⟩
    · rcases List.mem_cons.mp hm with e | hm
      · exact ne e
      · obtain ⟨o, ho⟩ := dm _ hm
        exact off' _ ho rfl
    · obtain ⟨o, ho⟩ := dm _ hm
      exact off _ ho rfl
  · intro d hd
    rcases List.mem_cons.mp hd with rfl | hd
    · exact f1
    rcases List.mem_cons.mp hd with rfl | hd
    · exact f2
    · exact fr d hd
theorem kwS04 : True := by
  (k_with "M tl3" => first
  | exact List.forall_mem_nil _
  | (refine List.forall_mem_cons.mpr ⟨⟨by k_mem, by first | exact tyNe | exact refNe, by first | exact .inr (.inl ⟨by omega, by omega, by omega, by first | assumption | grind⟩) | exact .inr (.inr ⟨by omega, by omega, by omega, by first | assumption | grind [AllLt.to]⟩)⟩, ?_⟩; k_extra "M tl3") | fail "mine: tl3")
  trivial
noncomputable def setBinds (bb : List UInt8) (p e dep : Int) (tb tp te td : Tok) : List (Str × Value) := [("buffer", .bytes bb.toArray tb), ("pos", .int p tp), ("end_pos", .int e te), ("current_depth", .int dep td)]
noncomputable def SetArgs (w : World) (args : List Value) (binds : List (Str × Value)) : Prop :=
  ∃ oc od fd osl, (hd.heap_1_39 w.params).lookup 321 = some ⟨oc, od, .func fd, osl⟩ ∧ ∀ s : Shared, (hd.heap_1_39 w.params).In s.heap → BindsTo s fd ⟨args, []⟩ binds
theorem SetArgs.use {w : World} {args : List Value} {binds : List (Str × Value)} {oc : Value} {od : Option Addr} {fd : FuncData} {osl : Array (Option Value)} {s : Shared} (h : SetArgs w args binds) (ho : (hd.heap_1_39 w.params).lookup 321 = some ⟨oc, od, .func fd, osl⟩) (hK : (hd.heap_1_39 w.params).In s.heap) : BindsTo s fd ⟨args, []⟩ binds := by
  obtain ⟨oc', od', fd', osl', h1, h2⟩ := h
  rw [ho] at h1
  have := Option.some.inj h1
  cases this
  exact h2 s hK
theorem set_args4 {w : World} {bb : List UInt8} {p e dep : Int} {tb tp te td : Tok} : SetArgs w [.bytes bb.toArray tb, .int p tp, .int e te, .int dep td] (setBinds bb p e dep tb tp te td) :=
  ⟨_, _, _, _, by k_is, fun s hK => by first | exact BindsTo.of_eq rfl | exact binds_K hK rfl (by k_is) rfl rfl rfl⟩
theorem set_args3 {w : World} {bb : List UInt8} {p e : Int} {tb tp te : Tok} : ∃ td, SetArgs w [.bytes bb.toArray tb, .int p tp, .int e te] (setBinds bb p e 0 tb tp te td) :=
  ⟨_, _, _, _, _, by k_is, fun s hK => binds_K hK rfl (by k_is) rfl rfl rfl⟩
theorem Seq.inv {w : World} {bb : List UInt8} {e d : Int} {n u : Nat} {R : Led → Value → Fld → List Addr → Prop} {p p2 : Int} {fs : List Fld} (h : Seq w bb e d n u R p fs p2) :
    (fs = [] ∧ FinAt bb e p p2) ∨ ∃ (p1 c : Int) (f : Fld) (rest : List Fld) (b : UInt8), fs = f :: rest ∧ 0 ≤ p ∧ p < e ∧ At bb p c ∧ c < 128 ∧ KBy.picked bb.toArray (some p) (some (p + 1)) = [b].toArray ∧ ((b.toNat : Nat) : Int) = c ∧ c / 8 = f.num ∧ c % 8 = f.wire ∧ f.wire ≠ 4 ∧
      FieldC w bb (p + 1) e f.num f.wire d p1 n u (fun kn kn' x => NewD R kn kn' x f) ∧ p1 ≤ 100000 ∧ Seq w bb e d n u R p1 rest p2 := by
  cases h with
  | done h => exact .inl ⟨rfl, h⟩
  | more g0 g1 g2 g3 g4 g5 g6 g7 g8 g9 g10 g11 => exact .inr ⟨_, _, _, _, _, rfl, g0, g1, g2, g3, g4, g5, g6, g7, g8, g9, g10, g11⟩
set_option maxHeartbeats 4000000 in
theorem c_setA : ∀ {w : World} {kn : Led} {bb : List UInt8} {p e dep p2 : Int} {tb tp te td : Tok} {n u : Nat} {fs : List Fld} {RR : Led → Value → Fld → List Addr → Prop} {args : List Value} (hargs : SetArgs w args (setBinds bb p e dep tb tp te td)) (hB : bb.length ≤ 100000) (hp : p ≤ 100000) (hl : fs.length ≤ 100) (hS : Seq w bb e dep n u RR p fs p2) (mono : ∀ kn kn' x f D, (∀ p ∈ kn, p ∈ kn') → RR kn x f D → RR kn' x f D) (dom : ∀ kn x f D, RR kn x f D → ∀ d ∈ D, ∃ o, (d, o) ∈ kn),
   Con w (.ref 321) args (n + 100) (u + 1000) kn (fun kn' r => ∃ t a t2, r = .ref t ∧ (t, tupO #[.ref a, .int p2 t2]) ∈ kn' ∧ SetX RR kn kn' a fs) := by
  have hon : HKon := trivial
  intro w kn bb p e dep p2 tb tp te td n u fs RR args hargs hB hp hl hS mono dom
  refine Con.openG (hkO (no_implicit_lambda% ((?hopq : HTO _) _ _ _ _ _ _ _ _ _ _ _ _ _ _ _)))
  intros s dp un gd t1 t2 t3 base g outs loose mean mg mb Z
  refine ConG.mk ?_
  intro R ret hd hu
  k_dflt (refine' enter ?kR ?ho ?hcd ?hbind ?hloc ?hcell ?hco ?hgen ?hk ?_; (case kR => with_reducible assumption); (case ho => k_is); (case hcd => k_is); (case hbind => exact hargs.use (by k_is) (Frag.In.keeps R.K R.sub)); (case hloc => exact locs rfl); (case hcell => decide); (case hco => exact rfl); (case hgen => exact rfl); (case hk => exact rfl))
  intro L h₁ hL F N B X T C1 C2 C3 TK l1 l2 l3 l4
  try dsimp only
  try k_fold
  k_steps
  refine HoldW.mk ?_
  rename News _ L _ _ => N1
  rename Fr _ L _ _ => F1
  refine wpAny_While ?_
  refine' codeAny_whileLoop (WhI w bb tb te td e dep n u RR p2 fs g L kn _ _ _ _ s) ?turn fs.length ?init
  case init =>
    refine' ⟨_, _, _, _, _, _, _, _, [], _, [], fs, p, tp, rfl, rfl, rfl, hp, Mine.Fr.loc5 F1 rfl rfl rfl rfl rfl, N1, TK, Gr.refl _, ?off, ?off', id, ⟨[], .nil, List.nodup_nil, (fun _ h => (nomatch h)), (fun _ h => (nomatch h))⟩, hS⟩
    case off => exact AllLt.ne (by first | assumption | grind)
    case off' => exact AllLt.ne (by first | assumption | grind)
  rintro k s₁ ⟨h1, tk1, gs1, a1, a2, a3, K0, m0, vs, kk, done, todo, p1, tp1, rfl, rfl, efs, hp1, F2, N2, TK2, gr2, off2, off2', hg2, hrow, hseq⟩
  clear F1 N1
  rcases Seq.inv hseq with hd1 | hm1
  · obtain ⟨rfl, hfin⟩ := hd1
    have efs' : fs = done := by simpa using efs
    have q6 : vs.length ≤ 100 := by have := hrow.length; have := congrArg List.length efs; simp at this; omega
    rcases hfin with hf1 | hf2
    · obtain ⟨r1, r2⟩ := hf1
      subst r1 r2
      with_reducible refine wpStrip ?_
      dsimp only
      k_fold
      k_steps
      all_goals (k_extra "M out")
      refine' ret _ _ _ _ _ _ _ ([(_, _), (_, _), (_, _), (_, _)] ++ _) ?X hg2 ⟨_, _, _, rfl, List.mem_append_right _ (.head _), efs' ▸ hrow.set mono ?sub ⟨_, _, _, _, List.mem_append_right _ (.tail _ (.head _)), List.mem_append_right _ (.tail _ (.tail _ (.head _))), List.mem_append_right _ (.tail _ (.tail _ (.tail _ (.head _))))⟩ off2 off2' ?n1 ?n2 ?n3⟩
      case X => k_extra "M fin3"
      case sub => exact fun p hp => List.mem_append_right _ (.tail _ (.tail _ (.tail _ (.tail _ hp))))
      case n1 => exact neN (by omega)
      case n2 => exact ⟨neN (by omega), neN (by omega), neN (by omega), fun q hq => (AllLt.ne (by first | assumption | grind) q hq).symm⟩
      case n3 => exact ⟨neN (by omega), neN (by omega), neN (by omega), fun q hq => (AllLt.ne (by first | assumption | grind) q hq).symm⟩
    · obtain ⟨g0, g1, r2, c, b, g2, g3, g7, g4, g5⟩ := hf2
      have q2 := g2.lt
      have q3 := tagvar q2 g3 g5
      have q4 := tagnum q2 (n := c / 8) rfl
      have q5 := tagwire q2 g7
      subst r2
      with_reducible refine wpStrip ?_
      dsimp only
      k_fold
      k_steps
      all_goals (k_extra "M out")
      refine' ret _ _ _ _ _ _ _ ([(_, _), (_, _), (_, _), (_, _)] ++ _) ?X ?Y ⟨_, _, _, rfl, List.mem_append_right _ (.head _), efs' ▸ hrow.set mono ?sub ⟨_, _, _, _, List.mem_append_right _ (.tail _ (.head _)), List.mem_append_right _ (.tail _ (.tail _ (.head _))), List.mem_append_right _ (.tail _ (.tail _ (.tail _ (.head _))))⟩ off2 off2' ?n1 ?n2 ?n3⟩
      case X => k_extra "M fin3"
      case Y => grind
      case sub =>
       intro p hp
       simp only [List.mem_append, List.mem_cons, List.not_mem_nil, or_false, false_or]
       have key : ∀ K', Gr K0 K' → p ∈ ([] : Led).append K' := fun K' g => g.1 p hp
       exact .inr (.inr (.inr (.inr (.inr (key _ (by k_extra "M gr"))))))
      case n1 => exact neN (by omega)
      case n2 => exact ⟨neN (by omega), neN (by omega), neN (by omega), fun q hq => (AllLt.ne (by first | assumption | grind) q hq).symm⟩
      case n3 => exact ⟨neN (by omega), neN (by omega), neN (by omega), fun q hq => (AllLt.ne (by first | assumption | grind) q hq).symm⟩
  · obtain ⟨p1', c, f, rest, b, rfl, g0, g1, g2, g3, g4, g5, g6, g7, g8, g9, g10, g11⟩ := hm1
    have q1 : KBy.picked bb.toArray (some p1) (some (p1 + 1)) = _ := g4
    have q2 := g2.lt
    have q6 : vs.length ≤ 100 := by have := hrow.length; have := congrArg List.length efs; simp at this; omega
    have q3 := tagvar q2 g3 g5
    have q4 := tagnum q2 g6
    have q5 := tagwire q2 g7
    with_reducible refine wpStrip ?_
    dsimp only
    k_fold
    k_steps
    rotate_left
    · refine' WhI.next mono dom hrow efs gr2 g11 g10 ?F ?Nq ?TK ?gK ?gc ?off ?off' ?hdl ?hl ?hdx ?hN ?hg ?hx ?m1 ?m2 ?m3 ?m4 ?m5
      case F => k_asm
      case Nq => k_asm
      case TK => k_asm
      case gK => k_extra "M gr"
      case off => k_all
      case off' => k_all
      case hdl => omega
      case hl => omega
      case hdx => omega
      case hN => exact ⟨by omega, by omega, by omega, by first | assumption | grind⟩
      case hg => grind
      case hx => assumption
      case gc => k_extra "M gr"
      case m1 => rfl
      case m2 => rfl
      case m3 => rfl
      case m4 => rfl
      case m5 => rfl
    all_goals first | (simp; done) | skip

theorem c_set {w : World} {kn : Led} {bb : List UInt8} {p e dep p2 : Int} {tb tp te td : Tok} {n u : Nat} {fs : List Fld} {RR : Led → Value → Fld → List Addr → Prop} (hB : bb.length ≤ 100000) (hp : p ≤ 100000) (hl : fs.length ≤ 100) (hS : Seq w bb e dep n u RR p fs p2)
    (mono : ∀ kn kn' x f D, (∀ p ∈ kn, p ∈ kn') → RR kn x f D → RR kn' x f D) (dom : ∀ kn x f D, RR kn x f D → ∀ d ∈ D, ∃ o, (d, o) ∈ kn) :
   Con w (.ref 321) [.bytes bb.toArray tb, .int p tp, .int e te, .int dep td] (n + 100) (u + 1000) kn (fun kn' r => ∃ t a t2, r = .ref t ∧ (t, tupO #[.ref a, .int p2 t2]) ∈ kn' ∧ SetX RR kn kn' a fs) :=
  c_setA set_args4 hB hp hl hS mono dom
end
-- Q1
section
theorem drop_at {bb r : List UInt8} {i : Nat} {b : UInt8} (h : bb.drop i = b :: r) : At bb i ((b.toNat : Nat) : Int) ∧ bb.drop (i + 1) = r ∧ i < bb.length := by
  have hi : i < bb.length := by
    rcases Nat.lt_or_ge i bb.length with x | x
    · exact x
    · rw [List.drop_eq_nil_of_le x] at h; cases h
  rw [List.drop_eq_getElem_cons hi] at h
  obtain ⟨rfl, h2⟩ := List.cons.inj h
  refine ⟨⟨Int.natCast_nonneg _, by omega, ?_⟩, h2, hi⟩
  rw [Int.toNat_natCast, List.getD_eq_getElem?_getD, List.getElem?_eq_getElem hi, Option.getD_some]
theorem drop_pick {bb r ys : List UInt8} {i : Nat} (h : bb.drop i = ys ++ r) : KBy.picked bb.toArray (some (i : Int)) (some ((i : Int) + ys.length)) = ys.toArray ∧ bb.drop (i + ys.length) = r ∧ (i ≤ bb.length → i + ys.length ≤ bb.length) := by
  have hl := congrArg List.length h
  simp only [List.length_drop, List.length_append] at hl
  have h2 : bb.drop (i + ys.length) = r := by rw [← List.drop_drop, h, List.drop_left]
  refine ⟨?_, h2, by omega⟩
  rcases Nat.lt_or_ge bb.length i with x | x
  · have hn : ys = [] := by
      rw [List.drop_eq_nil_of_le (Nat.le_of_lt x)] at h
      exact (List.append_eq_nil_iff.mp h.symm).1
    subst hn
    rw [KBc.picked_eq]
    have := clipAt_nat bb.toArray.size i
    simp only [Option.elim, List.length_nil]
    simp
  · rw [picked_some (Int.natCast_nonneg _) (by omega) (by omega)]
    congr 1
    rw [show ((i : Int) + (ys.length : Int)).toNat - (i : Int).toNat = ys.length by omega, Int.toNat_natCast, h, List.take_left]
theorem u8_at {bb r : List UInt8} {i : Nat} {n : Int} (hn : 0 ≤ n ∧ n < 256) (h : bb.drop i = u8 n :: r) : At bb i n := by
  have := (drop_at h).1
  rwa [u8_n hn] at this
theorem varint_at {bb r : List UInt8} {i : Nat} {v : Int} (hv : 0 ≤ v ∧ v < 70000) (h : bb.drop i = varint v ++ r) : VarAt bb i v (varint v).length := by
  refine ⟨hv.1, ?_⟩
  unfold varint at h ⊢
  by_cases h1 : v < 128
  · rw [if_pos h1] at h ⊢
    exact .inl ⟨h1, u8_at (by omega) h, rfl⟩
  · rw [if_neg h1] at h ⊢
    by_cases h2 : v < 16384
    · rw [if_pos h2] at h ⊢
      refine .inr (.inl ⟨by omega, h2, u8_at (by omega) h, ?_, rfl⟩)
      exact u8_at (i := i + 1) (by omega) (drop_at h).2.1
    · rw [if_neg h2] at h ⊢
      refine .inr (.inr ⟨by omega, by omega, u8_at (by omega) h, ?_, ?_, rfl⟩)
      · exact u8_at (i := i + 1) (by omega) (drop_at h).2.1
      · exact u8_at (i := i + 1 + 1) (by omega) (drop_at (drop_at h).2.1).2.1
section
variable {w : World} {bb : List UInt8}
noncomputable def nK (k : Nat) : Nat := 60 + 200 * k
noncomputable def uK (k : Nat) : Nat := 600 + 2000 * k
noncomputable def DR (k : Nat) (kn : Led) (x : Value) (f : Fld) (D : List Addr) : Prop := DataD kn k x f D
noncomputable def PF (w : World) (bb : List UInt8) (k : Nat) : Prop := ∀ (f : Fld) (bs r : List UInt8) (i : Nat) (d : Int), EncR k f bs → bb.drop i = bs ++ r → i ≤ bb.length → d + k ≤ 40 →
  ∃ c b, 0 ≤ (i : Int) ∧ (i : Int) < bb.length ∧ At bb i c ∧ c < 128 ∧ KBy.picked bb.toArray (some (i : Int)) (some ((i : Int) + 1)) = [b].toArray ∧ ((b.toNat : Nat) : Int) = c ∧ c / 8 = f.num ∧ c % 8 = f.wire ∧ f.wire ≠ 4 ∧
      FieldC w bb ((i : Int) + 1) bb.length f.num f.wire d (i + bs.length) (nK k) (uK k) (fun kn kn' x => NewD (DR k) kn kn' x f)
theorem seq_of {k : Nat} (hB : bb.length ≤ 100000) (pf : PF w bb k) {d p2 : Int} (hd : d + k ≤ 40) : ∀ (fs : List Fld) (parts : List (List UInt8)) (r : List UInt8) (i : Nat), All2 (EncR k) fs parts → bb.drop i = parts.flatten ++ r → i ≤ bb.length → FinAt bb bb.length (i + parts.flatten.length) p2 →
    Seq w bb bb.length d (nK k) (uK k) (DR k) i fs p2
  | _, _, _, i, .nil, _, _, hf => .done (by simpa using hf)
  | f :: fs, b :: parts, r, i, .cons e es, h, hi, hf => by
    have h' : bb.drop i = b ++ (parts.flatten ++ r) := by rw [h]; simp
    obtain ⟨c, b', h1, h2, h3, h4, h5, h6, h7, h8, h9, h10⟩ := pf f b _ i d e h' hi hd
    have hp := drop_pick h'
    have := seq_of hB pf hd fs parts r (i + b.length) es hp.2.1 (hp.2.2 hi) (by
      have : ((i + b.length : Nat) : Int) + (parts.flatten.length : Nat) = i + ((b :: parts).flatten.length : Nat) := by simp; omega
      rw [this]; exact hf)
    exact .more h1 h2 h3 h4 h5 h6 h7 h8 h9 h10 (by have := hp.2.2 hi; omega) (by push_cast at this; exact this)
theorem DR_int {k : Nat} {k0 kn : Led} {n w v : Int} {x : Value} (h : w ≠ 3) (e : ∃ t, x = .int v t) : NewD (DR k) k0 kn x (.int n w v) := by
  refine ⟨[], ?_, List.nodup_nil, fun _ h => (nomatch h)⟩
  unfold DR
  cases k <;> (unfold DataD; exact ⟨rfl, h, e⟩)
theorem DR_byt {k : Nat} {k0 kn : Led} {n : Int} {b : List UInt8} {x : Value} (e : ∃ t, x = .bytes b.toArray t) : NewD (DR k) k0 kn x (.byt n b) := by
  refine ⟨[], ?_, List.nodup_nil, fun _ h => (nomatch h)⟩
  unfold DR
  cases k <;> (unfold DataD; exact ⟨rfl, e⟩)
theorem DR.mono {k : Nat} {kn kn' : Led} {x : Value} {f : Fld} {D : List Addr} (h : ∀ p ∈ kn, p ∈ kn') (a : DR k kn x f D) : DR k kn' x f D := DataD.mono h a
theorem DR.dom {k : Nat} {kn : Led} {x : Value} {f : Fld} {D : List Addr} (a : DR k kn x f D) : ∀ d ∈ D, ∃ o, (d, o) ∈ kn := DataD.dom a
theorem EncR_int {k : Nat} {n w v : Int} {bs : List UInt8} (h : EncR k (.int n w v) bs) : 1 ≤ n ∧ n ≤ 6 ∧ ((w = 0 ∧ 0 ≤ v ∧ v < 70000 ∧ bs = u8 (8 * n) :: varint v) ∨ (∃ ys, w = 1 ∧ ys.length = 8 ∧ v = leI ys ∧ bs = u8 (8 * n + 1) :: ys) ∨ (∃ ys, w = 5 ∧ ys.length = 4 ∧ v = leI ys ∧ bs = u8 (8 * n + 5) :: ys)) := by
  cases k <;> (unfold EncR at h; exact h)
theorem EncR_byt {k : Nat} {n : Int} {b bs : List UInt8} (h : EncR k (.byt n b) bs) : 1 ≤ n ∧ n ≤ 6 ∧ b.length ≤ 3 ∧ bs = u8 (8 * n + 2) :: u8 b.length :: b := by
  cases k <;> (unfold EncR at h; exact h)
theorem tag_at {r : List UInt8} {i : Nat} {n w : Int} (hn : 1 ≤ n ∧ n ≤ 6) (hw : 0 ≤ w ∧ w < 8) (h : bb.drop i = u8 (8 * n + w) :: r) :
    0 ≤ (i : Int) ∧ (i : Int) < bb.length ∧ At bb i (8 * n + w) ∧ 8 * n + w < 128 ∧ KBy.picked bb.toArray (some (i : Int)) (some ((i : Int) + 1)) = [u8 (8 * n + w)].toArray ∧ (((u8 (8 * n + w)).toNat : Nat) : Int) = 8 * n + w ∧ (8 * n + w) / 8 = n ∧ (8 * n + w) % 8 = w := by
  have h1 := drop_at h
  have h2 := (drop_pick (ys := [u8 (8 * n + w)]) (by rw [h]; rfl)).1
  exact ⟨Int.natCast_nonneg _, by omega, u8_at (by omega) h, by omega, h2, u8_n (by omega), by omega, by omega⟩
theorem and_put8 {a b c d e f g h x : Prop} (p : a ∧ b ∧ c ∧ d ∧ e ∧ f ∧ g ∧ h) (q : x) : a ∧ b ∧ c ∧ d ∧ e ∧ f ∧ g ∧ h ∧ x :=
  ⟨p.1, p.2.1, p.2.2.1, p.2.2.2.1, p.2.2.2.2.1, p.2.2.2.2.2.1, p.2.2.2.2.2.2.1, p.2.2.2.2.2.2.2, q⟩
theorem pf_leaf (hB : bb.length ≤ 100000) {k : Nat} {f : Fld} (hf : ∀ n fs, f ≠ .grp n fs) {bs r : List UInt8} {i : Nat} {d : Int} (he : EncR k f bs) (h : bb.drop i = bs ++ r) (hi : i ≤ bb.length) :
  ∃ c b, 0 ≤ (i : Int) ∧ (i : Int) < bb.length ∧ At bb i c ∧ c < 128 ∧ KBy.picked bb.toArray (some (i : Int)) (some ((i : Int) + 1)) = [b].toArray ∧ ((b.toNat : Nat) : Int) = c ∧ c / 8 = f.num ∧ c % 8 = f.wire ∧ f.wire ≠ 4 ∧
      FieldC w bb ((i : Int) + 1) bb.length f.num f.wire d (i + bs.length) (nK k) (uK k) (fun kn kn' x => NewD (DR k) kn kn' x f) := by
  have hlen := drop_pick h
  have hle := hlen.2.2 hi
  have up : ∀ {f args kn P}, Con w f args 60 600 kn P → Con w f args (nK k) (uK k) kn P := fun x => x.le (by unfold nK; omega) (by unfold uK; omega)
  match f, hf, he with
  | .grp n fs, hf, _ => exact absurd rfl (hf n fs)
  | .int n wr v, _, he =>
    obtain ⟨n1, n2, ⟨rfl, v1, v2, rfl⟩ | ⟨ys, rfl, hy, rfl, rfl⟩ | ⟨ys, rfl, hy, rfl, rfl⟩⟩ := EncR_int he
    · have ta := tag_at (bb := bb) (n := n) (w := 0) ⟨n1, n2⟩ (by omega) (by rw [Int.add_zero]; exact h)
      refine ⟨_, _, and_put8 ta ⟨by show (0 : Int) ≠ 4; omega, ?_⟩⟩
      replace ta := ta.2.1
      have hv := varint_at (i := i + 1) ⟨v1, v2⟩ ((drop_at h).2.1)
      intro kn tb tp te tn tw td
      have c := c_f0 (w := w) (kn := kn) (bb := bb) (p := (i : Int) + 1) (e := bb.length) (v := v) (k := (varint v).length) (num := n) (dep := d) (tb := tb) (tp := tp) (te := te) (tn := tn) (tw := tw) (td := td) hB (by push_cast at hv; exact hv) (by omega) (by simp at hle; omega)
      refine up (c.imp ?_)
      rintro kk rr ⟨t, t1, t2, rfl, hm⟩
      refine ⟨t, _, t2, rfl, ?_, rfl, DR_int (by omega) ⟨t1, rfl⟩⟩
      rw [show (i : Int) + ((u8 (8 * n) :: varint v).length : Nat) = (i : Int) + 1 + (varint v).length by simp; omega]
      exact hm
    · have ta := tag_at (bb := bb) (n := n) (w := 1) ⟨n1, n2⟩ (by omega) h
      refine ⟨_, _, and_put8 ta ⟨by show (1 : Int) ≠ 4; omega, ?_⟩⟩
      replace ta := ta.2.1
      have hs := (drop_pick (i := i + 1) (drop_at h).2.1).1
      intro kn tb tp te tn tw td
      have c := c_f1 (w := w) (kn := kn) (bb := bb) (ys := ys) (p := (i : Int) + 1) (e := bb.length) (v := 0) (k := 0) (num := n) (dep := d) (tb := tb) (tp := tp) (te := te) (tn := tn) (tw := tw) (td := td) hB (by omega) (by rw [hy] at hs; push_cast at hs; exact hs) hy (by simp at hle; omega) (by omega)
      refine up (c.imp ?_)
      rintro kk rr ⟨t, t1, t2, rfl, hm⟩
      refine ⟨t, _, t2, rfl, ?_, rfl, DR_int (by omega) ⟨t1, rfl⟩⟩
      rw [show (i : Int) + ((u8 (8 * n + 1) :: ys).length : Nat) = (i : Int) + 1 + 8 by simp [hy]; omega]
      exact hm
    · have ta := tag_at (bb := bb) (n := n) (w := 5) ⟨n1, n2⟩ (by omega) h
      refine ⟨_, _, and_put8 ta ⟨by show (5 : Int) ≠ 4; omega, ?_⟩⟩
      replace ta := ta.2.1
      have hs := (drop_pick (i := i + 1) (drop_at h).2.1).1
      intro kn tb tp te tn tw td
      have c := c_f5 (w := w) (kn := kn) (bb := bb) (ys := ys) (p := (i : Int) + 1) (e := bb.length) (v := 0) (k := 0) (num := n) (dep := d) (tb := tb) (tp := tp) (te := te) (tn := tn) (tw := tw) (td := td) hB (by omega) (by rw [hy] at hs; push_cast at hs; exact hs) hy (by simp at hle; omega) (by omega)
      refine up (c.imp ?_)
      rintro kk rr ⟨t, t1, t2, rfl, hm⟩
      refine ⟨t, _, t2, rfl, ?_, rfl, DR_int (by omega) ⟨t1, rfl⟩⟩
      rw [show (i : Int) + ((u8 (8 * n + 5) :: ys).length : Nat) = (i : Int) + 1 + 4 by simp [hy]; omega]
      exact hm
  | .byt n y, _, he =>
    obtain ⟨n1, n2, hy, rfl⟩ := EncR_byt he
    have ta := tag_at (bb := bb) (n := n) (w := 2) ⟨n1, n2⟩ (by omega) h
    refine ⟨_, _, and_put8 ta ⟨by show (2 : Int) ≠ 4; omega, ?_⟩⟩
    replace ta := ta.2.1
    have hv : VarAt bb ((i : Int) + 1) y.length 1 := ⟨Int.natCast_nonneg _, .inl ⟨by omega, by have := u8_at (i := i + 1) (n := y.length) (by omega) (drop_at h).2.1; push_cast at this; exact this, rfl⟩⟩
    have hs := (drop_pick (i := i + 1 + 1) (drop_at (drop_at h).2.1).2.1).1
    intro kn tb tp te tn tw td
    have c := c_f2 (w := w) (kn := kn) (bb := bb) (ys := y) (p := (i : Int) + 1) (e := bb.length) (v := y.length) (k := 1) (num := n) (dep := d) (tb := tb) (tp := tp) (te := te) (tn := tn) (tw := tw) (td := td) hB (by omega) hv (by push_cast at hs; exact hs) (by simp at hle; omega) (by omega)
    refine up (c.imp ?_)
    rintro kk rr ⟨t, t1, t2, rfl, hm⟩
    refine ⟨t, _, t2, rfl, ?_, rfl, DR_byt ⟨t1, rfl⟩⟩
    rw [show (i : Int) + ((u8 (8 * n + 2) :: u8 y.length :: y).length : Nat) = (i : Int) + 1 + 1 + y.length by simp; omega]
    exact hm
end
end
-- Q2
section
section
variable {w : World} {bb : List UInt8}
theorem pf_grp : ∀ {w : World} {bb : List UInt8} (hB : bb.length ≤ 100000) {k : Nat} (pf : PF w bb k) {n : Int} {fs : List Fld} {bs r : List UInt8} {i : Nat} {d : Int} (he : EncR (k + 1) (.grp n fs) bs) (h : bb.drop i = bs ++ r) (hi : i ≤ bb.length) (hd : d + (k + 1 : Nat) ≤ 40),
  ∃ c b, 0 ≤ (i : Int) ∧ (i : Int) < bb.length ∧ At bb i c ∧ c < 128 ∧ KBy.picked bb.toArray (some (i : Int)) (some ((i : Int) + 1)) = [b].toArray ∧ ((b.toNat : Nat) : Int) = c ∧ c / 8 = (Fld.grp n fs).num ∧ c % 8 = (Fld.grp n fs).wire ∧ (Fld.grp n fs).wire ≠ 4 ∧
      FieldC w bb ((i : Int) + 1) bb.length (Fld.grp n fs).num (Fld.grp n fs).wire d (i + bs.length) (nK (k + 1)) (uK (k + 1)) (fun kn kn' x => NewD (DR (k + 1)) kn kn' x (.grp n fs)) := by
  have hon : HKon := trivial
  intro w bb hB k pf n fs bs r i d he h hi hd
  have hlen := drop_pick h
  have hle := hlen.2.2 hi
  unfold EncR at he
  obtain ⟨n1, n2, hl, parts, hps, rfl⟩ := he
  obtain ⟨a1, a2, a3, a4, a5, a6, a7, a8⟩ := tag_at (bb := bb) (n := n) (w := 3) ⟨n1, n2⟩ (by omega) h
  refine ⟨_, _, a1, a2, a3, a4, a5, a6, a7, a8, by show (3 : Int) ≠ 4; omega, ?_⟩
  have hb : bb.drop (i + 1) = parts.flatten ++ (u8 (8 * n + 4) :: r) := by
    have := (drop_at h).2.1
    rw [this]; simp
  have hlt := (drop_at h).2.2
  have hpk := drop_pick hb
  have hend := hpk.2.1
  obtain ⟨e1, e2, e3, e4, e5, e6, e7, e8⟩ := tag_at (bb := bb) (n := n) (w := 4) ⟨n1, n2⟩ (by omega) hend
  have hseq := seq_of hB pf (d := d + 1) (p2 := ((i + 1 + parts.flatten.length : Nat) : Int) + 1) (by omega) fs parts _ (i + 1) hps hb (by omega)
    (.inr ⟨by omega, by push_cast at e2; omega, by push_cast; omega, 8 * n + 4, _, by push_cast at e3 ⊢; exact e3, e4, e8, by push_cast at e5 ⊢; exact e5, e6⟩)
  have hC : SetC w bb ((i : Int) + 1) bb.length (d + 1) (((i + 1 + parts.flatten.length : Nat) : Int) + 1) (nK k + 100) (uK k + 1000) (fun k0 kn a => SetX (DR k) k0 kn a fs) := by
    intro kn tb tp te td
    push_cast at hseq
    have := c_set (w := w) (kn := kn) (bb := bb) (p := (i : Int) + 1) (e := bb.length) (dep := d + 1) (p2 := ((i : Int) + 1 + (parts.flatten.length : Nat)) + 1) (tb := tb) (tp := tp) (te := te) (td := td) hB (by omega) (by omega) hseq (fun _ _ _ _ _ hs hx => hx.mono hs) (fun _ _ _ _ hx => hx.dom)
    push_cast
    exact this
  intro kn tb tp te tn tw td
  have c := c_f3 (w := w) (kn := kn) (bb := bb) (p := (i : Int) + 1) (e := bb.length) (num := n) (dep := d) (p2 := ((i + 1 + parts.flatten.length : Nat) : Int) + 1) (tb := tb) (tp := tp) (te := te) (tn := tn) (tw := tw) (td := td) hB ⟨n1, n2⟩ (by omega) hC
    (fun _ _ _ _ hs ⟨du, l, vs, D, x, y, nd, fr⟩ => ⟨du, l, vs, D, x.mono hs, y.imp fun _ _ _ ⟨a, x, e, ft, r⟩ => ⟨a, x, e, ft.mono hs, r.mono hs⟩, nd, fr⟩) (fun _ _ _ _ hs ⟨du, l, vs, D, x, y, nd, fr⟩ => ⟨du, l, vs, D, x, y, nd, fun d hd => (fr d hd).anti hs⟩)
    (by rw [show ((i + 1 + parts.flatten.length : Nat) : Int) + 1 - 1 = ((i + 1 + parts.flatten.length : Nat) : Int) by omega]; exact e5) (by push_cast at e2 ⊢; omega)
  refine (c.le (by unfold nK; omega) (by unfold uK; omega)).imp ?_
  rintro kk rr ⟨t, a, t2, rfl, hm, du, l, vs, D, hst, hrow, nd, fr⟩
  refine ⟨t, .ref a, t2, rfl, ?_, rfl, du :: l :: D, ?_, nd, fr⟩
  · rw [show (i : Int) + ((u8 (8 * n + 3) :: (parts.flatten ++ [u8 (8 * n + 4)])).length : Nat) = ((i + 1 + parts.flatten.length : Nat) : Int) + 1 by simp; omega]
    exact hm
  · unfold DR DataD
    exact ⟨hl, a, du, l, vs, D, rfl, hst, rfl, hrow⟩
theorem pf_all (hB : bb.length ≤ 100000) : ∀ k, PF w bb k
  | 0 => fun f bs r i d he h hi hd => by
    match f, he with
    | .grp n fs, he => unfold EncR at he; exact he.elim
    | .int n wr v, he => exact pf_leaf hB (fun _ _ q => by cases q) he h hi
    | .byt n y, he => exact pf_leaf hB (fun _ _ q => by cases q) he h hi
  | k + 1 => fun f bs r i d he h hi hd => by
    match f, he with
    | .grp n fs, he => exact pf_grp hB (pf_all hB k) he h hi hd
    | .int n wr v, he => exact pf_leaf hB (fun _ _ q => by cases q) he h hi
    | .byt n y, he => exact pf_leaf hB (fun _ _ q => by cases q) he h hi
theorem c_read3 {k : Nat} {fs : List Fld} {kn : Led} {tb tp te : Tok} (hB : bb.length ≤ 100000) (he : EncsR k fs bb) (hl : fs.length ≤ 8) (hk : k ≤ 3) :
    Con w (.ref 321) [.bytes bb.toArray tb, .int 0 tp, .int bb.length te] (nK k + 100) (uK k + 1000) kn (fun kn' r => ∃ t a t2, r = .ref t ∧ (t, tupO #[.ref a, .int bb.length t2]) ∈ kn' ∧ SetN kn kn' k a fs) := by
  obtain ⟨parts, hps, rfl⟩ := he
  have hseq := seq_of (w := w) hB (pf_all hB k) (d := 0) (p2 := (parts.flatten.length : Nat)) (by omega) fs parts [] 0 hps (by simp) (by omega) (.inl ⟨by simp, rfl⟩)
  obtain ⟨td, ha⟩ := set_args3 (w := w) (bb := parts.flatten) (p := 0) (e := parts.flatten.length) (tb := tb) (tp := tp) (te := te)
  have := c_setA (w := w) (kn := kn) ha hB (by omega) (by omega) hseq (fun _ _ _ _ _ hs hx => hx.mono hs) (fun _ _ _ _ hx => hx.dom)
  refine this.imp ?_
  rintro kk rr ⟨t, a, t2, e, hm, du, l, vs, D, hst, hrow, nd, fr⟩
  exact ⟨t, a, t2, e, hm, du :: l :: D, ⟨du, l, vs, D, hst, rfl, hrow⟩, nd, fr⟩
theorem enc_len : ∀ {k : Nat} {f : Fld} {bs : List UInt8}, k ≤ 2 → EncR k f bs → bs.length ≤ 9 + 24 * k + 20 * k * k
  | k, .int n w v, bs, _, h => by
    obtain ⟨n1, n2, ⟨rfl, v1, v2, rfl⟩ | ⟨ys, rfl, hy, rfl, rfl⟩ | ⟨ys, rfl, hy, rfl, rfl⟩⟩ := EncR_int h
    · unfold varint; split
      · simp; omega
      · split <;> (simp; omega)
    · simp [hy]; omega
    · simp [hy]; omega
  | k, .byt n b, bs, _, h => by
    obtain ⟨n1, n2, hy, rfl⟩ := EncR_byt h
    simp; omega
  | 0, .grp n fs, bs, _, h => by unfold EncR at h; exact h.elim
  | k + 1, .grp n fs, bs, hk, h => by
    unfold EncR at h
    obtain ⟨n1, n2, hl, parts, hps, rfl⟩ := h
    have key : ∀ {fs : List Fld} {parts : List (List UInt8)}, All2 (EncR k) fs parts → parts.flatten.length ≤ fs.length * (9 + 24 * k + 20 * k * k) := by
      intro fs parts hp
      induction hp with
      | nil => simp
      | cons e _ ih =>
        have := enc_len (by omega : k ≤ 2) e
        simp only [List.flatten_cons, List.length_append, List.length_cons, Nat.add_mul, Nat.one_mul] at ih ⊢
        omega
    have h1 := key hps
    have h2 : fs.length * (9 + 24 * k + 20 * k * k) ≤ 2 * (9 + 24 * k + 20 * k * k) := Nat.mul_le_mul_right _ hl
    have : k = 0 ∨ k = 1 := by omega
    simp only [List.length_cons, List.length_append, List.length_nil]
    rcases this with rfl | rfl <;> omega
theorem encs_len {k : Nat} (hk : k ≤ 2) {fs : List Fld} {parts : List (List UInt8)} (h : All2 (EncR k) fs parts) : parts.flatten.length ≤ fs.length * 200 := by
  induction h with
  | nil => simp
  | cons e _ ih =>
    have := enc_len hk e
    have h3 : k = 0 ∨ k = 1 ∨ k = 2 := by omega
    simp only [List.flatten_cons, List.length_append, List.length_cons]
    rcases h3 with rfl | rfl | rfl <;> omega
end
end
-- L0
section
section
variable {M : Model} {prog : Program} {w : World} {A : Around} {E : Value → Shared → Prop} {s : Shared} {env : Env}
theorem eval_LC {elt target iter : Expr} {ifs : List Expr} {scope : Scope} {cl : List (Str × Addr)} {pos : Pos} {Q : Value → Shared → Prop}
    (hclos : closureFor scope env = pure cl) (hkind : scope.kind = .function) (hnames : ∀ x ∈ scope.names, x.2 = .local → scope.names.lookup x.1 = some .local) (hs : ∀ x, foldedSetIterable iter env x = pure x)
    (h : wpAny M A (eval iter env) (fun x s₁ => HoldW (wpAny M A (pyIter x) (fun it s₂ => wpAny M A (newList []) (fun acc s₃ =>
      wpAny M A (newFunctionEnv scope env.globals cl [] env.qual none .none (some env)) (fun cenv s₄ =>
        codeAny M A (.compStart (.ListComp elt [⟨target, iter, ifs, 0⟩] scope pos) 0 it acc { cenv with scope := relabel scope env }) (compPost M A E none Q acc cenv.locals) s₄) E s₃) E s₂) E s₁)) E s) :
    wpAny M A (eval (.ListComp elt [⟨target, iter, ifs, 0⟩] scope pos) env) Q E s := by
  rw [eval_ListComp]
  exact wpAny_comprehension_free (use := none) rfl hs hclos hkind hnames (wpAny_mono h (fun x s₁ h₁ => h₁.h) fun _ _ e => e)
theorem exec_LC {y : Str} {py spos : Pos} {elt target iter : Expr} {ifs : List Expr} {scope : Scope} {cl : List (Str × Addr)} {pos : Pos} {Q : Flow → Shared → Prop}
    (hsw : swapsWith (.ListComp elt [⟨target, iter, ifs, 0⟩] scope pos) (some (.Name y py)) spos.line env = pure true)
    (hclos : closureFor scope env = pure cl) (hkind : scope.kind = .function) (hnames : ∀ x ∈ scope.names, x.2 = .local → scope.names.lookup x.1 = some .local) (hs : ∀ x, foldedSetIterable iter env x = pure x)
    (h : wpAny M A (eval iter env) (fun x s₁ => HoldW (wpAny M A (pyIter x) (fun it s₂ => wpAny M A (newList []) (fun acc s₃ =>
      wpAny M A (newFunctionEnv scope env.globals cl [] env.qual none .none (some env)) (fun cenv s₄ =>
        codeAny M A (.compStart (.ListComp elt [⟨target, iter, ifs, 0⟩] scope pos) 0 it acc { cenv with scope := relabel scope env }) (compPost M A E (some (assign (.Name y py) env)) (fun _ s' => Q .next s') acc cenv.locals) s₄) E s₃) E s₂) E s₁)) E s) :
    wpAny M A (exec (.Assign [.Name y py] (.ListComp elt [⟨target, iter, ifs, 0⟩] scope pos) spos) env) Q E s := by
  rw [exec_Assign_Name_used _ _ _ _ hsw]
  refine wpAny_bind (wpAny_standAt (wpAny_bind ?_))
  show wpAny _ A (do let _ ← comprehension (.ListComp elt [⟨target, iter, ifs, 0⟩] scope pos) scope env _ (newList []) false (eval iter env) (some (assign (.Name y py) env))) _ _ s
  refine wpAny_bind (wpAny_mono (wpAny_comprehension_free (use := some (assign (.Name y py) env)) (Q := fun _ s' => Q .next s') rfl hs hclos hkind hnames
    (wpAny_mono h (fun x s₁ h₁ => h₁.h) fun _ _ e => e)) (fun _ s' hq => wpAny_pure (wpAny_pure hq)) fun _ _ e => e)
end
theorem kwL00 : True := by
  (k_with "eval ListComp" => (k_here; k_dflt (refine' eval_LC ?azL00 ?bzL00 ?czL00 ?dzL00 ?_; (case azL00 => exact rfl); (case bzL00 => exact rfl); (case czL00 => decide); (case dzL00 => (intro _; exact rfl)))))
  (k_with "call builtin:bytes.join" => (k_here; (with_reducible show wpAny _ _ (call (Value.builtin "bytes.join") [Value.bytes _ _, Value.ref _]) _ _ _); k_dflt ((refine' BJ.join ?m0zL01 ?m1zL01 ?m2zL01 ?_); (case m0zL01 => k_asm); (case m1zL01 => k_mem); (case m2zL01 => assumption)); intro _ _))
  trivial
theorem Gr.consD {t1 t2 t3 : Array Value} {K : Led} {p : Addr × Obj} (TK : TabOk t1 t2 t3 (p :: K)) (off : ∀ q ∈ K, q.1 ≠ p.1) : Gr K (p :: K) :=
  ⟨fun _ h => List.mem_cons_of_mem _ h, fun q hq => (List.mem_cons.mp hq).elim (fun e => .inr (by
    subst e
    have := TK.d q (.head _)
    exact ⟨this.1, this.2.1, this.2.2, fun r hr => (off r hr).symm⟩)) .inl⟩
theorem kwL01 : True := by
  (k_with "M pairs1" => (
  (refine' comp_pairs (RR := fun acc C => compPost (model prg _) _ _ _ _ acc C) Prod.fst (Or.inl ⟨rfl, rfl, ?pqzL02⟩) ?hhzL02 ?FzL02 ?NzL02 ?TKzL02 ?hmzL02 ?hlenzL02 ?hpzL02 ?hcellzL02 ?hkindzL02 ?hxzL02 ?hyzL02 ?hdzL02 ?hRR); (case pqzL02 => decide); (case hhzL02 => exact rfl); (case FzL02 => k_asm); (case TKzL02 => k_asm); (case NzL02 => k_asm); (case hmzL02 => k_mem); (case hlenzL02 => omega); (case hpzL02 => assumption); (case hcellzL02 => decide); (case hkindzL02 => exact rfl); (case hxzL02 => exact rfl); (case hyzL02 => exact rfl); (case hdzL02 => decide)))
  (k_with "M pairs2" => (
  (refine' comp_pairs (RR := fun acc C => compPost (model prg _) _ _ _ _ acc C) Prod.snd (Or.inr ⟨rfl, rfl⟩) ?hhzL03 ?FzL03 ?NzL03 ?TKzL03 ?hmzL03 ?hlenzL03 ?hpzL03 ?hcellzL03 ?hkindzL03 ?hxzL03 ?hyzL03 ?hdzL03 ?hRR); (case hhzL03 => exact rfl); (case FzL03 => k_asm); (case TKzL03 => k_asm); (case NzL03 => k_asm); (case hmzL03 => k_mem); (case hlenzL03 => omega); (case hpzL03 => assumption); (case hcellzL03 => decide); (case hkindzL03 => exact rfl); (case hxzL03 => exact rfl); (case hyzL03 => exact rfl); (case hdzL03 => decide)))
  (k_with "call ref" => (k_here; k_dflt (show wpAny _ _ (call (Value.ref 321) [Value.bytes _ _, Value.int _ _, Value.int _ _]) _ _ _); k_dflt (refine' use_con3 (c_read3 ?hBzL04 ?hezL04 ?hlzL04 ?hkzL04) ?B ?F ?X ?Nq ?T ?C1 ?C2 ?C3 ?TK ?hO ?hA ?hf ?hke ?hh ?hd ?hu ?_; (case hezL04 => assumption); (case hBzL04 => assumption); (case hlzL04 => omega); (case hkzL04 => omega); k_extra "M std2"); intro r'w h'w tk'w gs'w t1'w t2'w t3'w kn'w F'w N'w gr'w ne'w TK'w hg'w p'w; obtain ⟨_, _, _, e'w, m'w, s'w⟩ := p'w; subst e'w; (try dsimp only at N'w); k_extra "M after"))
  trivial
set_option maxHeartbeats 4000000 in
theorem c_lset : ∀ {w : World} {kn : Led} {k : Nat} {fs : List Fld} {l : Addr} {vs : List Value} {ps : List (Value × Value)} {xs : List (List UInt8 × Tok)} {nn : Nat} (hk : k ≤ 2) (hm : (l, W.listOf vs.toArray nn) ∈ kn) (hps : PairsR kn vs ps) (hx : ps.map Prod.fst = xs.map BJ.val) (he : All2 (EncR k) fs (xs.map (·.1))) (hl : fs.length ≤ 8),
   Con w (.ref 358) [.ref l] (nK k + 110) (uK k + 3000) kn (fun kn' r => ∃ a, r = .ref a ∧ SetN kn kn' k a fs) := by
  have hon : HKon := trivial
  intro w kn k fs l vs ps xs nn hk hm hps hx he hl
  refine Con.openG (hkO (no_implicit_lambda% ((?hopq : HTO _) _ _ _ _ _ _ _ _ _ _ _ _ _ _ _)))
  intros s dp un gd t1 t2 t3 base g outs loose mean mg mb Z
  refine ConG.mk ?_
  intro R ret hd hu
  k_extra "M body"
  intro L h₁ hL F N B X T C1 C2 C3 TK l1 l2 l3 l4
  try dsimp only
  try k_fold
  k_steps
  have hvl : vs.length ≤ 1000 := by
    have h1 := hps.length
    have h2 := congrArg List.length hx
    have h3 := he.length
    simp at h2 h3; omega
  refine HoldW.mk ?_
  k_extra "M pairs1"
  case hRR =>
    intro I C D h1 tk gs m' k1 u1 u2 u3 S hg hn hd' a b c d e f
    rw [hx] at hd'
    refine post_none S hn hd' a b c d e f ?_
    intro h2 F2 N2 TK2 off2
    replace N2 : News g L h2 ((266, tabObj u1) :: (280, tabObj u2) :: (159, tabObj u3) :: (D, W.listOf (xs.map BJ.val).toArray k1) :: kn) := N2
    have grD := Gr.consD TK2 off2
    clear S hn hd'
    have hB : ((xs.map (·.1)).flatten).length ≤ 100000 := by have := encs_len hk he; omega
    have hE : EncsR k fs ((xs.map (·.1)).flatten) := ⟨_, he, rfl⟩
    k_steps
    all_goals (k_extra "M out")
    · rename SetN _ _ _ _ _ => hS
      refine' ret _ _ _ _ _ _ _ ([] ++ _) ?X ?Y ⟨_, rfl, (hS.mono fun _ h => List.mem_append_right _ (List.mem_append_right _ h)).anti ?AN⟩
      case AN => exact Gr.sub' (by k_extra "M gr")
      case X => k_extra "M fin3"
      case Y => grind
    · exact absurd rfl (by assumption)
end
-- M0
section
section
variable {prog : Program} {w : World} {A : Around} {E : Value → Shared → Prop} {s : Shared} {a b c n : Int} {t u : Tok} {Q : Value → Shared → Prop}
theorem mod_e (e : a.fmod b = c ∧ b ≠ 0) (h : Q (.int c s.toks) { s with toks := s.toks + 1 }) : wpAny (model prog w) A (binaryOp .Mod (.int a t) (.int b u)) Q E s := mod_int' e.2 (by rw [e.1]; exact h)
theorem fdiv_e (e : a.fdiv b = c ∧ b ≠ 0 ∧ b.natAbs < 1073741824) (h : Q (.int c s.toks) { s with toks := s.toks + 1 }) : wpAny (model prog w) A (binaryOp .FloorDiv (.int a t) (.int b u)) Q E s := floordiv_int e.2.1 (by rw [e.1]; exact h) (Or.inl (PyProof.noPylong_small e.2.2))
end
theorem kwM00 : True := by
  (k_with "binaryOp Mod int int" => (k_here; (with_reducible refine' mod_e ?ezM00 ?_); (case ezM00 => assumption)))
  (k_with "binaryOp FloorDiv int int" => (k_here; (with_reducible refine' fdiv_e ?ezM01 ?_); (case ezM01 => assumption)))
  (k_with "exec While Compare" => (k_here; (with_reducible show wpAny _ _ (exec (Stmt.While _ _ _ _) _) _ _ _); k_dflt (refine whl_start 100 ?_)))
  trivial
theorem fm (a b : Int) (hb : 0 < b) : ∃ c, (a.fmod b = c ∧ b ≠ 0) ∧ 0 ≤ c ∧ c < b := ⟨_, ⟨rfl, by omega⟩, Int.fmod_nonneg_of_pos _ hb, Int.fmod_lt_of_pos _ hb⟩
theorem fd (a b : Int) (ha : 0 ≤ a) (hb : 0 < b) (h : b < 1073741824) : ∃ c, (a.fdiv b = c ∧ b ≠ 0 ∧ b.natAbs < 1073741824) ∧ 0 ≤ c := ⟨_, ⟨rfl, by omega, by omega⟩, Int.fdiv_nonneg ha (by omega)⟩
theorem fm_e {a b : Int} (ha : 0 ≤ a) (hb : 0 < b) : a.fmod b = a % b ∧ b ≠ 0 := ⟨Int.fmod_eq_emod_of_nonneg _ (by omega), by omega⟩
theorem fd_e {a b : Int} (hb : 0 < b) (h : b < 1073741824) : a.fdiv b = a / b ∧ b ≠ 0 ∧ b.natAbs < 1073741824 := ⟨Int.fdiv_eq_ediv_of_nonneg _ (by omega), by omega, by omega⟩
set_option maxHeartbeats 4000000 in
theorem c_vi1 : ∀ {w : World} {kn : Led} {v : Int} {tv : Tok} (hv : 0 ≤ v ∧ v < 128),
   Con w (.ref 336) [.int v tv] 60 600 kn (fun kn' r => ∃ t, r = .bytes [u8 v].toArray t) := by
  have hon : HKon := trivial
  intro w kn v tv hv
  refine Con.openG (hkO (no_implicit_lambda% ((?hopq : HTO _) _ _ _ _ _ _ _ _ _ _ _ _ _ _ _)))
  intros s dp un gd t1 t2 t3 base g outs loose mean mg mb Z
  refine ConG.mk ?_
  intro R ret hd hu
  k_extra "M body"
  intro L h₁ hL F N B X T C1 C2 C3 TK l1 l2 l3 l4
  try dsimp only
  try k_fold
  k_steps
  all_goals (k_extra "M out")
  refine' ret _ _ _ _ _ _ _ ([] ++ kn) ?X id ⟨_, rfl⟩
  case X => k_extra "M fin3"
end
-- M1
section
set_option maxHeartbeats 4000000 in
theorem c_vi2 : ∀ {w : World} {kn : Led} {v : Int} {tv : Tok} (hv : 128 ≤ v ∧ v < 16384),
   Con w (.ref 336) [.int v tv] 60 600 kn (fun kn' r => ∃ t, r = .bytes [u8 (v % 128 + 128), u8 (v / 128)].toArray t) := by
  have hon : HKon := trivial
  intro w kn v tv hv
  refine Con.openG (hkO (no_implicit_lambda% ((?hopq : HTO _) _ _ _ _ _ _ _ _ _ _ _ _ _ _ _)))
  intros s dp un gd t1 t2 t3 base g outs loose mean mg mb Z
  refine ConG.mk ?_
  intro R ret hd hu
  k_extra "M body"
  intro L h₁ hL F N B X T C1 C2 C3 TK l1 l2 l3 l4
  try dsimp only
  try k_fold
  have q1 := fm_e (a := v) (b := 128) (by omega) (by omega)
  have q2 := fd_e (a := v) (b := 128) (by omega) (by omega)
  k_steps
  all_goals (k_extra "M out")
  refine' ret _ _ _ _ _ _ _ ([] ++ kn) ?X id ⟨_, rfl⟩
  case X => k_extra "M fin3"
end
-- M2
section
set_option maxHeartbeats 4000000 in
theorem c_vi3 : ∀ {w : World} {kn : Led} {v : Int} {tv : Tok} (hv : 16384 ≤ v ∧ v < 2097152),
   Con w (.ref 336) [.int v tv] 60 600 kn (fun kn' r => ∃ t, r = .bytes [u8 (v % 128 + 128), u8 (v / 128 % 128 + 128), u8 (v / 16384)].toArray t) := by
  have hon : HKon := trivial
  intro w kn v tv hv
  refine Con.openG (hkO (no_implicit_lambda% ((?hopq : HTO _) _ _ _ _ _ _ _ _ _ _ _ _ _ _ _)))
  intros s dp un gd t1 t2 t3 base g outs loose mean mg mb Z
  refine ConG.mk ?_
  intro R ret hd hu
  k_extra "M body"
  intro L h₁ hL F N B X T C1 C2 C3 TK l1 l2 l3 l4
  try dsimp only
  try k_fold
  have q1 := fm_e (a := v) (b := 128) (by omega) (by omega)
  have q2 := fd_e (a := v) (b := 128) (by omega) (by omega)
  have q3 := fm_e (a := v / 128) (b := 128) (by omega) (by omega)
  have q4 : (v / 128).fdiv 128 = v / 16384 ∧ (128 : Int) ≠ 0 ∧ (128 : Int).natAbs < 1073741824 := by
    have := fd_e (a := v / 128) (b := 128) (by omega) (by omega)
    rw [show v / 16384 = v / 128 / 128 by omega]; exact this
  k_steps
  all_goals (k_extra "M out")
  refine' ret _ _ _ _ _ _ _ ([] ++ kn) ?X id ⟨_, rfl⟩
  case X => k_extra "M fin3"
end
-- M3
section
theorem c_vi {w : World} {kn : Led} {v : Int} {tv : Tok} (hv : 0 ≤ v ∧ v < 70000) :
   Con w (.ref 336) [.int v tv] 60 600 kn (fun kn' r => ∃ t, r = .bytes (varint v).toArray t) := by
  unfold varint
  by_cases h1 : v < 128
  · rw [if_pos h1]; exact c_vi1 (by omega)
  · rw [if_neg h1]
    by_cases h2 : v < 16384
    · rw [if_pos h2]; exact c_vi2 (by omega)
    · rw [if_neg h2]; exact c_vi3 (by omega)
theorem kwM30 : True := by
  (k_with "call ref" => (k_here; k_dflt (show wpAny _ _ (call (Value.ref 336) [Value.int _ _]) _ _ _); k_dflt (refine' use_con3 (c_vi ?hvzM30) ?B ?F ?X ?Nq ?T ?C1 ?C2 ?C3 ?TK ?hO ?hA ?hf ?hke ?hh ?hd ?hu ?_; k_extra "M std2"; (case hvzM30 => omega)); intro r'w h'w tk'w gs'w t1'w t2'w t3'w kn'w F'w N'w gr'w ne'w TK'w hg'w p'w; obtain ⟨_, e'w⟩ := p'w; subst e'w; (try dsimp only at N'w); k_extra "M after"))
  trivial
noncomputable def FldRes (k : Nat) (kn : Led) (r : Value) : Prop := ∃ t bs tb v f, r = .ref t ∧ (t, tupO #[.bytes bs.toArray tb, v]) ∈ kn ∧ EncR k f bs ∧ SaidR kn k v f
theorem kwM31 : True := by
  (k_with "binaryOp Add bytes bytes" => (k_here; (with_reducible show wpAny _ _ (binaryOp Operator.Add (Value.bytes (List.toArray _) _) (Value.bytes (List.toArray _) _)) _ _ _); k_dflt (refine' bytes_add_K ?zzM31 rfl ?_; (case zzM31 => ((simp only [List.size_toArray, List.length_cons, List.length_nil, List.length_append]); omega))); intro _ _))
  trivial
theorem EncR_int_mk {k : Nat} {n w v : Int} {bs : List UInt8} (h : 1 ≤ n ∧ n ≤ 6 ∧ ((w = 0 ∧ 0 ≤ v ∧ v < 70000 ∧ bs = u8 (8 * n) :: varint v) ∨ (∃ ys, w = 1 ∧ ys.length = 8 ∧ v = leI ys ∧ bs = u8 (8 * n + 1) :: ys) ∨ (∃ ys, w = 5 ∧ ys.length = 4 ∧ v = leI ys ∧ bs = u8 (8 * n + 5) :: ys))) : EncR k (.int n w v) bs := by
  cases k <;> (unfold EncR; exact h)
theorem EncR_byt_mk {k : Nat} {n : Int} {b bs : List UInt8} (h : 1 ≤ n ∧ n ≤ 6 ∧ b.length ≤ 3 ∧ bs = u8 (8 * n + 2) :: u8 b.length :: b) : EncR k (.byt n b) bs := by
  cases k <;> (unfold EncR; exact h)
theorem SayR_int {k : Nat} {kn : Led} {n w v : Int} {t : Tok} (h : w ≠ 3) : SayR kn k (.int v t) (.int n w v) := by
  cases k <;> (unfold SayR; exact ⟨h, t, rfl⟩)
theorem SayR_byt {k : Nat} {kn : Led} {n : Int} {b : List UInt8} {t : Tok} : SayR kn k (.bytes b.toArray t) (.byt n b) := by
  cases k <;> (unfold SayR; exact ⟨t, rfl⟩)
end
-- N0
section
set_option maxHeartbeats 4000000 in
theorem c_fl0 : ∀ {w : World} {kn : Led} {left how : Int} {k : Nat} {tl td : Tok} (hl : 0 ≤ left) (hhow : (left.fdiv 6).fmod 5 = how) (hw : how = 0 ∨ (how = 4 ∧ k = 0)),
   Con w (.ref 341) [.int left tl, .int k td] (200 + 200 * k) (2000 + 2000 * k) kn (fun kn' r => FldRes k kn' r) := by
  have hon : HKon := trivial
  intro w kn left how k tl td hl hhow hw
  refine Con.openG (hkO (no_implicit_lambda% ((?hopq : HTO _) _ _ _ _ _ _ _ _ _ _ _ _ _ _ _)))
  intros s dp un gd t1 t2 t3 base g outs loose mean mg mb Z
  refine ConG.mk ?_
  intro R ret hd hu
  k_extra "M bodyC"
  intro L h₁ tk₁ cells hL F N Y B X T C1 C2 C3 TK l1 l2 l3 l4
  k_cells Y
  simp only [List.cons_append, List.nil_append] at N
  try dsimp only
  try k_fold
  obtain ⟨m, q1, q1b, q1c⟩ := fm left 6 (by omega)
  obtain ⟨a, q2, q2b⟩ := fd left 6 hl (by omega) (by omega)
  have q3 : a.fmod 5 = how ∧ (5 : Int) ≠ 0 := ⟨by rw [← q2.1]; exact hhow, by omega⟩
  obtain ⟨rest, q4, q4b⟩ := fd left 30 hl (by omega) (by omega)
  obtain ⟨r7, q5, q5b, q5c⟩ := fm rest 70000 (by omega)
  have hvl : (varint r7).length ≤ 3 := by
    unfold varint
    split
    · simp
    · split <;> simp
  k_steps
  all_goals (k_extra "M out")
  all_goals (
    refine' ret _ _ _ _ _ _ _ ([(_, _), (_, _)] ++ _) ?X ?Y ⟨_, _, _, _, .int (1 + m) 0 r7, rfl, List.mem_append_right _ (.head _), ?E, ⟨_, _, _, _, rfl, List.mem_append_right _ (.tail _ (.head _)), SayR_int (by omega)⟩⟩
    (case X => k_extra "M fin3")
    (case Y => first | exact id | grind)
    (case E => exact EncR_int_mk ⟨by omega, by omega, .inl ⟨rfl, q5b, q5c, rfl⟩⟩))
end
-- N1
section
section
variable {prog : Program} {w : World} {A : Around} {E : Value → Shared → Prop} {s : Shared} {h₀ : Heap} {L D : Addr} {m : Str → Option Value} {news : Led} {n : Nat} {r : Int} {t : Tok} {Q : Value → Shared → Prop}
theorem bytes8 (F : Fr h₀ L s.heap m) (N : News h₀ L s.heap news) (hm : (D, W.listOf (List.replicate (Int.toNat 8) [Value.int r t]).flatten.toArray n) ∈ news) (hr : 0 ≤ r ∧ r < 256) (hh : A.handled = none)
    (h : ∀ h' t' k', Fr h₀ L h' m → News h₀ L h' news → Q (.bytes [u8 r, u8 r, u8 r, u8 r, u8 r, u8 r, u8 r, u8 r].toArray t') { s with heap := h', toks := k' }) : wpAny (model prog w) A (call (.type "bytes") [.ref D]) Q E s := by
  have hl : s.heap.IsList D [Value.int r t, .int r t, .int r t, .int r t, .int r t, .int r t, .int r t, .int r t].toArray := News.isList N hm
  refine bytes_K (ns := [r, r, r, r, r, r, r, r]) F N hl ?_ ?_ (by rw [sizeLine_eq]; exact (by decide : (8 : Nat) ≤ 16777216)) hh fun h' t' k' F' N' _ => h h' t' k' F' N'
  · repeat constructor
  · intro x hx
    simp at hx
    subst hx
    exact hr
end
theorem kwN10 : True := by
  (k_with "call type:bytes" => (k_here; (with_reducible show wpAny _ _ (call (Value.type _) [Value.ref _]) _ _ _); k_dflt (refine' bytes8 ?FzN10 ?NzN10 ?mzN10 ?rzN10 ?hzN10 ?_; (case FzN10 => k_asm); (case NzN10 => k_asm); (case mzN10 => k_mem); (case rzN10 => omega); (case hzN10 => with_unfolding_all rfl)); intro h'w t'w k'w F'w N'w; (try k_sweep)))
  trivial
set_option maxHeartbeats 4000000 in
theorem c_fl1 : ∀ {w : World} {kn : Led} {left how : Int} {k : Nat} {tl td : Tok} (hl : 0 ≤ left) (hhow : (left.fdiv 6).fmod 5 = how) (hw : how = 1),
   Con w (.ref 341) [.int left tl, .int k td] (200 + 200 * k) (2000 + 2000 * k) kn (fun kn' r => FldRes k kn' r) := by
  have hon : HKon := trivial
  intro w kn left how k tl td hl hhow hw
  refine Con.openG (hkO (no_implicit_lambda% ((?hopq : HTO _) _ _ _ _ _ _ _ _ _ _ _ _ _ _ _)))
  intros s dp un gd t1 t2 t3 base g outs loose mean mg mb Z
  refine ConG.mk ?_
  intro R ret hd hu
  k_extra "M bodyC"
  intro L h₁ tk₁ cells hL F N Y B X T C1 C2 C3 TK l1 l2 l3 l4
  k_cells Y
  simp only [List.cons_append, List.nil_append] at N
  try dsimp only
  try k_fold
  obtain ⟨m, q1, q1b, q1c⟩ := fm left 6 (by omega)
  obtain ⟨a, q2, q2b⟩ := fd left 6 hl (by omega) (by omega)
  have q3 : a.fmod 5 = how ∧ (5 : Int) ≠ 0 := ⟨by rw [← q2.1]; exact hhow, by omega⟩
  obtain ⟨rest, q4, q4b⟩ := fd left 30 hl (by omega) (by omega)
  obtain ⟨r7, q5, q5b, q5c⟩ := fm rest 256 (by omega)
  k_steps
  all_goals (k_extra "M out")
  all_goals (
    refine' ret _ _ _ _ _ _ _ ([(_, _), (_, _)] ++ _) ?X ?Y ⟨_, _, _, _, .int (1 + m) 1 _, rfl, List.mem_append_right _ (.head _), ?E, ⟨_, _, _, _, rfl, List.mem_append_right _ (.tail _ (.head _)), SayR_int (by omega)⟩⟩
    (case X => k_extra "M fin3")
    (case Y => first | exact id | grind)
    (case E => exact EncR_int_mk ⟨by omega, by omega, .inr (.inl ⟨_, rfl, rfl, rfl, rfl⟩)⟩))
end
-- N2
section
set_option maxHeartbeats 4000000 in
theorem c_fl2 : ∀ {w : World} {kn : Led} {left how : Int} {k : Nat} {tl td : Tok} (hl : 0 ≤ left) (hhow : (left.fdiv 6).fmod 5 = how) (hw : how = 2),
   Con w (.ref 341) [.int left tl, .int k td] (200 + 200 * k) (2000 + 2000 * k) kn (fun kn' r => FldRes k kn' r) := by
  have hon : HKon := trivial
  intro w kn left how k tl td hl hhow hw
  refine Con.openG (hkO (no_implicit_lambda% ((?hopq : HTO _) _ _ _ _ _ _ _ _ _ _ _ _ _ _ _)))
  intros s dp un gd t1 t2 t3 base g outs loose mean mg mb Z
  refine ConG.mk ?_
  intro R ret hd hu
  k_extra "M bodyC"
  intro L h₁ tk₁ cells hL F N Y B X T C1 C2 C3 TK l1 l2 l3 l4
  k_cells Y
  simp only [List.cons_append, List.nil_append] at N
  try dsimp only
  try k_fold
  obtain ⟨m, q1, q1b, q1c⟩ := fm left 6 (by omega)
  obtain ⟨a, q2, q2b⟩ := fd left 6 hl (by omega) (by omega)
  have q3 : a.fmod 5 = how ∧ (5 : Int) ≠ 0 := ⟨by rw [← q2.1]; exact hhow, by omega⟩
  obtain ⟨rest, q4, q4b⟩ := fd left 30 hl (by omega) (by omega)
  obtain ⟨r7, q5, q5b, q5c⟩ := fm rest 4 (by omega)
  obtain ⟨ys, y1, y2⟩ : ∃ ys : List UInt8, KBy.picked ([97, 98, 99] : List UInt8).toArray none (some r7) = ys.toArray ∧ ys.length ≤ 3 := by
    have : r7 = 0 ∨ r7 = 1 ∨ r7 = 2 ∨ r7 = 3 := by omega
    rcases this with rfl | rfl | rfl | rfl
    · exact ⟨[], by decide +kernel, by decide⟩
    · exact ⟨[97], by decide +kernel, by decide⟩
    · exact ⟨[97, 98], by decide +kernel, by decide⟩
    · exact ⟨[97, 98, 99], by decide +kernel, by decide⟩
  k_steps
  all_goals (k_extra "M out")
  all_goals (
    refine' ret _ _ _ _ _ _ _ ([(_, _), (_, _)] ++ _) ?X ?Y ⟨_, _, _, _, .byt (1 + m) ys, rfl, List.mem_append_right _ (.head _), ?E, ⟨_, _, _, _, rfl, List.mem_append_right _ (.tail _ (.head _)), SayR_byt⟩⟩
    (case X => k_extra "M fin3")
    (case Y => first | exact id | grind)
    (case E => exact EncR_byt_mk ⟨by omega, by omega, y2, rfl⟩))
end
-- N3
section
set_option maxHeartbeats 4000000 in
theorem c_fl3 : ∀ {w : World} {kn : Led} {left how : Int} {k : Nat} {tl td : Tok} (hl : 0 ≤ left) (hhow : (left.fdiv 6).fmod 5 = how) (hw : how = 3),
   Con w (.ref 341) [.int left tl, .int k td] (200 + 200 * k) (2000 + 2000 * k) kn (fun kn' r => FldRes k kn' r) := by
  have hon : HKon := trivial
  intro w kn left how k tl td hl hhow hw
  refine Con.openG (hkO (no_implicit_lambda% ((?hopq : HTO _) _ _ _ _ _ _ _ _ _ _ _ _ _ _ _)))
  intros s dp un gd t1 t2 t3 base g outs loose mean mg mb Z
  refine ConG.mk ?_
  intro R ret hd hu
  k_extra "M bodyC"
  intro L h₁ tk₁ cells hL F N Y B X T C1 C2 C3 TK l1 l2 l3 l4
  k_cells Y
  simp only [List.cons_append, List.nil_append] at N
  try dsimp only
  try k_fold
  obtain ⟨m, q1, q1b, q1c⟩ := fm left 6 (by omega)
  obtain ⟨a, q2, q2b⟩ := fd left 6 hl (by omega) (by omega)
  have q3 : a.fmod 5 = how ∧ (5 : Int) ≠ 0 := ⟨by rw [← q2.1]; exact hhow, by omega⟩
  obtain ⟨rest, q4, q4b⟩ := fd left 30 hl (by omega) (by omega)
  obtain ⟨r7, q5, q5b, q5c⟩ := fm rest 256 (by omega)
  obtain ⟨r8, q6, q6b⟩ := fd rest 256 q4b (by omega) (by omega)
  obtain ⟨r9, q7, q7b, q7c⟩ := fm r8 256 (by omega)
  k_steps
  all_goals (k_extra "M out")
  all_goals (
    refine' ret _ _ _ _ _ _ _ ([(_, _), (_, _)] ++ _) ?X ?Y ⟨_, _, _, _, .int (1 + m) 5 _, rfl, List.mem_append_right _ (.head _), ?E, ⟨_, _, _, _, rfl, List.mem_append_right _ (.tail _ (.head _)), SayR_int (by omega)⟩⟩
    (case X => k_extra "M fin3")
    (case Y => first | exact id | grind)
    (case E => exact EncR_int_mk ⟨by omega, by omega, .inr (.inr ⟨_, rfl, rfl, rfl, rfl⟩)⟩))
end
-- V0
section
section
variable {w : World} {A A₀ : Around} {E : Value → Shared → Prop} {s : Shared} {env : Env} {outer : List Env} {h₀ base : Heap} {L I C D : Addr} {m : Str → Option Value} {t1 t2 t3 : Array Value} {led : Led} {loose : List Str} {mean : ExcName → Option Value} {mg mb : Str → Option Value}
theorem turn_con {f : Value} {args : List Value} {n u tk : Nat} {Post : Led → Value → Prop} {J : Value → Led → Prop} (K : Con w f args n u led Post) (S : CompSt h₀ L m I C D t1 t2 t3 led s.heap) (B : Below A₀ base outer h₀) (X : (hd.heap_1_39 w.params).In h₀) (T : Top topProg loose mean mg mb h₀)
    (C1 : CodeHd h₀ 270 266) (C2 : CodeHd h₀ 284 280) (C3 : CodeHd h₀ 163 159) (hA : A.frames = some (env :: outer)) (hf : env.frame = some L) (hke : env.scope.kind = .function)
    (hh : A.handled = none) (hd : A.depth + n < recursionLimit) (hu : A.units + u < cLine)
    (hJ : ∀ tl r, Gr led (led ++ tl) → Post (led ++ tl) r → J r (led ++ tl)) : wpAny (model prg w) A (call f args) (fun y s₄ => TurnP s led (J y) s₄) E { s with toks := tk } :=
  wpAny_call (K A { s with toks := tk } t1 t2 t3 base (env :: outer) _ loose mean mg mb _ (rdy_of B S.F X S.N T C1 C2 C3 hA hf hke (fun _ h => h) S.tok hh hd hu) fun r h' tk' gs' t1' t2' t3' tl x hg p =>
    ⟨h', tk', gs', t1', t2', t3', led ++ tl, rfl, x.keep, x.size, hg, x.news, x.tok, fun p hp => (List.mem_append.mp hp).elim .inl (x.fresh p), hJ tl r ⟨fun _ h => List.mem_append_left _ h, fun p hp => (List.mem_append.mp hp).elim .inl fun hp => (x.fresh p hp).imp id fun fr =>
      have ne : ∀ q ∈ tabs t1 t2 t3 ++ led, p.1 ≠ q.1 := fun q hq e => by rw [e, (S.N q hq).1] at fr; cases fr
      ⟨ne (266, tabObj t1) (by simp), ne (280, tabObj t2) (by simp), ne (159, tabObj t3) (by simp), fun q hq => ne q (List.mem_append_right _ hq)⟩⟩ p⟩)
theorem nm_G {x : Str} {pos : Pos} {v : Value} {scope : Scope} {cl : List (Str × Addr)} {Q : Value → Shared → Prop} (F : Fr h₀ L s.heap m) (X : (hd.heap_1_39 w.params).In h₀) (T : Top topProg loose mean mg mb h₀) (e : nsIn (hd.heap_1_39 w.params) mainGlobals x = some (some v)) (h : Q v s)
    (hk : scope.kind = .function) (hx : (compEnvC scope cl C env).kindOf x = some .globalImplicit) (hg : env.globals = mainGlobals) (hd : (x == ("__debug__" : Str)) = false) :
    wpAny (model prg w) A (eval (.Name x pos) (compEnvC scope cl C env)) Q E s :=
  Name_function_global (env := compEnvC scope cl C env) (by simp [compEnvC, relabel, hk]) hx (loadGlobal_global (env := compEnvC scope cl C env) (by rw [show (compEnvC scope cl C env).globals = mainGlobals from hg]; exact T.g.keeps F.keep) (mg_of X T.g e) h) hd
theorem nm_C {x : Str} {pos : Pos} {v : Value} {scope : Scope} {cl : List (Str × Addr)} {c : Addr} {o : Obj} {news : Led} {Q : Value → Shared → Prop} (N : News h₀ L s.heap news) (hc : cl.lookup x = some c) (hm : (c, o) ∈ news) (hd : o.data = .cell (some v)) (h : Q v s)
    (hk : scope.kind = .function) (hx : (compEnvC scope cl C env).kindOf x = some .cell) (hb : (x == ("__debug__" : Str)) = false) :
    wpAny (model prg w) A (eval (.Name x pos) (compEnvC scope cl C env)) Q E s :=
  wpAny_Name (wpAny_loadName_cell (env := compEnvC scope cl C env) (by simp [compEnvC, relabel, hk]) hx hc ⟨o, N.get hm, hd⟩ h) hb
theorem nm_L {x : Str} {pos : Pos} {v : Value} {scope : Scope} {cl : List (Str × Addr)} {m₁ : Str → Option Value} {Q : Value → Shared → Prop} (hn : s.heap.Ns C m₁) (hv : m₁ x = some v) (h : Q v s)
    (hk : scope.kind = .function) (hx : scope.names.lookup x = some .local) (hd : (x == ("__debug__" : Str)) = false) : wpAny (model prg w) A (eval (.Name x pos) (compEnvC scope cl C env)) Q E s :=
  name_comp hx hk hn hv hd h
end
section
variable {prog : Program} {w : World} {A : Around} {E : Value → Shared → Prop} {s : Shared} {a b c n : Int} {t u : Tok} {Q : Value → Shared → Prop}
theorem sub_e (e : a - b = c) (h : Q (.int c s.toks) { s with toks := s.toks + 1 }) : wpAny (model prog w) A (binaryOp .Sub (.int a t) (.int b u)) Q E s := sub_int (by rw [e]; exact h)
theorem pow_e (e : a ^ b.toNat = c ∧ 0 ≤ b ∧ b ≤ 2 ∧ a = 997) (h : Q (.int c s.toks) { s with toks := s.toks + 1 }) : wpAny (model prog w) A (binaryOp .Pow (.int a t) (.int b u)) Q E s := by
  obtain ⟨e1, e2, e3, rfl⟩ := e
  refine pow_int_small e2 (by omega) (by decide) ?_
  rw [e1]; exact h
end
theorem kwV00 : True := by
  (k_with "eval Name" => (k_here; (with_reducible show wpAny _ _ (eval (Expr.Name _ _) (compEnvC _ _ _ _)) _ _ _); k_dflt (first
  | (refine' nm_L ?NzV00 ?vzV00 ?_ ?hkzV00 ?hxzV00 ?hdzV00; (case hkzV00 => exact rfl); (case hxzV00 => exact rfl); (case hdzV00 => decide); (case NzV00 => k_asm); (case vzV00 => assumption))
  | (refine' nm_C ?NzV00 ?czV00 ?mzV00 ?dzV00 ?_ ?hkzV00 ?hxzV00 ?hbzV00; (case hkzV00 => exact rfl); (case hxzV00 => exact rfl); (case hbzV00 => decide); (case NzV00 => k_asm); (case czV00 => exact rfl); (case mzV00 => k_mem); (case dzV00 => k_asm))
  | (refine' nm_G ?FzV00 ?XzV00 ?TzV00 ?ezV00 ?_ ?hkzV00 ?hxzV00 ?hgzV00 ?hdzV00; (case hkzV00 => exact rfl); (case hxzV00 => exact rfl); (case hgzV00 => exact rfl); (case hdzV00 => decide); (case FzV00 => k_asm); (case XzV00 => k_asm); (case TzV00 => k_asm); (case ezV00 => k_is)))))
  (k_with "binaryOp Sub int int" => (k_here; (with_reducible refine' sub_e ?ezV01 ?_); (case ezV01 => assumption)))
  (k_with "binaryOp Pow int int" => (k_here; (with_reducible refine' pow_e ?ezV02 ?_); (case ezV02 => assumption)))
  trivial
theorem own3 {g h : Heap} {L : Addr} {t1 t2 t3 : Array Value} {a b c : Addr × Obj} {kn : Led} (N : News g L h (a :: b :: c :: (266, tabObj t1) :: (280, tabObj t2) :: (159, tabObj t3) :: kn)) (TK : TabOk t1 t2 t3 kn) (ha : NewL a.1 kn) (hb : NewL b.1 kn) (hc : NewL c.1 kn) :
    News g L h (tabs t1 t2 t3 ++ (a :: b :: c :: kn)) ∧ TabOk t1 t2 t3 (a :: b :: c :: kn) ∧ Gr kn (a :: b :: c :: kn) := by
  refine ⟨fun p hp => N p ?_, ((TK.cons hc.off).cons hb.off).cons ha.off, fun p hp => .tail _ (.tail _ (.tail _ hp)), fun p hp => ?_⟩
  · simp only [List.mem_append, List.mem_cons, List.not_mem_nil, or_false] at hp ⊢
    grind
  · have ne : ∀ p : Addr × Obj, NewL p.1 kn → NE kn p := fun p h => ⟨Nat.ne_of_gt h.1, Nat.ne_of_gt h.2.1, Nat.ne_of_gt h.2.2.1, fun q hq => (AllLt.ne h.2.2.2 q hq).symm⟩
    simp only [List.mem_cons] at hp
    rcases hp with rfl | rfl | rfl | hp
    · exact .inr (ne _ ha)
    · exact .inr (ne _ hb)
    · exact .inr (ne _ hc)
    · exact .inl hp
section
variable {w : World} {A : Around} {E : Value → Shared → Prop} {s : Shared} {env : Env} {h₀ : Heap} {L I C D : Addr} {m : Str → Option Value} {t1 t2 t3 : Array Value} {led : Led} {h' : Heap} {tk : Nat} {gs : Array GenState} {m' : Str → Option Value} {zs : List Value} {k : Nat}
theorem post_assignV {Q0 : Value → Shared → Prop} {y : Str} {py : Pos} (hloc : env.locals = L) (hy : env.kindOf y = some .local) (hp : (env.scope.kind == .class || (env.scope.kind == .module && env.locals != env.globals)) = false)
    (S : CompSt h₀ L m I C D t1 t2 t3 led h') (hn : h'.Ns C m') (hd : h'.get? D = some (W.listOf zs.toArray k)) (h0C : h₀.get? C = none) (h0D : h₀.get? D = none) (hLC : L ≠ C) (hLD : L ≠ D) (hCD : C ≠ D)
    (hC3 : C ≠ 266 ∧ C ≠ 280 ∧ C ≠ 159)
    (hQ : ∀ h'' tk', Fr h₀ L h'' (fun z => if z = y then some (.ref D) else m z) → News h₀ L h'' (tabs t1 t2 t3 ++ ((D, W.listOf zs.toArray k) :: led)) → TabOk t1 t2 t3 ((D, W.listOf zs.toArray k) :: led) → (∀ p ∈ led, p.1 ≠ D) → Q0 .none { s with heap := h'', toks := tk', gens := gs }) :
    compPost (model prg w) A E (some (assign (.Name y py) env)) Q0 (.ref D) C (.ok .next) { s with heap := h', toks := tk, gens := gs } :=
  post_assign (Q := fun _ s' => Q0 .none s') hloc hy hp S hn hd h0C h0D hLC hLD hCD hC3 hQ
end
noncomputable def FldAt (kn : Led) (k : Nat) (r : Value) (f : Fld) : Prop := ∃ t bs tb v, r = .ref t ∧ (t, tupO #[.bytes bs.toArray tb, v]) ∈ kn ∧ EncR k f bs ∧ SaidR kn k v f
theorem FldAt.mono : ∀ {kn kn' : Led} (h : ∀ p ∈ kn, p ∈ kn') {k : Nat} {r : Value} {f : Fld} (x : FldAt kn k r f), FldAt kn' k r f := by
  have hon : HKon := trivial
  intro kn kn' h k r f x
  obtain ⟨t, bs, tb, v, a, b, c, d⟩ := x
  first | exact exI5 ⟨h _ b, c, d.mono h⟩ | exact exI4 ⟨a, h _ b, c, d.mono h⟩ | exact exI3 ⟨v, a, h _ b, c, d.mono h⟩ | exact ⟨t, bs, tb, v, a, h _ b, c, d.mono h⟩
theorem fld_pairs {kn : Led} {k : Nat} {zs : List Value} {fs : List Fld} (h : All2 (FldAt kn k) zs fs) :
    ∃ (ps : List (Value × Value)) (xs : List (List UInt8 × Tok)), PairsR kn zs ps ∧ ps.map Prod.fst = xs.map BJ.val ∧ All2 (EncR k) fs (xs.map (·.1)) ∧ All2 (SaidR kn k) (ps.map Prod.snd) fs := by
  induction h with
  | nil => exact ⟨[], [], .nil, rfl, .nil, .nil⟩
  | cons a _ ih =>
    obtain ⟨t, bs, tb, v, rfl, h1, h2, h3⟩ := a
    obtain ⟨ps, xs, p1, p2, p3, p4⟩ := ih
    exact ⟨(.bytes bs.toArray tb, v) :: ps, (bs, tb) :: xs, .cons h1 p1, by simp [p2, BJ.val], .cons h2 p3, .cons h3 p4⟩
theorem EncR_grp_mk {k : Nat} {n : Int} {fs : List Fld} {parts : List (List UInt8)} (h1 : 1 ≤ n) (h2 : n ≤ 6) (h3 : fs.length ≤ 2) (h : All2 (EncR k) fs parts) : EncR (k + 1) (.grp n fs) ([u8 (8 * n + 3)] ++ (parts.flatten ++ [u8 (8 * n + 4)])) := by
  unfold EncR
  exact ⟨h1, h2, h3, parts, h, by simp⟩
theorem SayR_grp {k : Nat} {kn : Led} {n : Int} {fs : List Fld} {l : Addr} {vs : List Value} {nn : Nat} (h3 : fs.length ≤ 2) (hm : (l, W.listOf vs.toArray nn) ∈ kn) (h : All2 (SaidR kn k) vs fs) : SayR kn (k + 1) (.ref l) (.grp n fs) := by
  unfold SayR
  exact ⟨h3, l, vs, nn, rfl, hm, h⟩
end
-- N4
section
theorem kwN40 : True := by
  (k_with "exec Assign cons ListComp" => (k_here; k_dflt (refine' exec_LC ?swzN40 ?azN40 ?bzN40 ?czN40 ?dzN40 ?_; (case swzN40 => exact rfl); (case azN40 => exact rfl); (case bzN40 => exact rfl); (case czN40 => decide); (case dzN40 => (intro _; exact rfl)))))
  (k_with "call ref" => (k_here; k_dflt (show wpAny _ _ (call (Value.ref 341) [Value.int _ _, Value.int _ _]) _ _ _); refine HoldW.out ?_))
  (k_with "M tl3" => first
  | exact List.forall_mem_nil _
  | (refine List.forall_mem_cons.mpr ⟨⟨by k_mem, by first | exact tyNe | exact refNe, by first | exact .inr (.inl ⟨by omega, by omega, by omega, by first | assumption | ((repeat (refine And.intro (by show @LT.lt Nat _ _ _; omega) ?_)); first | assumption | grind)⟩) | exact .inr (.inr ⟨by omega, by omega, by omega, by first | assumption | grind [AllLt.to]⟩)⟩, ?_⟩; k_extra "M tl3") | fail "mine: tl3")
  trivial
set_option maxHeartbeats 4000000 in
theorem c_fl4 : ∀ {w : World} {kn : Led} {left how : Int} {k : Nat} {tl td : Tok} (hl : 0 ≤ left) (hhow : (left.fdiv 6).fmod 5 = how) (hw : how = 4) (hk : k ≤ 2) (IH : ∀ kn left tl td, 0 ≤ left → Con w (.ref 341) [.int left tl, .int k td] (200 + 200 * k) (2000 + 2000 * k) kn (fun kn' r => FldRes k kn' r)),
   Con w (.ref 341) [.int left tl, .int (k + 1 : Nat) td] (200 + 200 * (k + 1)) (2000 + 2000 * (k + 1)) kn (fun kn' r => FldRes (k + 1) kn' r) := by
  have hon : HKon := trivial
  intro w kn left how k tl td hl hhow hw hk IH
  refine Con.openG (hkO (no_implicit_lambda% ((?hopq : HTO _) _ _ _ _ _ _ _ _ _ _ _ _ _ _ _)))
  intros s dp un gd t1 t2 t3 base g outs loose mean mg mb Z
  refine ConG.mk ?_
  intro R ret hd hu
  k_extra "M bodyC"
  intro L h₁ tk₁ cells hL F N Y B X T C1 C2 C3 TK l1 l2 l3 l4
  k_cells Y
  simp only [List.cons_append, List.nil_append] at N
  try dsimp only
  try k_fold
  obtain ⟨m, q1, q1b, q1c⟩ := fm left 6 (by omega)
  obtain ⟨a, q2, q2b⟩ := fd left 6 hl (by omega) (by omega)
  have q3 : a.fmod 5 = how ∧ (5 : Int) ≠ 0 := ⟨by rw [← q2.1]; exact hhow, by omega⟩
  obtain ⟨rest, q4, q4b⟩ := fd left 30 hl (by omega) (by omega)
  obtain ⟨r3', q5, q5b, q5c⟩ := fm rest 3 (by omega)
  obtain ⟨r3, rfl⟩ := Int.eq_ofNat_of_zero_le q5b
  k_steps
  refine HoldW.mk ?_
  rename IsRange _ _ _ _ _ _ _ _ => hrng
  rename News g L _ _ => N2
  rename Fr g L _ _ => F2
  have qd : ((k + 1 : Nat) : Int) - 1 = (k : Int) := by omega
  obtain ⟨qa, qa1, qa2⟩ := fd rest 2 q4b (by omega) (by omega)
  obtain ⟨N3, tk3, gr3⟩ := own3 N2 TK ⟨by omega, by omega, by omega, by first | assumption | grind [AllLt.to]⟩ ⟨by show @LT.lt Nat _ _ _; omega, by show @LT.lt Nat _ _ _; omega, by show @LT.lt Nat _ _ _; omega, AllLt.to (by omega) l4⟩ ⟨by show @LT.lt Nat _ _ _; omega, by show @LT.lt Nat _ _ _; omega, by show @LT.lt Nat _ _ _; omega, AllLt.to (by omega) l4⟩
  refine' comp_R (RR := fun acc C => compPost (model prg _) _ _ _ _ acc C) (fun i v m₂ => m₂ "j" = some v) (fun i zs led' => Gr _ led' ∧ ∃ fs, All2 (FldAt led' k) zs fs ∧ fs.length = i) rfl F2 N3 tk3 hrng (by omega) ?hcell rfl ⟨Gr.refl _, [], .nil, rfl⟩ ?hasg ?turn ?hRR ?hgo
  case hcell => decide
  case hgo => intro _ _; rfl
  case hasg =>
    rintro I C D i v u1 u2 u3 led' zs s1 m1 Q E' ⟨hi, t, rfl⟩ S hJ hn hCD hQ
    exact asg_name rfl rfl hn fun h' tk hn' hk => hQ h' tk _ hn' (by simp) hk
  case turn =>
    rintro I C D i v u1 u2 u3 led' zs s1 m1 E' ⟨hi, t, rfl⟩ S ⟨gr4, fs, hfs, hfl⟩ hz hn hm1
    refine wpAny_tests_nil ?_
    simp only [if_true]
    have S' := S
    obtain ⟨F5, N5, tk5, off5⟩ := S
    first | ((with_reducible rename HKon => hkm); (with_reducible refine' (_ : ShE s1 _) _ _ _ _ _ rfl); intros hh gg dd tt oo hq; subst hq) | obtain ⟨hh, gg, dd, tt, oo⟩ := s1
    have qi : i = 0 ∨ i = 1 := by omega
    have hp : (997 : Int) ^ (i : Int).toNat = (if i = 0 then 1 else 997) ∧ 0 ≤ (i : Int) ∧ (i : Int) ≤ 2 ∧ (997 : Int) = 997 := by
      rcases qi with rfl | rfl <;> exact ⟨by decide, by decide, by decide, rfl⟩
    obtain ⟨qb, qb1, qb2⟩ : ∃ c, (qa.fdiv (if i = 0 then 1 else 997) = c ∧ (if i = 0 then (1 : Int) else 997) ≠ 0 ∧ (if i = 0 then (1 : Int) else 997).natAbs < 1073741824) ∧ 0 ≤ c := by
      rcases qi with rfl | rfl
      · exact fd qa 1 qa2 (by omega) (by omega)
      · exact fd qa 997 qa2 (by omega) (by omega)
    dsimp only at hn F5 N5
    k_steps
    refine HoldW.mk ?_
    refine turn_con (IH _ _ _ _ qb2) S' B X T C1 C2 C3 rfl rfl rfl rfl ?hd ?hu ?hJ
    case hd => k_room
    case hu => k_units
    case hJ =>
      intro tl r gr5 hr
      obtain ⟨t, bs, tb, v, f, e1, e2, e3, e4⟩ := hr
      exact ⟨gr4.trans gr5, fs ++ [f], (hfs.imp fun _ _ x => x.mono gr5.1).snoc ⟨t, bs, tb, v, e1, e2, e3, e4⟩, by simp [hfl]⟩
  case hRR =>
    rintro I C D h1 tk gs m' zs k1 u1 u2 u3 led' S hg ⟨gr4, fs, hfs, hfl⟩ hz hn hd' a0 b0 c0 d0 e0 f0
    refine' post_assignV ?hloc ?hy ?hp S hn hd' a0 b0 c0 d0 e0 f0 ?_
    case hloc => rfl
    case hy => rfl
    case hp => rfl
    intro h2 tk2' F5 N5 tk5 off5
    replace N5 : News g L h2 ((266, tabObj u1) :: (280, tabObj u2) :: (159, tabObj u3) :: (D, W.listOf zs.toArray k1) :: led') := N5
    have grD := Gr.consD tk5 off5
    clear S hn hd'
    have hzl := hfs.length
    obtain ⟨ps, xs, p1, p2, p3, p4⟩ := fld_pairs hfs
    have p1' := p1.mono (led' := (D, W.listOf zs.toArray k1) :: led') fun _ h => .tail _ h
    have hB : ((xs.map (·.1)).flatten).length ≤ 100000 := by have := encs_len hk p3; omega
    k_steps
    refine HoldW.mk ?_
    k_extra "M pairs1"
    case hRR =>
      rintro I2 C2' D2 h3 tk3 gs3 m3 k3 v1 v2 v3 S2 hg3 hn2 hd2 a2 b2 c2 d2 e2 f2
      rw [p2] at hd2
      refine post_none S2 hn2 hd2 a2 b2 c2 d2 e2 f2 ?_
      intro h4 F6 N6 tk6 off6
      replace N6 : News g L h4 ((266, tabObj v1) :: (280, tabObj v2) :: (159, tabObj v3) :: (D2, W.listOf (xs.map BJ.val).toArray k3) :: (D, W.listOf zs.toArray k1) :: led') := N6
      have grD2 := Gr.consD tk6 off6
      clear S2 hn2 hd2
      k_steps
      rename News g L _ _ => N8
      have N9 : News g L _ (tabs v1 v2 v3 ++ ((D2, W.listOf (xs.map BJ.val).toArray k3) :: (D, W.listOf zs.toArray k1) :: led')) := fun p hp => N8 p (by (simp only [List.mem_append, List.mem_cons, List.not_mem_nil, or_false] at hp ⊢); grind)
      clear N8
      have p1'' := p1'.mono (led' := (D2, W.listOf (xs.map BJ.val).toArray k3) :: (D, W.listOf zs.toArray k1) :: led') fun _ h => .tail _ h
      refine HoldW.mk ?_
      k_extra "M pairs2"
      case hRR =>
        rintro I3 C3' D3 h5 tk5' gs5 m5 k5 w1 w2 w3 S3 hg5 hn3 hd3 a3 b3 c3 d3 e3 f3
        refine post_none S3 hn3 hd3 a3 b3 c3 d3 e3 f3 ?_
        intro h6 F7 N7 tk7 off7
        replace N7 : News g L h6 ((266, tabObj w1) :: (280, tabObj w2) :: (159, tabObj w3) :: (D3, W.listOf (ps.map Prod.snd).toArray k5) :: (D2, W.listOf (xs.map BJ.val).toArray k3) :: (D, W.listOf zs.toArray k1) :: led') := N7
        have grD3 := Gr.consD tk7 off7
        clear S3 hn3 hd3
        k_steps
        all_goals (k_extra "M out")
        refine' ret _ _ _ _ _ _ _ ([(_, _), (_, _)] ++ _) ?X2 ?Y2 ⟨_, _, _, _, .grp (1 + m) fs, rfl, List.mem_append_right _ (.head _), EncR_grp_mk (by omega) (by omega) (by omega) p3, ⟨_, _, _, _, rfl, List.mem_append_right _ (.tail _ (.head _)), SayR_grp (by omega) ?M2 (p4.imp fun _ _ x => x.mono ?S2)⟩⟩
        case X2 => k_extra "M fin3"
        case Y2 => grind
        case M2 => exact List.mem_append_right _ (List.mem_append_right _ (.head _))
        case S2 => exact fun p hp => List.mem_append_right _ (List.mem_append_right _ (.tail _ (.tail _ (.tail _ hp))))
end
-- N5
section
theorem c_field {w : World} : ∀ (k : Nat), k ≤ 3 → ∀ (kn : Led) (left : Int) (tl td : Tok), 0 ≤ left → Con w (.ref 341) [.int left tl, .int k td] (200 + 200 * k) (2000 + 2000 * k) kn (fun kn' r => FldRes k kn' r)
  | k, hk, kn, left, tl, td, hl => by
    have h0 := Int.fmod_nonneg_of_pos (left.fdiv 6) (b := 5) (by omega)
    have h1 := Int.fmod_lt_of_pos (left.fdiv 6) (b := 5) (by omega)
    have h : (left.fdiv 6).fmod 5 = 0 ∨ (left.fdiv 6).fmod 5 = 1 ∨ (left.fdiv 6).fmod 5 = 2 ∨ (left.fdiv 6).fmod 5 = 3 ∨ (left.fdiv 6).fmod 5 = 4 := by omega
    rcases h with h | h | h | h | h
    · exact c_fl0 hl rfl (.inl h)
    · exact c_fl1 hl rfl h
    · exact c_fl2 hl rfl h
    · exact c_fl3 hl rfl h
    · match k, hk with
      | 0, _ => exact c_fl0 hl rfl (.inr ⟨h, rfl⟩)
      | k + 1, hk => exact c_fl4 hl rfl h (by omega) fun kn left tl td hl => c_field k (by omega) kn left tl td hl
end
-- I0
section
theorem kwI00 : True := by
  (k_with "M get" => (
  (case hA => exact rfl); (case hf => exact rfl); (case hke => exact rfl); (case hh => exact rfl); (case F => k_asm); (case Nq => k_asm); (case B => k_asm); (case X => k_asm); (case T => k_asm); (case C1 => k_asm); (case C2 => k_asm); (case C3 => k_asm); (case TK => k_asm);
  (case sub => k_extra "M sub"); (case I => k_inst); (case hg => k_is); (case hhd => k_is); (case ha => k_is); (case hn => k_is); (case ht => k_is); (case hp => k_is); (case hd => k_room); (case hu => k_units)))
  (k_with "getAttr ref" => (k_here; (with_reducible show wpAny _ _ (getAttr (Value.ref _) (PySem.Str.ofString "field_number") _) _ _ _); k_dflt (refine' get_con0 (c_fnum ?q1zI01 ?q2zI01 ?q3zI01 ?q4zI01 ?q5zI01 ?q6zI01) ?hvzI01 ?TK ?I ?hg ?hhd ?ha ?hn ?ht ?hp ?B ?F ?X ?Nq ?T ?C1 ?C2 ?C3 ?sub ?hA ?hf ?hke ?hh ?hd ?hu ?_; (case q1zI01 => assumption); (case q2zI01 => assumption); (case q3zI01 => omega); (case q4zI01 => assumption); (case q5zI01 => assumption); (case q6zI01 => assumption); (case hvzI01 => (intro _ e; obtain ⟨_, e⟩ := e; subst e; rfl)); k_extra "M get"); intro r'w h'w tk'w F'w N'w p'w; obtain ⟨_, e'w⟩ := p'w; subst e'w; k_extra "M after"))
  (k_with "getAttr ref" => (k_here; (with_reducible show wpAny _ _ (getAttr (Value.ref _) (PySem.Str.ofString "wire_type") _) _ _ _); k_dflt (refine' get_con0 (c_wtype ?q1zI02 ?q2zI02 ?q3zI02 ?q4zI02 ?q5zI02 ?q6zI02) ?hvzI02 ?TK ?I ?hg ?hhd ?ha ?hn ?ht ?hp ?B ?F ?X ?Nq ?T ?C1 ?C2 ?C3 ?sub ?hA ?hf ?hke ?hh ?hd ?hu ?_; (case q1zI02 => assumption); (case q2zI02 => assumption); (case q3zI02 => omega); (case q4zI02 => assumption); (case q5zI02 => assumption); (case q6zI02 => assumption); (case hvzI02 => (intro _ e; obtain ⟨_, e⟩ := e; subst e; rfl)); k_extra "M get"); intro r'w h'w tk'w F'w N'w p'w; obtain ⟨_, e'w⟩ := p'w; subst e'w; k_extra "M after"))
  (k_with "getAttr ref" => (k_here; (with_reducible show wpAny _ _ (getAttr (Value.ref _) (PySem.Str.ofString "data") _) _ _ _); k_dflt (refine' get_con0 (c_data ?q1zI03 ?q2zI03 ?q3zI03 ?q4zI03 ?q5zI03 ?q6zI03) ?hvzI03 ?TK ?I ?hg ?hhd ?ha ?hn ?ht ?hp ?B ?F ?X ?Nq ?T ?C1 ?C2 ?C3 ?sub ?hA ?hf ?hke ?hh ?hd ?hu ?_; (case q1zI03 => assumption); (case q2zI03 => assumption); (case q3zI03 => omega); (case q4zI03 => assumption); (case q5zI03 => assumption); (case q6zI03 => assumption); (case hvzI03 => (intro _ e; subst e; assumption)); k_extra "M get"); intro r'w h'w tk'w F'w N'w p'w; subst p'w; k_extra "M after"))
  (k_with "compareOp Eq bytes bytes" => (k_here; k_dflt (refine eq_bytes ?_)))
  (k_with "compareOp Eq" => (k_here; (with_reducible show wpAny _ _ (compareOp _ (Value.bytes _ _) (Value.bytes _ _)) _ _ _); k_dflt (refine eq_bytes ?_)))
  trivial
noncomputable def AgC (w : World) (u l : Addr) (n m : Nat) (kn : Led) : Prop := Con w (.ref 370) [.ref u, .ref l] n m kn (fun _ x => x = .bool true)
theorem AgC.use {w : World} {u l : Addr} {n m : Nat} {kn : Led} (h : AgC w u l n m kn) : Con w (.ref 370) [.ref u, .ref l] n m kn (fun _ x => x = .bool true) := h
theorem kwI01 : True := by
  (k_with "call ref" => (k_here; k_dflt (show wpAny _ _ (call (Value.ref 370) [Value.ref _, Value.ref _]) _ _ _); k_dflt (refine' use_con3 (AgC.use ?hSzI06) ?B ?F ?X ?Nq ?T ?C1 ?C2 ?C3 ?TK ?hO ?hA ?hf ?hke ?hh ?hd ?hu ?_; (case hSzI06 => assumption); k_extra "M std2"); intro r'w h'w tk'w gs'w t1'w t2'w t3'w kn'w F'w N'w gr'w ne'w TK'w hg'w p'w; subst p'w; (try dsimp only at N'w); k_extra "M after"))
  trivial
set_option maxHeartbeats 4000000 in
theorem c_isI : ∀ {w : World} {kn : Led} {r u l f t : Addr} {i : Nat} {vs : List Value} {num wr : Int} {v : Int} {tv t1 t2 t3 : Tok} (hr : RefAt kn r u i) (hs : SetTop kn u l vs) (hln : vs.length ≤ 100) (hx : vs[i]? = some (.ref f)) (hf : FieldTop kn f num wr (.int v tv)) (hm : (t, tupO #[.int num t1, .int wr t2, .int v t3]) ∈ kn) (hw : wr ≠ 3),
   Con w (.ref 365) [.ref r, .ref t] 80 800 kn (fun _ x => x = .bool true) := by
  have hon : HKon := trivial
  intro w kn r u l f t i vs num wr v tv t1 t2 t3 hr hs hln hx hf hm hw
  have hdd : handedIn (.int v tv) = true := rfl
  have hr0 := hr
  obtain ⟨dx, f1, f2, f3, f4, f5, f6, r1, r2⟩ := hr
  refine Con.openG (hkO (no_implicit_lambda% ((?hopq : HTO _) _ _ _ _ _ _ _ _ _ _ _ _ _ _ _)))
  intros s dp un gd t1 t2 t3 base g outs loose mean mg mb Z
  refine ConG.mk ?_
  intro R ret hd hu
  k_extra "M body"
  intro L h₁ hL F N B X T C1 C2 C3 TK l1 l2 l3 l4
  try dsimp only
  try k_fold
  k_steps
  all_goals (k_extra "M out")
  refine' ret _ _ _ _ _ _ _ ([] ++ kn) ?X id (by simp)
  case X => k_extra "M fin3"
end
-- I1
section
set_option maxHeartbeats 4000000 in
theorem c_isB : ∀ {w : World} {kn : Led} {r u l f t : Addr} {i : Nat} {vs : List Value} {num wr : Int} {y : List UInt8} {tv t1 t2 t3 : Tok} (hr : RefAt kn r u i) (hs : SetTop kn u l vs) (hln : vs.length ≤ 100) (hx : vs[i]? = some (.ref f)) (hf : FieldTop kn f num 2 (.bytes y.toArray tv)) (hm : (t, tupO #[.int num t1, .int 2 t2, .bytes y.toArray t3]) ∈ kn),
   Con w (.ref 365) [.ref r, .ref t] 80 800 kn (fun _ x => x = .bool true) := by
  have hon : HKon := trivial
  intro w kn r u l f t i vs num wr y tv t1 t2 t3 hr hs hln hx hf hm
  have hdd : handedIn (.bytes y.toArray tv) = true := rfl
  have hr0 := hr
  obtain ⟨dx, f1, f2, f3, f4, f5, f6, r1, r2⟩ := hr
  refine Con.openG (hkO (no_implicit_lambda% ((?hopq : HTO _) _ _ _ _ _ _ _ _ _ _ _ _ _ _ _)))
  intros s dp un gd t1 t2 t3 base g outs loose mean mg mb Z
  refine ConG.mk ?_
  intro R ret hd hu
  k_extra "M body"
  intro L h₁ hL F N B X T C1 C2 C3 TK l1 l2 l3 l4
  try dsimp only
  try k_fold
  k_steps
  all_goals (k_extra "M out")
  refine' ret _ _ _ _ _ _ _ ([] ++ kn) ?X id (by simp)
  case X => k_extra "M fin3"
end
-- I2
section

end
-- E0
section
@[reducible] noncomputable def frs (outs : List Env) : List Addr := outs.filterMap (·.frame)
structure DK (fs : List Addr) (g : Heap) : Prop where
  d : KtsDicts fs g
structure RdyS (w : World) (A : Around) (n u : Nat) (s : Shared) (t1 t2 t3 : Array Value) (kn : Led) (base : Heap) (outs : List Env) (g : Heap) (loose : List Str) (mean : ExcName → Option Value) (mg mb : Str → Option Value) : Prop where
  toR : Rdy w A n u s t1 t2 t3 kn base outs g loose mean mg mb
  XB : (hd.heap_1_39 w.params).In base
  TB : Top topProg loose mean mg mb base
  b1 : CodeHd base 270 266
  b2 : CodeHd base 284 280
  b3 : CodeHd base 163 159
  D : DK (frs outs) g
structure ExtS (outs : List Env) (h h' : Heap) (t1' t2' t3' : Array Value) (kn tl : Led) : Prop where
  keep : ∀ b o, h.get? b = some o → b ≠ 266 → b ≠ 280 → b ≠ 159 → b ∉ frs outs → h'.get? b = some o
  slot : ∀ b o, h.get? b = some o → b ∈ frs outs → ∃ sl, h'.get? b = some { o with slots := sl }
  size : h.objs.size ≤ h'.objs.size
  news : ∀ p ∈ tabs t1' t2' t3' ++ (kn ++ tl), h'.get? p.1 = some p.2
  fresh : ∀ p ∈ tl, p ∈ kn ∨ h.get? p.1 = none
  tok : TabOk t1' t2' t3' (kn ++ tl)
noncomputable def ConS (w : World) (f : Value) (args : List Value) (n u : Nat) (kn : Led) (Post : Led → Value → Prop) : Prop :=
  ∀ (A : Around) (s : Shared) (t1 t2 t3 : Array Value) (base : Heap) (outs : List Env) (g : Heap) (loose : List Str) (mean : ExcName → Option Value) (mg mb : Str → Option Value) (Z : Result → Shared → Prop),
    RdyS w A n u s t1 t2 t3 kn base outs g loose mean mg mb →
    (∀ r h' tk' gs' t1' t2' t3' tl, ExtS outs s.heap h' t1' t2' t3' kn tl → (AllBare s.gens → AllBare gs') → Post (kn ++ tl) r → Z (.ok (.ret r)) { s with heap := h', toks := tk', gens := gs' }) → codeAny (model prg w) A (.call f ⟨args, []⟩) Z s
theorem Con.toS {w : World} {f : Value} {args : List Value} {n u : Nat} {kn : Led} {Post : Led → Value → Prop} (x : Con w f args n u kn Post) : ConS w f args n u kn Post :=
  fun A s t1 t2 t3 base outs g loose mean mg mb Z R ret => x A s t1 t2 t3 base outs g loose mean mg mb Z R.toR fun r h' tk' gs' t1' t2' t3' tl e hg p => by
    refine ret r h' tk' gs' t1' t2' t3' tl ⟨fun b o q a b c _ => e.keep _ _ q a b c, fun b o q hb => ?_, e.size, e.news, e.fresh, e.tok⟩ hg p
    have ne : b ≠ 266 ∧ b ≠ 280 ∧ b ≠ 159 := by
      obtain ⟨o', es, n', h1, h2⟩ := R.D.d b hb
      have tb : ∀ a t, (a, tabObj t) ∈ tabs t1 t2 t3 → b ≠ a := fun a t hm z => by
        have := (R.toR.news (a, tabObj t) (List.mem_append_left _ hm)).2
        rw [← z, h1] at this; cases this
      exact ⟨tb 266 t1 (by simp), tb 280 t2 (by simp), tb 159 t3 (by simp)⟩
    exact ⟨o.slots, e.keep _ _ q ne.1 ne.2.1 ne.2.2⟩
section
variable {w : World} {A A₀ : Around} {n u : Nat} {s : Shared} {h' : Heap} {t1 t2 t3 t1' t2' t3' : Array Value} {kn tl : Led} {base h₀ : Heap} {outs outer : List Env} {g : Heap} {loose : List Str} {mean : ExcName → Option Value} {mg mb : Str → Option Value}
  {L : Addr} {m m' : Str → Option Value} {news news' : Led} {env : Env} {f : Value} {args : List Value} {Post : Led → Value → Prop} {Q E : Value → Shared → Prop} {Z : Result → Shared → Prop} {G : Array Value → Array Value → Array Value → Led → Led}
theorem rdyS_of (B : Below A₀ base outer h₀) (F : Fr h₀ L s.heap m) (N : News h₀ L s.heap news) (XB : (hd.heap_1_39 w.params).In base) (TB : Top topProg loose mean mg mb base)
    (C1 : CodeHd base 270 266) (C2 : CodeHd base 284 280) (C3 : CodeHd base 163 159) (D : DK (frs outer) h₀) (hA : A.frames = some (env :: outer)) (hf : env.frame = some L) (hke : env.scope.kind = .function)
    (hsub : ∀ p ∈ tabs t1 t2 t3 ++ kn, p ∈ news) (TK : TabOk t1 t2 t3 kn) (hh : A.handled = none) (hd : A.depth + n < recursionLimit) (hu : A.units + u < cLine) :
    RdyS w A n u s t1 t2 t3 kn base (env :: outer) (hideAll s.heap ((tabs t1 t2 t3 ++ kn).map (·.1))) loose mean mg mb := by
  refine ⟨rdy_of B F (XB.keeps B.stays) N (TB.keeps B.stays) (C1.keeps B.stays) (C2.keeps B.stays) (C3.keeps B.stays) hA hf hke hsub TK hh hd hu, XB, TB, C1, C2, C3, ⟨fun b hb => ?_⟩⟩
  obtain ⟨e, he, hfb⟩ := List.mem_filterMap.mp hb
  rcases List.mem_cons.mp he with rfl | he
  · obtain rfl : b = L := Option.some.inj (hfb.symm.trans hf)
    obtain ⟨oL, es, ep, hL, hd, r⟩ := F.ns
    exact ⟨oL, es, ep, hideAll_get _ hL (fun q => by obtain ⟨p, hp, e⟩ := List.mem_map.mp q; exact (N p (hsub p hp)).2.1 e), hd⟩
  · obtain ⟨o, es, k, h1, h2⟩ := D.d b (List.mem_filterMap.mpr ⟨e, he, hfb⟩)
    exact ⟨o, es, k, hideAll_get _ (F.keep _ _ h1) (fun q => by obtain ⟨p, hp, e⟩ := List.mem_map.mp q; have := (N p (hsub p hp)).2.2; rw [e, h1] at this; cases this), h2⟩
theorem ground_after (B : Below A₀ base outer h₀) {h : Heap} (F : Fr h₀ L h m) (N : News h₀ L h news) (D : DK (frs outer) h₀) (hO : Own t1 t2 t3 kn news G) (hf : env.frame = some L) (x : ExtS (env :: outer) h h' t1' t2' t3' kn tl) :
    ∃ g₂, KtsTurn (frs outer) h₀ g₂ ∧ Fr g₂ L h' m ∧ News g₂ L h' (G t1' t2' t3' (kn ++ tl)) ∧ Below A₀ base outer g₂ := by
  have hL0 := kts_self F
  have st : ∀ p ∈ tabs t1 t2 t3, p ∈ news := fun p hp => hO.sub _ (List.mem_append_left _ hp)
  have tb : ∀ b o, h₀.get? b = some o → b ≠ 266 ∧ b ≠ 280 ∧ b ≠ 159 := fun b o e => ground_off N st e
  have nfr : ∀ b, b ∈ frs (env :: outer) → b = L ∨ b ∈ frs outer := fun b hb => by
    obtain ⟨e, he, hfb⟩ := List.mem_filterMap.mp hb
    rcases List.mem_cons.mp he with rfl | he
    · exact .inl (Option.some.inj (hfb.symm.trans hf))
    · exact .inr (List.mem_filterMap.mpr ⟨e, he, hfb⟩)
  have inL : L ∈ frs (env :: outer) := List.mem_filterMap.mpr ⟨env, .head _, hf⟩
  have inO : ∀ b, b ∈ frs outer → b ∈ frs (env :: outer) := fun b hb => by
    obtain ⟨e, he, hfb⟩ := List.mem_filterMap.mp hb
    exact List.mem_filterMap.mpr ⟨e, .tail _ he, hfb⟩
  have noL : ∀ b o, h₀.get? b = some o → b ≠ L := fun b o e z => by rw [z, hL0] at e; cases e
  obtain ⟨T, S⟩ := kts_turn_at (h := h') (fs := frs outer) (g := h₀) (fun b hb => by obtain ⟨o, _, _, e, _⟩ := D.d b hb; exact ⟨o, e⟩)
    (fun b o e nm => x.keep b o (F.keep b o e) (tb b o e).1 (tb b o e).2.1 (tb b o e).2.2 fun hb => (nfr b hb).elim (noL b o e) nm)
    (fun b o e hm => x.slot b o (F.keep b o e) (inO b hm))
  refine ⟨_, T, ⟨?_, S, by rw [T.size]; exact F.above⟩, fun p hp => ?_, ⟨B.stack, fun b o e => T.other b o (B.stays b o e) (fun hm => by rw [(B.frames.mem hm).1] at e; cases e), B.frames.of_keeps fun b o e _ => ?_⟩⟩
  · obtain ⟨oL, es, ep, hL, hd, r⟩ := F.ns
    obtain ⟨sl, hs⟩ := x.slot L oL hL inL
    exact ⟨_, es, ep, hs, hd, r⟩
  · obtain ⟨own, e1, e2, e3⟩ := hO.shape
    rw [e2] at hp
    rcases List.mem_append.mp hp with hp | hp
    · have n := N p (by rw [e1]; exact List.mem_append_left _ hp)
      refine ⟨x.keep _ _ n.1 (e3 p hp).1 (e3 p hp).2.1 (e3 p hp).2.2 fun hb => ?_, n.2.1, T.none_ _ n.2.2⟩
      rcases nfr _ hb with z | z
      · exact n.2.1 z
      · obtain ⟨o, _, _, e, _⟩ := D.d _ z
        rw [n.2.2] at e; cases e
    · have tn : ∀ {b : Addr}, b ≠ L ∧ h₀.get? b = none → b ≠ L ∧ _ := fun k => ⟨k.1, T.none_ _ k.2⟩
      exact ⟨x.news p hp, tn ((List.mem_append.mp hp).elim (tabs_ground N st p) fun hq => (List.mem_append.mp hq).elim (fun hq => (N p (hO.sub p (List.mem_append_right _ hq))).2) fun hq => (x.fresh p hq).elim (fun hq => (N p (hO.sub p (List.mem_append_right _ hq))).2) (new_ground F))⟩
  · obtain ⟨sl, hs⟩ := T.up e
    exact ⟨_, hs, rfl⟩
end

theorem ConS.open {w : World} {f : Value} {args : List Value} {n u : Nat} {kn : Led} {Post : Led → Value → Prop}
   (h : ∀ (s : Shared) (dp un : Nat) (gd : Option (List Code)) (t1 t2 t3 : Array Value) (base g : Heap) (outs : List Env) (loose : List Str) (mean : ExcName → Option Value) (mg mb : Str → Option Value) (Z : Result → Shared → Prop),
    RdyS w ⟨none, dp, some outs, gd, un⟩ n u s t1 t2 t3 kn base outs g loose mean mg mb →
    (∀ r h' tk' gs' t1' t2' t3' tl, ExtS outs s.heap h' t1' t2' t3' kn tl → (AllBare s.gens → AllBare gs') → Post (kn ++ tl) r → Z (.ok (.ret r)) { s with heap := h', toks := tk', gens := gs' }) → dp + n < 1000 → un + u < 9900 → codeAny (model prg w) ⟨none, dp, some outs, gd, un⟩ (.call f ⟨args, []⟩) Z s) : ConS w f args n u kn Post := by
  intro A s t1 t2 t3 base outs g loose mean mg mb Z R ret
  obtain ⟨ah, dp, fr, gd, un⟩ := A
  obtain rfl : ah = none := R.toR.handled
  obtain rfl : fr = some outs := R.toR.below.stack
  exact h s dp un gd t1 t2 t3 base g outs loose mean mg mb Z R ret R.toR.depth R.toR.units
noncomputable def ConSG (w : World) (f : Value) (args : List Value) (n u : Nat) (kn : Led) (Post : Led → Value → Prop) (s : Shared) (dp un : Nat) (gd : Option (List Code)) (t1 t2 t3 : Array Value) (base g : Heap) (outs : List Env) (loose : List Str) (mean : ExcName → Option Value) (mg mb : Str → Option Value) (Z : Result → Shared → Prop) : Prop :=
    RdyS w ⟨none, dp, some outs, gd, un⟩ n u s t1 t2 t3 kn base outs g loose mean mg mb →
    (∀ r h' tk' gs' t1' t2' t3' tl, ExtS outs s.heap h' t1' t2' t3' kn tl → (AllBare s.gens → AllBare gs') → Post (kn ++ tl) r → Z (.ok (.ret r)) { s with heap := h', toks := tk', gens := gs' }) → dp + n < 1000 → un + u < 9900 → codeAny (model prg w) ⟨none, dp, some outs, gd, un⟩ (.call f ⟨args, []⟩) Z s
theorem ConSG.mk {w : World} {f : Value} {args : List Value} {n u : Nat} {kn : Led} {Post : Led → Value → Prop} {s : Shared} {dp un : Nat} {gd : Option (List Code)} {t1 t2 t3 : Array Value} {base g : Heap} {outs : List Env} {loose : List Str} {mean : ExcName → Option Value} {mg mb : Str → Option Value} {Z : Result → Shared → Prop}
   (h : RdyS w ⟨none, dp, some outs, gd, un⟩ n u s t1 t2 t3 kn base outs g loose mean mg mb →
    (∀ r h' tk' gs' t1' t2' t3' tl, ExtS outs s.heap h' t1' t2' t3' kn tl → (AllBare s.gens → AllBare gs') → Post (kn ++ tl) r → Z (.ok (.ret r)) { s with heap := h', toks := tk', gens := gs' }) → dp + n < 1000 → un + u < 9900 → codeAny (model prg w) ⟨none, dp, some outs, gd, un⟩ (.call f ⟨args, []⟩) Z s) : ConSG w f args n u kn Post s dp un gd t1 t2 t3 base g outs loose mean mg mb Z := h
theorem ConS.openG {w : World} {f : Value} {args : List Value} {n u : Nat} {kn : Led} {Post : Led → Value → Prop} (h : HTO (ConSG w f args n u kn Post)) : ConS w f args n u kn Post := ConS.open h
end
-- E1
section
section
variable {w : World} {A A₀ : Around} {n u : Nat} {s : Shared} {h' : Heap} {t1 t2 t3 t1' t2' t3' : Array Value} {kn tl : Led} {base h₀ : Heap} {outs outer : List Env} {g : Heap} {loose : List Str} {mean : ExcName → Option Value} {mg mb : Str → Option Value}
  {L : Addr} {m m' : Str → Option Value} {news news' : Led} {env : Env} {f : Value} {args : List Value} {Post : Led → Value → Prop} {Q E : Value → Shared → Prop} {Z : Result → Shared → Prop} {G : Array Value → Array Value → Array Value → Led → Led}
theorem use_conS' (C : ConS w f args n u kn Post) (B : Below A₀ base outer h₀) (F : Fr h₀ L s.heap m) (N : News h₀ L s.heap news) (XB : (hd.heap_1_39 w.params).In base) (TB : Top topProg loose mean mg mb base)
    (C1 : CodeHd base 270 266) (C2 : CodeHd base 284 280) (C3 : CodeHd base 163 159) (D : DK (frs outer) h₀) (TK : TabOk t1 t2 t3 kn) (hO : Own t1 t2 t3 kn news G)
    (hA : A.frames = some (env :: outer)) (hf : env.frame = some L) (hke : env.scope.kind = .function)
    (hh : A.handled = none) (hd : A.depth + n < recursionLimit) (hu : A.units + u < cLine)
    (h : ∀ r h' tk' gs' t1' t2' t3' kn' g₂, KtsTurn (frs outer) h₀ g₂ → Fr g₂ L h' m → News g₂ L h' (G t1' t2' t3' kn') → Below A₀ base outer g₂ → (Mine.hd.heap_1_39 w.params).In g₂ → Top topProg loose mean mg mb g₂ → CodeHd g₂ 270 266 → CodeHd g₂ 284 280 → CodeHd g₂ 163 159 → DK (frs outer) g₂ →
      Gr kn kn' → (∀ p ∈ kn', p ∈ kn ∨ ∀ q ∈ news, p.1 ≠ q.1) → TabOk t1' t2' t3' kn' → (AllBare s.gens → AllBare gs') → Post kn' r → Z (.ok (.ret r)) { s with heap := h', toks := tk', gens := gs' }) : codeAny (model prg w) A (.call f ⟨args, []⟩) Z s :=
  C A s t1 t2 t3 base (env :: outer) _ loose mean mg mb Z (rdyS_of B F N XB TB C1 C2 C3 D hA hf hke hO.sub TK hh hd hu) fun r h' tk' gs' t1' t2' t3' tl x hg p => by
    obtain ⟨g₂, T, F', N', B'⟩ := ground_after B F N D hO hf x
    have e : ∀ p ∈ kn ++ tl, p ∈ kn ∨ ∀ q ∈ news, p.1 ≠ q.1 := fun p hp => (List.mem_append.mp hp).elim .inl fun hp => (x.fresh p hp).imp id fun fr q hq z => by rw [z, (N q hq).1] at fr; cases fr
    exact h r h' tk' gs' t1' t2' t3' (kn ++ tl) g₂ T F' N' B' (XB.keeps B'.stays) (TB.keeps B'.stays) (C1.keeps B'.stays) (C2.keeps B'.stays) (C3.keeps B'.stays) ⟨D.d.turn T⟩
      ⟨fun _ hp => List.mem_append_left _ hp, fun p hp => (e p hp).imp id fun ne => ⟨ne _ (hO.sub (266, tabObj t1) (by simp)), ne _ (hO.sub (280, tabObj t2) (by simp)), ne _ (hO.sub (159, tabObj t3) (by simp)), fun q hq => ne _ (hO.sub q (List.mem_append_right _ hq))⟩⟩ e x.tok hg p
theorem use_conS (C : ConS w f args n u kn Post) (B : Below A₀ base outer h₀) (F : Fr h₀ L s.heap m) (N : News h₀ L s.heap news) (XB : (hd.heap_1_39 w.params).In base) (TB : Top topProg loose mean mg mb base)
    (C1 : CodeHd base 270 266) (C2 : CodeHd base 284 280) (C3 : CodeHd base 163 159) (D : DK (frs outer) h₀) (TK : TabOk t1 t2 t3 kn) (hO : Own t1 t2 t3 kn news G)
    (hA : A.frames = some (env :: outer)) (hf : env.frame = some L) (hke : env.scope.kind = .function)
    (hh : A.handled = none) (hd : A.depth + n < recursionLimit) (hu : A.units + u < cLine)
    (h : ∀ r h' tk' gs' t1' t2' t3' kn' g₂, KtsTurn (frs outer) h₀ g₂ → Fr g₂ L h' m → News g₂ L h' (G t1' t2' t3' kn') → Below A₀ base outer g₂ → (Mine.hd.heap_1_39 w.params).In g₂ → Top topProg loose mean mg mb g₂ → CodeHd g₂ 270 266 → CodeHd g₂ 284 280 → CodeHd g₂ 163 159 → DK (frs outer) g₂ →
      Gr kn kn' → (∀ p ∈ kn', p ∈ kn ∨ ∀ q ∈ news, p.1 ≠ q.1) → TabOk t1' t2' t3' kn' → (AllBare s.gens → AllBare gs') → Post kn' r → Q r { s with heap := h', toks := tk', gens := gs' }) : wpAny (model prg w) A (call f args) Q E s :=
  wpAny_call (use_conS' C B F N XB TB C1 C2 C3 D TK hO hA hf hke hh hd hu h)
theorem finS {K0 : Led} {own : Led} {g₂ : Heap} (R : RdyS w A n u s t1 t2 t3 kn base outs g loose mean mg mb) (hL : L = s.heap.objs.size) (T : KtsTurn (frs outs) g g₂) (F : Fr g₂ L h' m') (N : News g₂ L h' news') (TKx : TabOk t1' t2' t3' K0) (gr : Gr kn K0)
    (ht : ∀ p ∈ tabs t1' t2' t3', p ∈ news') (hk : ∀ p ∈ K0, p ∈ news')
    (htl : ∀ p ∈ own, p ∈ news' ∧ p.2.cls ≠ .none ∧ (p ∈ K0 ∨ NewL p.1 K0 ∨ NewL p.1 kn)) : ExtS outs s.heap h' t1' t2' t3' kn (own ++ K0) := by
  have nt : ∀ p : Addr × Obj, NE kn p → ∀ q ∈ tabs t1 t2 t3 ++ kn, p.1 ≠ q.1 := fun p ne q hq => by
    rcases List.mem_append.mp hq with hq | hq
    · simp only [List.mem_cons, List.not_mem_nil, or_false] at hq
      rcases hq with rfl | rfl | rfl
      · exact ne.1
      · exact ne.2.1
      · exact ne.2.2.1
    · exact ne.2.2.2 q hq
  have hK : ∀ p ∈ K0, p ∈ kn ∨ ∀ q ∈ tabs t1 t2 t3 ++ kn, p.1 ≠ q.1 := fun p hp => (gr.2 p hp).imp id (nt p)
  have hne : ∀ p ∈ own ++ K0, p ∈ kn ∨ ∀ q ∈ tabs t1 t2 t3 ++ kn, p.1 ≠ q.1 := fun p hp => by
    rcases List.mem_append.mp hp with hp | hp
    · rcases (htl p hp).2.2 with h | ⟨a, b, c, d⟩ | h
      · exact hK p h
      · exact .inr (nt p ⟨Nat.ne_of_gt a, Nat.ne_of_gt b, Nat.ne_of_gt c, fun q hq => (AllLt.ne d q (gr.1 q hq)).symm⟩)
      · exact .inr h.ne
    · exact hK p hp
  have hnew : ∀ p ∈ own ++ K0, p ∈ news' := fun p hp => (List.mem_append.mp hp).elim (fun hp => (htl p hp).1) (hk p)
  refine ⟨fun b o e h1 h2 h3 h4 => ?_, fun b o e hb => ?_, ?_, fun p hp => ?_, fun p hp => ?_, TKx.mono (fun p hp => List.mem_append_right _ (List.mem_append_right _ hp)) fun p hp => ?_⟩
  · by_cases hb : ∃ p ∈ kn, p.1 = b
    · obtain ⟨p, hp, rfl⟩ := hb
      have e1 := (R.toR.news p (List.mem_append_right _ hp)).1
      rw [e] at e1; cases e1
      exact (N p (hk p (gr.1 p hp))).1
    · refine F.keep _ _ (T.other _ _ (R.toR.cov b o e fun p hp => ?_) h4)
      rcases List.mem_append.mp hp with hp | hp
      · intro q
        subst q
        simp only [List.mem_cons, List.not_mem_nil, or_false] at hp
        rcases hp with rfl | rfl | rfl
        · exact h1 rfl
        · exact h2 rfl
        · exact h3 rfl
      · exact fun q => hb ⟨p, hp, q⟩
  · obtain ⟨o', es, k, e1, e2⟩ := R.D.d b hb
    have := R.toR.sub _ _ e1
    rw [e] at this; cases this
    obtain ⟨sl, hs⟩ := T.frame b o e1 hb
    exact ⟨sl, F.keep _ _ hs⟩
  · rw [← hL]; exact Nat.le_of_lt F.ns.lt
  · rcases List.mem_append.mp hp with hp | hp
    · exact (N p (ht p hp)).1
    · rcases List.mem_append.mp hp with hp | hp
      · exact (N p (hk p (gr.1 p hp))).1
      · exact (N p (hnew p hp)).1
  · rcases hne p hp with h | h
    · exact .inl h
    · cases e : s.heap.get? p.1 with
      | none => exact .inr rfl
      | some o =>
        have e1 := R.toR.cov p.1 o e fun q hq z => h q hq z.symm
        obtain ⟨sl, e2⟩ := T.up e1
        rw [(N p (hnew p hp)).2.2] at e2; cases e2
  · simp only [List.mem_append] at hp
    rcases hp with hp | hp | hp
    · exact .inr (R.toR.tok.d p hp)
    · obtain ⟨hn, hc, _⟩ := htl p hp
      exact .inr (obj_off N ht (N p hn).1 hc)
    · exact .inl hp
end
end
-- W0
section
theorem kwW00 : True := by
  (k_with "M finS" => (
  (refine' finS ?RzW00 ?hLzW00 ?TzW00 ?FzW00 ?NzW00 ?TKzW00 ?grzW00 ?htzW00 ?hkzW00 ?htlzW00); (case RzW00 => assumption); (case hLzW00 => assumption); (case TzW00 => first | assumption | exact KtsTurn.refl); (case FzW00 => k_asm); (case NzW00 => k_asm); (case TKzW00 => with_reducible assumption); (case grzW00 => k_extra "M gr"); (case htzW00 => k_extra "M sub"); (case hkzW00 => k_extra "M sub"); (case htlzW00 => k_extra "M tl3")))
  trivial
noncomputable def ClrTop (kn : Led) (u : Addr) : Prop := ∃ du h k n, (u, instObj 174 du) ∈ kn ∧ (du, dictOf [⟨h, .str "_values" k, .none⟩] n) ∈ kn
theorem ClrTop.mono : ∀ {kn kn' : Led} {u : Addr} (x : ClrTop kn u) (h : ∀ p ∈ kn, p ∈ kn'), ClrTop kn' u := by
  have hon : HKon := trivial
  intro kn kn' u x h
  obtain ⟨du, a, b, c, d, e⟩ := x
  first | exact exI4 ⟨h _ d, h _ e⟩ | exact exI3 ⟨c, h _ d, h _ e⟩ | exact exI2 ⟨b, c, h _ d, h _ e⟩ | exact ⟨du, a, b, c, h _ d, h _ e⟩
set_option maxHeartbeats 4000000 in
theorem c_wordA : ∀ {w : World} {kn : Led} {u l : Addr} {vs : List Value} {p : Int} {tp : Tok} (hs : SetTop kn u l vs) (hln : vs.length ≤ 100) (hp : (vs.length : Int) ≤ p),
   ConS w (.ref 377) [.ref u, .int p tp] 60 600 kn (fun _ x => ∃ t, x = .str "index" t) := by
  have hon : HKon := trivial
  intro w kn u l vs p tp hs hln hp
  have hs0 := hs
  obtain ⟨du, g1, g2, g3, g4, m1, m2, m3⟩ := hs
  refine ConS.openG (hkO (no_implicit_lambda% ((?hopq : HTO _) _ _ _ _ _ _ _ _ _ _ _ _ _ _ _)))
  intros s dp un gd t1 t2 t3 base g outs loose mean mg mb Z
  refine ConSG.mk ?_
  intro RS ret hd hu
  have R := RS.toR
  have XB := RS.XB
  have TB := RS.TB
  have CB1 := RS.b1
  have CB2 := RS.b2
  have CB3 := RS.b3
  have DD := RS.D
  k_extra "M body"
  intro L h₁ hL F N B X T C1 C2 C3 TK l1 l2 l3 l4
  try dsimp only
  try k_fold
  have D := DD.d
  k_steps
  all_goals (k_extra "M out")
  refine' ret _ _ _ _ _ _ _ ([] ++ kn) ?X id ⟨_, rfl⟩
  case X => k_extra "M finS"
end
-- W1
section
set_option maxHeartbeats 4000000 in
theorem c_wordB : ∀ {w : World} {kn : Led} {u l : Addr} {vs : List Value} {p : Int} {tp : Tok} (hs : SetTop kn u l vs) (hln : vs.length ≤ 100) (hp : p + (vs.length : Int) < 0),
   ConS w (.ref 377) [.ref u, .int p tp] 60 600 kn (fun _ x => ∃ t, x = .str "index" t) := by
  have hon : HKon := trivial
  intro w kn u l vs p tp hs hln hp
  have hs0 := hs
  obtain ⟨du, g1, g2, g3, g4, m1, m2, m3⟩ := hs
  refine ConS.openG (hkO (no_implicit_lambda% ((?hopq : HTO _) _ _ _ _ _ _ _ _ _ _ _ _ _ _ _)))
  intros s dp un gd t1 t2 t3 base g outs loose mean mg mb Z
  refine ConSG.mk ?_
  intro RS ret hd hu
  have R := RS.toR
  have XB := RS.XB
  have TB := RS.TB
  have CB1 := RS.b1
  have CB2 := RS.b2
  have CB3 := RS.b3
  have DD := RS.D
  k_extra "M body"
  intro L h₁ hL F N B X T C1 C2 C3 TK l1 l2 l3 l4
  try dsimp only
  try k_fold
  have D := DD.d
  k_steps
  all_goals (k_extra "M out")
  refine' ret _ _ _ _ _ _ _ ([] ++ kn) ?X id ⟨_, rfl⟩
  case X => k_extra "M finS"
end
-- W2
section
set_option maxHeartbeats 4000000 in
theorem c_wordC : ∀ {w : World} {kn : Led} {u l : Addr} {vs : List Value} {p : Int} {tp : Tok} (hs : ClrTop kn u),
   ConS w (.ref 377) [.ref u, .int p tp] 60 600 kn (fun _ x => ∃ t, x = .str "value" t) := by
  have hon : HKon := trivial
  intro w kn u l vs p tp hs
  obtain ⟨du, g1, g2, g3, m1, m2⟩ := hs
  refine ConS.openG (hkO (no_implicit_lambda% ((?hopq : HTO _) _ _ _ _ _ _ _ _ _ _ _ _ _ _ _)))
  intros s dp un gd t1 t2 t3 base g outs loose mean mg mb Z
  refine ConSG.mk ?_
  intro RS ret hd hu
  have R := RS.toR
  have XB := RS.XB
  have TB := RS.TB
  have CB1 := RS.b1
  have CB2 := RS.b2
  have CB3 := RS.b3
  have DD := RS.D
  k_extra "M body"
  intro L h₁ hL F N B X T C1 C2 C3 TK l1 l2 l3 l4
  try dsimp only
  try k_fold
  have D := DD.d
  k_steps
  all_goals (k_extra "M out")
  refine' ret _ _ _ _ _ _ _ ([] ++ kn) ?X id ⟨_, rfl⟩
  case X => k_extra "M finS"
end
-- W3
section
set_option maxHeartbeats 4000000 in
theorem c_gone : ∀ {w : World} {kn : Led} {u l : Addr} {vs : List Value} {p : Int} {tp : Tok} (hs : ClrTop kn u),
   ConS w (.ref 384) [.ref u] 60 600 kn (fun _ x => ∃ t, x = .str "value" t) := by
  have hon : HKon := trivial
  intro w kn u l vs p tp hs
  obtain ⟨du, g1, g2, g3, m1, m2⟩ := hs
  refine ConS.openG (hkO (no_implicit_lambda% ((?hopq : HTO _) _ _ _ _ _ _ _ _ _ _ _ _ _ _ _)))
  intros s dp un gd t1 t2 t3 base g outs loose mean mg mb Z
  refine ConSG.mk ?_
  intro RS ret hd hu
  have R := RS.toR
  have XB := RS.XB
  have TB := RS.TB
  have CB1 := RS.b1
  have CB2 := RS.b2
  have CB3 := RS.b3
  have DD := RS.D
  k_extra "M body"
  intro L h₁ hL F N B X T C1 C2 C3 TK l1 l2 l3 l4
  try dsimp only
  try k_fold
  have D := DD.d
  k_steps
  all_goals (k_extra "M out")
  refine' ret _ _ _ _ _ _ _ ([] ++ kn) ?X id ⟨_, rfl⟩
  case X => k_extra "M finS"
end
-- E2
section
theorem sub_value_attr : isSubtype (.type "ValueError") (.type "AttributeError") = pure false := by rw [isSubtype_type]; kernel_rfl
theorem noteIf_value {M : Model} {A : Around} {E : Value → Shared → Prop} {s : Shared} {e : Addr} {o name : Value} {Q : Unit → Shared → Prop} (ht : ∃ ob, s.heap.get? e = some ob ∧ ob.cls = .type "ValueError") (h : Q () s) : wpAny M A (noteIf true o name (.ref e)) Q E s := by
  obtain ⟨ob, he, hc⟩ := ht
  have hT : s.TypeIs (.ref e) "ValueError" := ⟨ob, he, hc⟩
  show wpAny M A (noteAttr (.ref e) o name) Q E s
  unfold noteAttr
  refine wpAny_bind ?_
  unfold lacksNameAndObj
  refine wpAny_bind (wpAny_isInstance hT sub_value_attr ?_)
  exact wpAny_pure (wpAny_pure h)
theorem noteIf_SN {M : Model} {A : Around} {E : Value → Shared → Prop} {s : Shared} {base G : Heap} {l : List Env} {e : Addr} {news : Led} {o name : Value} {Q : Unit → Shared → Prop} (R : RaisedSN base G l e (.type "ValueError") news s.heap) (h : Q () s) : wpAny M A (noteIf true o name (.ref e)) Q E s := by
  obtain ⟨B, a0, _, _, _, hfl⟩ := R
  exact noteIf_value hfl.there h
theorem kwE20 : True := by
  (k_with "noteIf" => (k_here; k_dflt (refine noteIf_SN (by assumption) ?_)))
  (k_with "noteIf ref" => (k_here; k_dflt (refine noteIf_SN (by assumption) ?_)))
  (k_with "noteIf bool ref str ref" => (k_here; k_dflt (refine noteIf_SN (by assumption) ?_)))
  trivial
end
-- W4
section
set_option maxHeartbeats 4000000 in
theorem c_toldA : ∀ {w : World} {kn : Led} {r u : Addr} {i : Nat} {p : Int} {tp : Tok} (hr : RefAt kn r u i) (hs : ClrTop kn u) (hp : p < 2),
   ConS w (.ref 391) [.ref r, .int p tp] 60 600 kn (fun _ x => ∃ t, x = .str "value" t) := by
  have hon : HKon := trivial
  intro w kn r u i p tp hr hs hp
  obtain ⟨du, g1, g2, g3, m1, m2⟩ := hs
  obtain ⟨dx, f1, f2, f3, f4, f5, f6, r1, r2⟩ := hr
  refine ConS.openG (hkO (no_implicit_lambda% ((?hopq : HTO _) _ _ _ _ _ _ _ _ _ _ _ _ _ _ _)))
  intros s dp un gd t1 t2 t3 base g outs loose mean mg mb Z
  refine ConSG.mk ?_
  intro RS ret hd hu
  have R := RS.toR
  have XB := RS.XB
  have TB := RS.TB
  have CB1 := RS.b1
  have CB2 := RS.b2
  have CB3 := RS.b3
  have DD := RS.D
  k_extra "M body"
  intro L h₁ hL F N B X T C1 C2 C3 TK l1 l2 l3 l4
  try dsimp only
  try k_fold
  have D := DD.d
  k_steps
  all_goals (k_extra "M out")
  refine' ret _ _ _ _ _ _ _ ([] ++ kn) ?X id ⟨_, rfl⟩
  case X => k_extra "M finS"
end
-- W5
section
set_option maxHeartbeats 4000000 in
theorem c_toldB : ∀ {w : World} {kn : Led} {r u : Addr} {i : Nat} {p : Int} {tp : Tok} (hr : RefAt kn r u i) (hs : ClrTop kn u) (hp : 2 ≤ p),
   ConS w (.ref 391) [.ref r, .int p tp] 60 600 kn (fun _ x => ∃ t, x = .str "value" t) := by
  have hon : HKon := trivial
  intro w kn r u i p tp hr hs hp
  obtain ⟨du, g1, g2, g3, m1, m2⟩ := hs
  obtain ⟨dx, f1, f2, f3, f4, f5, f6, r1, r2⟩ := hr
  refine ConS.openG (hkO (no_implicit_lambda% ((?hopq : HTO _) _ _ _ _ _ _ _ _ _ _ _ _ _ _ _)))
  intros s dp un gd t1 t2 t3 base g outs loose mean mg mb Z
  refine ConSG.mk ?_
  intro RS ret hd hu
  have R := RS.toR
  have XB := RS.XB
  have TB := RS.TB
  have CB1 := RS.b1
  have CB2 := RS.b2
  have CB3 := RS.b3
  have DD := RS.D
  k_extra "M body"
  intro L h₁ hL F N B X T C1 C2 C3 TK l1 l2 l3 l4
  try dsimp only
  try k_fold
  have D := DD.d
  k_steps
  all_goals (k_extra "M out")
  refine' ret _ _ _ _ _ _ _ ([] ++ kn) ?X id ⟨_, rfl⟩
  case X => k_extra "M finS"
end
-- X0
section
set_option maxHeartbeats 4000000 in
theorem c_itemA : ∀ {w : World} {kn : Led} {u l : Addr} {vs : List Value} {p : Int} {i : Nat} {tp : Tok} (hs : SetTop kn u l vs) (hln : vs.length ≤ 100) (hp : p = (i : Int)) (hi : i < vs.length),
   Con w (.ref 122) [.ref u, .int p tp] 60 600 kn (fun kn' x => ∃ r, x = .ref r ∧ RefAt kn' r u i) := by
  have hon : HKon := trivial
  intro w kn u l vs p i tp hs hln hp hi
  subst hp
  have hs0 := hs
  obtain ⟨du, g1, g2, g3, g4, m1, m2, m3⟩ := hs
  refine Con.openG (hkO (no_implicit_lambda% ((?hopq : HTO _) _ _ _ _ _ _ _ _ _ _ _ _ _ _ _)))
  intros s dp un gd t1 t2 t3 base g outs loose mean mg mb Z
  refine ConG.mk ?_
  intro R ret hd hu
  k_extra "M body"
  intro L h₁ hL F N B X T C1 C2 C3 TK l1 l2 l3 l4
  try dsimp only
  try k_fold
  k_steps
  all_goals (k_extra "M out")
  all_goals (
    refine' ret _ _ _ _ _ _ _ ([(_, _), (_, _)] ++ kn) ?X id ⟨_, rfl, _, _, _, _, _, _, _, List.mem_append_right _ (.head _), List.mem_append_right _ (.tail _ (.head _))⟩
    case X => k_extra "M fin3")
end
-- X1
section
section
variable {prog : Program} {w : World} {A : Around} {E : Value → Shared → Prop} {s : Shared} {a b c : Int} {t u : Tok} {Q : Value → Shared → Prop}
theorem iadd_e (e : a + b = c) (h : Q (.int c s.toks) { s with toks := s.toks + 1 }) : wpAny (model prog w) A (inplaceOp .Add (.int a t) (.int b u)) Q E s := iadd_int (by rw [e]; exact h)
end
theorem kwX10 : True := by
  (k_with "inplaceOp Add int int" => (k_here; (with_reducible refine' iadd_e ?ezX10 ?_); (case ezX10 => assumption)))
  trivial
set_option maxHeartbeats 4000000 in
theorem c_itemB : ∀ {w : World} {kn : Led} {u l : Addr} {vs : List Value} {p : Int} {i : Nat} {tp : Tok} (hs : SetTop kn u l vs) (hln : vs.length ≤ 100) (hp : p < 0) (hi : p + (vs.length : Int) = (i : Int)),
   Con w (.ref 122) [.ref u, .int p tp] 60 600 kn (fun kn' x => ∃ r, x = .ref r ∧ RefAt kn' r u i) := by
  have hon : HKon := trivial
  intro w kn u l vs p i tp hs hln hp hi
  have hs0 := hs
  obtain ⟨du, g1, g2, g3, g4, m1, m2, m3⟩ := hs
  refine Con.openG (hkO (no_implicit_lambda% ((?hopq : HTO _) _ _ _ _ _ _ _ _ _ _ _ _ _ _ _)))
  intros s dp un gd t1 t2 t3 base g outs loose mean mg mb Z
  refine ConG.mk ?_
  intro R ret hd hu
  k_extra "M body"
  intro L h₁ hL F N B X T C1 C2 C3 TK l1 l2 l3 l4
  try dsimp only
  try k_fold
  k_steps
  all_goals (k_extra "M out")
  all_goals (
    refine' ret _ _ _ _ _ _ _ ([(_, _), (_, _)] ++ kn) ?X id ⟨_, rfl, _, _, _, _, _, _, _, List.mem_append_right _ (.head _), List.mem_append_right _ (.tail _ (.head _))⟩
    case X => k_extra "M fin3")
end
-- I3
section
theorem kwI30 : True := by
  (k_with "M kts" => first | assumption | exact KtsTurn.refl | (refine' KtsTurn.trans ?_ ?ktgzI30; (case ktgzI30 => assumption); k_extra "M kts") | fail "mine: no turn")
  (k_with "M finS" => (
  (refine' finS ?RzI31 ?hLzI31 ?TzI31 ?FzI31 ?NzI31 ?TKzI31 ?grzI31 ?htzI31 ?hkzI31 ?htlzI31); (case RzI31 => assumption); (case hLzI31 => assumption); (case FzI31 => k_asm); (case NzI31 => k_asm); (case TzI31 => k_extra "M kts"); (case TKzI31 => with_reducible assumption); (case grzI31 => k_extra "M gr"); (case htzI31 => k_extra "M sub"); (case hkzI31 => k_extra "M sub"); (case htlzI31 => k_extra "M tl3")))
  (k_with "M stdS" => (
  (case hA => exact rfl); (case hf => exact rfl); (case hke => exact rfl); (case hh => exact rfl); (case F => k_asm); (case Nq => k_asm); (case B => k_asm); (case XB => assumption); (case TB => assumption); (case C1 => assumption); (case C2 => assumption); (case C3 => assumption); (case D => assumption); (case TK => k_asm);
  (case hO => k_extra "M own"); (case hd => k_room); (case hu => k_units)))
  trivial
noncomputable def AgS (w : World) (u l : Addr) (n m : Nat) (kn : Led) : Prop := ConS w (.ref 370) [.ref u, .ref l] n m kn (fun _ x => x = .bool true)
theorem AgS.use {w : World} {u l : Addr} {n m : Nat} {kn : Led} (h : AgS w u l n m kn) : ConS w (.ref 370) [.ref u, .ref l] n m kn (fun _ x => x = .bool true) := h
theorem kwI31 : True := by
  (k_with "call ref" => (k_here; k_dflt (show wpAny _ _ (call (Value.ref 370) [Value.ref _, Value.ref _]) _ _ _); k_dflt (refine' use_conS (AgS.use ?hSzI33) ?B ?F ?Nq ?XB ?TB ?C1 ?C2 ?C3 ?D ?TK ?hO ?hA ?hf ?hke ?hh ?hd ?hu ?_; (case hSzI33 => assumption); k_extra "M stdS"); intro r'w h'w tk'w gs'w t1'w t2'w t3'w kn'w g2'w KT'w F'w N'w B'w X'w T'w C1'w C2'w C3'w D'w gr'w ne'w TK'w hg'w p'w; subst p'w; (try dsimp only at N'w); k_extra "M after"))
  trivial
set_option maxHeartbeats 4000000 in
theorem c_isGS : ∀ {w : World} {kn : Led} {r u l f t : Addr} {i : Nat} {vs : List Value} {num : Int} {u2 l2 : Addr} {n m : Nat} {t1 t2 : Tok} (hr : RefAt kn r u i) (hs : SetTop kn u l vs) (hln : vs.length ≤ 100) (hx : vs[i]? = some (.ref f)) (hf : FieldTop kn f num 3 (.ref u2)) (hm : (t, tupO #[.int num t1, .int 3 t2, .ref l2]) ∈ kn) (hC : AgS w u2 l2 n m kn),
   ConS w (.ref 365) [.ref r, .ref t] (n+100) (m+1000) kn (fun _ x => x = .bool true) := by
  have hon : HKon := trivial
  intro w kn r u l f t i vs num u2 l2 n m t1 t2 hr hs hln hx hf hm hC
  have hdd : handedIn (.ref u2) = true := rfl
  have hr0 := hr
  obtain ⟨dx, f1, f2, f3, f4, f5, f6, r1, r2⟩ := hr
  refine ConS.openG (hkO (no_implicit_lambda% ((?hopq : HTO _) _ _ _ _ _ _ _ _ _ _ _ _ _ _ _)))
  intros s dp un gd t1 t2 t3 base g outs loose mean mg mb Z
  refine ConSG.mk ?_
  intro RS ret hd hu
  have R := RS.toR
  have XB := RS.XB
  have TB := RS.TB
  have CB1 := RS.b1
  have CB2 := RS.b2
  have CB3 := RS.b3
  have DD := RS.D
  k_extra "M body"
  intro L h₁ hL F N B X T C1 C2 C3 TK l1 l2 l3 l4
  try dsimp only
  try k_fold
  k_steps
  all_goals (k_extra "M out")
  refine' ret _ _ _ _ _ _ _ ([] ++ _) ?X ?Y rfl
  case X => k_extra "M finS"
  case Y => assumption
end
-- I4
section
theorem ConS.le {w : World} {f : Value} {args : List Value} {n u n' u' : Nat} {kn : Led} {P : Led → Value → Prop} (x : ConS w f args n u kn P) (h : n ≤ n') (h' : u ≤ u') : ConS w f args n' u' kn P :=
  fun A s t1 t2 t3 base outs g loose mean mg mb Z R ret => x A s t1 t2 t3 base outs g loose mean mg mb Z { R with toR := { R.toR with depth := Nat.lt_of_le_of_lt (Nat.add_le_add_left h _) R.toR.depth, units := Nat.lt_of_le_of_lt (Nat.add_le_add_left h' _) R.toR.units } } ret
theorem DataR_int {kn : Led} {k : Nat} {d : Value} {n w v : Int} (h : DataR kn k d (.int n w v)) : w ≠ 3 ∧ ∃ t, d = .int v t := by cases k <;> (unfold DataR at h; exact h)
theorem DataR_byt {kn : Led} {k : Nat} {d : Value} {n : Int} {b : List UInt8} (h : DataR kn k d (.byt n b)) : ∃ t, d = .bytes b.toArray t := by cases k <;> (unfold DataR at h; exact h)
theorem SayR_intD {kn : Led} {k : Nat} {d : Value} {n w v : Int} (h : SayR kn k d (.int n w v)) : w ≠ 3 ∧ ∃ t, d = .int v t := by cases k <;> (unfold SayR at h; exact h)
theorem SayR_bytD {kn : Led} {k : Nat} {d : Value} {n : Int} {b : List UInt8} (h : SayR kn k d (.byt n b)) : ∃ t, d = .bytes b.toArray t := by cases k <;> (unfold SayR at h; exact h)
theorem c_is : ∀ {w : World} {kn : Led} {k n m i : Nat} {r u l t : Addr} {vs : List Value} {v : Value} {f : Fld} (hr : RefAt kn r u i) (hs : SetTop kn u l vs) (hln : vs.length ≤ 100) (hv : vs[i]? = some v) (hF : FieldR kn k v f) (hS : SaidR kn k (.ref t) f) (ag : ∀ k' u' l' fs, k = k' + 1 → SetR kn k' u' fs → RowR kn k' l' fs → fs.length ≤ 2 → AgS w u' l' n m kn),
    ConS w (.ref 365) [.ref r, .ref t] (n + 100) (m + 1000) kn (fun _ x => x = .bool true) := by
  have hon : HKon := trivial
  intro w kn k n m i r u l t vs v f hr hs hln hv hF hS ag
  obtain ⟨a, e, rfl, hft, hd⟩ := hF
  obtain ⟨t', e', t1, t2, ht, hm, hsay⟩ := hS
  cases ht
  match f, hft, hd, hm, hsay with
  | .int nn wr v, hft, hd, hm, hsay =>
    obtain ⟨hw, tv, rfl⟩ := DataR_int hd
    obtain ⟨_, t3, rfl⟩ := SayR_intD hsay
    exact (c_isI hr hs hln hv hft hm hw).toS.le (by omega) (by omega)
  | .byt nn y, hft, hd, hm, hsay =>
    obtain ⟨tv, rfl⟩ := DataR_byt hd
    obtain ⟨t3, rfl⟩ := SayR_bytD hsay
    exact (c_isB (wr := 2) hr hs hln hv hft hm).toS.le (by omega) (by omega)
  | .grp nn fs, hft, hd, hm, hsay =>
    match k, hd, hsay, ag with
    | 0, hd, _, _ => unfold DataR at hd; exact hd.elim
    | k + 1, hd, hsay, ag =>
      unfold DataR at hd
      unfold SayR at hsay
      obtain ⟨h2, u2, l2, vs2, rfl, hst, hall⟩ := hd
      obtain ⟨_, lr, vr, nr, rfl, hmr, hallr⟩ := hsay
      exact c_isGS hr hs hln hv hft hm (ag k u2 lr fs rfl ⟨l2, vs2, hst, hall⟩ ⟨vr, nr, hmr, hallr⟩ h2)
end
-- G0
section
section
variable {M : Model} {A : Around} {R : GenEnd} {Y : Protocol} {n : Nat} {s₀ : Shared} {c : Code} {fs : List Frame} {s : Shared} {env : Env}
  {K : Flow → Sem PySem.Fin} {H : Value → Sem PySem.Fin} {gd : Bool → Bool} {lv : List Value → List Value}
theorem seg_For {target iter : Expr} {body orelse : List Stmt} {pos : Pos} (hs : ∀ x, foldedSetIterable iter env x = pure x)
    (h : wpAny M (A.over c fs) (eval iter env) (fun x s₁ => wpAny M (A.over c fs) (pyIter x) (fun it s₂ => ∀ p, Seg M A R Y n s₀ (.forLoop target it body orelse env) (M.den (.forLoop target it body orelse env))
      (.ret (fun r => ((match r with | .ok f => (.pure f : Sem Flow) | .error e => .raise e).onRaise fun (x : Value) => do
        if (← field x 1) == Value.none then unsupported "frame.own-activation:exception-without-traceback"
        setFlight x env.frame).wrap K H gd lv) none (gd false) (lv []) c p [] :: fs) s₂)
        (fun e s' => Seg M A R Y n s₀ c (H e) fs s') s₁) (fun e s' => Seg M A R Y n s₀ c (H e) fs s') s) :
    Seg M A R Y n s₀ c ((exec (.For target iter body orelse pos) env).wrap K H gd lv) fs s := by
  rw [exec_For]
  show Seg M A R Y n s₀ c (.at pos fun _ => (eval iter env >>= fun x0 => foldedSetIterable iter env x0 >>= fun x => standAt iter.pos >>= fun _ => holding [x] (pyIter x) >>= fun it => runOwn (.forLoop target it body orelse env) env).wrap K H gd lv) fs s
  refine seg_at ?_
  rw [Sem.bind_eq_wrap', Sem.wrap_wrap]
  refine seg_wrap (wpAny_mono h (fun x s₁ h₁ => ?_) fun _ _ e => e)
  rw [hs x, pure_bind]
  show Seg M A R Y n s₀ c (.at iter.pos fun _ => (holding [x] (pyIter x) >>= fun it => runOwn (.forLoop target it body orelse env) env).wrap K H gd lv) fs s₁
  refine seg_at ?_
  rw [Sem.bind_eq_wrap', Sem.wrap_wrap]
  refine seg_wrap (wpAny_holding (wpAny_mono h₁ (fun it s₂ h₂ => ?_) fun _ _ e => e))
  exact seg_call h₂
end
end
-- G1
section
section
variable {prog : Program} {w : World} {A : Around} {R : GenEnd} {Y : Protocol} {n : Nat} {s₀ : Shared} {fs : List Frame} {s : Shared} {env : Env}
theorem seg_forLoop {target : Expr} {it : Value} {body orelse : List Stmt}
    (h : wpAny (model prog w) (A.over (.forLoop target it body orelse env) fs) (pyNext it) (fun r s₁ => match r with
        | none => Seg (model prog w) A R Y n s₀ (.forLoop target it body orelse env) (.pure (.again (.block orelse env))) fs s₁
        | some v => wpAny (model prog w) (A.over (.forLoop target it body orelse env) fs) (letOwnedTupleGo target it v) (fun _ s₂ => wpAny (model prog w) (A.over (.forLoop target it body orelse env) fs) (assign target env v) (fun _ s₃ =>
            Seg (model prog w) A R Y n s₀ (.forLoop target it body orelse env) ((execs body env).wrap (fun f => match f with
              | .next | .cont => .pure (.again (.forLoop target it body orelse env))
              | .brk => .pure (.done .next)
              | .ret v => .pure (.done (.ret v))) (fun e => (do noteFrame e env; theTreesLotGoes e : Sem Unit).wrap (fun _ => .raise e) .raise id id) id id) fs s₃) (fun _ _ => False) s₂) (fun _ _ => False) s₁)
      (fun _ _ => False) s) :
    Seg (model prog w) A R Y n s₀ (.forLoop target it body orelse env) ((model prog w).den (.forLoop target it body orelse env)) fs s := by
  show Seg _ A R Y n s₀ _ ((forTurn target it body orelse env).onRaise (fun x => do noteFrame x env; theTreesLotGoes x)) fs s
  unfold forTurn
  rw [Sem.onRaise_eq_wrap, Sem.bind_eq_wrap', Sem.wrap_wrap]
  refine seg_wrap (wpAny_standAt ?_)
  try dsimp only
  rw [Sem.bind_eq_wrap', Sem.wrap_wrap]
  refine seg_wrap (wpAny_onRaise (wpAny_mono h (fun r s₁ h₁ => ?_) fun _ _ e => e.elim))
  cases r with
  | none => exact h₁
  | some v =>
    dsimp only at h₁ ⊢
    rw [Sem.bind_eq_wrap', Sem.wrap_wrap]
    refine seg_wrap (wpAny_mono h₁ (fun _ s₂ h₂ => ?_) fun _ _ e => e.elim)
    try dsimp only
    rw [Sem.bind_eq_wrap', Sem.wrap_wrap]
    refine seg_wrap (wpAny_mono h₂ (fun _ s₃ h₃ => ?_) fun _ _ e => e.elim)
    try dsimp only
    rw [Sem.bind_eq_wrap', Sem.wrap_wrap]
    rw [Sem.wrap_congr (execs body env) _ _ (K' := fun f => match f with
            | .next | .cont => .pure (.again (.forLoop target it body orelse env))
            | .brk => .pure (.done .next)
            | .ret v => .pure (.done (.ret v))) (H' := (fun e => (do noteFrame e env; theTreesLotGoes e : Sem Unit).wrap (fun _ => .raise e) .raise id id))
        (fun f => by cases f <;> rfl)
        (fun e => by first | exact Sem.bind_eq_wrap _ _ | (show (do noteFrame e env; theTreesLotGoes e : Sem Unit).bind (fun _ => .raise e) = _; rw [Sem.bind_eq_wrap]))]
    exact h₃
end
end
-- K0
section
noncomputable def goT {α : Type} (lt : Nat → Nat → Bool) : KasT α → α
  | .ret a => a
  | .ask i j k => goT lt (k (lt i j))
noncomputable def leafT {α : Type} (P : α → Prop) : KasT α → Prop
  | .ret a => P a
  | .ask _ _ k => ∀ b, leafT P (k b)
theorem leafT.go {α : Type} {P : α → Prop} {lt : Nat → Nat → Bool} : ∀ {t : KasT α}, leafT P t → P (goT lt t) := by
  intro t
  induction t with
  | ret a => exact fun h => h
  | ask i j k ih => exact fun h => ih _ (h (lt i j))
theorem leafT.bind {α β : Type} {P : α → Prop} {Q : β → Prop} {f : α → KasT β} : ∀ {t : KasT α}, leafT P t → (∀ a, P a → leafT Q (f a)) → leafT Q (t.bind f)
  | .ret _, h, hf => hf _ h
  | .ask _ _ _, h, hf => fun b => leafT.bind (h b) hf
theorem leafT.triv {α : Type} : ∀ {t : KasT α}, leafT (fun _ => True) t
  | .ret _ => trivial
  | .ask _ _ _ => fun _ => leafT.triv
theorem leaf_desc : ∀ (f : Nat) (p : Array Nat) (n q : Nat), leafT (fun r => r.1.Perm p) (kas_desc f p n q)
  | 0, p, n, q => Array.Perm.refl _
  | f + 1, p, n, q => fun c => by
    dsimp only
    split
    · split
      · have h := leaf_desc f (kas_rev p (n - (q + 1)) n) (n + 1) 0
        have := leafT.bind (Q := fun r : Array Nat × Nat × Nat => r.1.Perm p) (f := KasT.ret) h fun a ha => ha.trans (mirror_perm _ _ _ _)
        have e : ∀ {α : Type} (t : KasT α), t.bind KasT.ret = t := by
          intro α t
          induction t with
          | ret _ => rfl
          | ask i j k ih => show KasT.ask i j _ = _; congr 1; funext b; exact ih b
        rwa [e] at this
      · exact leaf_desc f p (n + 1) 0
    · intro d
      dsimp only
      split
      · exact Array.Perm.refl _
      · exact leaf_desc f p (n + 1) (q + 1)
theorem leaf_tail3 (n nrem : Nat) (p : Array Nat) : leafT (fun r => r.2.Perm p) (kas_tail3 n nrem p) :=
  leafT.bind leafT.triv fun _ _ => mirror_perm _ _ _ _
theorem leaf_mono {α : Type} {P Q : α → Prop} (h : ∀ a, P a → Q a) : ∀ {t : KasT α}, leafT P t → leafT Q t
  | .ret _, x => h _ x
  | .ask _ _ _, x => fun b => leaf_mono h (x b)
theorem leaf_descPart (n nrem : Nat) (p : Array Nat) : leafT (fun r => r.2.Perm p) (kas_descPart n nrem p) := by
  refine leafT.bind (leaf_desc _ _ _ _) fun r hr => ?_
  split
  · exact leaf_mono (fun a ha => (ha.trans (mirror_perm _ _ _ _)).trans hr) (leaf_tail3 _ _ _)
  · exact leaf_mono (fun a ha => ha.trans hr) (leaf_tail3 _ _ _)
theorem leaf_count (nrem : Nat) (p : Array Nat) : leafT (fun r => r.2.Perm p) (kas_count nrem p) := by
  refine leafT.bind leafT.triv fun n _ => ?_
  split
  · exact Array.Perm.refl _
  split
  · intro c
    dsimp only
    split
    · exact Array.Perm.refl _
    · exact leaf_mono (fun a ha => ha.trans (mirror_perm _ _ _ _)) (leaf_descPart _ _ _)
  · exact leaf_descPart _ _ _
theorem leaf_bin : ∀ (f : Nat) (p : Array Nat) (k : Nat), leafT (fun r => r.Perm p) (kas_bin f p k)
  | 0, p, _ => Array.Perm.refl _
  | f + 1, p, k => leafT.bind leafT.triv fun _ _ => leaf_mono (fun _ ha => ha.trans (bubble_perm _ _ _)) (leaf_bin f _ _)
theorem leaf_sort (n : Nat) : leafT (fun r => r.Perm (List.toArray (List.range n))) (kas_sort n) := by
  refine leafT.bind (leaf_count _ _) fun r hr => ?_
  split
  · exact leaf_mono (fun _ ha => ha.trans hr) (leaf_bin _ _ _)
  · exact hr
noncomputable def permOf (kz : List Int) : List Nat := if kz.length < 2 then List.range kz.length else (goT (fun i j => decide (kz.getD i 0 < kz.getD j 0)) (kas_sort kz.length)).toList
theorem permOf_perm (kz : List Int) : (permOf kz).Perm (List.range kz.length) := by
  unfold permOf
  split
  · exact List.Perm.refl _
  · have := (leafT.go (lt := fun i j => decide (kz.getD i 0 < kz.getD j 0)) (leaf_sort kz.length))
    exact Array.perm_iff_toList_perm.mp this
theorem permOf_lt {kz : List Int} : ∀ i ∈ permOf kz, i < kz.length := fun i hi => List.mem_range.mp ((permOf_perm kz).mem_iff.mp hi)
noncomputable def sortL {α : Type} (kz : List Int) (xs : List α) (d : α) : List α := (permOf kz).map fun i => xs.getD i d
theorem sortL_length {α : Type} {kz : List Int} {xs : List α} {d : α} : (sortL kz xs d).length = kz.length := by
  unfold sortL
  rw [List.length_map, (permOf_perm kz).length_eq, List.length_range]

section
variable {prog : Program} {w : World} {A : Around} {E : Value → Shared → Prop} {s : Shared} {h₀ : Heap} {L : Addr} {m : Str → Option Value} {news : List (Addr × Obj)} {vs : List Value} {kz : List Int}
theorem ints_getD {ks : List Value} {kz : List Int} (h : IntsAre ks kz) : ∀ i, i < kz.length → ∃ t, ks.getD i Value.none = .int (kz.getD i 0) t := by
  induction h with
  | nil => intro i hi; simp at hi
  | cons n t _ ih =>
    intro i hi
    cases i with
    | zero => exact ⟨t, by simp⟩
    | succ i =>
      obtain ⟨t, e⟩ := ih i (by simpa using hi)
      exact ⟨t, by simpa using e⟩
noncomputable def asksIn {α : Type} (n : Nat) : KasT α → Prop
  | .ret _ => True
  | .ask i j k => i < n ∧ j < n ∧ ∀ b, asksIn n (k b)
theorem asksIn.bind {α β : Type} {n : Nat} {f : α → KasT β} {P : α → Prop} : ∀ {t : KasT α}, asksIn n t → leafT P t → (∀ a, P a → asksIn n (f a)) → asksIn n (t.bind f)
  | .ret _, _, h, hf => hf _ h
  | .ask _ _ _, ⟨a, b, c⟩, h, hf => ⟨a, b, fun x => asksIn.bind (c x) (h x) hf⟩
theorem kasWp_ints {α : Type} {ks : List Value} (hk : IntsAre ks kz) {Q : α → Shared → Prop} : ∀ (t : KasT α) (s : Shared), asksIn kz.length t → Q (goT (fun i j => decide (kz.getD i 0 < kz.getD j 0)) t) s → t.kasWp (kas_ask prog w A oneType' ks) Q s
  | .ret a, s, _, h => h
  | .ask i j k, s, ⟨hi, hj, hk'⟩, h => by
    obtain ⟨t, e1⟩ := ints_getD hk i hi
    obtain ⟨u, e2⟩ := ints_getD hk j hj
    show kas_ask prog w A oneType' ks i j _ s
    unfold kas_ask
    rw [e1, e2]
    exact kat_lt_int (kasWp_ints hk _ s (hk' _) h)
theorem perm_in {n : Nat} {p : Array Nat} (h : p.Perm (List.toArray (List.range n))) (hn : 0 < n) (i : Nat) : p.getD i 0 < n := by
  by_cases hi : i < p.size
  · have e : p.getD i 0 = p[i] := by simp [Array.getD, hi]
    have hm : p[i] ∈ p.toList := by simp
    have := (Array.perm_iff_toList_perm.mp h).mem_iff.mp hm
    rw [e]
    simpa using this
  · have e : p.getD i 0 = 0 := by simp [Array.getD, hi]
    rw [e]; exact hn
section
variable {n : Nat} (hn : 0 < n)
include hn
theorem asks_asc {p : Array Nat} (h : p.Perm (List.toArray (List.range n))) : ∀ (f k : Nat), asksIn n (kas_asc p f k)
  | 0, _ => trivial
  | f + 1, k => ⟨perm_in h hn _, perm_in h hn _, fun b => by
    dsimp only
    split
    · trivial
    · exact asks_asc h f (k + 1)⟩
theorem asks_desc : ∀ (f : Nat) (p : Array Nat) (k q : Nat), p.Perm (List.toArray (List.range n)) → asksIn n (kas_desc f p k q)
  | 0, _, _, _, _ => trivial
  | f + 1, p, k, q, h => ⟨perm_in h hn _, perm_in h hn _, fun b => by
    dsimp only
    split
    · split
      · exact asks_desc f _ _ _ ((mirror_perm _ _ _ _).trans h)
      · exact asks_desc f _ _ _ h
    · refine ⟨perm_in h hn _, perm_in h hn _, fun b => ?_⟩
      dsimp only
      split
      · trivial
      · exact asks_desc f _ _ _ h⟩
theorem asks_tail3 {p : Array Nat} (h : p.Perm (List.toArray (List.range n))) (k m : Nat) : asksIn n (kas_tail3 k m p) :=
  asksIn.bind (asks_asc hn ((mirror_perm _ _ _ _).trans h) _ _) leafT.triv fun _ _ => trivial
theorem asks_descPart {p : Array Nat} (h : p.Perm (List.toArray (List.range n))) (k m : Nat) : asksIn n (kas_descPart k m p) := by
  refine asksIn.bind (asks_desc hn _ _ _ _ h) (leaf_desc _ _ _ _) fun r hr => ?_
  split
  · exact asks_tail3 hn ((mirror_perm _ _ _ _).trans (hr.trans h)) _ _
  · exact asks_tail3 hn (hr.trans h) _ _
theorem asks_count {p : Array Nat} (h : p.Perm (List.toArray (List.range n))) (m : Nat) : asksIn n (kas_count m p) := by
  refine asksIn.bind (asks_asc hn h _ _) leafT.triv fun k _ => ?_
  split
  · trivial
  split
  · refine ⟨perm_in h hn _, perm_in h hn _, fun b => ?_⟩
    dsimp only
    split
    · trivial
    · exact asks_descPart hn ((mirror_perm _ _ _ _).trans h) _ _
  · exact asks_descPart hn h _ _
theorem asks_place {p : Array Nat} (h : p.Perm (List.toArray (List.range n))) (k : Nat) : ∀ (f l r : Nat), asksIn n (kas_place p k f l r)
  | 0, _, _ => trivial
  | f + 1, l, r => by
    unfold kas_place
    split
    · trivial
    · refine ⟨perm_in h hn _, perm_in h hn _, fun b => ?_⟩
      dsimp only
      split
      · exact asks_place h k f _ _
      · exact asks_place h k f _ _
theorem asks_bin : ∀ (f : Nat) (p : Array Nat) (k : Nat), p.Perm (List.toArray (List.range n)) → asksIn n (kas_bin f p k)
  | 0, _, _, _ => trivial
  | f + 1, p, k, h => asksIn.bind (asks_place hn h _ _ _ _) leafT.triv fun _ _ => asks_bin f _ _ ((bubble_perm _ _ _).trans h)
theorem asks_sort : asksIn n (kas_sort n) := by
  refine asksIn.bind (asks_count hn (Array.Perm.refl _) _) (leaf_count _ _) fun r hr => ?_
  split
  · exact asks_bin hn _ _ _ hr
  · trivial
end
theorem ints_snoc {n : Int} {t : Tok} : ∀ {vs : List Value} {ns : List Int}, IntsAre vs ns → IntsAre (vs ++ [.int n t]) (ns ++ [n])
  | _, _, .nil => .cons n t .nil
  | _, _, .cons n' t' h => .cons n' t' (ints_snoc h)
theorem keys_ints {h₀ : Heap} {L D kS : Addr} {m : Str → Option Value} {e1 : Nat} {f : Value} {all : List Int} {Fin : List Value → Nat → Shared → Prop} {s₀ : Shared} (hk : kS ≠ D) (hnk : ∀ p ∈ news, p.1 ≠ kS) (hnd : ∀ p ∈ news, p.1 ≠ D)
    (fin : ∀ ks e h tk, IntsAre ks all → Fr h₀ L h m → News h₀ L h ((kS, seqObj "list" ks.toArray e) :: (D, seqObj "list" #[] e1) :: news) → Fin ks e { s₀ with heap := h, toks := tk }) :
    ∀ (r ks : List Value) (kz done : List Int) (e : Nat) (h : Heap) (tk : Nat), (∀ (i : Nat) (v : Value) (k : Int), r[i]? = some v → kz[i]? = some k → ∀ (h : Heap) (tk : Nat) (own : List (Addr × Obj)), Fr h₀ L h m → News h₀ L h (news ++ own) →
        wpAny (model prog w) A (call f [v]) (KskEnd h₀ L m (news ++ own) k { s₀ with heap := h, toks := tk }) (fun _ _ => False) { s₀ with heap := h, toks := tk }) →
      kz.length = r.length → all = done ++ kz → IntsAre ks done → Fr h₀ L h m → News h₀ L h ((kS, seqObj "list" ks.toArray e) :: (D, seqObj "list" #[] e1) :: news) →
      KatKeys prog w A h₀ L m kS f Fin r ks e { s₀ with heap := h, toks := tk }
  | [], ks, kz, done, e, h, tk, _, hl, ea, hi, F, N => by
    have : kz = [] := List.length_eq_zero_iff.mp hl
    subst this
    exact fin ks e h tk (by rw [ea]; simpa using hi) F N
  | v :: r, ks, [], done, e, h, tk, _, hl, ea, hi, F, N => by simp at hl
  | v :: r, ks, k :: kz, done, e, h, tk, turn, hl, ea, hi, F, N => by
    refine KatKeys.cons (wpAny_mono (turn 0 v k rfl rfl h tk [(kS, seqObj "list" ks.toArray e), (D, seqObj "list" #[] e1)] F fun p hp => N p ?_) (fun x s' hx => ?_) fun _ _ q => q)
    · simp only [List.mem_append, List.mem_cons, List.not_mem_nil, or_false] at hp ⊢
      grind
    · obtain ⟨h', tk', t', rfl, rfl, F', N'⟩ := hx
      refine KatBack.intro (news := (kS, seqObj "list" ks.toArray e) :: (D, seqObj "list" #[] e1) :: news) F' (fun p hp => N' p ?_) (.head ?_) fun h2 c F2 N2 => ?_
      · simp only [List.mem_append, List.mem_cons, List.not_mem_nil, or_false] at hp ⊢
        grind
      · exact List.forall_mem_cons.mpr ⟨hk.symm, hnk⟩
      · exact keys_ints hk hnk hnd fin r (ks ++ [.int k t']) kz (done ++ [k]) c h2 tk' (fun i v' k' h1 h3 => turn (i + 1) v' k' (by simpa using h1) (by simpa using h3)) (by simpa using hl) (by rw [ea]; simp) (ints_snoc hi) F2 N2
theorem sorted_det {h₀ : Heap} {L l : Addr} {m : Str → Option Value} {f : Value} {kw : List (Str × Value)} {Q : Value → Shared → Prop} (F : Fr h₀ L s.heap m) (N : News h₀ L s.heap news) (hl : s.heap.IsList l vs.toArray) (hlen : kz.length = vs.length) (h64 : vs.length < 64)
    (ha1 : argsOk "sorted" ⟨[.ref l], kw⟩) (ha2 : ∀ x, argsOk "list.sort" ⟨[.ref x], kw⟩) (ht : ∀ x, Builtin.«list.sort» ⟨[.ref x], kw⟩ = ksk_tree x f false)
    (turn : ∀ (i : Nat) (v : Value) (k : Int), vs[i]? = some v → kz[i]? = some k → ∀ (h : Heap) (tk : Nat) (own : List (Addr × Obj)), Fr h₀ L h m → News h₀ L h (news ++ own) →
      wpAny (model prog w) A.in1.in1 (call f [v]) (KskEnd h₀ L m (news ++ own) k { s with heap := h, toks := tk }) (fun _ _ => False) { s with heap := h, toks := tk })
    (h : ∀ D h' tk c, Fr h₀ L h' m → News h₀ L h' ((D, PySem.W.listOf (sortL kz vs .none).toArray c) :: news) → (∀ q ∈ news, q.1 < D) → Q (.ref D) { s with heap := h', toks := tk }) :
    wpAny (model prog w) A (call (.builtin "sorted") [.ref l] kw) Q E s := by
  by_cases h2 : vs.length < 2
  · refine ksk_sorted (b := false) F N hl hlen h64 ha1 ha2 ht turn fun D h' tk out c F' N' l1 ko => h D h' tk c F' ?_ l1
    have e : out = (sortL kz vs Value.none).toArray := by
      obtain ⟨ps, hp, ho, _⟩ := ko
      have e1 : ps = kz.zip vs := by
        have hz : (kz.zip vs).length = vs.length := by simp [hlen]
        generalize kz.zip vs = zs at hp hz
        match zs, hz with
        | [], _ => exact hp.eq_nil
        | [x], _ => exact List.perm_singleton.mp hp
        | _ :: _ :: _, hz => simp at hz; omega
      have e2 : out.toList = vs := by
        rw [ho, e1]
        exact List.map_snd_zip (by omega)
      have e3 : sortL kz vs Value.none = vs := by
        unfold sortL permOf
        rw [hlen, if_pos h2]
        match vs, h2 with
        | [], _ => rfl
        | [x], _ => rfl
        | _ :: _ :: _, hz => simp at hz; omega
      rw [e3, ← e2, Array.toArray_toList]
    rw [← e]
    exact N'
  · refine kat_sortedK (b := false) F N hl (by omega) h64 ha1 ha2 ht fun D kS e1 h' F' N' l0 l1 => ?_
    refine keys_ints (news := news) (all := kz) (s₀ := s) (Nat.ne_of_gt l0) (fun p hp => Nat.ne_of_lt (Nat.lt_trans (l1 p hp) l0)) (fun p hp => Nat.ne_of_lt (l1 p hp)) (fun ks e h2' tk hi F2 N2 => ?_) vs [] kz [] 0 h' s.toks turn hlen rfl .nil F' N'
    have hkl := hi.length
    obtain ⟨v₁, v₂, rest, rfl⟩ : ∃ v₁ v₂ rest, ks = v₁ :: v₂ :: rest := by
      match ks, hkl with
      | [], q => simp at q; omega
      | [_], q => simp at q; omega
      | v₁ :: v₂ :: rest, _ => exact ⟨v₁, v₂, rest, rfl⟩
    rw [keyKind_ints hi]
    refine wpAny_pure ?_
    show (kas_sort vs.length).kasWp (kas_ask prog w A.in1.in1 oneType' (v₁ :: v₂ :: rest)) _ _
    rw [← hlen]
    refine kasWp_ints hi _ _ (asks_sort (by omega)) ?_
    refine KatFin.intro F2 N2 (.head ?_) fun h3 c F3 N3 => ?_
    · exact List.forall_mem_cons.mpr ⟨Nat.ne_of_lt l0, fun p hp => Nat.ne_of_lt (Nat.lt_trans (l1 p hp) l0)⟩
    · refine KasFin.intro (news := (kS, seqObj "list" #[] c) :: (D, seqObj "list" #[] e1) :: news) F3 N3 (.tail (Nat.ne_of_gt l0) (.head fun p hp => Nat.ne_of_lt (l1 p hp))) fun h4 c4 F4 N4 => ?_
      have e5 : sortL kz vs Value.none = List.map (fun i => vs.getD i Value.none) (goT (fun i j => decide (kz.getD i 0 < kz.getD j 0)) (kas_sort kz.length)).toList := by
        unfold sortL permOf
        rw [if_neg (by omega)]
      refine h D h4 tk c4 F4 (fun p hp => N4 p ?_) l1
      rcases List.mem_cons.mp hp with rfl | hp
      · rw [e5]
        exact .tail _ (.head _)
      · exact .tail _ (.tail _ hp)
end
end
-- G2
section
section
variable {w : World} {A : Around} {n u : Nat} {s : Shared} {h' : Heap} {t1 t2 t3 t1' t2' t3' : Array Value} {kn : Led} {base : Heap} {outs : List Env} {g : Heap} {loose : List Str} {mean : ExcName → Option Value} {mg mb : Str → Option Value}
theorem Rdy.new2 {A' : Around} {n' u' : Nat} {d x : Addr} {o1 o2 : Obj} (R : Rdy w A n u s t1 t2 t3 kn base outs g loose mean mg mb) (hd : d = s.heap.objs.size) (hx : x = s.heap.objs.size + 1) (ho1 : o1.isFreed = false) (ho2 : o2.isFreed = false)
    (hf : A'.frames = A.frames) (hh : A'.handled = A.handled) (hdp : A'.depth + n' < recursionLimit) (hu : A'.units + u' < cLine) :
    Rdy w A' n' u' { s with heap := (s.heap.push o1).push o2 } t1 t2 t3 ((x, o2) :: (d, o1) :: kn) base outs g loose mean mg mb := by
  subst hd hx
  have k : ∀ b o, s.heap.get? b = some o → ((s.heap.push o1).push o2).get? b = some o := fun b o e => Heap.get?_push_of_some _ (Heap.get?_push_of_some _ e)
  have e1 : ((s.heap.push o1).push o2).get? s.heap.objs.size = some o1 := Heap.get?_push_of_some _ (Heap.get?_push_size _ ho1)
  have e2 : ((s.heap.push o1).push o2).get? (s.heap.objs.size + 1) = some o2 := by
    have := Heap.get?_push_size (s.heap.push o1) ho2
    rwa [Heap.size_push] at this
  have lt : ∀ p ∈ tabs t1 t2 t3 ++ kn, p.1 < s.heap.objs.size := fun p hp => Heap.lt_size (R.news p hp).1
  have a1 := lt (266, tabObj t1) (by simp)
  have a2 := lt (280, tabObj t2) (by simp)
  have a3 := lt (159, tabObj t3) (by simp)
  dsimp only at a1 a2 a3
  refine ⟨⟨hf.trans R.below.stack, R.below.stays, R.below.frames⟩, R.K, R.top, R.c1, R.c2, R.c3, fun b o e => k _ _ (R.sub b o e), ?_, fun b o e hb => ?_, fun p hp => ?_, ?_, hh.trans R.handled, hdp, hu⟩
  · show g.objs.size ≤ ((s.heap.push o1).push o2).objs.size
    rw [Heap.size_push, Heap.size_push]
    exact Nat.le_succ_of_le (Nat.le_succ_of_le R.size)
  · have n1 : b ≠ s.heap.objs.size + 1 := fun q => hb (s.heap.objs.size + 1, o2) (by simp) q.symm
    have n2 : b ≠ s.heap.objs.size := fun q => hb (s.heap.objs.size, o1) (by simp) q.symm
    have e' : ((s.heap.push o1).push o2).get? b = some o := e
    rw [Heap.get?_push_ne _ _ _ (by rw [Heap.size_push]; exact n1), Heap.get?_push_ne _ _ _ n2] at e'
    refine R.cov b o e' fun p hp => hb p ?_
    simp only [List.mem_append, List.mem_cons] at hp ⊢
    grind
  · have hp' : p ∈ tabs t1 t2 t3 ++ kn ∨ p = (s.heap.objs.size + 1, o2) ∨ p = (s.heap.objs.size, o1) := by
      simp only [List.mem_append, List.mem_cons] at hp ⊢
      grind
    have gn : ∀ a, s.heap.objs.size ≤ a → g.get? a = none := fun a ha => Heap.get?_none_of_le (Nat.le_trans R.size ha)
    rcases hp' with hp' | rfl | rfl
    · exact ⟨k _ _ (R.news p hp').1, (R.news p hp').2⟩
    · exact ⟨e2, gn _ (Nat.le_succ _)⟩
    · exact ⟨e1, gn _ (Nat.le_refl _)⟩
  · refine (R.tok.cons (p := (s.heap.objs.size, o1)) ⟨Nat.ne_of_gt a1, Nat.ne_of_gt a2, Nat.ne_of_gt a3⟩).cons (p := (s.heap.objs.size + 1, o2)) ⟨Nat.ne_of_gt (Nat.lt_succ_of_lt a1), Nat.ne_of_gt (Nat.lt_succ_of_lt a2), Nat.ne_of_gt (Nat.lt_succ_of_lt a3)⟩
end
set_option maxHeartbeats 4000000 in
theorem c_mkref : ∀ {w : World} {kn : Led} {u : Addr} {i : Nat} {tp : Tok} (A : Around) (s : Shared) (t1 t2 t3 : Array Value) (base : Heap) (outs : List Env) (g : Heap) (loose : List Str) (mean : ExcName → Option Value) (mg mb : Str → Option Value) (Z : Result → Shared → Prop) (R : Rdy w A 20 200 s t1 t2 t3 kn base outs g loose mean mg mb) (ret : ∀ r dx od h' tk', (∀ b o, s.heap.get? b = some o → h'.get? b = some o) → s.heap.objs.size ≤ h'.objs.size → s.heap.objs.size ≤ dx → dx < r → h'.get? r = some (instObj 97 dx) → h'.get? dx = some od → od.cls = .type "dict" → (∀ K : Led, (r, instObj 97 dx) ∈ K → (dx, od) ∈ K → RefAt K r u i) → Z (.ok (.ret (.ref r))) { s with heap := h', toks := tk' }),
    codeAny (model prg w) A (.call (.ref 97) ⟨[.ref u, .int i tp], []⟩) Z s := by
  have hon : HKon := trivial
  intro w kn u i tp A s t1 t2 t3 base outs g loose mean mg mb Z R ret
  obtain ⟨dp, gd, un, rfl⟩ := R.around
  have hdp : dp + 20 < 1000 := R.depth
  have hun : un + 200 < 9900 := R.units
  have X0 : (hd.heap_1_39 w.params).In s.heap := R.K.keeps R.sub
  first | ((with_reducible rename HKon => hkm); (with_reducible refine' (_ : ShE s _) _ _ _ _ _ rfl); intros hp gg dd tt oo hq; subst hq) | obtain ⟨hp, gg, dd, tt, oo⟩ := s
  refine make_core (makes_of X0 (by k_is)) (looks_findIn X0 (by k_is)) (fun self => bind_fn X0 self (by k_is)) (.inl rfl) ?_
  obtain ⟨dx, hdx⟩ : ∃ dx, dx = hp.objs.size := ⟨_, rfl⟩
  obtain ⟨x, hx⟩ : ∃ x, x = hp.objs.size + 1 := ⟨_, rfl⟩
  have R2 := R.new2 (A' := (⟨none, dp, some outs, gd, un⟩ : Around).under (.builtin "type.__call__" ⟨[.ref 97, .ref u, .int i tp], []⟩)) (n' := 10) (u' := 100) (o1 := emptyDict) (o2 := instObj 97 dx) hdx hx rfl rfl rfl rfl
    (by rw [depth_under_make]; show dp + 1 + 10 < 1000; omega) (by rw [units_under_make]; show un + 1 + 100 < 9900; omega)
  dsimp only at R2 ⊢
  rw [← hx, ← hdx]
  have hsz : ((hp.push emptyDict).push (instObj 97 dx)).objs.size = hp.objs.size + 2 := by rw [Heap.size_push, Heap.size_push]
  have k0 : ∀ b o, hp.get? b = some o → ((hp.push emptyDict).push (instObj 97 dx)).get? b = some o := fun b o e => Heap.get?_push_of_some _ (Heap.get?_push_of_some _ e)
  have hlx : @LT.lt Nat instLTNat dx x := by omega
  generalize ((hp.push emptyDict).push (instObj 97 dx)) = hp2 at R2 hsz k0 ⊢
  k_extra "M body"
  intro L h₁ hL F N B X T C1 C2 C3 TK l1 l2 l3 l4
  have hL2 : L = hp2.objs.size := hL
  have m1 : @LT.lt Nat instLTNat 266 dx := hdx ▸ Heap.lt_size (R.news (266, tabObj t1) (by simp)).1
  have m2 : @LT.lt Nat instLTNat 280 dx := hdx ▸ Heap.lt_size (R.news (280, tabObj t2) (by simp)).1
  have m3 : @LT.lt Nat instLTNat 159 dx := hdx ▸ Heap.lt_size (R.news (159, tabObj t3) (by simp)).1
  have m4 : AllLt dx kn := hdx ▸ allLt_of fun p hp => Heap.lt_size (R.news p (List.mem_append_right _ hp)).1
  have l5 : @LT.lt Nat instLTNat x L := by omega
  replace N : News g L h₁ ((266, tabObj t1) :: (280, tabObj t2) :: (159, tabObj t3) :: (x, instObj 97 dx) :: (dx, dictOf [] 0) :: kn) := N
  try dsimp only
  try k_fold
  k_steps
  all_goals (k_extra "M out")
  rename News g L _ _ => N9
  rename Fr g L _ _ => F9
  refine And.intro rfl (ret x dx _ _ _ (fun b o e => ?_) ?_ (Nat.le_of_eq hdx.symm) hlx (N9 _ (.tail _ (.tail _ (.tail _ (.head _))))).1 (N9 _ (.tail _ (.tail _ (.tail _ (.tail _ (.head _)))))).1 rfl fun K hK hK' => ⟨dx, _, _, _, _, _, _, hK, hK'⟩)
  · have e' : hp.get? b = some o := e
    by_cases hb : ∃ p ∈ tabs t1 t2 t3 ++ kn, p.1 = b
    · obtain ⟨p, hp, rfl⟩ := hb
      have e1 := (R.news p hp).1
      rw [show _ = _ from e1] at e'; cases e'
      refine (N9 p ?_).1
      simp only [List.mem_append, List.mem_cons] at hp ⊢
      grind
    · exact F9.keep _ _ (R.cov b o e' fun p hp q => hb ⟨p, hp, q⟩)
  · exact Nat.le_trans (by show @LE.le Nat instLENat hp.objs.size L; omega) (Nat.le_of_lt F9.ns.lt)
end
-- G3
section
section
variable {w : World} {A₀ : Around} {base g : Heap} {outs : List Env} {loose : List Str} {mean : ExcName → Option Value} {mg mb : Str → Option Value} {t1 t2 t3 : Array Value} {kn : Led} {u l Cg : Addr} {N lo : Nat}
noncomputable def Kp (Cg lo : Nat) (h h' : Heap) : Prop := (∀ b o, b ≠ Cg → (b < lo ∨ o.cls ≠ .type "range_iterator") → h.get? b = some o → h'.get? b = some o) ∧ ∀ b o, h.get? b = some o → ∃ o', h'.get? b = some o'
theorem Kp.refl (h : Heap) : Kp Cg lo h h := ⟨fun _ _ _ _ e => e, fun _ o e => ⟨o, e⟩⟩
theorem Kp.trans {h h' h'' : Heap} (x : Kp Cg lo h h') (y : Kp Cg lo h' h'') : Kp Cg lo h h'' := ⟨fun b o a c e => y.1 b o a c (x.1 b o a c e), fun b o e => let ⟨o', e'⟩ := x.2 b o e; y.2 b o' e'⟩
theorem Kp.of {h h' : Heap} (x : ∀ b o, h.get? b = some o → h'.get? b = some o) : Kp Cg lo h h' := ⟨fun b o _ _ e => x b o e, fun b o e => ⟨o, x b o e⟩⟩
theorem Kp.none_ {h h' : Heap} (x : Kp Cg lo h h') {b : Addr} (e : h'.get? b = none) : h.get? b = none := by
  cases q : h.get? b with
  | none => rfl
  | some o => obtain ⟨o', e'⟩ := x.2 b o q; rw [e] at e'; cases e'
structure GI (g : Heap) (Cg : Addr) (t1 t2 t3 : Array Value) (kn : Led) (u : Addr) (N lo It i : Nat) (h : Heap) : Prop where
  F : ∃ m, Fr g Cg h m ∧ m "self" = some (.ref u)
  Nw : News g Cg h (tabs t1 t2 t3 ++ kn)
  sz : i = 0 → ∃ o, h.get? (lo - 1) = some o
  it : i = 0 ∨ (lo ≤ It ∧ IsRangeIter h It (0 + (i : Nat) * 1) ((N : Int) - (i : Nat)) 1)
noncomputable def YP (g : Heap) (Cg : Addr) (t1 t2 t3 : Array Value) (kn : Led) (u : Addr) (N lo : Nat) : Protocol := fun m s₀ v s kap =>
  ∃ i r dx od h' tk It, i + 1 + m = N ∧ v = .ref r ∧ s = { s₀ with heap := h', toks := tk } ∧ Kp Cg lo s₀.heap h' ∧ s₀.heap.get? dx = none ∧ s₀.heap.get? r = none ∧ dx ≠ r ∧ h'.get? r = some (instObj 97 dx) ∧ h'.get? dx = some od ∧ od.cls = .type "dict" ∧ (∀ K : Led, (r, instObj 97 dx) ∈ K → (dx, od) ∈ K → RefAt K r u i) ∧ GI g Cg t1 t2 t3 kn u N lo It (i + 1) h' ∧
    ∀ s'' : Shared, GI g Cg t1 t2 t3 kn u N lo It (i + 1) s''.heap → kap (.send .none) s''
noncomputable def RE (Cg lo : Nat) : GenEnd := fun n s₀ r s₁ => r = .ok (.ret .none) ∧ (n = 0 ∧ ∃ h' tk, s₁ = { s₀ with heap := h', toks := tk } ∧ ∀ b o, b ≠ Cg → (b < lo ∨ o.cls ≠ .type "range_iterator") → s₀.heap.get? b = some o → h'.get? b = some o)
@[reducible] noncomputable def gscope : Scope := { kind := .function, names := [("self", .local), ("i", .local), ("range", .globalImplicit), ("len", .globalImplicit), ("UnknownFieldRef", .globalImplicit)], isGenerator := true, isCoroutine := false, more := [] }
theorem kwG30 : True := by
  (k_with "call ref" => (k_here; k_dflt (show wpAny _ _ (call (Value.ref 97) [Value.ref _, Value.int _ _]) _ _ _); refine HoldW.out ?_))
  trivial
set_option maxHeartbeats 4000000 in
theorem gen_elt {s : Shared} {m : Str → Option Value} {i : Nat} {dp un : Nat} {gd : Option (List Code)} {qual : Str} {f : Addr} {cdv : Value} {p1 p2 p3 p4 : Pos} {t : Tok} {Q : Value → Shared → Prop} {E : Value → Shared → Prop}
    (B : Below A₀ base outs g) (X : (hd.heap_1_39 w.params).In g) (T : Top topProg loose mean mg mb g) (C1 : CodeHd g 270 266) (C2 : CodeHd g 284 280) (C3 : CodeHd g 163 159) (TK : TabOk t1 t2 t3 kn)
    (hdp : dp + 40 < 1000) (hun : un + 400 < 9900) (F : Fr g Cg s.heap m) (hself : m "self" = some (.ref u)) (hi : m "i" = some (.int i t)) (N : News g Cg s.heap (tabs t1 t2 t3 ++ kn))
    (ret : ∀ r dx od h' tk', (∀ b o, s.heap.get? b = some o → h'.get? b = some o) → s.heap.objs.size ≤ dx → dx < r → h'.get? r = some (instObj 97 dx) → h'.get? dx = some od → od.cls = .type "dict" → (∀ K : Led, (r, instObj 97 dx) ∈ K → (dx, od) ∈ K → RefAt K r u i) → Q (.ref r) { s with heap := h', toks := tk' }) :
    wpAny (model prg w) ⟨none, dp, some (envOf qual gscope Cg f cdv :: outs), gd, un⟩ (eval (.Call (.Name "UnknownFieldRef" p1) [.Name "self" p2, .Name "i" p3] [] p4) (envOf qual gscope Cg f cdv)) Q E s := by
  first | ((with_reducible rename HKon => hkm); (with_reducible refine' (_ : ShE s _) _ _ _ _ _ rfl); intros hh gg dd tt oo hq; subst hq) | obtain ⟨hh, gg, dd, tt, oo⟩ := s
  have F' : Fr g Cg hh (fun y : Str => if y = "self" then some (.ref u) else if y = "i" then some (.int i t) else m y) := by
    have e : m = (fun y : Str => if y = "self" then some (.ref u) else if y = "i" then some (.int i t) else m y) := by
      funext y
      split
      · rename_i h; rw [h, hself]
      split
      · rename_i h; rw [h, hi]
      · rfl
    rw [← e]; exact F
  clear F
  k_steps
  refine HoldW.mk ?_
  refine wpAny_call (c_mkref _ _ t1 t2 t3 base (envOf qual gscope Cg f cdv :: outs) _ loose mean mg mb _ (rdy_of B F' X N T C1 C2 C3 rfl rfl rfl (fun _ h => h) TK rfl ?_ ?_) fun r dx od h' tk' k1 _ k2 k3 k4 k5 kc k6 => ?_)
  · k_room
  · k_units
  · exact ret r dx od h' tk' k1 k2 k3 k4 k5 kc k6
set_option maxHeartbeats 4000000 in
theorem gen_loop : ∀ {w : World} {A₀ : Around} {base g : Heap} {outs : List Env} {loose : List Str} {mean : ExcName → Option Value} {mg mb : Str → Option Value} {t1 t2 t3 : Array Value} {kn : Led} {u Cg : Addr} {N lo : Nat} {dp un : Nat} {gd : Option (List Code)} {qual : Str} {f : Addr} {cdv : Value} {fb : List Stmt} {p0 p1 p2 p3 p4 p5 p6 : Pos} {K : Result → Sem PySem.Fin} {pc : Pos} {It : Nat} (B : Below A₀ base outs g) (X : (hd.heap_1_39 w.params).In g) (T : Top topProg loose mean mg mb g) (C1 : CodeHd g 270 266) (C2 : CodeHd g 284 280) (C3 : CodeHd g 163 159) (TK : TabOk t1 t2 t3 kn) (hlo : Cg < lo) (hkn : ∀ p ∈ tabs t1 t2 t3 ++ kn, p.1 < lo) (hN : N ≤ 1000) (hdp : dp + 60 < 1000) (hun : un + 600 < 9900) (hK : K (.ok .next) = .pure (.done (.ret .none))),
    ∀ (k i : Nat) (s₀ s : Shared), N - i = k → i ≤ N → (∃ m, Fr g Cg s.heap m ∧ m "self" = some (.ref u)) → News g Cg s.heap (tabs t1 t2 t3 ++ kn) → lo ≤ It → IsRangeIter s.heap It (0 + (i : Nat) * 1) ((N : Int) - (i : Nat)) 1 →
      (∃ h' tk, s = { s₀ with heap := h', toks := tk } ∧ Kp Cg lo s₀.heap h') →
      Seg (model prg w) ⟨none, dp, some outs, gd, un⟩ (RE Cg lo) (YP g Cg t1 t2 t3 kn u N lo) (N - i) s₀ (.forLoop (.Name "i" p0) (.ref It) [.Expr (.Yield (some (.Call (.Name "UnknownFieldRef" p1) [.Name "self" p2, .Name "i" p3] [] p4)) p5) p6] [] (envOf qual gscope Cg f cdv))
        ((model prg w).den (.forLoop (.Name "i" p0) (.ref It) [.Expr (.Yield (some (.Call (.Name "UnknownFieldRef" p1) [.Name "self" p2, .Name "i" p3] [] p4)) p5) p6] [] (envOf qual gscope Cg f cdv)))
        [.ret K none false [] (.func fb (envOf qual gscope Cg f cdv)) pc []] s := by
  have hon : HKon := trivial
  intro w A₀ base g outs loose mean mg mb t1 t2 t3 kn u Cg N lo dp un gd qual f cdv fb p0 p1 p2 p3 p4 p5 p6 K pc It B X T C1 C2 C3 TK hlo hkn hN hdp hun hK
  intro k
  induction k with
  | zero =>
    intro i s₀ s hk hi hF hNw hIt hit hs
    obtain rfl : N = i := by omega
    refine seg_forLoop ((Walks.range (prog := prg) (w := w) rfl It 0 1 N).done s _ _ hit fun h' tk hk' => ?_)
    dsimp only
    refine seg_again rfl ?_
    refine seg_leaf (.ok .next) ?_
    rw [hK]
    obtain ⟨h0, tk0, rfl, hkp⟩ := hs
    refine seg_end (.ok (.ret .none)) ⟨rfl, Nat.sub_self N, h', tk, rfl, fun b o hb hc e => ?_⟩
    have e0 : h0.get? b = some o := hkp.1 b o hb hc e
    refine hk' b o ?_ e0
    rintro hm
    obtain rfl := List.mem_singleton.mp hm
    have e2 := Option.some.inj (e0.symm.trans hit)
    rcases hc with hc | hc
    · exact Nat.lt_irrefl _ (Nat.lt_of_lt_of_le hc hIt)
    · exact hc (by rw [e2])
  | succ k ih =>
    revert k
    intro k ih
    intro i s₀ s hk hi hF hNw hIt hit hs
    refine seg_forLoop ((Walks.range (prog := prg) (w := w) rfl It 0 1 N).item i s _ _ (by omega) hit ?_)
    intro v h₁ tk₁ hv hit₁ hk₁
    dsimp only
    refine wpAny_of_eq rfl ?_
    obtain ⟨t, rfl⟩ := hv
    obtain ⟨m, F, hm⟩ := hF
    have hCI : Cg ≠ It := Nat.ne_of_lt (Nat.lt_of_lt_of_le hlo hIt)
    refine wpAny_assign_Name (wpAny_storeName_local (env := envOf qual gscope Cg f cdv) rfl (F.ns.at' fun o e => hk₁ _ o (by simpa using hCI) e) ?_ rfl)
    intro h₂ hn₂ hs₂
    obtain ⟨n, hn⟩ : ∃ n, N - i = n + 1 := ⟨N - i - 1, by omega⟩
    rw [hn]
    refine seg_execs_cons (seg_Expr_Yield rfl rfl rfl ?_)
    have kA : ∀ b o, b ≠ Cg → b ≠ It → s.heap.get? b = some o → h₂.get? b = some o := fun b o hb hI e => (hs₂.2 b hb).trans (hk₁ b o (by simpa using hI) e)
    have hkC : ∀ p ∈ tabs t1 t2 t3 ++ kn, p.1 ≠ Cg ∧ p.1 ≠ It := fun p hp => ⟨(hNw p hp).2.1, Nat.ne_of_lt (Nat.lt_of_lt_of_le (hkn p hp) hIt)⟩
    have F2 : Fr g Cg h₂ (fun x => if x = Str.ofString "i" then some (.int (0 + (i : Nat) * 1) t) else m x) := ⟨hn₂, fun b o e => kA b o (fun q => by
      have := Heap.lt_size e
      rw [q] at this
      exact absurd (Nat.lt_of_lt_of_le this F.above) (Nat.lt_irrefl _)) (fun q => by
      have := Heap.lt_size e
      rw [q] at this
      exact absurd (Nat.lt_of_lt_of_le this (Nat.le_trans F.above (Nat.le_trans (Nat.le_of_lt hlo) hIt))) (Nat.lt_irrefl _)) (F.keep b o e), F.above⟩
    have N2 : News g Cg h₂ (tabs t1 t2 t3 ++ kn) := fun p hp => ⟨kA _ _ (hkC p hp).1 (hkC p hp).2 (hNw p hp).1, (hNw p hp).2⟩
    have hi2 : (0 + (i : Int) * 1) = i := by omega
    rw [hi2] at F2
    generalize hA : (Around.over _ _ _ : Around) = A'
    have a1 : A'.handled = none := by rw [← hA]; rfl
    have a2 : A'.frames = some (envOf qual gscope Cg f cdv :: outs) := by rw [← hA]; rfl
    have a3 : A'.depth = dp + 1 := by rw [← hA]; rfl
    have a4 : A'.units ≤ un + 9 := by rw [← hA]; first | exact Nat.le_of_eq (show _ = un + 9 from rfl) | exact Nat.le_trans (Nat.le_of_eq (show _ = un + 3 from rfl)) (by omega) | exact Nat.le_trans (Nat.le_of_eq (show _ = un + 4 from rfl)) (by omega) | exact Nat.le_trans (Nat.le_of_eq (show _ = un + 5 from rfl)) (by omega) | exact Nat.le_trans (Nat.le_of_eq (show _ = un + 6 from rfl)) (by omega) | exact Nat.le_trans (Nat.le_of_eq (show _ = un + 2 from rfl)) (by omega) | exact Nat.le_trans (Nat.le_of_eq (show _ = un + 7 from rfl)) (by omega)
    obtain ⟨ah, dp', fr', gd', un'⟩ := A'
    dsimp only at a1 a2 a3 a4
    subst a1 a2
    refine gen_elt (i := i) B X T C1 C2 C3 TK (by omega) (by omega) F2 ((if_neg (by decide)).trans hm) (if_pos rfl) N2 ?_
    intro r dx od h₃ tk₃ k1 k2 k3 k4 k5 kc k6
    intro kap hkap
    obtain ⟨h0, tk0, rfl, hkp⟩ := hs
    have kp2 : Kp Cg lo s₀.heap h₃ := by
      refine hkp.trans (Kp.trans ⟨fun b o hb hc e => kA b o hb (fun q => ?_) e, fun b o e => ?_⟩ (Kp.of k1))
      · subst q
        have e2 := Option.some.inj (e.symm.trans hit)
        rcases hc with hc | hc
        · exact Nat.lt_irrefl _ (Nat.lt_of_lt_of_le hc hIt)
        · exact hc (by rw [e2])
      · by_cases hb : b = Cg
        · subst hb
          obtain ⟨oL, _, _, e', _⟩ := F2.ns
          exact ⟨oL, e'⟩
        · by_cases hI : b = It
          · subst hI
            exact ⟨_, (hs₂.2 _ hb).trans hit₁⟩
          · exact ⟨o, kA b o hb hI e⟩
    have none2 : ∀ a, h₂.objs.size ≤ a → s₀.heap.get? a = none := fun a ha => by
      have kp3 : Kp Cg lo h0 h₂ := ⟨fun b o hb hc e => kA b o hb (fun q => by
        subst q
        have e2 := Option.some.inj (e.symm.trans hit)
        rcases hc with hc | hc
        · exact Nat.lt_irrefl _ (Nat.lt_of_lt_of_le hc hIt)
        · exact hc (by rw [e2])) e, fun b o e => by
        by_cases hb : b = Cg
        · subst hb
          obtain ⟨oL, _, _, e', _⟩ := F2.ns
          exact ⟨oL, e'⟩
        · by_cases hI : b = It
          · subst hI
            exact ⟨_, (hs₂.2 _ hb).trans hit₁⟩
          · exact ⟨o, kA b o hb hI e⟩⟩
      exact (hkp.trans kp3).none_ (Heap.get?_none_of_le ha)
    refine ⟨i, r, dx, od, h₃, tk₃, It, by omega, rfl, rfl, kp2, none2 _ k2, none2 _ (Nat.le_trans k2 (Nat.le_of_lt k3)), Nat.ne_of_lt k3, k4, k5, kc, k6, ⟨⟨_, ⟨F2.ns.keeps k1, fun b o e => k1 _ _ (F2.keep b o e), F2.above⟩, (if_neg (by decide)).trans hm⟩, fun p hp => ⟨k1 _ _ (N2 p hp).1, (N2 p hp).2⟩, fun q => absurd q (Nat.succ_ne_zero i), .inr ⟨hIt, k1 _ _ ((hs₂.2 _ hCI.symm).trans hit₁)⟩⟩, fun s'' gi => hkap .none s'' ?_⟩
    show Seg (model prg w) ⟨none, dp, some outs, gd, un⟩ (RE Cg lo) (YP g Cg t1 t2 t3 kn u N lo) n s'' _ (.pure (.again _)) _ s''
    refine seg_again rfl ?_
    have e : n = N - (i + 1) := by omega
    rw [e]
    obtain ⟨gF, gN, _, git⟩ := gi
    obtain ⟨g1, g2⟩ := git.resolve_left (Nat.succ_ne_zero i)
    exact ih (i + 1) s'' s'' (by omega) (by omega) gF gN g1 g2 ⟨_, _, rfl, Kp.refl _⟩
end
end
-- G4
section
noncomputable def junk (g h : Heap) (C : Addr) : Led := ((List.range h.objs.size).filterMap fun b => (h.get? b).map fun o => (b, o)).filter fun p => p.1 != C && (g.get? p.1).isNone && p.1 != 266 && p.1 != 280 && p.1 != 159
theorem mem_junk {g h : Heap} {C : Addr} {p : Addr × Obj} : p ∈ junk g h C ↔ h.get? p.1 = some p.2 ∧ p.1 ≠ C ∧ g.get? p.1 = none ∧ p.1 ≠ 266 ∧ p.1 ≠ 280 ∧ p.1 ≠ 159 := by
  unfold junk
  simp only [List.mem_filter, List.mem_filterMap, List.mem_range, Option.map_eq_some_iff, Bool.and_eq_true, bne_iff_ne, ne_eq, Option.isNone_iff_eq_none]
  constructor
  · rintro ⟨⟨b, hb, o, ho, rfl⟩, ⟨⟨⟨h1, h2⟩, h3⟩, h4⟩, h5⟩
    exact ⟨ho, h1, h2, h3, h4, h5⟩
  · rintro ⟨h0, h1, h2, h3, h4, h5⟩
    exact ⟨⟨p.1, Heap.lt_size h0, p.2, h0, rfl⟩, ⟨⟨⟨h1, h2⟩, h3⟩, h4⟩, h5⟩
theorem junk_keep {g h h' : Heap} {C : Addr} {m m' : Str → Option Value} {news : Led} {t1 t2 t3 : Array Value} (F : Fr g C h m) (F' : Fr g C h' m') (N0 : News g C h (tabs t1 t2 t3)) (N : News g C h' news) (hj : ∀ p ∈ junk g h C, p ∈ news) (ht : ∀ p ∈ tabs t1 t2 t3, p ∈ news) :
    ∀ b o, b ≠ C → h.get? b = some o → h'.get? b = some o := fun b o hb e => by
  cases q : g.get? b with
  | some o' =>
    have e2 := F.keep _ _ q
    rw [e] at e2
    cases e2
    exact F'.keep _ _ q
  | none =>
    by_cases hT : b = 266 ∨ b = 280 ∨ b = 159
    · have t : ∀ a t, (a, tabObj t) ∈ tabs t1 t2 t3 → b = a → h'.get? b = some o := fun a t hm z => by
        subst z
        have := (N0 _ hm).1
        rw [e] at this
        cases this
        exact (N _ (ht _ hm)).1
      rcases hT with z | z | z
      · exact t 266 t1 (by simp) z
      · exact t 280 t2 (by simp) z
      · exact t 159 t3 (by simp) z
    · exact (N (b, o) (hj _ (mem_junk.mpr ⟨e, hb, q, fun z => hT (.inl z), fun z => hT (.inr (.inl z)), fun z => hT (.inr (.inr z))⟩))).1
section
variable {w : World} {A₀ : Around} {base g : Heap} {outs : List Env} {loose : List Str} {mean : ExcName → Option Value} {mg mb : Str → Option Value} {t1 t2 t3 : Array Value} {kn : Led} {u l Cg : Addr} {vs : List Value} {lo : Nat}
set_option maxHeartbeats 4000000 in
theorem gen_iter : ∀ {w : World} {A₀ : Around} {base g : Heap} {outs : List Env} {loose : List Str} {mean : ExcName → Option Value} {mg mb : Str → Option Value} {t1 t2 t3 : Array Value} {kn : Led} {u l Cg : Addr} {vs : List Value} {s : Shared} {m : Str → Option Value} {dp un : Nat} {gd : Option (List Code)} {qual : Str} {f : Addr} {cdv : Value} {p1 p2 p3 p4 p5 : Pos} {Q : Value → Shared → Prop} {E : Value → Shared → Prop} (hs : SetTop kn u l vs) (hln : vs.length ≤ 100) (B : Below A₀ base outs g) (X : (hd.heap_1_39 w.params).In g) (T : Top topProg loose mean mg mb g) (C1 : CodeHd g 270 266) (C2 : CodeHd g 284 280) (C3 : CodeHd g 163 159) (TK : TabOk t1 t2 t3 kn) (hdp : dp + 40 < 1000) (hun : un + 400 < 9900) (F : Fr g Cg s.heap m) (hself : m "self" = some (.ref u)) (N : News g Cg s.heap (tabs t1 t2 t3 ++ kn)) (ret : ∀ r ta tb tc h' tk', (∀ b o, b ≠ Cg → s.heap.get? b = some o → h'.get? b = some o) → Fr g Cg h' m → News g Cg h' (tabs t1 t2 t3 ++ kn) → (∀ b o, s.heap.get? b = some o → g.get? b = none → b ≠ Cg → b ≠ 266 → b ≠ 280 → b ≠ 159 → b < h'.objs.size) → h'.get? r = some (rangeO vs.length ta tb tc) → Q (.ref r) { s with heap := h', toks := tk' }),
    wpAny (model prg w) ⟨none, dp, some (envOf qual gscope Cg f cdv :: outs), gd, un⟩ (eval (.Call (.Name "range" p1) [.Call (.Name "len" p2) [.Name "self" p3] [] p4] [] p5) (envOf qual gscope Cg f cdv)) Q E s := by
  have hon : HKon := trivial
  intro w A₀ base g outs loose mean mg mb t1 t2 t3 kn u l Cg vs s m dp un gd qual f cdv p1 p2 p3 p4 p5 Q E hs hln B X T C1 C2 C3 TK hdp hun F hself N ret
  first | ((with_reducible rename HKon => hkm); (with_reducible refine' (_ : ShE s _) _ _ _ _ _ rfl); intros hh gg dd tt oo hq; subst hq) | obtain ⟨hh, gg, dd, tt, oo⟩ := s
  have F' : Fr g Cg hh (fun y : Str => if y = "self" then some (.ref u) else m y) := by
    have e : m = (fun y : Str => if y = "self" then some (.ref u) else m y) := by
      funext y
      split
      · rename_i h; rw [h, hself]
      · rfl
    rw [← e]; exact F
  have F0 := HoldW.mk F
  have N0 := HoldW.mk N
  clear F
  have TK2 : TabOk t1 t2 t3 (junk g hh Cg ++ kn) := TK.mono (fun _ h => List.mem_append_right _ h) fun p hp => (List.mem_append.mp hp).elim (fun hp => .inr (mem_junk.mp hp).2.2.2) .inl
  have N2 : News g Cg hh ((266, tabObj t1) :: (280, tabObj t2) :: (159, tabObj t3) :: (junk g hh Cg ++ kn)) := fun p hp => by
    by_cases hj : p ∈ junk g hh Cg
    · have := mem_junk.mp hj
      exact ⟨this.1, this.2.1, this.2.2.1⟩
    · refine N p ?_
      simp only [List.mem_append, List.mem_cons] at hp ⊢
      grind
  have hs2 : SetTop (junk g hh Cg ++ kn) u l vs := hs.mono fun _ h => List.mem_append_right _ h
  have hj : ∀ p ∈ junk g hh Cg, p ∈ junk g hh Cg ++ kn := fun p hp => List.mem_append_left _ hp
  have hkk : ∀ p ∈ kn, p ∈ junk g hh Cg ++ kn := fun p hp => List.mem_append_right _ hp
  clear N TK hs
  have hjj : ∀ b o, hh.get? b = some o → g.get? b = none → b ≠ Cg → b ≠ 266 → b ≠ 280 → b ≠ 159 → (b, o) ∈ junk g hh Cg := fun b o e1 e2 e3 e4 e5 e6 => mem_junk.mpr ⟨e1, e3, e2, e4, e5, e6⟩
  generalize hkn2 : junk g hh Cg ++ kn = kn2 at *
  have hs3 := hs2
  obtain ⟨du, q1, q2, q3, q4, mm1, mm2, mm3⟩ := hs3
  k_steps
  rename Fr g Cg _ _ => F9
  rename News g Cg _ _ => N9
  rename IsRange _ _ _ _ _ _ _ _ => R9
  have hjn : ∀ p ∈ junk g hh Cg, p ∈ (266, tabObj t1) :: (280, tabObj t2) :: (159, tabObj t3) :: kn2 := fun p hp => .tail _ (.tail _ (.tail _ (hj p hp)))
  refine ret _ _ _ _ _ _ (junk_keep F0.h F9 (fun p hp => N0.h p (List.mem_append_left _ hp)) N9 hjn fun p hp => ?_) ?_ (fun p hp => N9 p ?_) (fun b o a1 a2 a3 a4 a5 a6 => ?_) R9
  · simp only [List.mem_cons] at hp ⊢
    grind
  · have e : m = (fun y : Str => if y = "self" then some (.ref u) else m y) := by
      funext y
      split
      · rename_i h; rw [h, hself]
      · rfl
    rw [e]; exact F9
  · simp only [List.mem_append, List.mem_cons] at hp ⊢
    grind
  · exact Heap.lt_size (N9 (b, o) (hjn _ (hjj b o a1 a2 a3 a4 a5 a6))).1
set_option maxHeartbeats 4000000 in
theorem gen_start : ∀ {w : World} {A₀ : Around} {base g : Heap} {outs : List Env} {loose : List Str} {mean : ExcName → Option Value} {mg mb : Str → Option Value} {t1 t2 t3 : Array Value} {kn : Led} {u l Cg : Addr} {vs : List Value} {dp un : Nat} {gd : Option (List Code)} {qual : Str} {f : Addr} {cdv : Value} {a1 a2 a3 a4 a5 a6 p0 p1 p2 p3 p4 p5 p6 : Pos} {top : Nat} (hs : SetTop kn u l vs) (hln : vs.length ≤ 100) (B : Below A₀ base outs g) (X : (hd.heap_1_39 w.params).In g) (T : Top topProg loose mean mg mb g) (C1 : CodeHd g 270 266) (C2 : CodeHd g 284 280) (C3 : CodeHd g 163 159) (TK : TabOk t1 t2 t3 kn) (htop : Cg < top) (hkn : ∀ p ∈ tabs t1 t2 t3 ++ kn, p.1 < top) (hdp : dp + 80 < 1000) (hun : un + 800 < 9900) (s₀ s : Shared) (hF : ∃ m, Fr g Cg s.heap m ∧ m "self" = some (.ref u)) (hNw : News g Cg s.heap (tabs t1 t2 t3 ++ kn)) (ht : ∃ o, s.heap.get? top = some o) (hsr : ∃ h' tk, s = { s₀ with heap := h', toks := tk } ∧ Kp Cg (top + 1) s₀.heap h'),
      Seg (model prg w) ⟨none, dp, some outs, gd, un⟩ (RE Cg (top + 1)) (YP g Cg t1 t2 t3 kn u vs.length (top + 1)) vs.length s₀
        (.func [.For (.Name "i" p0) (.Call (.Name "range" a1) [.Call (.Name "len" a2) [.Name "self" a3] [] a4] [] a5) [.Expr (.Yield (some (.Call (.Name "UnknownFieldRef" p1) [.Name "self" p2, .Name "i" p3] [] p4)) p5) p6] [] a6] (envOf qual gscope Cg f cdv))
        ((model prg w).den (.func [.For (.Name "i" p0) (.Call (.Name "range" a1) [.Call (.Name "len" a2) [.Name "self" a3] [] a4] [] a5) [.Expr (.Yield (some (.Call (.Name "UnknownFieldRef" p1) [.Name "self" p2, .Name "i" p3] [] p4)) p5) p6] [] a6] (envOf qual gscope Cg f cdv)))
        [] s := by
  have hon : HKon := trivial
  intro w A₀ base g outs loose mean mg mb t1 t2 t3 kn u l Cg vs dp un gd qual f cdv a1 a2 a3 a4 a5 a6 p0 p1 p2 p3 p4 p5 p6 top hs hln B X T C1 C2 C3 TK htop hkn hdp hun s₀ s hF hNw ht hsr
  obtain ⟨m, F, hm⟩ := hF
  refine seg_func (seg_execs_cons (seg_For (fun _ => rfl) ?_))
  generalize hA : (Around.over _ _ _ : Around) = A'
  have b1 : A'.handled = none := by rw [← hA]; rfl
  have b2 : A'.frames = some (envOf qual gscope Cg f cdv :: outs) := by rw [← hA]; rfl
  have b3 : A'.depth = dp + 1 := by rw [← hA]; rfl
  have b4 : A'.units ≤ un + 9 := by rw [← hA]; first | exact Nat.le_of_eq (show _ = un + 9 from rfl) | exact Nat.le_trans (Nat.le_of_eq (show _ = un + 3 from rfl)) (by omega) | exact Nat.le_trans (Nat.le_of_eq (show _ = un + 4 from rfl)) (by omega) | exact Nat.le_trans (Nat.le_of_eq (show _ = un + 5 from rfl)) (by omega) | exact Nat.le_trans (Nat.le_of_eq (show _ = un + 6 from rfl)) (by omega) | exact Nat.le_trans (Nat.le_of_eq (show _ = un + 2 from rfl)) (by omega) | exact Nat.le_trans (Nat.le_of_eq (show _ = un + 7 from rfl)) (by omega)
  obtain ⟨ah, dp', fr', gd', un'⟩ := A'
  dsimp only at b1 b2 b3 b4
  subst b1 b2
  refine gen_iter hs hln B X T C1 C2 C3 TK (by omega) (by omega) F hm hNw ?_
  intro r ta tb tc h' tk' k1 F' N' k2 k3
  refine wpAny_pyIter_range k3 (range_small _ (by omega)) ?_
  rw [range_size]
  intro pp
  obtain ⟨h0, tk0, rfl, hkp⟩ := hsr
  obtain ⟨oT, hoT⟩ := ht
  have l3 : ∀ p ∈ tabs t1 t2 t3, p.1 < top := fun p hp => hkn p (List.mem_append_left _ hp)
  have hlt : top < h'.objs.size := k2 top oT hoT (Heap.get?_none_of_le (Nat.le_trans F.above (Nat.le_of_lt htop))) (Nat.ne_of_gt htop) (Nat.ne_of_gt (l3 (266, tabObj t1) (by simp))) (Nat.ne_of_gt (l3 (280, tabObj t2) (by simp))) (Nat.ne_of_gt (l3 (159, tabObj t3) (by simp)))
  have kp : ∀ b o, h'.get? b = some o → (h'.push { cls := .type "range_iterator", data := .fields #[rawInt 0, rawInt vs.length, rawInt 1] }).get? b = some o := fun b o e => Heap.get?_push_of_some _ e
  refine gen_loop (w := w) (A₀ := A₀) (base := base) (g := g) (outs := outs) (t1 := t1) (t2 := t2) (t3 := t3) (kn := kn) (u := u) (Cg := Cg) (N := vs.length) (lo := top + 1) (dp := dp) (un := un) (gd := gd) (qual := qual) (f := f) (cdv := cdv) (It := h'.objs.size)
    (p0 := p0) (p1 := p1) (p2 := p2) (p3 := p3) (p4 := p4) (p5 := p5) (p6 := p6) (pc := pp) B X T C1 C2 C3 TK (Nat.lt_succ_of_lt htop) (fun p hp => Nat.lt_succ_of_lt (hkn p hp)) (by omega) (by omega) (by omega) ?hK vs.length 0 s₀
    { heap := h'.push { cls := .type "range_iterator", data := .fields #[rawInt 0, rawInt vs.length, rawInt 1] }, gens := s₀.gens, drawn := s₀.drawn, toks := tk', os := s₀.os } rfl (Nat.zero_le _) ⟨m, F'.push _, hm⟩ (fun p hp => ⟨kp _ _ (N' p hp).1, (N' p hp).2⟩) hlt
    (by show IsRangeIter _ _ _ _ _; simpa using Heap.get?_push_size _ rfl) ⟨_, _, rfl, hkp.trans ⟨fun b o hb _ e => kp _ _ (k1 b o hb e), fun b o e => ?_⟩⟩
  case hK => rfl
  · by_cases hb : b = Cg
    · subst hb
      obtain ⟨oL, _, _, e', _⟩ := F'.ns
      exact ⟨oL, kp _ _ e'⟩
    · exact ⟨o, kp _ _ (k1 b o hb e)⟩
end
end
-- G5
section
section
variable {w : World} {A A₀ : Around} {E : Value → Shared → Prop} {s : Shared} {h₀ base : Heap} {outer : List Env} {env : Env} {loose : List Str} {mean : ExcName → Option Value} {mg mb : Str → Option Value} {t1 t2 t3 : Array Value} {led : Led} {u l L : Addr} {vs : List Value} {m : Str → Option Value}
theorem pyIter_own {M : Model} {ox : Obj} {od : Option Obj} {x f : Addr} {C : Addr} {K : Frag} {Q : Value → Shared → Prop} (X : K.In s.heap) (I : InstAt s.heap x ox C od) (hs : findIn K (.ref C) "__iter__" = some (some (.ref f))) (hf : typeIn K (.ref f) = some (.type "function"))
    (h : wpAny M A (call (.ref f) [.ref x]) (fun it s' => ∃ a g, it = .ref a ∧ s'.heap.IsGen a g ∧ Q it s') E s) : wpAny M A (pyIter (.ref x)) Q E s := by
  have sp : Looks M s.heap (specialOf (.ref x) "__iter__") (some (.ref f)) := I.type.andThen (looks_findIn X hs)
  have hb := fun (Q' : Value × List Value → Shared → Prop) E' (q : Q' (.ref f, [.ref x]) s) => (bind_fn (M := M) X (.ref x) hf).here (A := A) (E := E') q
  unfold pyIter
  refine wpAny_bind (sp.here ?_)
  show wpAny M A (callSpecialIfBoundUnlessNone? (.ref x) "__iter__" _ >>= _) Q E s
  refine wpAny_bind ?_
  simp only [callSpecialIfBoundUnlessNone?, bindSpecialIfBound?]
  refine wpAny_holding (wpAny_bind (wpAny_bind (sp.here ?_)))
  refine wpAny_bind (wpAny_askSetting (wpAny_ite ?_))
  have fin : ∀ {Q' : Option Value → Shared → Prop}, wpAny M A (call (.ref f) [.ref x]) (fun it s' => Q' (some it) s') E s → wpAny M A (if (Value.ref f == Value.none) = true then ((do let _ ← rule "iter.none"; raiseError "TypeError" s!"'{← typeNameOf (.ref x)}' object is not iterable") >>= fun v => pure (some v)) else (call (.ref f) [.ref x] >>= fun v => pure (some v))) Q' E s := by
    intro Q' h'
    have : (Value.ref f == Value.none) = false := rfl
    simp only [this, Bool.false_eq_true, if_false]
    exact wpAny_bind (wpAny_mono h' (fun v s' h' => wpAny_pure h') fun _ _ h' => h')
  have h2 : wpAny M A (call (.ref f) [.ref x]) (fun it s' => wpAny M A (specialOf it "__next__" >>= fun r => match r with
        | none => do let _ ← rule "iter.non-iterator"; raiseError "TypeError" s!"iter() returned non-iterator of type '{← typeNameOf it}'"
        | some _ => pure it) Q E s') E s := wpAny_mono h (fun it s' hq => by
    obtain ⟨a, g, rfl, hg, hQ⟩ := hq
    exact wpAny_bind (wpAny_specialOf hg.typeIs slot_gen_next.lookup (wpAny_pure hQ))) fun _ _ e => e
  split
  · exact wpAny_bind (hb _ _ (wpAny_pure (fin h2)))
  · exact wpAny_tryCatch (wpAny_bind (hb _ _ (wpAny_pure (fin h2))))
set_option maxHeartbeats 4000000 in
theorem make_gen {dp un : Nat} {gd : Option (List Code)} {Q : Value → Shared → Prop} (hs : SetTop led u l vs) (hln : vs.length ≤ 100)
    (B : Below A₀ base outer h₀) (F : Fr h₀ L s.heap m) (X : (hd.heap_1_39 w.params).In h₀) (N : News h₀ L s.heap (tabs t1 t2 t3 ++ led)) (T : Top topProg loose mean mg mb h₀) (C1 : CodeHd h₀ 270 266) (C2 : CodeHd h₀ 284 280) (C3 : CodeHd h₀ 163 159) (TK : TabOk t1 t2 t3 led)
    (hf : env.frame = some L) (hke : env.scope.kind = .function) (hdp : dp + 90 < 1000) (hun : un + 900 < 9900)
    (ret : ∀ g Cg a h' tk' st, (∀ b o, s.heap.get? b = some o → h'.get? b = some o) → s.heap.objs.size ≤ Cg → Cg < a → h'.objs.size = a + 1 → h'.IsGen a s.gens.size → st.bare = true → h₀.objs.size ≤ Cg →
      (∃ mG, Fr g Cg h' mG ∧ mG "self" = some (.ref u)) → News g Cg h' (tabs t1 t2 t3 ++ led) →
      (∀ top, a ≤ top → ∀ s'' : Shared, GI g Cg t1 t2 t3 led u vs.length (top + 1) 0 0 s''.heap → GenState.Goes (model prg w) ⟨none, dp, some (env :: outer), gd, un + 1⟩ (RE Cg (top + 1)) (YP g Cg t1 t2 t3 led u vs.length (top + 1)) vs.length st (.send .none) s'') →
      Q (.ref a) { s with heap := h', toks := tk', gens := s.gens.push st }) :
    wpAny (model prg w) ⟨none, dp, some (env :: outer), gd, un⟩ (pyIter (.ref u)) Q E s := by
  have hs' := hs
  obtain ⟨du, q1, q2, q3, q4, mm1, mm2, mm3⟩ := hs'
  have X0 : (hd.heap_1_39 w.params).In s.heap := X.keeps F.keep
  have Iu : InstAt s.heap u (instObj 174 du) 174 (some (dictOf [⟨q1, .str "_values" q2, .ref l⟩] q3)) := ⟨(N _ (List.mem_append_right _ mm1)).1, rfl, rfl, (N _ (List.mem_append_right _ mm2)).1⟩
  refine pyIter_own X0 Iu (by k_is) (by k_is) (wpAny_call ?_)
  have hsub : ∀ p ∈ tabs t1 t2 t3 ++ led, p ∈ tabs t1 t2 t3 ++ led := fun _ h => h
  have R : Rdy w ⟨none, dp, some (env :: outer), gd, un⟩ 80 800 s t1 t2 t3 led base (env :: outer) _ loose mean mg mb := rdy_of B F X N T C1 C2 C3 rfl hf hke hsub TK rfl (by show dp + 80 < 1000; omega) (by show un + 800 < 9900; omega)
  refine codeAny_call_generator (o := ⟨_, _, .func (fnOf _ _ _ _ _ _ _ _ _ _ _ _), _⟩) (by show dp < 1000; omega) (X0 _ _ (by k_is)) rfl rfl rfl rfl (codeRec_of X0 (by k_is)) ((BindsTo.of_eq rfl) _ _ _ _ ?_)
  refine wpAny_newFunctionEnv (by decide) (locs rfl) (fun h₁ hns hsb => ?_) rfl
  have keep1 : ∀ b o, s.heap.get? b = some o → h₁.get? b = some o := fun b o e => hsb.extBut b o (Nat.ne_of_lt (Heap.lt_size e)) (Heap.get?_push_of_some _ e)
  have hsz : h₁.objs.size = s.heap.objs.size + 1 := by rw [hsb.1, Heap.size_push]
  have hlim : s.heap.NoLimit := T.nolimit.keeps F.keep
  refine ⟨hlim.keeps keep1, ?_⟩
  dsimp only
  have keep2 : ∀ b o, s.heap.get? b = some o → (h₁.push { cls := .type "generator", data := .fields #[.int s.gens.size 0, .str "__iter__" (s.toks + 1), .str "UnknownFieldSet.__iter__" (s.toks + 1 + 1)] }).get? b = some o := fun b o e => Heap.get?_push_of_some _ (keep1 b o e)
  have hCa : s.heap.objs.size < h₁.objs.size := by rw [hsz]; exact Nat.lt_succ_self _
  refine ⟨h₁.objs.size, s.gens.size, rfl, ⟨_, _, _, Heap.get?_push_size _ rfl, rfl, rfl, rfl⟩, ?_⟩
  refine ret _ s.heap.objs.size h₁.objs.size _ _ _ keep2 (Nat.le_refl _) hCa (by rw [Heap.size_push]) ⟨_, _, _, Heap.get?_push_size _ rfl, rfl, rfl, rfl⟩ rfl (Nat.le_trans F.above (Nat.le_of_lt F.ns.lt)) ⟨_, ⟨hns.push _, fun b o e => keep2 b o (R.sub b o e), R.size⟩, ?_⟩ (fun p hp => ⟨keep2 _ _ (R.news p hp).1, Nat.ne_of_lt (Heap.lt_size (R.news p hp).1), (R.news p hp).2⟩) fun top htop s'' gi => ⟨rfl, ?_⟩
  · rfl
  · exact gen_start hs hln R.below R.K R.top R.c1 R.c2 R.c3 TK (Nat.lt_of_lt_of_le hCa htop) (fun p hp => Nat.lt_of_lt_of_le (Nat.lt_trans (Heap.lt_size (R.news p hp).1) hCa) htop) (by omega) (by omega) s'' s'' gi.F gi.Nw (gi.sz rfl) ⟨_, _, rfl, Kp.refl _⟩
end
end
-- G6
section
section
variable {w : World} {A₀ : Around} {E : Value → Shared → Prop} {s : Shared} {h₀ base : Heap} {outer : List Env} {env : Env} {loose : List Str} {mean : ExcName → Option Value} {mg mb : Str → Option Value} {t1 t2 t3 : Array Value} {led : Led} {u l L : Addr} {vs : List Value} {m : Str → Option Value}
theorem GI.move {g h h' : Heap} {Cg C D : Addr} {N lo It i : Nat} (x : GI g Cg t1 t2 t3 led u N lo It i h) (hC : C ≠ Cg) (hD : D ≠ Cg) (gC : g.get? C = none) (gD : g.get? D = none) (nC : ∀ p ∈ tabs t1 t2 t3 ++ led, p.1 ≠ C ∧ p.1 ≠ D) (lC : C < lo) (lD : D < lo) (hi : i ≠ 0)
    (k : ∀ b o, b ≠ C → b ≠ D → h.get? b = some o → h'.get? b = some o) : GI g Cg t1 t2 t3 led u N lo It i h' := by
  obtain ⟨⟨m, F, hm⟩, Nw, _, it⟩ := x
  obtain ⟨oL, es, ep, hL, r⟩ := F.ns
  refine ⟨⟨m, ⟨⟨oL, es, ep, k _ _ hC.symm hD.symm hL, r⟩, fun b o e => k _ _ (fun q => by rw [q, gC] at e; cases e) (fun q => by rw [q, gD] at e; cases e) (F.keep b o e), F.above⟩, hm⟩, fun p hp => ⟨k _ _ (nC p hp).1 (nC p hp).2 (Nw p hp).1, (Nw p hp).2⟩, fun q => absurd q hi, .inr ?_⟩
  obtain ⟨a, b⟩ := it.resolve_left hi
  exact ⟨a, k _ _ (Nat.ne_of_gt (Nat.lt_of_lt_of_le lC a)) (Nat.ne_of_gt (Nat.lt_of_lt_of_le lD a)) b⟩
noncomputable def RefsR (led' : Led) (u : Addr) (zs : List Value) : Prop := ∀ j v, zs[j]? = some v → ∃ r, v = .ref r ∧ RefAt led' r u j
theorem RefsR.mono {k k' : Led} {zs : List Value} (x : RefsR k u zs) (h : ∀ p ∈ k, p ∈ k') : RefsR k' u zs := fun j v e => let ⟨r, a, b⟩ := x j v e; ⟨r, a, b.mono h⟩
theorem RefsR.snoc {k : Led} {zs : List Value} {r : Addr} (x : RefsR k u zs) (h : RefAt k r u zs.length) : RefsR k u (zs ++ [Value.ref r]) := fun j v e => by
  by_cases hj : j < zs.length
  · rw [List.getElem?_append_left hj] at e
    exact x j v e
  · rw [List.getElem?_append_right (by omega)] at e
    have : j - zs.length = 0 := by
      have := (List.getElem?_eq_some_iff.mp e).1
      simp at this; omega
    rw [this] at e
    have hj' : zs.length = j := by omega
    simp at e
    exact ⟨r, e.symm, hj' ▸ h⟩
theorem none_ge {h : Heap} {b : Nat} (e : @LE.le Nat instLENat h.objs.size b) : h.get? b = none := Heap.get?_none_of_le e
structure GCx (h₀ g : Heap) (L Cg a C D : Addr) (ks : Led) : Prop where
  h0 : @LE.le Nat instLENat h₀.objs.size L
  lC : @LT.lt Nat instLTNat L Cg
  ca : @LT.lt Nat instLTNat Cg a
  aD : @LT.lt Nat instLTNat a D
  DC : @LT.lt Nat instLTNat D C
  gs : @LE.le Nat instLENat g.objs.size Cg
  led : ∀ p ∈ ks, @LT.lt Nat instLTNat p.1 Cg
section
variable {g : Heap} {Cg a C D It' : Addr} {i ng n : Nat} {h' h₃ h₅ : Heap} {led' : Led} {zs : List Value} {m' m₅ : Str → Option Value} {r dx : Addr} {od : Obj} {c : Nat}
theorem GCx.cD {ks : Led} (x : GCx h₀ g L Cg a C D ks) : @LT.lt Nat instLTNat Cg D := Nat.lt_trans x.ca x.aD
theorem GCx.aC {ks : Led} (x : GCx h₀ g L Cg a C D ks) : @LT.lt Nat instLTNat a C := Nat.lt_trans x.aD x.DC
theorem GCx.cC {ks : Led} (x : GCx h₀ g L Cg a C D ks) : @LT.lt Nat instLTNat Cg C := Nat.lt_trans x.ca x.aC
theorem GCx.la {ks : Led} (x : GCx h₀ g L Cg a C D ks) : @LT.lt Nat instLTNat L a := Nat.lt_trans x.lC x.ca
theorem GCx.lD {ks : Led} (x : GCx h₀ g L Cg a C D ks) : @LT.lt Nat instLTNat L D := Nat.lt_trans x.lC x.cD
theorem GCx.lCC {ks : Led} (x : GCx h₀ g L Cg a C D ks) : @LT.lt Nat instLTNat L C := Nat.lt_trans x.lC x.cC
theorem GCx.nn {ks : Led} (x : GCx h₀ g L Cg a C D ks) {b : Nat} (h : L < b) : h₀.get? b = none := none_ge (Nat.le_trans x.h0 (Nat.le_of_lt h))
theorem GCx.noneg {ks : Led} (x : GCx h₀ g L Cg a C D ks) {b : Nat} (h : Cg < b) : g.get? b = none := none_ge (Nat.le_trans x.gs (Nat.le_of_lt h))
theorem GCx.tab (x : GCx h₀ g L Cg a C D (tabs t1 t2 t3 ++ led)) {b : Nat} (h : Cg < b) : b ≠ 266 ∧ b ≠ 280 ∧ b ≠ 159 :=
  have k : ∀ p ∈ tabs t1 t2 t3, b ≠ p.1 := fun p hp => Nat.ne_of_gt (Nat.lt_trans (x.led p (List.mem_append_left _ hp)) h)
  ⟨k _ (.head _), k _ (.tail _ (.head _)), k _ (.tail _ (.tail _ (.head _)))⟩
theorem GCx.three (x : GCx h₀ g L Cg a C D (tabs t1 t2 t3 ++ led)) : ∀ b ∈ [a, C, D], b ≠ 266 ∧ b ≠ 280 ∧ b ≠ 159 :=
  List.forall_mem_cons.mpr ⟨x.tab x.ca, List.forall_mem_cons.mpr ⟨x.tab x.cC, List.forall_mem_cons.mpr ⟨x.tab x.cD, List.forall_mem_nil _⟩⟩⟩
theorem GCx.step {u1 u2 u3 : Array Value} {K : Led} (x : GCx h₀ g L Cg a C D (tabs t1 t2 t3 ++ led)) (S : CompSt h₀ L m a C D u1 u2 u3 K h') (k : ∀ b o, b ≠ a → b ≠ C → b ≠ D → h'.get? b = some o → h₅.get? b = some o) : CompSt h₀ L m a C D u1 u2 u3 K h₅ :=
  S.step (x.nn x.la) (x.nn x.lCC) (x.nn x.lD) (Nat.ne_of_lt x.la) (Nat.ne_of_lt x.lCC) (Nat.ne_of_lt x.lD) x.three k
theorem GCx.keep (x : GCx h₀ g L Cg a C D (tabs t1 t2 t3 ++ led)) (S : CompSt h₀ L m a C D t1 t2 t3 led' h') (hld : ∀ p ∈ led', p.1 ≠ Cg ∧ (p.1 < C + 1 ∨ p.2.cls ≠ .type "range_iterator")) (k : ∀ b o, b ≠ Cg → (b < C + 1 ∨ o.cls ≠ .type "range_iterator") → h'.get? b = some o → h₃.get? b = some o) : CompSt h₀ L m a C D t1 t2 t3 led' h₃ := by
  obtain ⟨oL, es, ep, hL, rL⟩ := S.F.ns
  refine ⟨⟨⟨oL, es, ep, k _ _ (Nat.ne_of_lt x.lC) (.inl (Nat.lt_succ_of_lt x.lCC)) hL, rL⟩, fun b o e => ?_, S.F.above⟩, fun p hp => ⟨(List.mem_append.mp hp).elim (fun hq => ?_) fun hq => k _ _ (hld p hq).1 (hld p hq).2 (S.N p hp).1, (S.N p hp).2⟩, S.tok, S.off⟩
  · have hb : @LT.lt Nat instLTNat b Cg := Nat.lt_trans (Nat.lt_of_lt_of_le (Heap.lt_size e) x.h0) x.lC
    exact k _ _ (Nat.ne_of_lt hb) (.inl (Nat.lt_succ_of_lt (Nat.lt_trans hb x.cC))) (S.F.keep b o e)
  · have hb := x.led p (List.mem_append_left _ hq)
    exact k _ _ (Nat.ne_of_lt hb) (.inl (Nat.lt_succ_of_lt (Nat.lt_trans hb x.cC))) (S.N p hp).1
theorem CompSt.two (S : CompSt h₀ L m a C D t1 t2 t3 led' h₃) (n1 : h'.get? dx = none) (n2 : h'.get? r = none) (e1 : h₃.get? r = some (instObj 97 dx)) (e2 : h₃.get? dx = some od) (k : ∀ b, (∃ o, h'.get? b = some o) → dx ≠ b ∧ r ≠ b)
    (ex : ∀ b ∈ [a, C, D, L, 266, 280, 159], ∃ o, h'.get? b = some o) (h0 : ∀ b, h'.get? b = none → h₀.get? b = none) : CompSt h₀ L m a C D t1 t2 t3 ((r, instObj 97 dx) :: (dx, od) :: led') h₃ := by
  have f : ∀ b ∈ [a, C, D, L, 266, 280, 159], dx ≠ b ∧ r ≠ b := fun b hb => k b (ex b hb)
  have fa := f a (.head _)
  have fC := f C (.tail _ (.head _))
  have fD := f D (.tail _ (.tail _ (.head _)))
  have fL := f L (.tail _ (.tail _ (.tail _ (.head _))))
  have f1 := f 266 (.tail _ (.tail _ (.tail _ (.tail _ (.head _)))))
  have f2 := f 280 (.tail _ (.tail _ (.tail _ (.tail _ (.tail _ (.head _))))))
  have f3 := f 159 (.tail _ (.tail _ (.tail _ (.tail _ (.tail _ (.tail _ (.head _)))))))
  refine ⟨S.F, fun p hp => ?_, (S.tok.cons (p := (dx, od)) ⟨f1.1, f2.1, f3.1⟩).cons (p := (r, instObj 97 dx)) ⟨f1.2, f2.2, f3.2⟩, List.forall_mem_cons.mpr ⟨⟨fa.2, fC.2, fD.2⟩, List.forall_mem_cons.mpr ⟨⟨fa.1, fC.1, fD.1⟩, S.off⟩⟩⟩
  rcases List.mem_append.mp hp with hp | hp
  · exact S.N p (List.mem_append_left _ hp)
  · rcases List.mem_cons.mp hp with e | hp
    · rw [e]; exact ⟨e1, fL.2, h0 _ n2⟩
    · rcases List.mem_cons.mp hp with e | hp
      · rw [e]; exact ⟨e2, fL.1, h0 _ n1⟩
      · exact S.N p (List.mem_append_right _ hp)
theorem Gr.two (hgr : Gr led led') (f : ∀ q ∈ tabs t1 t2 t3 ++ led, dx ≠ q.1 ∧ r ≠ q.1) {o : Obj} : Gr led ((r, o) :: (dx, od) :: led') :=
  ⟨fun p hp => .tail _ (.tail _ (hgr.1 p hp)), List.forall_mem_cons.mpr ⟨.inr ⟨(f _ (List.mem_append_left _ (.head _))).2, (f _ (List.mem_append_left _ (.tail _ (.head _)))).2, (f _ (List.mem_append_left _ (.tail _ (.tail _ (.head _))))).2, fun q hq => (f q (List.mem_append_right _ hq)).2⟩,
    List.forall_mem_cons.mpr ⟨.inr ⟨(f _ (List.mem_append_left _ (.head _))).1, (f _ (List.mem_append_left _ (.tail _ (.head _)))).1, (f _ (List.mem_append_left _ (.tail _ (.tail _ (.head _))))).1, fun q hq => (f q (List.mem_append_right _ hq)).1⟩, hgr.2⟩⟩⟩
end
theorem idx_eq {i i' k n : Nat} (h : i' + 1 + (k + 1 - 1) = n) (hk : n - i = k + 1) : i' = i ∧ i < n ∧ k = n - (i + 1) := by omega
inductive GInv (M : Model) (A1 : Around) (gens : Array GenState) (st : GenState) (h₀ g : Heap) (L : Addr) (m : Str → Option Value) (Cg a C D : Addr) (t1 t2 t3 : Array Value) (led : Led) (u : Addr) (n i : Nat) (zs : List Value) (h : Heap) (gs : Array GenState) : Prop
  | mk {m' : Str → Option Value} {c It : Nat} {led' : Led} {gst : GenState} : CompSt h₀ L m a C D t1 t2 t3 led' h → GI g Cg t1 t2 t3 led u n (C + 1) It i h → h.IsGen a gens.size → gs[gens.size]? = some gst →
      (∀ s'' : Shared, GI g Cg t1 t2 t3 led u n (C + 1) It i s''.heap → GenState.Goes M A1 (RE Cg (C + 1)) (YP g Cg t1 t2 t3 led u n (C + 1)) (n - i) gst (.send .none) s'') → GenOnly gens.size (gens.push st) gs →
      zs.length = i → RefsR led' u zs → Gr led led' → (∀ p ∈ led', p.1 ≠ Cg ∧ (p.1 < C + 1 ∨ p.2.cls ≠ .type "range_iterator")) → h.Ns C m' → h.get? D = some (W.listOf zs.toArray c) → GInv M A1 gens st h₀ g L m Cg a C D t1 t2 t3 led u n i zs h gs
instance : Nonempty GenState := ⟨.finished⟩
theorem GInv.inv {M : Model} {A1 : Around} {gens : Array GenState} {st : GenState} {h₀ g : Heap} {L : Addr} {m : Str → Option Value} {Cg a C D : Addr} {t1 t2 t3 : Array Value} {led : Led} {u : Addr} {n i : Nat} {zs : List Value} {h : Heap} {gs : Array GenState} (x : GInv M A1 gens st h₀ g L m Cg a C D t1 t2 t3 led u n i zs h gs) :
    ∃ (m' : Str → Option Value) (c It : Nat) (led' : Led) (gst : GenState), CompSt h₀ L m a C D t1 t2 t3 led' h ∧ GI g Cg t1 t2 t3 led u n (C + 1) It i h ∧ h.IsGen a gens.size ∧ gs[gens.size]? = some gst ∧
      (∀ s'' : Shared, GI g Cg t1 t2 t3 led u n (C + 1) It i s''.heap → GenState.Goes M A1 (RE Cg (C + 1)) (YP g Cg t1 t2 t3 led u n (C + 1)) (n - i) gst (.send .none) s'') ∧ GenOnly gens.size (gens.push st) gs ∧
      zs.length = i ∧ RefsR led' u zs ∧ Gr led led' ∧ (∀ p ∈ led', p.1 ≠ Cg ∧ (p.1 < C + 1 ∨ p.2.cls ≠ .type "range_iterator")) ∧ h.Ns C m' ∧ h.get? D = some (W.listOf zs.toArray c) := by
  cases x
  exact ⟨_, _, _, _, _, ‹_›, ‹_›, ‹_›, ‹_›, ‹_›, ‹_›, ‹_›, ‹_›, ‹_›, ‹_›, ‹_›, ‹_›⟩
set_option maxHeartbeats 4000000 in
theorem comp_G : ∀ {w : World} {A₀ : Around} {E : Value → Shared → Prop} {s : Shared} {h₀ base : Heap} {outer : List Env} {env : Env} {loose : List Str} {mean : ExcName → Option Value} {mg mb : Str → Option Value} {t1 t2 t3 : Array Value} {led : Led} {u l L : Addr} {vs : List Value} {m : Str → Option Value} {dp un : Nat} {gd : Option (List Code)} {x : Str} {px pz : Pos} {iter : Expr} {scope : Scope} {cl : List (Str × Addr)} {pos : Pos} {RR : Value → Addr → Result → Shared → Prop} (hs : SetTop led u l vs) (hln : vs.length ≤ 100) (B : Below A₀ base outer h₀) (F : Fr h₀ L s.heap m) (X : (hd.heap_1_39 w.params).In h₀) (N : News h₀ L s.heap (tabs t1 t2 t3 ++ led)) (T : Top topProg loose mean mg mb h₀) (C1 : CodeHd h₀ 270 266) (C2 : CodeHd h₀ 284 280) (C3 : CodeHd h₀ 163 159) (TK : TabOk t1 t2 t3 led) (hf : env.frame = some L) (hke : env.scope.kind = .function) (hdp : dp + 90 < 1000) (hun : un + 900 < 9900) (hcell : ∀ y ∈ scope.names, y.2 ≠ .cell) (hkind : scope.kind = .function) (hx : scope.names.lookup x = some .local) (hd : (x == ("__debug__" : Str)) = false) (hRR : ∀ I C D h' tk gs m' zs k led', CompSt h₀ L m I C D t1 t2 t3 led' h' → (AllBare s.gens → AllBare gs) → Gr led led' → zs.length = vs.length → RefsR led' u zs → h'.Ns C m' → h'.get? D = some (W.listOf zs.toArray k) → h₀.get? C = none → h₀.get? D = none → L ≠ C → L ≠ D → C ≠ D → (C ≠ 266 ∧ C ≠ 280 ∧ C ≠ 159) →
      RR (.ref D) C (.ok .next) { s with heap := h', toks := tk, gens := gs }),
    wpAny (model prg w) ⟨none, dp, some (env :: outer), gd, un⟩ (pyIter (.ref u)) (fun it s₂ => wpAny (model prg w) ⟨none, dp, some (env :: outer), gd, un⟩ (newList []) (fun acc s₃ => wpAny (model prg w) ⟨none, dp, some (env :: outer), gd, un⟩ (newFunctionEnv scope env.globals cl [] env.qual none .none (some env)) (fun cenv s₄ =>
      codeAny (model prg w) ⟨none, dp, some (env :: outer), gd, un⟩ (.compStart (.ListComp (.Name x pz) [⟨.Name x px, iter, [], 0⟩] scope pos) 0 it acc { cenv with scope := relabel scope env }) (RR acc cenv.locals) s₄) E s₃) E s₂) E s := by
  have hon : HKon := trivial
  intro w A₀ E s h₀ base outer env loose mean mg mb t1 t2 t3 led u l L vs m dp un gd x px pz iter scope cl pos RR hs hln B F X N T C1 C2 C3 TK hf hke hdp hun hcell hkind hx hd hRR
  refine make_gen hs hln B F X N T C1 C2 C3 TK hf hke hdp hun ?_
  intro g Cg a h2 tk2 st keep0 hCs hCa hsz2 hgen hbare hgC hFG hNG go
  refine comp_open hcell hkind ?_
  intro C D h₁ tk hD hC hn₁ hd₁ old
  obtain ⟨mG, FG, hmG⟩ := hFG
  have lt0 : ∀ p ∈ tabs t1 t2 t3 ++ led, @LT.lt Nat instLTNat p.1 Cg := fun p hp => Nat.lt_of_lt_of_le (Heap.lt_size (N p hp).1) hCs
  have x : GCx h₀ g L Cg a C D (tabs t1 t2 t3 ++ led) := ⟨F.above, Nat.lt_of_lt_of_le F.ns.lt hCs, hCa, Nat.lt_of_lt_of_eq (Nat.lt_succ_self a) (hsz2.symm.trans hD), hC ▸ Nat.lt_succ_self D, FG.above, lt0⟩
  have ko : ∀ b o, s.heap.get? b = some o → h₁.get? b = some o := fun b o e => old _ _ (keep0 _ _ e)
  have S₁ : CompSt h₀ L m a C D t1 t2 t3 led h₁ := ⟨⟨F.ns.keeps ko, fun b o e => ko _ _ (F.keep b o e), F.above⟩, fun p hp => ⟨ko _ _ (N p hp).1, (N p hp).2⟩, TK, fun p hp => by
    have l := lt0 p (List.mem_append_right _ hp)
    exact ⟨Nat.ne_of_lt (Nat.lt_trans l x.ca), Nat.ne_of_lt (Nat.lt_trans l x.cC), Nat.ne_of_lt (Nat.lt_trans l x.cD)⟩⟩
  have GI0 : GI g Cg t1 t2 t3 led u vs.length (C + 1) 0 0 h₁ := ⟨⟨mG, ⟨FG.ns.keeps old, fun b o e => old _ _ (FG.keep b o e), FG.above⟩, hmG⟩, fun p hp => ⟨old _ _ (hNG p hp).1, (hNG p hp).2⟩, fun _ => let ⟨o, _, _, e, _⟩ := hn₁; ⟨o, e⟩, .inl rfl⟩
  have hlim : s.heap.NoLimit := T.nolimit.keeps F.keep
  refine ⟨loop_abs (fun i zs h _ gs => GInv (model prg w) ⟨none, dp, some (env :: outer), gd, un + 1⟩ s.gens st h₀ g L m Cg a C D t1 t2 t3 led u vs.length i zs h gs) (n := vs.length) (Nat.le_trans hln (by decide)) ?_
    (GInv.mk S₁ GI0 (hgen.keeps old) Array.getElem?_push_size (go C (Nat.le_of_lt x.aC)) ⟨rfl, fun _ _ => rfl⟩ rfl (fun j v e => nomatch (List.getElem?_nil.symm.trans e)) (Gr.refl _) (fun p hp => ⟨Nat.ne_of_lt (lt0 p (List.mem_append_right _ hp)), .inl (Nat.lt_succ_of_lt (Nat.lt_trans (lt0 p (List.mem_append_right _ hp)) x.cC))⟩) hn₁ hd₁), fun Q E' q => wpAny_pyIter_gen (hgen.keeps old) q⟩
  intro i zs h tk gs ci hz hn
  obtain ⟨m', c, It, led', gst, S', gi, hg', hgs', hgo, honly, hzl, hrefs, hgr, hld, hn', hd'⟩ := ci.inv
  clear ci
  refine wpAny_pyNext_gen (P := fun n s₀ s₁ => n = 0 ∧ ∃ h' tk, s₁ = { s₀ with heap := h', toks := tk } ∧ ∀ b o, b ≠ Cg → (b < C + 1 ∨ o.cls ≠ .type "range_iterator") → s₀.heap.get? b = some o → h'.get? b = some o) (Y := YP g Cg t1 t2 t3 led u vs.length (C + 1)) (n := vs.length - i) rfl (T.nolimit.keeps S'.F.keep) (by show dp < 1000; omega) hg' hgs' (hgo _ gi) ?item ?rest
  case item =>
    intro v s₁ gs' hy
    obtain ⟨i', r, dx, od, h₃, tk₃, It', hi', rfl, rfl, kp, n1, n2, hne, e1, e2, hcl, hRef, gi2, kap⟩ := hy
    generalize hk : vs.length - i = k at kap hi'
    cases k with
    | zero => exact (kap { s with heap := h₃ } gi2).elim
    | succ k =>
    obtain ⟨ei, hlt, ek⟩ := idx_eq hi' hk
    subst ei
    refine ⟨hlt, ?_⟩
    dsimp only
    have k3 : ∀ b o, b ≠ Cg → (b < C + 1 ∨ o.cls ≠ .type "range_iterator") → h.get? b = some o → h₃.get? b = some o := kp.1
    have n1' : h.get? dx = none := n1
    have n2' : h.get? r = none := n2
    have up : ∀ b : Nat, Cg < b → b < C + 1 → ∀ o, h.get? b = some o → h₃.get? b = some o := fun b h1 h2 o => k3 b o (Nat.ne_of_gt h1) (.inl h2)
    have lCg : ∀ p ∈ tabs t1 t2 t3 ++ led, ∃ o, h.get? p.1 = some o := fun q hq => (List.mem_append.mp hq).elim (fun hq => ⟨_, (S'.N q (List.mem_append_left _ hq)).1⟩) fun hq => ⟨_, (S'.N q (List.mem_append_right _ (hgr.1 q hq))).1⟩
    have nw : ∀ b, (∃ o, h.get? b = some o) → dx ≠ b ∧ r ≠ b := fun b ⟨o, e⟩ => ⟨get_ne e n1', get_ne e n2'⟩
    obtain ⟨oG, nm, qn, hG, rG⟩ := hg'
    have S₄ := (x.keep S' hld k3).two n1' n2' e1 e2 nw (List.forall_mem_cons.mpr ⟨⟨_, hG⟩, List.forall_mem_cons.mpr ⟨let ⟨o, _, _, e, _⟩ := hn'; ⟨o, e⟩, List.forall_mem_cons.mpr ⟨⟨_, hd'⟩, List.forall_mem_cons.mpr ⟨let ⟨o, _, _, e, _⟩ := S'.F.ns; ⟨o, e⟩,
      List.forall_mem_cons.mpr ⟨lCg _ (.head _), List.forall_mem_cons.mpr ⟨lCg _ (.tail _ (.head _)), List.forall_mem_cons.mpr ⟨lCg _ (.tail _ (.tail _ (.head _))), List.forall_mem_nil _⟩⟩⟩⟩⟩⟩⟩) (fun b hb => by
        cases q : h₀.get? b with
        | none => rfl
        | some o => exact absurd (hb.symm.trans (S'.F.keep _ _ q)) (by simp))
    refine wpAny_of_eq rfl ?_
    refine asg_name hx hkind (hn'.at' (up C x.cC (Nat.lt_succ_self _))) ?_
    intro h₄ tk₄ hn₄ hk₄
    refine wpAny_tests_nil ?_
    simp only [if_true]
    refine name_comp hx hkind hn₄ (if_pos rfl) hd ?_
    refine .mk ⟨c, hk₄ _ _ (Nat.ne_of_lt x.DC) (up D x.cD (Nat.lt_succ_of_lt x.DC) _ hd'), fun h₅ c' k5 hd₅ => ?_⟩
    have kk : ∀ b o, b ≠ C → b ≠ D → h₃.get? b = some o → h₅.get? b = some o := fun b o h1 h2 e => k5 b o h2 (hk₄ b o h1 e)
    have cg : ∃ o, h.get? Cg = some o := let ⟨_, F', _⟩ := gi.F; let ⟨o, _, _, e, _⟩ := F'.ns; ⟨o, e⟩
    exact .mk (gst := gs') (It := It') (x.step S₄ fun b o _ h2 h3 e => kk b o h2 h3 e)
      (gi2.move (Nat.ne_of_gt x.cC) (Nat.ne_of_gt x.cD) (x.noneg x.cC) (x.noneg x.cD) (fun p hp => ⟨Nat.ne_of_lt (Nat.lt_trans (x.led p hp) x.cC), Nat.ne_of_lt (Nat.lt_trans (x.led p hp) x.cD)⟩) (Nat.lt_succ_self _) (Nat.lt_succ_of_lt x.DC) (Nat.succ_ne_zero _) kk)
      ⟨oG, nm, qn, kk _ _ (Nat.ne_of_lt x.aC) (Nat.ne_of_lt x.aD) (up a x.ca (Nat.lt_succ_of_lt x.aC) _ hG), rG⟩
      (setGen_self (s := Shared.setGen { s with heap := h, toks := tk, gens := gs } s.gens.size .running) (gs := .running) (setGen_self hgs')) (fun s'' gi3 => ek ▸ kap s'' gi3)
      ((honly.trans (GenOnly.setGen { s with heap := h, toks := tk, gens := gs } s.gens.size .running)).trans (GenOnly.setGen (Shared.setGen { s with heap := h, toks := tk, gens := gs } s.gens.size .running) s.gens.size gs'))
      (by rw [List.length_append, hzl]; exact rfl) ((hrefs.mono fun p hp => .tail _ (.tail _ hp)).snoc (hzl ▸ hRef _ (.head _) (.tail _ (.head _)))) (hgr.two fun q hq => nw _ (lCg q hq))
      (List.forall_mem_cons.mpr ⟨⟨(nw _ cg).2, .inr (fun e => nomatch e)⟩, List.forall_mem_cons.mpr ⟨⟨(nw _ cg).1, .inr (by rw [hcl]; decide)⟩, hld⟩⟩) (hn₄.at' fun o e => k5 _ o (Nat.ne_of_gt x.DC) e) hd₅
  case rest =>
    intro s₁ hp h₆ hk₆
    obtain ⟨h0, h₅, tk₅, rfl, k5⟩ := hp
    have k6 : ∀ b o, b ≠ Cg → (b < C + 1 ∨ o.cls ≠ .type "range_iterator") → h.get? b = some o → h₆.get? b = some o := fun b o h1 h2 e => hk₆ b o (k5 b o h1 h2 e)
    have e : i = vs.length := Nat.le_antisymm hn (Nat.le_of_sub_eq_zero h0)
    exact hRR a C D h₆ tk₅ (((Shared.setGen { s with heap := h, toks := tk, gens := gs } s.gens.size .running).gens).setIfInBounds s.gens.size .finished) m' zs c led' (x.keep S' hld k6)
      (fun hb => GenOnlyQ.bare (GenOnlyQ.of ((honly.trans (GenOnly.setGen { s with heap := h, toks := tk, gens := gs } s.gens.size .running)).trans (GenOnly.setGen (Shared.setGen { s with heap := h, toks := tk, gens := gs } s.gens.size .running) s.gens.size .finished)) (setGen_self (s := Shared.setGen { s with heap := h, toks := tk, gens := gs } s.gens.size .running) (gs := .running) (setGen_self hgs')) rfl) (AllBare.push hb hbare))
      hgr (hzl.trans e) hrefs (hn'.at' fun o e => k6 _ _ (Nat.ne_of_gt x.cC) (.inl (Nat.lt_succ_self _)) e) (k6 _ _ (Nat.ne_of_gt x.cD) (.inl (Nat.lt_succ_of_lt x.DC)) hd') (x.nn x.lCC) (x.nn x.lD) (Nat.ne_of_lt x.lCC) (Nat.ne_of_lt x.lD) (Nat.ne_of_gt x.DC) (x.tab x.cC)
end
end
-- AG0
section
@[reducible] noncomputable def rngI (i n : Nat) : Obj := { cls := .type "range_iterator", data := .fields #[rawInt (0 + (i : Int) * 1), rawInt ((n : Int) - (i : Int)), rawInt 1] }
section
variable {w : World} {A : Around} {E : Value → Shared → Prop} {s : Shared} {env : Env}
theorem for_R {x : Str} {px : Pos} {body : List Stmt} {r : Addr} {n : Nat} {ta tb tc : Tok} {Q : Flow → Shared → Prop} (hh : A.handled = none) (hr : s.heap.get? r = some (rangeO n ta tb tc)) (hn : n ≤ 1000) (I : Nat → Addr → Shared → Prop)
    (init : ∀ h', (∀ b o, s.heap.get? b = some o → h'.get? b = some o) → h'.get? s.heap.objs.size = some (rngI 0 n) → I 0 s.heap.objs.size { s with heap := h' })
    (hit : ∀ i It s', I i It s' → s'.heap.get? It = some (rngI i n))
    (turn : ∀ i It s' h₁ tk₁ t E', i < n → I i It s' → h₁.get? It = some (rngI (i + 1) n) → (∀ b o, b ≠ It → s'.heap.get? b = some o → h₁.get? b = some o) →
      wpAny (model prg w) A (assign (.Name x px) env (.int i t)) (fun _ s₂ => wpAny (model prg w) A (execs body env) (fun f s₃ => match f with
        | .next | .cont => I (i + 1) It s₃
        | .brk => Q .next s₃
        | .ret v => Q (.ret v) s₃) E' s₂) E' { s' with heap := h₁, toks := tk₁ })
    (done : ∀ It s' h₁ tk₁, I n It s' → (∀ b o, b ≠ It → s'.heap.get? b = some o → h₁.get? b = some o) → Q .next { s' with heap := h₁, toks := tk₁ }) :
    wpAny (model prg w) A (pyIter (.ref r)) (fun it s₂ => codeAny (model prg w) A (.forLoop (.Name x px) it body [] env) (fun r s' => match r with | .ok f => Q f s' | .error e => cameBackBy (model prg w) A env E e s') s₂) E s := by
  refine wpAny_pyIter_range hr (range_small n hn) ?_
  rw [range_size]
  have k0 : ∀ b o, s.heap.get? b = some o → (s.heap.push { cls := .type "range_iterator", data := .fields #[rawInt 0, rawInt n, rawInt 1] }).get? b = some o := fun b o e => Heap.get?_push_of_some _ e
  refine codeAny_forLoop_any (fun k s' => ∃ i, I i s.heap.objs.size s' ∧ i ≤ n ∧ k = n + 1 - i) ?_ (n + 1) ⟨0, init _ k0 ?_, Nat.zero_le _, rfl⟩
  · rintro k s' ⟨i, hI, hi, rfl⟩
    generalize hIt : s.heap.objs.size = It at *
    have W := Walks.range (prog := prg) (w := w) hh It 0 1 n
    by_cases hlt : i < n
    · refine W.item i s' _ _ hlt (hit i It s' hI) fun v h₁ tk₁ hv hst hk => ?_
      obtain ⟨t, rfl⟩ := hv
      have e0 : (0 + (i : Int) * 1) = i := by omega
      rw [e0]
      dsimp only
      refine wpAny_of_eq rfl ?_
      refine wpAny_mono (turn i It s' h₁ tk₁ t _ hlt hI hst (fun b o hb e => hk b o (by simpa using hb) e)) (fun _ s₂ h₂ => wpAny_mono h₂ (fun f s₃ h₃ => ?_) fun _ _ e => e) fun _ _ e => e
      cases f with
      | next => exact ⟨n + 1 - (i + 1), by omega, i + 1, h₃, by omega, rfl⟩
      | cont => exact ⟨n + 1 - (i + 1), by omega, i + 1, h₃, by omega, rfl⟩
      | brk => exact h₃
      | ret v => exact h₃
    · obtain rfl : n = i := by omega
      refine W.done s' _ _ (hit n It s' hI) fun h₁ tk₁ hk => wpAny_execs_nil ?_
      exact done It s' h₁ tk₁ hI fun b o hb e => hk b o (by simpa using hb) e
  · have := Heap.get?_push_size s.heap (o := { cls := .type "range_iterator", data := .fields #[rawInt 0, rawInt n, rawInt 1] }) rfl
    rw [this]
    simp [rngI]
end
noncomputable def IsS (w : World) (u : Addr) (i : Nat) (t : Addr) (n m : Nat) (kn : Led) : Prop := ∀ K r, Gr kn K → RefAt K r u i → ConS w (.ref 365) [.ref r, .ref t] n m K (fun _ x => x = .bool true)
theorem IsS.use {w : World} {u t r : Addr} {i n m : Nat} {kn K : Led} (h : IsS w u i t n m kn) (g : Gr kn K) (hr : RefAt K r u i) : ConS w (.ref 365) [.ref r, .ref t] n m K (fun _ x => x = .bool true) := h K r g hr
noncomputable def ItC (w : World) (u : Addr) (i : Nat) (p : Int) (kn : Led) : Prop := ∀ K tp, Gr kn K → Con w (.ref 122) [.ref u, .int p tp] 60 600 K (fun kn' x => ∃ r, x = .ref r ∧ RefAt kn' r u i)
theorem ItC.use {w : World} {u : Addr} {i : Nat} {p : Int} {kn K : Led} {tp : Tok} (h : ItC w u i p kn) (g : Gr kn K) : Con w (.ref 122) [.ref u, .int p tp] 60 600 K (fun kn' x => ∃ r, x = .ref r ∧ RefAt kn' r u i) := h K tp g
section
variable {M : Model} {A : Around} {E : Value → Shared → Prop} {s : Shared} {env : Env}
theorem For_hold {target iter : Expr} {body orelse : List Stmt} {pos : Pos} {Q : Flow → Shared → Prop}
    (h : wpAny M A (eval iter env) (fun x s₁ => HoldW (wpAny M A (pyIter x) (fun it s₂ => codeAny M A (.forLoop target it body orelse env) (fun r s' => match r with | .ok f => Q f s' | .error e => cameBackBy M A env E e s') s₂) E s₁)) E s)
    (hs : ∀ x, foldedSetIterable iter env x = pure x) : wpAny M A (exec (.For target iter body orelse pos) env) Q E s :=
  wpAny_For (wpAny_mono h (fun _ _ x => x.h) fun _ _ e => e) hs
end
noncomputable def del (c : Addr) (kn : Led) : Led := kn.filter fun p => p.1 != c
theorem mem_del {c : Addr} {kn : Led} {p : Addr × Obj} : p ∈ del c kn ↔ p ∈ kn ∧ p.1 ≠ c := by
  unfold del
  simp
theorem own2 {g h : Heap} {L : Addr} {t1 t2 t3 : Array Value} {a b : Addr × Obj} {kn : Led} (N : News g L h (a :: b :: (266, tabObj t1) :: (280, tabObj t2) :: (159, tabObj t3) :: kn)) (TK : TabOk t1 t2 t3 kn) (ha : NE kn a) (hb : NE kn b) :
    News g L h (tabs t1 t2 t3 ++ (a :: b :: kn)) ∧ TabOk t1 t2 t3 (a :: b :: kn) ∧ Gr kn (a :: b :: kn) := by
  refine ⟨fun p hp => N p ?_, (TK.cons ⟨hb.1, hb.2.1, hb.2.2.1⟩).cons ⟨ha.1, ha.2.1, ha.2.2.1⟩, fun p hp => .tail _ (.tail _ hp), fun p hp => ?_⟩
  · simp only [List.mem_append, List.mem_cons, List.not_mem_nil, or_false] at hp ⊢
    grind
  · simp only [List.mem_cons] at hp
    rcases hp with rfl | rfl | hp
    · exact .inr ha
    · exact .inr hb
    · exact .inl hp
theorem CodeE.del {kn : Led} {q : Str} {d c : Addr} {oR : Obj} {v₀ : Option Value} (x : CodeE kn q d) (f : ∀ p ∈ kn, p.1 = c → p.2 = oR) (hd : oR.data = .cell v₀) : CodeE (del c kn) q d := by
  obtain ⟨oc, vs, tk, a, b, e⟩ := x
  refine ⟨oc, vs, tk, mem_del.mpr ⟨a, fun z => ?_⟩, b, e⟩
  have := f _ a z
  dsimp only at this
  subst this
  rw [hd] at b; cases b
theorem TabOk.del {t1 t2 t3 : Array Value} {kn : Led} {c : Addr} {oR : Obj} {v₀ : Option Value} (x : TabOk t1 t2 t3 kn) (f : ∀ p ∈ kn, p.1 = c → p.2 = oR) (hd : oR.data = .cell v₀) : TabOk t1 t2 t3 (del c kn) where
  d := fun p hp => x.d p (mem_del.mp hp).1
  a := x.a.imp id fun ⟨c, e, y⟩ => ⟨c, e, y.del f hd⟩
  b := x.b.imp id fun ⟨c, e, y⟩ => ⟨c, e, y.del f hd⟩
  c := x.c.imp id fun ⟨c, d, e, y, z⟩ => ⟨c, d, e, y.del f hd, z.del f hd⟩
theorem news_fun {g h : Heap} {L : Addr} {news : Led} (N : News g L h news) {p q : Addr × Obj} (hp : p ∈ news) (hq : q ∈ news) (e : p.1 = q.1) : p.2 = q.2 := by
  have a := (N p hp).1
  have b := (N q hq).1
  rw [e, b] at a
  exact (Option.some.inj a).symm
section
variable {w : World} {A : Around} {E : Value → Shared → Prop} {s : Shared} {env : Env} {h₀ : Heap} {L I C D c : Addr} {m : Str → Option Value} {t1 t2 t3 : Array Value} {led : Led} {h' : Heap} {tk : Nat} {gs : Array GenState} {m' : Str → Option Value} {zs : List Value} {k : Nat}
end
end
-- CS0
section
noncomputable def TurnS (outs : List Env) (s : Shared) (led : Led) (J : Led → Prop) (s' : Shared) : Prop :=
  ∃ h' tk gs t1 t2 t3 tl, s' = { s with heap := h', toks := tk, gens := gs } ∧ ExtS outs s.heap h' t1 t2 t3 led tl ∧ (AllBare s.gens → AllBare gs) ∧ J (led ++ tl)
theorem nfs_of {g : Heap} {outer : List Env} {envF : Env} {L : Addr} (DD : DK (frs outer) g) (hfe : envF.frame = some L) {b : Addr} (hb : b ≠ L) (h : g.get? b = none) : b ∉ frs (envF :: outer) := fun hm => by
  obtain ⟨e, he, hfb⟩ := List.mem_filterMap.mp hm
  rcases List.mem_cons.mp he with he | he
  · exact hb (Option.some.inj (hfb.symm.trans ((congrArg Env.frame he).trans hfe)))
  · obtain ⟨o, _, _, e1, _⟩ := DD.d b (List.mem_filterMap.mpr ⟨e, he, hfb⟩)
    exact get_ne e1 h rfl
@[reducible] noncomputable def GrS (A₀ : Around) (base : Heap) (outer : List Env) (h₀ : Heap) : Type := { g : Heap // KtsTurn (frs outer) h₀ g ∧ Below A₀ base outer g }
theorem turnS_aft {A₀ : Around} {base h₀ : Heap} {outer : List Env} {envF : Env} {L : Addr} (DD : DK (frs outer) h₀) (hfe : envF.frame = some L) {a : GrS A₀ base outer h₀} {h : Heap} {m : Str → Option Value} {u1 u2 u3 : Array Value} {led : Led} {tk : Tok} {gs : Array GenState} {J' : Led → Prop} {s₂ s₄ : Shared} (F : Fr a.1 L h m) (N : News a.1 L h (tabs u1 u2 u3 ++ led)) (t : TurnS (envF :: outer) { s₂ with heap := h, toks := tk, gens := gs } led J' s₄) :
    StI s₂ (fun h' _ gs' => Aft (ι := GrS A₀ base outer h₀) Subtype.val L m (fun b => b ∉ frs (envF :: outer)) led J' h gs h' gs') s₄ := by
  obtain ⟨h', tk', gs', v1, v2, v3, tl, rfl, X, hg, j⟩ := t
  obtain ⟨g₃, KT₃, F₃, N₃, B₃⟩ := ground_after a.2.2 F N ⟨DD.d.turn a.2.1⟩ (Own.nil (t1 := u1) (t2 := u2) (t3 := u3) (kn := led)) hfe X
  exact .mk (.mk (a := ⟨g₃, a.2.1.trans KT₃, B₃⟩) F₃ N₃ X.tok (fun p hp => (List.mem_append.mp hp).elim .inl (X.fresh p)) (fun b o e q nf => X.keep b o e q.1 q.2.1 q.2.2 nf) hg j)
end
-- CS1
section
section
variable {w : World} {A A₀ : Around} {E : Value → Shared → Prop} {s : Shared} {env envF : Env} {outer : List Env} {base h₀ : Heap} {L I C D : Addr} {m : Str → Option Value} {t1 t2 t3 : Array Value} {led : Led}
theorem comp_LS {elt target iter : Expr} {ifs : List Expr} {scope : Scope} {cl : List (Str × Addr)} {pos : Pos} {l : Addr} {vs : List Value} {kl : Nat} {RR : Value → Addr → Result → Shared → Prop}
    (M : Nat → Value → (Str → Option Value) → Prop) (J : Nat → List Value → Led → Prop)
    (hh : A.handled = none) (hA : A.frames = some (envF :: outer)) (hfe : envF.frame = some L) (B : Below A₀ base outer h₀) (DD : DK (frs outer) h₀) (F : Fr h₀ L s.heap m) (N : News h₀ L s.heap (tabs t1 t2 t3 ++ led)) (TK : TabOk t1 t2 t3 led) (hm : (l, W.listOf vs.toArray kl) ∈ led) (hlen : vs.length ≤ 1000)
    (hcell : ∀ y ∈ scope.names, y.2 ≠ .cell) (hkind : scope.kind = .function) (J0 : J 0 [] led)
    (hasg : ∀ g₂ I C D i v t1 t2 t3 led zs s m₁ (Q : Unit → Shared → Prop) E', vs[i]? = some v → CompSt g₂ L m I C D t1 t2 t3 led s.heap → J i zs led → s.heap.Ns C m₁ → C ≠ D →
      (∀ h' tk m₂, h'.Ns C m₂ → M i v m₂ → (∀ b o, b ≠ C → s.heap.get? b = some o → h'.get? b = some o) → Q () { s with heap := h', toks := tk }) → wpAny (model prg w) A (assign target (compEnvC scope cl C env) v) Q E' s)
    (turn : ∀ g₂ I C D i v t1 t2 t3 led zs s m₂ E', KtsTurn (frs outer) h₀ g₂ → Below A₀ base outer g₂ → vs[i]? = some v → CompSt g₂ L m I C D t1 t2 t3 led s.heap → C ∉ frs (envF :: outer) → D ∉ frs (envF :: outer) → J i zs led → zs.length ≤ i → s.heap.Ns C m₂ → M i v m₂ →
      wpAny (model prg w) A (forIn ifs true fun c r => if r = true then do let ok ← isTrue c (compEnvC scope cl C env) (eval c (compEnvC scope cl C env)); pure (ForInStep.yield ok) else pure (ForInStep.yield r))
        (fun ok s₃ => if ok = true then wpAny (model prg w) A (eval elt (compEnvC scope cl C env)) (fun y s₄ => TurnS (envF :: outer) s led (J (i + 1) (zs ++ [y])) s₄) E' s₃ else TurnS (envF :: outer) s led (J (i + 1) zs) s₃) E' s)
    (hRR : ∀ g₂ I C D h' tk gs m' zs k t1 t2 t3 led', KtsTurn (frs outer) h₀ g₂ → Below A₀ base outer g₂ → CompSt g₂ L m I C D t1 t2 t3 led' h' → (AllBare s.gens → AllBare gs) → J vs.length zs led' → zs.length ≤ vs.length → h'.Ns C m' → h'.get? D = some (W.listOf zs.toArray k) → g₂.get? C = none → g₂.get? D = none → L ≠ C → L ≠ D → C ≠ D → (C ≠ 266 ∧ C ≠ 280 ∧ C ≠ 159) →
      RR (.ref D) C (.ok .next) { s with heap := h', toks := tk, gens := gs }) :
    wpAny (model prg w) A (pyIter (.ref l)) (fun it s₂ => wpAny (model prg w) A (newList []) (fun acc s₃ => wpAny (model prg w) A (newFunctionEnv scope env.globals cl [] env.qual none .none (some env)) (fun cenv s₄ =>
      codeAny (model prg w) A (.compStart (.ListComp elt [⟨target, iter, ifs, 0⟩] scope pos) 0 it acc { cenv with scope := relabel scope env }) (RR acc cenv.locals) s₄) E s₃) E s₂) E s :=
  walk_L (ι := GrS A₀ base outer h₀) (gr := Subtype.val) (a0 := ⟨h₀, KtsTurn.refl, B⟩) (fun b => b ∉ frs (envF :: outer)) (fun _ => TurnS (envF :: outer)) M J (fun _ hb h => nfs_of DD hfe hb h) (fun a _ e => a.2.1.none_ _ e) hh F N TK hm hlen hcell hkind J0 (fun a => hasg a.1) (fun a I C D i v t1 t2 t3 led zs s m₂ E' p => turn a.1 I C D i v t1 t2 t3 led zs s m₂ E' a.2.1 a.2.2 p) (fun _ _ _ _ _ _ _ _ _ _ _ F N t => turnS_aft DD hfe F N t) (fun a I C D h' tk gs m' zs k t1 t2 t3 led' => hRR a.1 I C D h' tk gs m' zs k t1 t2 t3 led' a.2.1 a.2.2)
theorem comp_RS {elt target iter : Expr} {ifs : List Expr} {scope : Scope} {cl : List (Str × Addr)} {pos : Pos} {r : Addr} {n : Nat} {ta tb tc : Tok} {RR : Value → Addr → Result → Shared → Prop}
    (M : Nat → Value → (Str → Option Value) → Prop) (J : Nat → List Value → Led → Prop)
    (hh : A.handled = none) (hA : A.frames = some (envF :: outer)) (hfe : envF.frame = some L) (B : Below A₀ base outer h₀) (DD : DK (frs outer) h₀) (F : Fr h₀ L s.heap m) (N : News h₀ L s.heap (tabs t1 t2 t3 ++ led)) (TK : TabOk t1 t2 t3 led) (hr : s.heap.get? r = some (rangeO n ta tb tc)) (hlen : n ≤ 1000)
    (hcell : ∀ y ∈ scope.names, y.2 ≠ .cell) (hkind : scope.kind = .function) (J0 : J 0 [] led)
    (hasg : ∀ g₂ I C D i v t1 t2 t3 led zs s m₁ (Q : Unit → Shared → Prop) E', (i < n ∧ ∃ t, v = .int (i : Int) t) → CompSt g₂ L m I C D t1 t2 t3 led s.heap → J i zs led → s.heap.Ns C m₁ → C ≠ D →
      (∀ h' tk m₂, h'.Ns C m₂ → M i v m₂ → (∀ b o, b ≠ C → s.heap.get? b = some o → h'.get? b = some o) → Q () { s with heap := h', toks := tk }) → wpAny (model prg w) A (assign target (compEnvC scope cl C env) v) Q E' s)
    (turn : ∀ g₂ I C D i v t1 t2 t3 led zs s m₂ E', KtsTurn (frs outer) h₀ g₂ → Below A₀ base outer g₂ → (i < n ∧ ∃ t, v = .int (i : Int) t) → CompSt g₂ L m I C D t1 t2 t3 led s.heap → C ∉ frs (envF :: outer) → D ∉ frs (envF :: outer) → J i zs led → zs.length ≤ i → s.heap.Ns C m₂ → M i v m₂ →
      wpAny (model prg w) A (forIn ifs true fun c r => if r = true then do let ok ← isTrue c (compEnvC scope cl C env) (eval c (compEnvC scope cl C env)); pure (ForInStep.yield ok) else pure (ForInStep.yield r))
        (fun ok s₃ => if ok = true then wpAny (model prg w) A (eval elt (compEnvC scope cl C env)) (fun y s₄ => TurnS (envF :: outer) s led (J (i + 1) (zs ++ [y])) s₄) E' s₃ else TurnS (envF :: outer) s led (J (i + 1) zs) s₃) E' s)
    (hRR : ∀ g₂ I C D h' tk gs m' zs k t1 t2 t3 led', KtsTurn (frs outer) h₀ g₂ → Below A₀ base outer g₂ → CompSt g₂ L m I C D t1 t2 t3 led' h' → (AllBare s.gens → AllBare gs) → J n zs led' → zs.length ≤ n → h'.Ns C m' → h'.get? D = some (W.listOf zs.toArray k) → g₂.get? C = none → g₂.get? D = none → L ≠ C → L ≠ D → C ≠ D → (C ≠ 266 ∧ C ≠ 280 ∧ C ≠ 159) →
      RR (.ref D) C (.ok .next) { s with heap := h', toks := tk, gens := gs })
    (hgo : ∀ it v, letOwnedTupleGo target it v = pure ()) :
    wpAny (model prg w) A (pyIter (.ref r)) (fun it s₂ => wpAny (model prg w) A (newList []) (fun acc s₃ => wpAny (model prg w) A (newFunctionEnv scope env.globals cl [] env.qual none .none (some env)) (fun cenv s₄ =>
      codeAny (model prg w) A (.compStart (.ListComp elt [⟨target, iter, ifs, 0⟩] scope pos) 0 it acc { cenv with scope := relabel scope env }) (RR acc cenv.locals) s₄) E s₃) E s₂) E s :=
  walk_R (ι := GrS A₀ base outer h₀) (gr := Subtype.val) (a0 := ⟨h₀, KtsTurn.refl, B⟩) (fun b => b ∉ frs (envF :: outer)) (fun _ => TurnS (envF :: outer)) M J (fun _ hb h => nfs_of DD hfe hb h) (fun a _ e => a.2.1.none_ _ e) hh F N TK hr hlen hcell hkind J0 hgo (fun a => hasg a.1) (fun a I C D i v t1 t2 t3 led zs s m₂ E' p => turn a.1 I C D i v t1 t2 t3 led zs s m₂ E' a.2.1 a.2.2 p) (fun _ _ _ _ _ _ _ _ _ _ _ F N t => turnS_aft DD hfe F N t) (fun a I C D h' tk gs m' zs k t1 t2 t3 led' => hRR a.1 I C D h' tk gs m' zs k t1 t2 t3 led' a.2.1 a.2.2)

end
end
-- AGP
section
section
variable {w : World} {A A₀ : Around} {E : Value → Shared → Prop} {s : Shared} {env : Env} {outer : List Env} {base h₀ : Heap} {L I C D : Addr} {m : Str → Option Value} {t1 t2 t3 : Array Value} {led : Led} {loose : List Str} {mean : ExcName → Option Value} {mg mb : Str → Option Value} {n u : Nat} {f : Value} {args : List Value} {Post : Led → Value → Prop}
theorem turn_conS {Q : Value → Shared → Prop} {tk : Nat} (K : ConS w f args n u led Post) (S : CompSt h₀ L m I C D t1 t2 t3 led s.heap) (B : Below A₀ base outer h₀) (XB : (hd.heap_1_39 w.params).In base) (TB : Top topProg loose mean mg mb base)
    (C1 : CodeHd base 270 266) (C2 : CodeHd base 284 280) (C3 : CodeHd base 163 159) (DD : DK (frs outer) h₀) (hA : A.frames = some (env :: outer)) (hf : env.frame = some L) (hke : env.scope.kind = .function)
    (hh : A.handled = none) (hd : A.depth + n < recursionLimit) (hu : A.units + u < cLine)
    (h : ∀ r h' tk' gs' t1' t2' t3' tl, ExtS (env :: outer) s.heap h' t1' t2' t3' led tl → (AllBare s.gens → AllBare gs') → Post (led ++ tl) r → Q r { s with heap := h', toks := tk', gens := gs' }) : wpAny (model prg w) A (call f args) Q E { s with toks := tk } :=
  wpAny_call (K A { s with toks := tk } t1 t2 t3 base (env :: outer) _ loose mean mg mb _ (rdyS_of (s := { s with toks := tk }) B S.F S.N XB TB C1 C2 C3 DD hA hf hke (fun _ h => h) S.tok hh hd hu) fun r h' tk' gs' t1' t2' t3' tl x hg p => h r h' tk' gs' t1' t2' t3' tl x hg p)
theorem ExtS.gr {outs : List Env} {h h' : Heap} {t1' t2' t3' : Array Value} {tl : Led} (S : News h₀ L h (tabs t1 t2 t3 ++ led)) (x : ExtS outs h h' t1' t2' t3' led tl) : Gr led (led ++ tl) :=
  ⟨fun _ h => List.mem_append_left _ h, fun p hp => (List.mem_append.mp hp).elim .inl fun hp => (x.fresh p hp).imp id fun fr =>
      have ne : ∀ q ∈ tabs t1 t2 t3 ++ led, p.1 ≠ q.1 := fun q hq e => by rw [e, (S q hq).1] at fr; cases fr
      ⟨ne (266, tabObj t1) (by simp), ne (280, tabObj t2) (by simp), ne (159, tabObj t3) (by simp), fun q hq => ne q (List.mem_append_right _ hq)⟩⟩
end
structure StopS : Prop where
  h : True
theorem StopS.is : StopS := ⟨trivial⟩
noncomputable def WoS (w : World) (u : Addr) (p : Int) (kn : Led) : Prop := ∀ K tp, Gr kn K → ConS w (.ref 377) [.ref u, .int p tp] 60 600 K (fun _ x => ∃ t, x = .str "index" t)
theorem WoS.use {w : World} {u : Addr} {p : Int} {kn K : Led} {tp : Tok} (h : WoS w u p kn) (g : Gr kn K) : ConS w (.ref 377) [.ref u, .int p tp] 60 600 K (fun _ x => ∃ t, x = .str "index" t) := h K tp g
theorem kwAGP0 : True := by
  (k_with "call ref" => (k_here; k_dflt (show wpAny _ _ (call (Value.ref 377) [Value.ref _, Value.int _ _]) _ _ _); k_dflt (refine' use_conS (WoS.use ?hSzAGP0 ?hGzAGP0) ?B ?F ?Nq ?XB ?TB ?C1 ?C2 ?C3 ?D ?TK ?hO ?hA ?hf ?hke ?hh ?hd ?hu ?_; (case hSzAGP0 => assumption); k_extra "M stdS"; (case hGzAGP0 => k_extra "M gr")); intro r'w h'w tk'w gs'w t1'w t2'w t3'w kn'w g2'w KT'w F'w N'w B'w X'w T'w C1'w C2'w C3'w D'w gr'w ne'w TK'w hg'w p'w; obtain ⟨_, e'w⟩ := p'w; subst e'w; (try dsimp only at N'w); k_extra "M after"))
  (k_with "call ref" => (k_here; k_dflt (show wpAny _ _ (call (Value.ref 122) [Value.ref _, Value.int _ _]) _ _ _); k_dflt (refine' use_con3 (ItC.use ?hSzAGP1 ?hGzAGP1) ?B ?F ?X ?Nq ?T ?C1 ?C2 ?C3 ?TK ?hO ?hA ?hf ?hke ?hh ?hd ?hu ?_; (case hSzAGP1 => assumption); k_extra "M std2"; (case hGzAGP1 => k_extra "M gr")); intro r'w h'w tk'w gs'w t1'w t2'w t3'w kn'w F'w N'w gr'w ne'w TK'w hg'w p'w; obtain ⟨_, e'w, p'w⟩ := p'w; subst e'w; (try dsimp only at N'w); k_extra "M after"))
  (k_with "call ref" => (k_here; k_dflt (show wpAny _ _ (call (Value.ref 365) [Value.ref _, Value.ref _]) _ _ _); k_dflt (refine' use_conS (IsS.use ?hSzAGP2 ?hGzAGP2 ?hRzAGP2) ?B ?F ?Nq ?XB ?TB ?C1 ?C2 ?C3 ?D ?TK ?hO ?hA ?hf ?hke ?hh ?hd ?hu ?_; (case hSzAGP2 => assumption); k_extra "M stdS"; (case hGzAGP2 => k_extra "M gr"); (case hRzAGP2 => assumption)); intro r'w h'w tk'w gs'w t1'w t2'w t3'w kn'w g2'w KT'w F'w N'w B'w X'w T'w C1'w C2'w C3'w D'w gr'w ne'w TK'w hg'w p'w; subst p'w; (try dsimp only at N'w); k_extra "M after"))
  (k_with "call ref" => (k_here; (with_reducible rename StopS => sthold); k_dflt (show wpAny _ _ (call (Value.ref 365) [Value.ref _, Value.ref _]) _ _ _); refine HoldW.out ?_))
  (k_with "exec For Name Call cons nil" => (k_here; k_dflt (refine' For_hold ?_ ?hszAGP4; (case hszAGP4 => (intro _; exact rfl)))))
  trivial
end
-- AG1
section
noncomputable def locF (fv : Value) (m0 : Str → Option Value) : Str → Option Value := fun y => if y = "found" then some fv else m0 y
theorem Fr.locF {g h : Heap} {L : Addr} {m : Str → Option Value} {fv : Value} (F : Fr g L h m) (h1 : m "found" = some fv) : Fr g L h (locF fv m) := by
  have e : m = Mine.locF fv m := by
    funext y
    unfold Mine.locF
    split
    · rename_i h; rw [h, h1]
    rfl
  exact (congrArg (Fr g L h) e).mp F
noncomputable def AgI (base : Heap) (outs : List Env) (A₀ : Around) (g : Heap) (L : Addr) (kn : Led) (u : Addr) (o1 o2 : Obj) (N : Nat) (s₀ : Shared) (i : Nat) (It : Addr) (s₁ : Shared) : Prop :=
  ∃ h' tk gs t1 t2 t3 K0 m0 g₂, s₁ = { s₀ with heap := h', toks := tk, gens := gs } ∧ KtsTurn (frs outs) g g₂ ∧ Fr g₂ L h' (locF (.ref u) m0) ∧ News g₂ L h' ((It, rngI i N) :: (L + 1 + 1, o1) :: (L + 1, o2) :: (266, tabObj t1) :: (280, tabObj t2) :: (159, tabObj t3) :: K0) ∧ Below A₀ base outs g₂ ∧
    TabOk t1 t2 t3 K0 ∧ Gr kn K0 ∧ (∀ p ∈ K0, p.1 ≠ It) ∧ (∀ p ∈ K0, p.1 ≠ L + 1 + 1) ∧ (∀ p ∈ K0, p.1 ≠ L + 1) ∧ (AllBare s₀.gens → AllBare gs) ∧ @LT.lt Nat instLTNat (L + 1 + 1) It
theorem it_step {g h h₁ : Heap} {L It : Addr} {m : Str → Option Value} {o o' : Obj} {rest : Led} (F : Fr g L h m) (N : News g L h ((It, o) :: rest)) (e : h₁.get? It = some o') (k : ∀ b o, b ≠ It → h.get? b = some o → h₁.get? b = some o) (off : ∀ p ∈ rest, p.1 ≠ It) :
    Fr g L h₁ m ∧ News g L h₁ ((It, o') :: rest) := by
  have nI := N (It, o) (.head _)
  obtain ⟨oL, es, ep, hL, r⟩ := F.ns
  refine ⟨⟨⟨oL, es, ep, k _ _ nI.2.1.symm hL, r⟩, fun b o e => k _ _ (fun q => by rw [q, nI.2.2] at e; cases e) (F.keep b o e), F.above⟩, fun p hp => ?_⟩
  rcases List.mem_cons.mp hp with rfl | hp
  · exact ⟨e, nI.2⟩
  · exact ⟨k _ _ (off p hp) (N p (.tail _ hp)).1, (N p (.tail _ hp)).2⟩
theorem it_end {g h h₁ : Heap} {L It : Addr} {m : Str → Option Value} {o : Obj} {rest : Led} (F : Fr g L h m) (N : News g L h ((It, o) :: rest)) (k : ∀ b o, b ≠ It → h.get? b = some o → h₁.get? b = some o) (off : ∀ p ∈ rest, p.1 ≠ It) :
    Fr g L h₁ m ∧ News g L h₁ rest := by
  have nI := N (It, o) (.head _)
  obtain ⟨oL, es, ep, hL, r⟩ := F.ns
  exact ⟨⟨⟨oL, es, ep, k _ _ nI.2.1.symm hL, r⟩, fun b o e => k _ _ (fun q => by rw [q, nI.2.2] at e; cases e) (F.keep b o e), F.above⟩, fun p hp => ⟨k _ _ (off p hp) (N p (.tail _ hp)).1, (N p (.tail _ hp)).2⟩⟩
theorem RefAt.del {k : Led} {r u c : Addr} {i : Nat} {v₀ : Option Value} (x : RefAt k r u i) (h : ∀ p ∈ k, p.1 = c → p.2.data = .cell v₀) : RefAt (Mine.del c k) r u i := by
  obtain ⟨dx, a1, a2, a3, a4, a5, a6, a, b⟩ := x
  exact ⟨dx, a1, a2, a3, a4, a5, a6, mem_del.mpr ⟨a, fun e => by have := h _ a e; cases this⟩, mem_del.mpr ⟨b, fun e => by have := h _ b e; cases this⟩⟩
theorem RefsR.del {k : Led} {u c : Addr} {zs : List Value} {v₀ : Option Value} (x : RefsR k u zs) (h : ∀ p ∈ k, p.1 = c → p.2.data = .cell v₀) : RefsR (Mine.del c k) u zs :=
  fun j v e => let ⟨r, a, b⟩ := x j v e; ⟨r, a, b.del h⟩
set_option maxHeartbeats 4000000 in
theorem c_agS : ∀ {w : World} {kn : Led} {u l lr : Addr} {vs vr : List Value} {nr n m : Nat} (hs : SetTop kn u l vs) (hln : vs.length ≤ 100) (hr : (lr, W.listOf vr.toArray nr) ∈ kn) (hlr : vr.length = vs.length) (his : ∀ i t, vr[i]? = some t → ∃ tt, t = .ref tt ∧ IsS w u i tt n m kn),
   ConS w (.ref 370) [.ref u, .ref lr] (n+120) (m+1200) kn (fun _ x => x = .bool true) := by
  have hon : HKon := trivial
  intro w kn u l lr vs vr nr n m hs hln hr hlr his
  have hs0 := hs
  obtain ⟨du, g1, g2, g3, g4, m1, m2, m3⟩ := hs
  refine ConS.openG (hkO (no_implicit_lambda% ((?hopq : HTO _) _ _ _ _ _ _ _ _ _ _ _ _ _ _ _)))
  intros s dp un gd t1 t2 t3 base g outs loose mean mg mb Z
  refine ConSG.mk ?_
  intro RS ret hd hu
  have R := RS.toR
  have XB := RS.XB
  have TB := RS.TB
  have CB1 := RS.b1
  have CB2 := RS.b2
  have CB3 := RS.b3
  have DD := RS.D
  k_extra "M bodyC"
  intro L h₁ tk₁ cells hL F N Y B X T C1 C2 C3 TK l1 l2 l3 l4
  have hY := CellsAre.two Y
  obtain ⟨oR, oW, hE, dR, dW⟩ := hY
  subst hE
  clear Y
  simp only [List.cons_append, List.nil_append] at N
  try dsimp only
  try k_fold
  k_steps
  refine HoldW.mk ?_
  rename News g L _ _ => N9
  rename Fr g L _ _ => F9
  rename IsRange _ _ _ _ _ _ _ _ => R9
  have dR' : oR.data = .cell none := dR
  have dW' : oW.data = .cell (some (.ref lr)) := dW
  clear dR dW
  dsimp only at R9
  refine' for_R rfl R9 (by omega) (AgI base outs _ g L kn u oR oW vr.length s) ?init ?hit ?turn ?done
  case init =>
    intro h2 k2 hI
    refine' ⟨h2, _, _, t1, t2, t3, kn, _, g, rfl, KtsTurn.refl, Mine.Fr.locF ⟨F9.ns.keeps k2, fun b o e => k2 _ _ (F9.keep b o e), F9.above⟩ ?q1, fun p hp => ?q2, B, TK, Gr.refl _, fun p hp => ?q3, ?q5, ?q6, id, ?q4⟩
    case q1 => rfl
    case q2 =>
      rcases List.mem_cons.mp hp with rfl | hp
      · exact ⟨hI, Nat.ne_of_gt F9.ns.lt, Heap.get?_none_of_le (Nat.le_trans F9.above (Nat.le_of_lt F9.ns.lt))⟩
      · exact ⟨k2 _ _ (N9 p hp).1, (N9 p hp).2⟩
    case q3 => exact Nat.ne_of_lt (Heap.lt_size (N9 p (by simp only [List.mem_cons]; grind)).1)
    case q5 => exact AllLt.ne (AllLt.to (by omega) l4)
    case q6 => exact AllLt.ne (AllLt.to (by omega) l4)
    case q4 => exact Heap.lt_size (N9 (L + 1 + 1, oR) (.head _)).1
  case hit =>
    rintro i It s' ⟨h', tk, gs, t1', t2', t3', K0, m0, g₂, rfl, KT, F3, N3, _⟩
    exact (N3 _ (.head _)).1
  case done =>
    rintro It s' h2 tk2 ⟨h', tk, gs, t1', t2', t3', K0, m0, g₂, rfl, KT, F3, N3, B3, TK3, gr3, off3, offR, offW, hg3, hIt⟩ k2
    obtain ⟨F4, N4⟩ := it_end F3 N3 k2 (fun p hp => by
      simp only [List.mem_cons] at hp
      rcases hp with rfl | rfl | rfl | rfl | rfl | hp
      · exact neN (by omega)
      · exact neN (by omega)
      · exact neN (by omega)
      · exact neN (by omega)
      · exact neN (by omega)
      · exact off3 p hp)
    clear F9 N9 F3 N3 R9 B X T C1 C2 C3
    have X := XB.keeps B3.stays
    have T := TB.keeps B3.stays
    have C1 := CB1.keeps B3.stays
    have C2 := CB2.keeps B3.stays
    have C3 := CB3.keeps B3.stays
    have D3 : DK (frs outs) g₂ := ⟨DD.d.turn KT⟩
    have hr3 := gr3.1 _ hr
    have m13 := gr3.1 _ m1
    k_steps
    refine HoldW.mk ?_
    have neO : ∀ b ob, @LE.le Nat instLENat (L + 1) b → NE kn (b, ob) := fun b ob hb => ⟨neN (by omega), neN (by omega), neN (by omega), fun q hq => (AllLt.ne (AllLt.to (by omega) l4) q hq).symm⟩
    rename Fr g₂ L _ _ => F9
    rename News g₂ L _ _ => N9
    obtain ⟨N10, tk10, gr10⟩ := own2 N9 TK3 ⟨neN (by omega), neN (by omega), neN (by omega), fun q hq => (offR q hq).symm⟩ ⟨neN (by omega), neN (by omega), neN (by omega), fun q hq => (offW q hq).symm⟩
    refine' comp_G (RR := fun acc C => compPost (model prg _) _ _ _ _ acc C) (hs0.mono fun p hp => gr10.1 p (gr3.1 p hp)) hln B3 F9 X N10 T C1 C2 C3 tk10 rfl rfl ?hdp ?hun ?hcell rfl rfl ?hdb ?hRR
    case hdp => k_room
    case hun => k_units
    case hcell => decide
    case hdb => decide
    case hRR =>
      rintro I Cc D h5 tk5 gs5 m5 zs k5 led' S hg5 gr5 hzl hrefs hn hd' a0 b0 c0 d0 e0 f0
      refine post_none S hn hd' a0 b0 c0 d0 e0 f0 ?_
      intro h6 F6 N6 tk6 off6
      have hDc : D ≠ L + 1 + 1 := (off6 _ (gr5.1 _ (.head _))).symm
      have tk6' : TabOk t1' t2' t3' ((D, W.listOf zs.toArray k5) :: del (L + 1 + 1) led') := (S.tok.del (c := L + 1 + 1) (fun p hp e => news_fun S.N (List.mem_append_right _ hp) (List.mem_append_right _ (gr5.1 _ (.head _))) e) dR').cons (tk6.d _ (.head _))
      replace N6 : News g₂ L h6 ((L + 1 + 1, oR) :: (266, tabObj t1') :: (280, tabObj t2') :: (159, tabObj t3') :: (D, W.listOf zs.toArray k5) :: del (L + 1 + 1) led') := fun p hp => N6 p (by
        simp only [List.mem_append, List.mem_cons, List.not_mem_nil, or_false, mem_del] at hp ⊢
        rcases hp with rfl | hp | hp | hp | hp | hp
        · exact .inr (.inr (gr5.1 _ (.head _)))
        · exact .inl (.inl hp)
        · exact .inl (.inr (.inl hp))
        · exact .inl (.inr (.inr hp))
        · exact .inr (.inl hp)
        · exact .inr (.inr hp.1))
      have hKin : ∀ p ∈ led', p ∈ kn ∨ NE kn p := fun p hp => (gr5.2 p hp).elim (fun hp => by
        rcases List.mem_cons.mp hp with rfl | hp
        · exact .inr (neO _ _ (by omega))
        rcases List.mem_cons.mp hp with rfl | hp
        · exact .inr (neO _ _ (by omega))
        · exact gr3.2 p hp) fun ne => .inr ⟨ne.1, ne.2.1, ne.2.2.1, fun q hq => ne.2.2.2 q (.tail _ (.tail _ (gr3.1 q hq)))⟩
      have hK5 : Gr kn ((D, W.listOf zs.toArray k5) :: del (L + 1 + 1) led') := ⟨fun p hp => .tail _ (mem_del.mpr ⟨gr5.1 _ (gr10.1 _ (gr3.1 _ hp)), AllLt.ne (AllLt.to (by omega) l4) p hp⟩), fun p hp => by
        rcases List.mem_cons.mp hp with rfl | hp
        · refine .inr ⟨?_, ?_, ?_, fun q hq => ?_⟩
          · exact (tk6'.d _ (.head _)).1
          · exact (tk6'.d _ (.head _)).2.1
          · exact (tk6'.d _ (.head _)).2.2
          · exact (off6 q (gr5.1 _ (gr10.1 _ (gr3.1 _ hq)))).symm
        · exact hKin p (mem_del.mp hp).1⟩
      have hW5 : (L + 1, oW) ∈ del (L + 1 + 1) led' := mem_del.mpr ⟨gr5.1 _ (.tail _ (.head _)), neN (by omega)⟩
      have hrefs5 : RefsR (del (L + 1 + 1) led') u zs := hrefs.del fun p hp e => by
        have := news_fun S.N (List.mem_append_right _ hp) (List.mem_append_right _ (gr5.1 _ (.head _))) e
        rw [this]; exact dR'
      have offR5 : ∀ p ∈ (D, W.listOf zs.toArray k5) :: del (L + 1 + 1) led', p.1 ≠ L + 1 + 1 := List.forall_mem_cons.mpr ⟨hDc, fun p hp => (mem_del.mp hp).2⟩
      clear F9 N9 N10 tk10 S hn hd' hrefs tk6
      have mD5 : (D, W.listOf zs.toArray k5) ∈ (D, W.listOf zs.toArray k5) :: del (L + 1 + 1) led' := .head _
      have mW5 : (L + 1, oW) ∈ (D, W.listOf zs.toArray k5) :: del (L + 1 + 1) led' := .tail _ hW5
      have refs5 : RefsR ((D, W.listOf zs.toArray k5) :: del (L + 1 + 1) led') u zs := hrefs5.mono fun p hp => .tail _ hp
      generalize hKK : (D, W.listOf zs.toArray k5) :: del (L + 1 + 1) led' = K5 at *
      have hr5 := hK5.1 _ hr
      have m15 := hK5.1 _ m1
      have hWo1 : WoS w u vr.length kn := fun K tp g1 => c_wordA (hs0.mono g1.1) hln (by omega)
      have hWo2 : WoS w u (-1 - (vr.length : Int)) kn := fun K tp g1 => c_wordB (hs0.mono g1.1) hln (by omega)
      have hsub2 : (-1 : Int) - (vr.length : Int) = (-1 : Int) - (vr.length : Int) := rfl
      k_steps
      refine HoldW.mk ?_
      rename IsRange _ _ _ _ _ _ _ _ => R9
      rename News g₂ L _ _ => N9
      rename Fr g₂ L _ _ => F9
      rename Obj => oR9
      rename _ = Data.cell _ => dR9
      have N11 : News g₂ L _ (tabs t1' t2' t3' ++ ((L + 1 + 1, oR9) :: K5)) := fun p hp => N9 p (by simp only [List.mem_append, List.mem_cons, List.not_mem_nil, or_false] at hp ⊢; grind)
      have tk11 : TabOk t1' t2' t3' ((L + 1 + 1, oR9) :: K5) := tk6'.cons ⟨neN (by omega), neN (by omega), neN (by omega)⟩
      have gr11 : Gr kn ((L + 1 + 1, oR9) :: K5) := hK5.trans ⟨fun p hp => .tail _ hp, fun p hp => (List.mem_cons.mp hp).elim (fun e => .inr (by subst e; exact ⟨neN (by omega), neN (by omega), neN (by omega), fun q hq => (offR5 q hq).symm⟩)) .inl⟩
      have mR11 : (L + 1 + 1, oR9) ∈ (L + 1 + 1, oR9) :: K5 := .head _
      have mD11 : (D, W.listOf zs.toArray k5) ∈ (L + 1 + 1, oR9) :: K5 := .tail _ mD5
      have mW11 : (L + 1, oW) ∈ (L + 1 + 1, oR9) :: K5 := .tail _ mW5
      have refs11 : RefsR ((L + 1 + 1, oR9) :: K5) u zs := refs5.mono fun p hp => .tail _ hp
      clear N9 tk6' offR5
      generalize hKK2 : (L + 1 + 1, oR9) :: K5 = K11 at N11 tk11 gr11 mR11 mD11 mW11 refs11
      clear hKK hKK2 hK5 mD5 mW5 refs5 hr5 m15
      refine' comp_RS (RR := fun acc C => compPost (model prg _) _ _ _ _ acc C) (fun i v m₂ => m₂ "k" = some v) (fun i zs led'' => Gr K11 led'' ∧ zs = []) rfl rfl rfl B3 D3 F9 N11 tk11 R9 (by omega) ?hcell2 rfl ⟨Gr.refl _, rfl⟩ ?hasg2 ?turn2 ?hRR2 ?hgo2
      case hcell2 => decide
      case hgo2 => intro _ _; rfl
      case hasg2 =>
        rintro g₃ I C D i v u1 u2 u3 led'' zs s1 m1 Q E' ⟨hi, t, rfl⟩ S hJ hn hCD hQ
        exact asg_name rfl rfl hn fun h' tk hn' hk => hQ h' tk _ hn' (by simp) hk
      case turn2 =>
        rintro g₃ I C' D' i v u1 u2 u3 led'' zs' s1 m1 E' KT3 B4 ⟨hi, tv, rfl⟩ S nC nD ⟨gr4, rfl⟩ hz hn hm1
        refine wpAny_tests_one ?_
        have S' := S
        obtain ⟨F5, N5, tk5, off5⟩ := S
        first | ((with_reducible rename HKon => hkm); (with_reducible refine' (_ : ShE s1 _) _ _ _ _ _ rfl); intros hh gg dd tt oo hq; subst hq) | obtain ⟨hh, gg, dd, tt, oo⟩ := s1
        dsimp only at hn F5 N5
        have stop := StopS.is
        obtain ⟨zr, hzr⟩ : ∃ v, zs[i]? = some v := ⟨_, List.getElem?_eq_getElem (by omega)⟩
        obtain ⟨r, rfl, hRef⟩ := refs11 i zr hzr
        obtain ⟨t, ht⟩ : ∃ t, vr[i]? = some t := ⟨_, List.getElem?_eq_getElem hi⟩
        obtain ⟨tt', rfl, hIS⟩ := his i t ht
        have mR := gr4.1 _ mR11
        have mD := gr4.1 _ mD11
        have mW := gr4.1 _ mW11
        have mr := gr4.1 _ (gr11.1 _ hr)
        clear F9 N11 X T C1 C2 C3
        have X := XB.keeps B4.stays
        have T := TB.keeps B4.stays
        k_steps
        refine HoldW.mk ?_
        refine turn_conS (hIS led'' r (gr11.trans gr4) (hRef.mono gr4.1)) S' B4 XB TB CB1 CB2 CB3 ⟨DD.d.turn (KT.trans KT3)⟩ rfl rfl rfl rfl ?hd2 ?hu2 ?_
        case hd2 => k_room
        case hu2 => k_units
        intro r h' tk' gs' a1 a2 a3 tl x hg p
        subst p
        clear F5 N5
        k_steps
        exact ⟨h', _, gs', a1, a2, a3, tl, rfl, x, hg, gr4.trans (ExtS.gr S'.N x), by first | rfl | trivial⟩
      case hRR2 =>
        rintro g₃ I C' D' h7 tk7 gs7 m7 zs7 k7 u1 u2 u3 led'' KT3 B4 S hg7 ⟨gr4, rfl⟩ hz hn hd7 a1 b1 c1 d1 e1 f1
        refine post_none S hn hd7 a1 b1 c1 d1 e1 f1 ?_
        intro h8 F8 N8 tk8 off8
        replace N8 : News g₃ L h8 ((266, tabObj u1) :: (280, tabObj u2) :: (159, tabObj u3) :: (D', W.listOf ([] : List Value).toArray k7) :: led'') := N8
        have grD := Gr.consD tk8 off8
        have mR := gr4.1 _ mR11
        have mD := gr4.1 _ mD11
        have mW := gr4.1 _ mW11
        have mr := gr4.1 _ (gr11.1 _ hr)
        have m1u := gr4.1 _ (gr11.1 _ m1)
        have KTg := KT.trans KT3
        have gr18 := (gr11.trans gr4).trans grD
        clear F9 N11 X T C1 C2 C3 D3 S hn hd7 gr4 gr11 gr5 gr10 gr3 KT KT3 B3
        have X := XB.keeps B4.stays
        have T := TB.keeps B4.stays
        have C1 := CB1.keeps B4.stays
        have C2 := CB2.keeps B4.stays
        have C3 := CB3.keeps B4.stays
        have D4 : DK (frs outs) g₃ := ⟨DD.d.turn KTg⟩
        k_steps
        all_goals (k_extra "M out")
        refine' ret _ _ _ _ _ _ _ ([] ++ _) ?X ?Y (by simp)
        case X => k_extra "M finS"
        case Y => grind
  case turn =>
    rintro i It s' h2 tk2 ti E' hi ⟨h', tk, gs, t1', t2', t3', K0, m0, g₂, rfl, KT, F3, N3, B3, TK3, gr3, off3, offR, offW, hg3, hIt⟩ e2 k2
    obtain ⟨F4, N4⟩ := it_step F3 N3 e2 k2 (fun p hp => by
      simp only [List.mem_cons] at hp
      rcases hp with rfl | rfl | rfl | rfl | rfl | hp
      · exact neN (by omega)
      · exact neN (by omega)
      · exact neN (by omega)
      · exact neN (by omega)
      · exact neN (by omega)
      · exact off3 p hp)
    clear F9 N9 F3 N3 R9 B X T C1 C2 C3
    have X := XB.keeps B3.stays
    have T := TB.keeps B3.stays
    have C1 := CB1.keeps B3.stays
    have C2 := CB2.keeps B3.stays
    have C3 := CB3.keeps B3.stays
    have D3 : DK (frs outs) g₂ := ⟨DD.d.turn KT⟩
    obtain ⟨t, ht⟩ : ∃ t, vr[i]? = some t := ⟨_, List.getElem?_eq_getElem hi⟩
    obtain ⟨tt, rfl, hIS⟩ := his i t ht
    have hIS' : IsS w u i tt n m K0 := fun K r g1 hr => hIS K r (gr3.trans g1) hr
    have hG1 : ItC w u i i K0 := fun K tp g1 => c_itemA (hs0.mono fun p hp => g1.1 p (gr3.1 p hp)) hln rfl (by omega)
    have hG2 : ItC w u i ((i : Int) - (vr.length : Int)) K0 := fun K tp g1 => c_itemB (hs0.mono fun p hp => g1.1 p (gr3.1 p hp)) hln (by omega) (by omega)
    have hsub : (i : Int) - (vr.length : Int) = (i : Int) - (vr.length : Int) := rfl
    clear hIS his
    have hr3 := gr3.1 _ hr
    have m13 := gr3.1 _ m1
    k_steps
    show AgI base outs _ g L kn u oR oW vr.length s (i + 1) It _
    refine' ⟨_, _, _, _, _, _, _, _, _, rfl, ?KT, ?F, ?Nq, ?B, ?TK, ?gr, ?off, ?offR, ?offW, ?hg, hIt⟩
    case F => (refine' Mine.Fr.locF ?f ?g; (case f => k_asm); (case g => exact rfl))
    case Nq => k_asm
    case B => k_asm
    case KT => k_extra "M kts"
    case TK => k_asm
    case gr => k_extra "M gr"
    case off => k_all
    case offR => k_all
    case offW => k_all
    case hg => grind
end
-- AG2
section
theorem c_ag : ∀ {w : World} (k : Nat) (kn : Led) (u l : Addr) (fs : List Fld), SetR kn k u fs → RowR kn k l fs → fs.length ≤ 8 → AgS w u l (220 * k + 220) (2200 * k + 2200) kn := by
  have hon : HKon := trivial
  intro w
  refine by_pred ?_
  intro k ih kn u l fs hs hr hl
  obtain ⟨lv, vs, hst, hall⟩ := hs
  obtain ⟨vr, nr, hm, hrow⟩ := hr
  have e1 := hall.length
  have e2 := hrow.length
  refine (c_agS (n := 220 * k + 100) (m := 2200 * k + 1000) hst (by omega) hm (by omega) ?turn).le (by omega) (by omega)
  intro i t ht
  have hi : i < vr.length := (List.getElem?_eq_some_iff.mp ht).1
  obtain ⟨v, hv⟩ : ∃ v, vs[i]? = some v := ⟨_, List.getElem?_eq_getElem (by omega)⟩
  obtain ⟨f, hf⟩ : ∃ f, fs[i]? = some f := ⟨_, List.getElem?_eq_getElem (by omega)⟩
  have hF := hall.at hv hf
  have hS := hrow.at ht hf
  obtain ⟨tt, e, t1, t2, et, hmt, hsay⟩ := hS
  refine ⟨tt, et, ?rest⟩
  intro K r g hr
  have mono : ∀ p ∈ kn, p ∈ K := g.1
  refine c_is (n := 220 * k) (m := 2200 * k) hr (hst.mono mono) (by omega) hv (hF.mono mono) ⟨tt, e, t1, t2, rfl, mono _ hmt, hsay.mono mono⟩ ?ih
  intro k' u' l' fs' ek hs' hr' hl'
  exact (ih k' ek K u' l' fs' hs' hr' (by omega)).le (by omega) (by omega)
end
-- EU0
section
structure ExtU (h h' : Heap) (t1' t2' t3' : Array Value) (kn kn2 : Led) (ch : List Addr) : Prop where
  keep : ∀ b o, h.get? b = some o → b ≠ 266 → b ≠ 280 → b ≠ 159 → b ∉ ch → h'.get? b = some o
  size : h.objs.size ≤ h'.objs.size
  news : ∀ p ∈ tabs t1' t2' t3' ++ kn2, h'.get? p.1 = some p.2
  fresh : ∀ p ∈ kn2, (∃ q ∈ kn, q.1 = p.1) ∨ h.get? p.1 = none
  tok : TabOk t1' t2' t3' kn2
  chin : ∀ c ∈ ch, ∃ o, (c, o) ∈ kn
  still : ∀ p ∈ kn, p.1 ∉ ch → p ∈ kn2
noncomputable def ConU (w : World) (f : Value) (args : List Value) (n u : Nat) (kn : Led) (Post : List Addr → Led → Value → Prop) : Prop :=
  ∀ (A : Around) (s : Shared) (t1 t2 t3 : Array Value) (base : Heap) (outs : List Env) (g : Heap) (loose : List Str) (mean : ExcName → Option Value) (mg mb : Str → Option Value) (Z : Result → Shared → Prop),
    Rdy w A n u s t1 t2 t3 kn base outs g loose mean mg mb →
    (∀ r h' tk' gs' t1' t2' t3' kn2 ch, ExtU s.heap h' t1' t2' t3' kn kn2 ch → (AllBare s.gens → AllBare gs') → Post ch kn2 r → Z (.ok (.ret r)) { s with heap := h', toks := tk', gens := gs' }) → codeAny (model prg w) A (.call f ⟨args, []⟩) Z s
theorem TabOk.iff {t1 t2 t3 : Array Value} {kn kn' : Led} (x : TabOk t1 t2 t3 kn) (h : ∀ p, p ∈ kn ↔ p ∈ kn') : TabOk t1 t2 t3 kn' := x.mono (fun p hp => (h p).mp hp) fun p hp => .inl ((h p).mpr hp)
section
variable {w : World} {A A₀ : Around} {n u : Nat} {s : Shared} {h' : Heap} {t1 t2 t3 t1' t2' t3' : Array Value} {kn kn2 : Led} {ch : List Addr} {base h₀ : Heap} {outs outer : List Env} {g : Heap} {loose : List Str} {mean : ExcName → Option Value} {mg mb : Str → Option Value}
  {L : Addr} {m m' : Str → Option Value} {news news' : Led} {env : Env} {f : Value} {args : List Value} {Post : List Addr → Led → Value → Prop} {Q E : Value → Shared → Prop} {Z : Result → Shared → Prop} {G : Array Value → Array Value → Array Value → Led → Led}
theorem Rdy.iff {kn' : Led} (R : Rdy w A n u s t1 t2 t3 kn base outs g loose mean mg mb) (h : ∀ p, p ∈ kn ↔ p ∈ kn') : Rdy w A n u s t1 t2 t3 kn' base outs g loose mean mg mb :=
  { R with
    cov := fun b o e hb => R.cov b o e fun p hp => hb p ((List.mem_append.mp hp).elim (fun hp => List.mem_append_left _ hp) fun hp => List.mem_append_right _ ((h p).mp hp))
    news := fun p hp => R.news p ((List.mem_append.mp hp).elim (fun hp => List.mem_append_left _ hp) fun hp => List.mem_append_right _ ((h p).mpr hp))
    tok := R.tok.iff h }
theorem Rdy.fun_ (R : Rdy w A n u s t1 t2 t3 kn base outs g loose mean mg mb) {p q : Addr × Obj} (hp : p ∈ kn) (hq : q ∈ kn) (e : p.1 = q.1) : p.2 = q.2 := by
  have a := (R.news p (List.mem_append_right _ hp)).1
  have b := (R.news q (List.mem_append_right _ hq)).1
  rw [e, b] at a
  exact (Option.some.inj a).symm
theorem del_iff {c : Addr} {o : Obj} (hm : (c, o) ∈ kn) (f : ∀ p ∈ kn, p.1 = c → p.2 = o) : ∀ p, p ∈ kn ↔ p ∈ (c, o) :: del c kn := fun p => by
  simp only [List.mem_cons, mem_del]
  constructor
  · intro hp
    by_cases e : p.1 = c
    · exact .inl (Prod.ext e (f p hp e))
    · exact .inr ⟨hp, e⟩
  · rintro (rfl | ⟨hp, _⟩)
    · exact hm
    · exact hp
theorem use_conU' (C : ConU w f args n u kn Post) (B : Below A₀ base outer h₀) (F : Fr h₀ L s.heap m) (X : (hd.heap_1_39 w.params).In h₀) (N : News h₀ L s.heap news) (T : Top topProg loose mean mg mb h₀)
    (C1 : CodeHd h₀ 270 266) (C2 : CodeHd h₀ 284 280) (C3 : CodeHd h₀ 163 159) (TK : TabOk t1 t2 t3 kn) (hO : Own t1 t2 t3 kn news G) (hown : ∀ p ∈ news, (∃ q ∈ tabs t1 t2 t3 ++ kn, q.1 = p.1) → p ∈ tabs t1 t2 t3 ++ kn)
    (hA : A.frames = some (env :: outer)) (hf : env.frame = some L) (hke : env.scope.kind = .function)
    (hh : A.handled = none) (hd : A.depth + n < recursionLimit) (hu : A.units + u < cLine)
    (h : ∀ r h' tk' gs' t1' t2' t3' kn2 ch, Fr h₀ L h' m → News h₀ L h' (tabs t1' t2' t3' ++ kn2) → ExtU s.heap h' t1' t2' t3' kn kn2 ch → (AllBare s.gens → AllBare gs') → Post ch kn2 r → Z (.ok (.ret r)) { s with heap := h', toks := tk', gens := gs' }) : codeAny (model prg w) A (.call f ⟨args, []⟩) Z s := by
  refine C A s t1 t2 t3 base (env :: outer) _ loose mean mg mb Z (rdy_of B F X N T C1 C2 C3 hA hf hke hO.sub TK hh hd hu) fun r h' tk' gs' t1' t2' t3' kn2 ch x hg p => ?_
  have nk : ∀ p ∈ kn, p.1 ≠ L ∧ h₀.get? p.1 = none := fun p hp => (N p (hO.sub p (List.mem_append_right _ hp))).2
  have nt : ∀ a t, (a, tabObj t) ∈ tabs t1 t2 t3 → a ≠ L ∧ h₀.get? a = none := fun a t hm => (N (a, tabObj t) (hO.sub _ (List.mem_append_left _ hm))).2
  have t266 := nt 266 t1 (by simp)
  have t280 := nt 280 t2 (by simp)
  have t159 := nt 159 t3 (by simp)
  obtain ⟨oL, es, ep, hL, r'⟩ := F.ns
  have chn : ∀ c ∈ ch, c ≠ L ∧ h₀.get? c = none := fun c hc => let ⟨o, ho⟩ := x.chin c hc; nk _ ho
  have kp : ∀ b o, h₀.get? b = some o → h'.get? b = some o := fun b o e => x.keep _ _ (F.keep b o e) (fun q => by rw [q, t266.2] at e; cases e) (fun q => by rw [q, t280.2] at e; cases e) (fun q => by rw [q, t159.2] at e; cases e) (fun q => by rw [(chn _ q).2] at e; cases e)
  have kL := x.keep _ _ hL t266.1.symm t280.1.symm t159.1.symm (fun q => (chn _ q).1 rfl)
  refine h r h' tk' gs' t1' t2' t3' kn2 ch ⟨⟨oL, es, ep, kL, r'⟩, kp, F.above⟩ (fun p hp => ⟨x.news p hp, ?_⟩) x hg p
  rcases List.mem_append.mp hp with hp | hp
  · simp only [List.mem_cons, List.not_mem_nil, or_false] at hp
    rcases hp with rfl | rfl | rfl
    · exact t266
    · exact t280
    · exact t159
  · rcases x.fresh p hp with ⟨q, hq, e⟩ | fr
    · rw [← e]; exact nk q hq
    · refine ⟨fun q => absurd fr (by rw [q, hL]; simp), ?_⟩
      cases e : h₀.get? p.1 with
      | none => rfl
      | some o => rw [F.keep _ _ e] at fr; cases fr
theorem ExtU.gr {kn0 : Led} {h : Heap} (x : ExtU h h' t1' t2' t3' kn kn2 ch) (gr : Gr kn0 kn) (N : ∀ p ∈ tabs t1 t2 t3 ++ kn, h.get? p.1 = some p.2) (hc : ∀ p ∈ kn0, p.1 ∉ ch) : Gr kn0 kn2 := by
  have h2 : ∀ p ∈ kn0, p ∈ kn2 := fun p hp => x.still p (gr.1 p hp) (hc p hp)
  refine ⟨h2, fun p hp => ?_⟩
  rcases x.fresh p hp with ⟨q, hq, e⟩ | fr
  · rcases gr.2 q hq with hq | ne
    · have a := x.news p (List.mem_append_right _ hp)
      have b := x.news q (List.mem_append_right _ (h2 q hq))
      rw [e, a] at b
      have : p = q := Prod.ext e.symm (Option.some.inj b)
      exact .inl (this ▸ hq)
    · exact .inr ⟨fun z => ne.1 (e.trans z), fun z => ne.2.1 (e.trans z), fun z => ne.2.2.1 (e.trans z), fun q' hq' z => ne.2.2.2 q' hq' (e.trans z)⟩
  · have ne : ∀ q ∈ tabs t1 t2 t3 ++ kn, p.1 ≠ q.1 := fun q hq e => by rw [e, N q hq] at fr; cases fr
    exact .inr ⟨ne (266, tabObj t1) (by simp), ne (280, tabObj t2) (by simp), ne (159, tabObj t3) (by simp), fun q hq => ne q (List.mem_append_right _ (gr.1 q hq))⟩
theorem finU {K0 : Led} (R : Rdy w A n u s t1 t2 t3 kn base outs g loose mean mg mb) (hL : s.heap.objs.size ≤ L) (F : Fr g L h' m') (N : News g L h' news') (TKx : TabOk t1' t2' t3' K0)
    (ht : ∀ p ∈ tabs t1' t2' t3', p ∈ news') (hk : ∀ p ∈ K0, p ∈ news') (hst : ∀ p ∈ kn, p.1 ∉ ch → p ∈ K0) (hch : ∀ c ∈ ch, ∃ o, (c, o) ∈ kn) (hfr : ∀ p ∈ K0, (∃ q ∈ kn, q.1 = p.1) ∨ FrA kn p.1) : ExtU s.heap h' t1' t2' t3' kn K0 ch where
  keep := fun b o e h1 h2 h3 h4 => by
    by_cases hb : ∃ p ∈ kn, p.1 = b
    · obtain ⟨p, hp, rfl⟩ := hb
      have e1 := (R.news p (List.mem_append_right _ hp)).1
      rw [e] at e1; cases e1
      exact (N p (hk p (hst p hp h4))).1
    · refine F.keep _ _ (R.cov b o e fun p hp => ?_)
      rcases List.mem_append.mp hp with hp | hp
      · intro q
        subst q
        simp only [List.mem_cons, List.not_mem_nil, or_false] at hp
        rcases hp with rfl | rfl | rfl
        · exact h1 rfl
        · exact h2 rfl
        · exact h3 rfl
      · exact fun q => hb ⟨p, hp, q⟩
  size := Nat.le_trans hL (Nat.le_of_lt F.ns.lt)
  news := fun p hp => (List.mem_append.mp hp).elim (fun hp => (N p (ht p hp)).1) fun hp => (N p (hk p hp)).1
  fresh := fun p hp => (hfr p hp).imp id fun ne => by
    cases e : s.heap.get? p.1 with
    | none => rfl
    | some o =>
      have := R.cov p.1 o e fun q hq z => by
        rcases List.mem_append.mp hq with hq | hq
        · simp only [List.mem_cons, List.not_mem_nil, or_false] at hq
          rcases hq with rfl | rfl | rfl
          · exact ne.1 z.symm
          · exact ne.2.1 z.symm
          · exact ne.2.2.1 z.symm
        · exact ne.2.2.2 q hq z.symm
      rw [(N p (hk p hp)).2.2] at this; cases this
  tok := TKx
  chin := hch
  still := hst
inductive OwnU (t1 t2 t3 : Array Value) (kn : Led) : Led → (Array Value → Array Value → Array Value → Led → Led) → Prop
  | nil : OwnU t1 t2 t3 kn ((266, tabObj t1) :: (280, tabObj t2) :: (159, tabObj t3) :: kn) (fun a b c k => (266, tabObj a) :: (280, tabObj b) :: (159, tabObj c) :: k)
  | cons {p : Addr × Obj} {r : Led} {G : Array Value → Array Value → Array Value → Led → Led} : p.1 ≠ 266 ∧ p.1 ≠ 280 ∧ p.1 ≠ 159 → (∀ q ∈ kn, q.1 ≠ p.1) → OwnU t1 t2 t3 kn r G → OwnU t1 t2 t3 kn (p :: r) (fun a b c k => p :: G a b c k)
theorem OwnU.shape {G : Array Value → Array Value → Array Value → Led → Led} (x : OwnU t1 t2 t3 kn news G) :
    ∃ own, news = own ++ (tabs t1 t2 t3 ++ kn) ∧ (∀ a b c k, G a b c k = own ++ (tabs a b c ++ k)) ∧ ∀ p ∈ own, (p.1 ≠ 266 ∧ p.1 ≠ 280 ∧ p.1 ≠ 159) ∧ ∀ q ∈ kn, q.1 ≠ p.1 := by
  induction x with
  | nil => exact ⟨[], rfl, fun _ _ _ _ => rfl, fun _ h => nomatch h⟩
  | cons hp hq _ ih =>
    obtain ⟨own, e1, e2, e3⟩ := ih
    exact ⟨_ :: own, by rw [e1]; rfl, fun a b c k => by show _ :: _ = _; rw [e2]; rfl, List.forall_mem_cons.mpr ⟨⟨hp, hq⟩, e3⟩⟩
theorem use_conU (C : ConU w f args n u kn Post) (B : Below A₀ base outer h₀) (F : Fr h₀ L s.heap m) (X : (hd.heap_1_39 w.params).In h₀) (N : News h₀ L s.heap news) (T : Top topProg loose mean mg mb h₀)
    (C1 : CodeHd h₀ 270 266) (C2 : CodeHd h₀ 284 280) (C3 : CodeHd h₀ 163 159) (TK : TabOk t1 t2 t3 kn) (hO : OwnU t1 t2 t3 kn news G)
    (hA : A.frames = some (env :: outer)) (hf : env.frame = some L) (hke : env.scope.kind = .function)
    (hh : A.handled = none) (hd : A.depth + n < recursionLimit) (hu : A.units + u < cLine)
    (h : ∀ r h' tk' gs' t1' t2' t3' kn2 ch, Fr h₀ L h' m → News h₀ L h' (G t1' t2' t3' kn2) → ExtU s.heap h' t1' t2' t3' kn kn2 ch → (∀ p ∈ tabs t1 t2 t3 ++ kn, s.heap.get? p.1 = some p.2) → TabOk t1' t2' t3' kn2 → (AllBare s.gens → AllBare gs') → Post ch kn2 r → Q r { s with heap := h', toks := tk', gens := gs' }) : wpAny (model prg w) A (call f args) Q E s := by
  obtain ⟨own, e1, e2, e3⟩ := hO.shape
  have hsub : ∀ p ∈ tabs t1 t2 t3 ++ kn, p ∈ news := fun p hp => e1 ▸ List.mem_append_right _ hp
  refine wpAny_call (use_conU' C B F X (fun p hp => N p (hsub p hp)) T C1 C2 C3 TK .nil (fun p hp _ => hp) hA hf hke hh hd hu fun r h' tk' gs' t1' t2' t3' kn2 ch F' N' x hg p => ?_)
  refine h r h' tk' gs' t1' t2' t3' kn2 ch F' (fun q hq => ?_) x (fun p hp => (N p (hsub p hp)).1) x.tok hg p
  rw [e2] at hq
  rcases List.mem_append.mp hq with hq | hq
  · have n1 := N q (by rw [e1]; exact List.mem_append_left _ hq)
    refine ⟨x.keep _ _ n1.1 (e3 q hq).1.1 (e3 q hq).1.2.1 (e3 q hq).1.2.2 (fun hc => ?_), n1.2⟩
    obtain ⟨o, ho⟩ := x.chin _ hc
    exact (e3 q hq).2 _ ho rfl
  · exact N' q hq
end
theorem kwEU00 : True := by
  (k_with "M ownU" => first | exact OwnU.nil | (refine' OwnU.cons ⟨?oazEU00, ?obzEU00, ?oczEU00⟩ ?odzEU00 ?_; (case oazEU00 => k_ne); (case obzEU00 => k_ne); (case oczEU00 => k_ne); (case odzEU00 => k_all); k_extra "M ownU") | fail "mine: no shape")
  trivial
section
variable {prog : Program} {w : World} {A : Around} {E : Value → Shared → Prop} {s : Shared} {h₀ : Heap} {L D b : Addr} {m : Str → Option Value} {n n2 : Nat} {its its2 : List Value} {pre post : Led}
theorem ext_led {Q : Value → Shared → Prop} (F : Fr h₀ L s.heap m) (N : News h₀ L s.heap (pre ++ (D, W.listOf its.toArray n) :: post)) (hb : (b, W.listOf its2.toArray n2) ∈ pre ++ (D, W.listOf its.toArray n) :: post) (h1 : ∀ p ∈ pre, p.1 ≠ D) (h2 : ∀ p ∈ post, p.1 ≠ D)
    (hl1 : its.length ≤ 100) (hl2 : its2.length ≤ 100) (h : ∀ h' n', Fr h₀ L h' m → News h₀ L h' (pre ++ (D, W.listOf (its ++ its2).toArray n') :: post) → Q .none { s with heap := h' }) : wpAny (model prog w) A (call (.builtin "list.extend") [.ref D, .ref b]) Q E s := by
  have z := N (D, W.listOf its.toArray n) (List.mem_append.mpr (.inr (.head _)))
  have hsz := sizeLine_eq
  refine call_meets PySem.F.slot_list_extend ⟨_, z.1, rfl⟩ PySem.F.entry_list_extend (PySem.F.args_list_extend_2 _ _) (PySem.AutoSeq1.list_extend_list_list_0 D its.toArray n b its2.toArray n2 ?_ (by simp; omega) (by simp; omega)) ⟨z.1, (N _ hb).1, ?_⟩
  · have : Builtin.List.listTooLong (its.length + its2.length) = false := by
      unfold Builtin.List.listTooLong
      simp
      omega
    simp [this]
  · obtain ⟨c, hc⟩ : ∃ c, (s.heap.update D (Obj.mapSeq (· ++ its2.toArray))).get? D = some (seqObj "list" (its.toArray ++ its2.toArray) c) := ⟨_, get?_update_seq z.1 (· ++ its2.toArray)⟩
    have hc' : (s.heap.update D (Obj.mapSeq (· ++ its2.toArray))).get? D = some (W.listOf (its ++ its2).toArray c) := by rw [hc]; simp [seqObj, PySem.W.listOf]
    exact h _ c (F.change (Heap.SameBut.update ..) z.2.1 z.2.2) (N.setAt h1 h2 (Heap.SameBut.update ..) hc')
end

theorem ConU.open {w : World} {f : Value} {args : List Value} {n u : Nat} {kn : Led} {Post : List Addr → Led → Value → Prop}
   (h : ∀ (s : Shared) (dp un : Nat) (gd : Option (List Code)) (t1 t2 t3 : Array Value) (base g : Heap) (outs : List Env) (loose : List Str) (mean : ExcName → Option Value) (mg mb : Str → Option Value) (Z : Result → Shared → Prop),
    Rdy w ⟨none, dp, some outs, gd, un⟩ n u s t1 t2 t3 kn base outs g loose mean mg mb →
    (∀ r h' tk' gs' t1' t2' t3' kn2 ch, ExtU s.heap h' t1' t2' t3' kn kn2 ch → (AllBare s.gens → AllBare gs') → Post ch kn2 r → Z (.ok (.ret r)) { s with heap := h', toks := tk', gens := gs' }) → dp + n < 1000 → un + u < 9900 → codeAny (model prg w) ⟨none, dp, some outs, gd, un⟩ (.call f ⟨args, []⟩) Z s) : ConU w f args n u kn Post := by
  intro A s t1 t2 t3 base outs g loose mean mg mb Z R ret
  obtain ⟨ah, dp, fr, gd, un⟩ := A
  obtain rfl : ah = none := R.handled
  obtain rfl : fr = some outs := R.below.stack
  exact h s dp un gd t1 t2 t3 base g outs loose mean mg mb Z R ret R.depth R.units
noncomputable def ConUG (w : World) (f : Value) (args : List Value) (n u : Nat) (kn : Led) (Post : List Addr → Led → Value → Prop) (s : Shared) (dp un : Nat) (gd : Option (List Code)) (t1 t2 t3 : Array Value) (base g : Heap) (outs : List Env) (loose : List Str) (mean : ExcName → Option Value) (mg mb : Str → Option Value) (Z : Result → Shared → Prop) : Prop :=
    Rdy w ⟨none, dp, some outs, gd, un⟩ n u s t1 t2 t3 kn base outs g loose mean mg mb →
    (∀ r h' tk' gs' t1' t2' t3' kn2 ch, ExtU s.heap h' t1' t2' t3' kn kn2 ch → (AllBare s.gens → AllBare gs') → Post ch kn2 r → Z (.ok (.ret r)) { s with heap := h', toks := tk', gens := gs' }) → dp + n < 1000 → un + u < 9900 → codeAny (model prg w) ⟨none, dp, some outs, gd, un⟩ (.call f ⟨args, []⟩) Z s
theorem ConUG.mk {w : World} {f : Value} {args : List Value} {n u : Nat} {kn : Led} {Post : List Addr → Led → Value → Prop} {s : Shared} {dp un : Nat} {gd : Option (List Code)} {t1 t2 t3 : Array Value} {base g : Heap} {outs : List Env} {loose : List Str} {mean : ExcName → Option Value} {mg mb : Str → Option Value} {Z : Result → Shared → Prop}
   (h : Rdy w ⟨none, dp, some outs, gd, un⟩ n u s t1 t2 t3 kn base outs g loose mean mg mb →
    (∀ r h' tk' gs' t1' t2' t3' kn2 ch, ExtU s.heap h' t1' t2' t3' kn kn2 ch → (AllBare s.gens → AllBare gs') → Post ch kn2 r → Z (.ok (.ret r)) { s with heap := h', toks := tk', gens := gs' }) → dp + n < 1000 → un + u < 9900 → codeAny (model prg w) ⟨none, dp, some outs, gd, un⟩ (.call f ⟨args, []⟩) Z s) : ConUG w f args n u kn Post s dp un gd t1 t2 t3 base g outs loose mean mg mb Z := h
theorem ConU.openG {w : World} {f : Value} {args : List Value} {n u : Nat} {kn : Led} {Post : List Addr → Led → Value → Prop} (h : HTO (ConUG w f args n u kn Post)) : ConU w f args n u kn Post := ConU.open h
end
-- EX1
section
theorem kwEX10 : True := by
  (k_with "call builtin:list.extend" => (k_here; (with_reducible show wpAny _ _ (call (Value.builtin _) [Value.ref _, Value.ref _]) _ _ _); refine HoldW.out ?_))
  trivial
theorem CodeE.delL {kn : Led} {q : Str} {d l : Addr} {a : Array Value} {n : Nat} (x : CodeE kn q d) (_ : (l, W.listOf a n) ∈ kn) (f : ∀ p ∈ kn, p.1 = l → p.2 = W.listOf a n) : CodeE (Mine.del l kn) q d := by
  obtain ⟨oc, vs, tk, a, b, e⟩ := x
  refine ⟨oc, vs, tk, mem_del.mpr ⟨a, fun z => ?_⟩, b, e⟩
  have := f _ a z
  dsimp only at this
  subst this
  cases b
set_option maxHeartbeats 4000000 in
theorem c_ext : ∀ {w : World} {kn : Led} {u du l u2 l2 : Addr} {vs ws : List Value} (hs : SetTopD kn u du l vs) (hs2 : SetTop kn u2 l2 ws) (hne : l ≠ l2) (hl1 : vs.length ≤ 100) (hl2 : ws.length ≤ 100),
   ConU w (.ref 157) [.ref u, .ref u2] 30 300 kn (fun ch kn2 r => r = .none ∧ ch = [l] ∧ ∃ n, (l, W.listOf (vs ++ ws).toArray n) ∈ kn2) := by
  have hon : HKon := trivial
  intro w kn u du l u2 l2 vs ws hs hs2 hne hl1 hl2
  unfold ConU
  intro A s t1 t2 t3 base outs g loose mean mg mb Z R0 ret
  obtain ⟨g1, g2, g3, g4, m1, m2, m3⟩ := hs
  obtain ⟨du2, e1, e2, e3, e4, q1, q2, q3⟩ := hs2
  have R := R0.iff (del_iff m3 fun p hp e => R0.fun_ hp m3 e)
  have f1 : u ≠ l := fun e => by have := R0.fun_ m1 m3 e; cases this
  have f2 : du ≠ l := fun e => by have := congrArg Obj.data (R0.fun_ m2 m3 e); cases this
  have f3 : u2 ≠ l := fun e => by have := R0.fun_ q1 m3 e; cases this
  have f4 : du2 ≠ l := fun e => by have := congrArg Obj.data (R0.fun_ q2 m3 e); cases this
  have d1 : (u, instObj 174 du) ∈ del l kn := mem_del.mpr ⟨m1, f1⟩
  have d2 := mem_del.mpr ⟨m2, f2⟩
  have d3 : (u2, instObj 174 du2) ∈ del l kn := mem_del.mpr ⟨q1, f3⟩
  have d4 := mem_del.mpr ⟨q2, f4⟩
  have d5 := mem_del.mpr ⟨q3, hne.symm⟩
  obtain ⟨dp, gd, un, rfl⟩ := R.around
  have hd : dp + 30 < 1000 := R.depth
  have hu : un + 300 < 9900 := R.units
  k_extra "M body"
  intro L h₁ hL F N B X T C1 C2 C3 TK l1 l2 l3 l4
  try dsimp only
  try k_fold
  k_steps
  refine HoldW.mk ?_
  rename News g L _ _ => N9
  rename Fr g L _ _ => F9
  have tl := TK.d _ (.head _)
  dsimp only at tl
  refine ext_led (pre := [(266, tabObj t1), (280, tabObj t2), (159, tabObj t3)]) F9 N9 (.tail _ (.tail _ (.tail _ (.tail _ d5)))) (fun p hp => ?_) (fun p hp => (mem_del.mp hp).2) hl1 hl2 fun h6 n6 F6 N6 => ?_
  · simp only [List.mem_cons, List.not_mem_nil, or_false] at hp
    rcases hp with rfl | rfl | rfl
    · exact tl.1.symm
    · exact tl.2.1.symm
    · exact tl.2.2.symm
  replace N6 : News g L h6 ((266, tabObj t1) :: (280, tabObj t2) :: (159, tabObj t3) :: (l, W.listOf (vs ++ ws).toArray n6) :: del l kn) := N6
  have TK6 : TabOk t1 t2 t3 ((l, W.listOf (vs ++ ws).toArray n6) :: del l kn) := TabOk.cons ⟨R0.tok.a.imp id fun ⟨c, e, y⟩ => ⟨c, e, y.delL m3 fun p hp => R0.fun_ hp m3⟩, R0.tok.b.imp id fun ⟨c, e, y⟩ => ⟨c, e, y.delL m3 fun p hp => R0.fun_ hp m3⟩, R0.tok.c.imp id fun ⟨c, d, e, y, z⟩ => ⟨c, d, e, y.delL m3 fun p hp => R0.fun_ hp m3, z.delL m3 fun p hp => R0.fun_ hp m3⟩, fun p hp => R0.tok.d p (mem_del.mp hp).1⟩ tl
  clear F9 N9
  k_steps
  all_goals (k_extra "M out")
  refine' ret _ _ _ _ _ _ _ ((l, W.listOf (vs ++ ws).toArray n6) :: del l kn) [l] ?X id ⟨rfl, rfl, n6, .head _⟩
  case X =>
    refine' finU R0 (Nat.le_of_eq hL.symm) ?F ?Nq TK6 ?ht ?hk ?hst ?hch ?hfr
    case F => k_asm
    case Nq => k_asm
    case ht => k_extra "M sub"
    case hk => k_extra "M sub"
    case hst => exact fun p hp hc => .tail _ (mem_del.mpr ⟨hp, fun e => hc (by simp [e])⟩)
    case hch => exact fun c hc => by obtain rfl := List.mem_singleton.mp hc; exact ⟨_, m3⟩
    case hfr => exact fun p hp => .inl ((List.mem_cons.mp hp).elim (fun e => ⟨_, m3, by rw [e]⟩) fun hp => ⟨p, (mem_del.mp hp).1, rfl⟩)
set_option maxHeartbeats 4000000 in
theorem c_extN : ∀ {w : World} {kn : Led} {u : Addr}, Con w (.ref 157) [.ref u, .none] 10 100 kn (fun _ r => r = .none) := by
  have hon : HKon := trivial
  intro w kn u
  refine Con.openG (hkO (no_implicit_lambda% ((?hopq : HTO _) _ _ _ _ _ _ _ _ _ _ _ _ _ _ _)))
  intros s dp un gd t1 t2 t3 base g outs loose mean mg mb Z
  refine ConG.mk ?_
  intro R ret hd hu
  k_extra "M body"
  intro L h₁ hL F N B X T C1 C2 C3 TK l1 l2 l3 l4
  try dsimp only
  try k_fold
  k_steps
  all_goals (k_extra "M out")
  refine' ret _ _ _ _ _ _ _ ([] ++ kn) ?X id rfl
  case X => k_extra "M fin3"
end
-- EQ0
section
open AutoSeq1 (wpAny_loadPart') in
open PySem.SeqAt PySem.MeetsSeq PySem.MeetsSeq2 PySem.MeetsSeq3 PySem.SeqRoads2 in
theorem tup3_eq {s : Shared} {A : Around} {a b : Addr} {x1 x2 x3 y1 y2 y3 : Value} {e1 e2 e3 : Bool} (ha : s.heap.get? a = some (tupO #[x1, x2, x3])) (hb : s.heap.get? b = some (tupO #[y1, y2, y3])) (hu : A.units < cLine)
    (h1 : EqAt A.in1 s x1 y1 e1) (h2 : e1 = true → EqAt A.in1 s x2 y2 e2) (h3 : e1 = true → e2 = true → EqAt A.in1 s x3 y3 e3) : RcAt A s (.ref a) (.ref b) (e1 && e2 && e3) := fun prog w E Q h => by
  refine richCompare_meets_room (op := .Eq) ⟨_, ha, rfl⟩ ⟨_, hb, rfl⟩ PySem.F.slot_tuple_eq PySem.F.entry_tuple_eq (PySem.F.args_tuple_eq_2 _ _)
    (S := fun A' R s' => A' = A ∧ s' = s ∧ R (.ok (.ret (.bool (e1 && e2 && e3)))) s') (.of_wp fun prog w A' R s' hh => ?_) ⟨rfl, rfl, (fun x => nomatch x), h⟩ hu
  obtain ⟨rfl, rfl, hR⟩ := hh
  clear h
  first | ((with_reducible rename HKon => hkm); (with_reducible refine' (_ : ShE s' _) _ _ _ _ _ rfl); intros hp g d tk os hq; subst hq) | obtain ⟨hp, g, d, tk, os⟩ := s'
  have f2 := AutoSeq1.sub_tuple_tuple
  wp_walk using wpAny_loadPart' ha, wpAny_loadPart' hb, wpAny_forIn_list _ (fun rest b s' => b.1 = none ∧ s' = ⟨hp, g, d, tk, os⟩ ∧ (rest = [(x1, y1), (x2, y2), (x3, y3)] ∨ (e1 = true ∧ rest = [(x2, y2), (x3, y3)]) ∨ (e1 = true ∧ e2 = true ∧ rest = [(x3, y3)]) ∨ (e1 = true ∧ e2 = true ∧ e3 = true ∧ rest = []))) _
  case turn =>
    rintro ⟨y, x⟩ rest b s' ⟨hb', rfl, hr⟩
    rcases hr with hr | ⟨q1, hr⟩ | ⟨q1, q2, hr⟩ | ⟨_, _, _, hr⟩
    · obtain ⟨hxy, rfl⟩ := List.cons.inj hr
      obtain ⟨rfl, rfl⟩ := Prod.mk.inj hxy
      refine wpAny_bind (h1 prog w _ _ ?_)
      cases e1 with
      | false => wp_walk; exact ⟨_, rfl, hR⟩
      | true => wp_walk; exact ⟨rfl, rfl, .inr (.inl ⟨rfl, rfl⟩)⟩
    · obtain ⟨hxy, rfl⟩ := List.cons.inj hr
      obtain ⟨rfl, rfl⟩ := Prod.mk.inj hxy
      subst q1
      refine wpAny_bind (h2 rfl prog w _ _ ?_)
      cases e2 with
      | false => wp_walk; exact ⟨_, rfl, hR⟩
      | true => wp_walk; exact ⟨rfl, rfl, .inr (.inr (.inl ⟨rfl, rfl, rfl⟩))⟩
    · obtain ⟨hxy, rfl⟩ := List.cons.inj hr
      obtain ⟨rfl, rfl⟩ := Prod.mk.inj hxy
      subst q1 q2
      refine wpAny_bind (h3 rfl rfl prog w _ _ ?_)
      cases e3 with
      | false => wp_walk; exact ⟨_, rfl, hR⟩
      | true => wp_walk; exact ⟨rfl, rfl, .inr (.inr (.inr ⟨rfl, rfl, rfl, rfl⟩))⟩
    · cases hr
  case fin =>
    rintro ⟨b1, b2⟩ s' ⟨hb', rfl, hr⟩
    simp only at hb'
    subst hb'
    rcases hr with hr | ⟨_, hr⟩ | ⟨_, _, hr⟩ | ⟨rfl, rfl, rfl, _⟩
    · cases hr
    · cases hr
    · cases hr
    · wp_walk
      exact ⟨_, rfl, hR⟩
  case h => exact ⟨rfl, rfl, .inl rfl⟩
end
-- EQ1
section
section
variable {prog : Program} {w : World} {A : Around} {E : Value → Shared → Prop}
open AutoSeq1 (wpAny_loadPart') in
open PySem.SeqAt PySem.MeetsSeq PySem.MeetsSeq2 PySem.MeetsSeq3 PySem.SeqRoads2 in
set_option maxHeartbeats 2000000 in
theorem eq_loopI : ∀ {prog : Program} {w : World} {A : Around} {l b : Addr} {items items2 : Array Value} {n n2 : Nat} {R : Result → Shared → Prop} (hsz : items.size = items2.size) (I : Nat → Shared → Prop) (hl : ∀ i s, I i s → s.heap.get? l = some (W.listOf items n)) (hb : ∀ i s, I i s → s.heap.get? b = some (W.listOf items2 n2)) (step : ∀ i s x y, items[i]? = some x → items2[i]? = some y → I i s → wpAny (model prog w) A.in1 (eqBool x y) (fun r s' => if r = true then I (i + 1) s' else (s'.heap.get? l = some (W.listOf items n) ∧ s'.heap.get? b = some (W.listOf items2 n2) ∧ R (.ok (.ret (.bool false))) s')) (fun e s' => R (.error e) s') s) (done : ∀ s, I items.size s → R (.ok (.ret (.bool true))) s),
    ∀ (k i : Nat) (s : Shared), items.size - i = k → i ≤ items.size → I i s → wpAny (model prog w) A.in1 (Builtin.«list.__eq__.loop» ⟨[.ref l, .ref b, rawInt i, rawInt 2], []⟩)
      (fun fin s' => match fin with | .done f => R (.ok f) s' | .again c' => c'.quiet = true ∧ codeAny (model prog w) A c' R s') (fun e s' => R (.error e) s') s := by
  have hon : HKon := trivial
  intro prog w A l b items items2 n n2 R hsz I hl hb step done
  intro k
  induction k with
  | zero =>
    intro i s hk hi hI
    obtain rfl : i = items.size := by omega
    have e1 := hl _ _ hI
    have e2 := hb _ _ hI
    have hd := done s hI
    first | ((with_reducible rename HKon => hkm); (with_reducible refine' (_ : ShE s _) _ _ _ _ _ rfl); intros hp g d tk os hq; subst hq) | obtain ⟨hp, g, d, tk, os⟩ := s
    wp_walk using wpAny_loadPart' e1, wpAny_loadPart' e2
    have hi1 : items[((items.size : Nat) : Int).toNat]? = none := by simp
    have hi2 : items2[((items.size : Nat) : Int).toNat]? = none := by simp; omega
    rw [hi1, hi2]
    wp_walk using wpAny_loadPart' e1, wpAny_loadPart' e2
    show R (.ok (.ret (.bool (items.size == items2.size)))) _
    rw [hsz]
    simpa using hd
  | succ k ih =>
    intro i s hk hi hI
    have hlt : i < items.size := by omega
    have hlt2 : i < items2.size := by omega
    have e1 := hl _ _ hI
    have e2 := hb _ _ hI
    have st := step i s items[i] items2[i] (by simp [hlt]) (by simp [hlt2]) hI
    first | ((with_reducible rename HKon => hkm); (with_reducible refine' (_ : ShE s _) _ _ _ _ _ rfl); intros hp g d tk os hq; subst hq) | obtain ⟨hp, g, d, tk, os⟩ := s
    wp_walk using wpAny_loadPart' e1, wpAny_loadPart' e2
    have hi1 : items[((i : Nat) : Int).toNat]? = some items[i] := by simp [hlt]
    have hi2 : items2[((i : Nat) : Int).toNat]? = some items2[i] := by simp [hlt2]
    have hc : ((i : Int) + 1) = ((i + 1 : Nat) : Int) := by push_cast; rfl
    rw [hi1, hi2]
    refine wpAny_bind (wpAny_mono st ?_ fun _ _ e => e)
    intro r s' hr
    cases r with
    | true =>
      simp only [if_true] at hr ⊢
      wp_walk
      rw [hc]
      exact ⟨plainId_quiet plain_eq_loop _, codeAny_builtin entry_eq_loop (by
        rw [Around.under_plainId plain_eq_loop _]
        exact ih (i + 1) s' (by omega) (by omega) hr)⟩
    | false =>
      simp only [Bool.false_eq_true, if_false] at hr ⊢
      obtain ⟨e3, e4, hR⟩ := hr
      obtain ⟨hp', g', d', tk', os'⟩ := s'
      wp_walk using wpAny_loadPart' e3, wpAny_loadPart' e4
      rw [hi1, hi2]
      wp_walk
      exact hR
open AutoSeq1 (wpAny_loadPart') in
open PySem.SeqAt PySem.MeetsSeq PySem.MeetsSeq2 PySem.MeetsSeq3 PySem.SeqRoads2 in
set_option maxHeartbeats 2000000 in
theorem eq_listI : ∀ {prog : Program} {w : World} {A : Around} {E : Value → Shared → Prop} {s : Shared} {l b : Addr} {items items2 : Array Value} {n n2 : Nat} {Q : Value → Shared → Prop} (hu : A.units < cLine) (I : Nat → Shared → Prop) (h0 : s.heap.get? l = some (W.listOf items n)) (h0' : s.heap.get? b = some (W.listOf items2 n2)) (hne : items.size ≠ items2.size → Q (.bool false) s) (hI : items.size = items2.size → I 0 s) (hl : ∀ i s, I i s → s.heap.get? l = some (W.listOf items n)) (hb : ∀ i s, I i s → s.heap.get? b = some (W.listOf items2 n2)) (step : ∀ i s x y, items[i]? = some x → items2[i]? = some y → I i s → wpAny (model prog w) A.in1 (eqBool x y) (fun r s' => if r = true then I (i + 1) s' else (s'.heap.get? l = some (W.listOf items n) ∧ s'.heap.get? b = some (W.listOf items2 n2) ∧ Q (.bool false) s')) E s) (done : ∀ s, I items.size s → Q (.bool true) s), wpAny (model prog w) A (compareOp .Eq (.ref l) (.ref b)) Q E s := by
  have hon : HKon := trivial
  intro prog w A E s l b items items2 n n2 Q hu I h0 h0' hne hI hl hb step done
  refine wpAny_richCompare_same_room (op := .Eq) ⟨_, h0, rfl⟩ ⟨_, h0', rfl⟩ PySem.F.slot_list_eq ?_ hu
  refine wpAny_call (codeAny_call_builtin PySem.F.slot_list_eq.plain PySem.F.entry_list_eq (PySem.F.slot_list_eq.check _ _ _ _ _ _ _ _ ⟨_, h0, rfl⟩ (PySem.F.args_list_eq_2 _ _) ?_))
  have f3 := AutoSeq1.sub_list_list
  by_cases hsz : items.size = items2.size
  · have lp := eq_loopI (prog := prog) (w := w) (A := A) (l := l) (b := b) (items := items) (items2 := items2) (n := n) (n2 := n2) (R := fun r s' => match r with | .ok (.ret v) => v ≠ .notImplemented ∧ Q v s' | .ok _ => False | .error e => E e s') hsz I hl hb
      (fun i s x y hx hy hI => wpAny_mono (step i s x y hx hy hI) (fun r s' hr => by cases r with
        | true => exact hr
        | false => exact ⟨hr.1, hr.2.1, (fun x => nomatch x), hr.2.2⟩) fun _ _ e => e) (fun s hs => ⟨(fun x => nomatch x), done s hs⟩) _ 0 s rfl (Nat.zero_le _) (hI hsz)
    have hne' : ¬ (items.size != items2.size) = true := by simp [hsz]
    first | ((with_reducible rename HKon => hkm); (with_reducible refine' (_ : ShE s _) _ _ _ _ _ rfl); intros hp g d tk os hq; subst hq) | obtain ⟨hp, g, d, tk, os⟩ := s
    wp_walk using wpAny_loadPart' h0, wpAny_loadPart' h0'
    exact ⟨plainId_quiet plain_eq_loop _, codeAny_builtin entry_eq_loop (by
      rw [Around.under_plainId plain_eq_loop _]
      exact lp)⟩
  · have hne' : (items.size != items2.size) = true := by simp [hsz]
    have hq := hne hsz
    first | ((with_reducible rename HKon => hkm); (with_reducible refine' (_ : ShE s _) _ _ _ _ _ rfl); intros hp g d tk os hq; subst hq) | obtain ⟨hp, g, d, tk, os⟩ := s
    wp_walk using wpAny_loadPart' h0, wpAny_loadPart' h0'
    exact ⟨(fun x => nomatch x), hq⟩
end
end
-- EQ2
section
noncomputable def WfF : Nat → Fld → Prop
  | _, .int _ w _ => w = 0 ∨ w = 1 ∨ w = 5
  | _, .byt _ _ => True
  | 0, .grp _ _ => False
  | k + 1, .grp _ fs => fs.length ≤ 2 ∧ ∀ f ∈ fs, WfF k f
theorem All2.left {α β : Type} {R : α → β → Prop} {P : α → Prop} (h : ∀ a b, R a b → P a) {as : List α} {bs : List β} (x : All2 R as bs) : ∀ a ∈ as, P a := by
  induction x with
  | nil => intro a ha; simp at ha
  | cons r _ ih => intro a ha; rcases List.mem_cons.mp ha with rfl | ha; exact h _ _ r; exact ih a ha
theorem EncR.wf : ∀ {k : Nat} {f : Fld} {bs : List UInt8}, EncR k f bs → WfF k f
  | k, .int n w v, bs, h => by
    obtain ⟨_, _, ⟨e, _⟩ | ⟨_, e, _⟩ | ⟨_, e, _⟩⟩ := EncR_int h
    · cases k <;> (unfold WfF; exact .inl e)
    · cases k <;> (unfold WfF; exact .inr (.inl e))
    · cases k <;> (unfold WfF; exact .inr (.inr e))
  | k, .byt n b, bs, h => by cases k <;> (unfold WfF; trivial)
  | 0, .grp n fs, bs, h => by unfold EncR at h; exact h.elim
  | k + 1, .grp n fs, bs, h => by
    unfold EncR at h
    obtain ⟨_, _, hl, parts, hps, _⟩ := h
    unfold WfF
    exact ⟨hl, hps.left fun f b hf => EncR.wf hf⟩
noncomputable def dfl : Fld := .int 0 0 0
noncomputable def sortF (fs : List Fld) : List Fld := sortL (fs.map Fld.num) fs dfl
theorem sortF_length {fs : List Fld} : (sortF fs).length = fs.length := by unfold sortF; rw [sortL_length, List.length_map]
theorem sortL_mem {α : Type} {kz : List Int} {xs : List α} {d : α} (h : kz.length = xs.length) : ∀ x ∈ sortL kz xs d, x ∈ xs := by
  intro x hx
  unfold sortL at hx
  obtain ⟨i, hi, rfl⟩ := List.mem_map.mp hx
  have := permOf_lt i hi
  rw [h] at this
  simp [List.getD_eq_getElem?_getD, List.getElem?_eq_getElem this]
theorem sortF_mem {fs : List Fld} : ∀ f ∈ sortF fs, f ∈ fs := sortL_mem (by simp)
noncomputable def allEq (e : Fld → Fld → Bool) : List Fld → List Fld → Bool
  | [], [] => true
  | f :: fs, g :: gs => e f g && allEq e fs gs
  | _, _ => false
noncomputable def datEq (r : List Fld → List Fld → Bool) : Fld → Fld → Bool
  | .int _ _ v, .int _ _ v' => v == v'
  | .byt _ b, .byt _ b' => b == b'
  | .grp _ fs, .grp _ gs => r fs gs
  | _, _ => false
noncomputable def eqF : Nat → Fld → Fld → Bool
  | 0 => fun f g => f.num == g.num && f.wire == g.wire && datEq (fun _ _ => false) f g
  | k + 1 => fun f g => f.num == g.num && f.wire == g.wire && datEq (fun fs gs => allEq (eqF k) (sortF fs) (sortF gs)) f g
noncomputable def eqS (k : Nat) (fs gs : List Fld) : Bool := allEq (eqF k) (sortF fs) (sortF gs)
noncomputable def seqF : Nat → Fld → Fld → Bool
  | 0 => fun f g => f.num == g.num && f.wire == g.wire && datEq (fun _ _ => false) f g
  | k + 1 => fun f g => f.num == g.num && f.wire == g.wire && datEq (fun fs gs => allEq (seqF k) fs gs) f g
noncomputable def normF : Nat → Fld → Fld
  | k + 1, .grp n fs => .grp n ((sortF fs).map (normF k))
  | _, f => f
noncomputable def normS (k : Nat) (fs : List Fld) : List Fld := (sortF fs).map (normF k)
theorem normF_num (k : Nat) (f : Fld) : (normF k f).num = f.num ∧ (normF k f).wire = f.wire := by
  cases k <;> cases f <;> exact ⟨rfl, rfl⟩
theorem allEq_map {e e' : Fld → Fld → Bool} {p : Fld → Fld} (h : ∀ f g, e (p f) (p g) = e' f g) : ∀ fs gs, allEq e (fs.map p) (gs.map p) = allEq e' fs gs
  | [], [] => rfl
  | [], _ :: _ => rfl
  | _ :: _, [] => rfl
  | f :: fs, g :: gs => by simp only [List.map_cons, allEq, h f g, allEq_map h fs gs]
theorem eq_norm : ∀ (k : Nat) (f g : Fld), seqF k (normF k f) (normF k g) = eqF k f g
  | 0, f, g => by cases f <;> cases g <;> rfl
  | k + 1, f, g => by
    have ih : ∀ fs gs, allEq (seqF k) ((sortF fs).map (normF k)) ((sortF gs).map (normF k)) = allEq (eqF k) (sortF fs) (sortF gs) := fun fs gs => allEq_map (eq_norm k) _ _
    cases f <;> cases g <;> first | rfl | (simp only [normF, seqF, eqF, datEq, ih]; rfl)
theorem eqS_norm (k : Nat) (fs gs : List Fld) : allEq (seqF k) (normS k fs) (normS k gs) = eqS k fs gs := allEq_map (eq_norm k) _ _
theorem allEq_refl {e : Fld → Fld → Bool} : ∀ fs : List Fld, (∀ f ∈ fs, e f f = true) → allEq e fs fs = true
  | [], _ => rfl
  | f :: fs, h => by simp only [allEq, h f (.head _), allEq_refl fs fun g hg => h g (.tail _ hg), Bool.and_self]
theorem eqF_refl : ∀ (k : Nat) (f : Fld), WfF k f → eqF k f f = true
  | 0, .int .., _ => by simp [eqF, datEq]
  | 0, .byt .., _ => by simp [eqF, datEq]
  | 0, .grp .., h => by unfold WfF at h; exact h.elim
  | k + 1, .int .., _ => by simp [eqF, datEq]
  | k + 1, .byt .., _ => by simp [eqF, datEq]
  | k + 1, .grp n fs, h => by
    unfold WfF at h
    have : allEq (eqF k) (sortF fs) (sortF fs) = true := allEq_refl _ fun f hf => eqF_refl k f (h.2 f (sortF_mem f hf))
    simp [eqF, datEq, this]
theorem eqS_refl {k : Nat} {fs : List Fld} (h : ∀ f ∈ fs, WfF k f) : eqS k fs fs = true := allEq_refl _ fun f hf => eqF_refl k f (h f (sortF_mem f hf))
theorem allEq_len {e : Fld → Fld → Bool} : ∀ {fs gs : List Fld}, fs.length ≠ gs.length → allEq e fs gs = false
  | [], [], h => by simp at h
  | [], _ :: _, _ => rfl
  | _ :: _, [], _ => rfl
  | f :: fs, g :: gs, h => by simp only [allEq, allEq_len (fs := fs) (gs := gs) (by simpa using h), Bool.and_false]
noncomputable def upto (e : Fld → Fld → Bool) (fs gs : List Fld) (i : Nat) : Prop := ∀ j f g, j < i → fs[j]? = some f → gs[j]? = some g → e f g = true
theorem allEq_no {e : Fld → Fld → Bool} : ∀ {fs gs : List Fld} {i : Nat} {f g : Fld}, fs[i]? = some f → gs[i]? = some g → e f g = false → allEq e fs gs = false
  | f' :: fs, g' :: gs, 0, f, g, h1, h2, h => by simp at h1 h2; subst h1 h2; simp [allEq, h]
  | f' :: fs, g' :: gs, i + 1, f, g, h1, h2, h => by simp only [allEq, allEq_no (fs := fs) (gs := gs) (by simpa using h1) (by simpa using h2) h, Bool.and_false]
  | [], _, _, _, _, h1, _, _ => by simp at h1
  | _ :: _, [], _, _, _, _, h2, _ => by simp at h2
theorem allEq_yes {e : Fld → Fld → Bool} : ∀ {fs gs : List Fld}, fs.length = gs.length → upto e fs gs fs.length → allEq e fs gs = true
  | [], [], _, _ => rfl
  | [], _ :: _, h, _ => by simp at h
  | _ :: _, [], h, _ => by simp at h
  | f :: fs, g :: gs, h, u => by
    simp only [allEq, u 0 f g (by simp) rfl rfl, Bool.true_and]
    exact allEq_yes (by simpa using h) fun j f' g' hj h1 h2 => u (j + 1) f' g' (by simpa using hj) (by simpa using h1) (by simpa using h2)
theorem upto.step {e : Fld → Fld → Bool} {fs gs : List Fld} {i : Nat} {f g : Fld} (u : upto e fs gs i) (h1 : fs[i]? = some f) (h2 : gs[i]? = some g) (h : e f g = true) : upto e fs gs (i + 1) := fun j f' g' hj a b => by
  by_cases hi : j < i
  · exact u j f' g' hi a b
  · obtain rfl : j = i := by omega
    rw [h1] at a; rw [h2] at b; cases a; cases b; exact h
theorem sort_all2 {α : Type} {R : α → Fld → Prop} {vs : List α} {fs : List Fld} {kz : List Int} {d : α} {d' : Fld} (h : All2 R vs fs) (hk : kz.length = fs.length) : All2 R (sortL kz vs d) (sortL kz fs d') := by
  have key : ∀ l : List Nat, (∀ i ∈ l, i < fs.length) → All2 R (l.map fun i => vs.getD i d) (l.map fun i => fs.getD i d') := by
    intro l
    induction l with
    | nil => intro _; exact .nil
    | cons i l ih =>
      intro hl
      have hi := hl i (.head _)
      have hv : i < vs.length := by rw [h.length]; exact hi
      refine .cons ?_ (ih fun j hj => hl j (.tail _ hj))
      have := h.at (i := i) (List.getElem?_eq_getElem hv) (List.getElem?_eq_getElem hi)
      simpa [List.getD_eq_getElem?_getD, List.getElem?_eq_getElem hv, List.getElem?_eq_getElem hi] using this
  exact key _ fun i hi => hk ▸ permOf_lt i hi
end
-- EQ3
section
noncomputable def FunL (kn : Led) : Prop := ∀ p ∈ kn, ∀ q ∈ kn, p.1 = q.1 → p.2 = q.2
theorem FunL.at {kn : Led} (h : FunL kn) {a : Addr} {o o' : Obj} (h1 : (a, o) ∈ kn) (h2 : (a, o') ∈ kn) : o = o' := h _ h1 _ h2 rfl
noncomputable def valsOf (o : Obj) : List Value := match o.data with
  | .dict es _ => es.toList.map DictEntry.val
  | .seq vs _ => vs.toList
  | _ => []
theorem FieldTop.same {kn : Led} (F : FunL kn) {a : Addr} {n w n' w' : Int} {d d' : Value} (x : FieldTop kn a n w d) (y : FieldTop kn a n' w' d') : n = n' ∧ w = w' ∧ d = d' := by
  obtain ⟨df, _, _, _, _, _, _, _, _, _, a1, a2⟩ := x
  obtain ⟨df', _, _, _, _, _, _, _, _, _, b1, b2⟩ := y
  have e := F.at a1 b1
  obtain rfl : df = df' := by injection e with _ e2 _ _; exact Option.some.inj e2
  have e4 := congrArg valsOf (F.at a2 b2)
  simp [valsOf, dictOf] at e4
  obtain ⟨⟨q1, _⟩, ⟨q2, _⟩, q3⟩ := e4
  exact ⟨q1, q2, q3⟩
theorem SetTop.same {kn : Led} (F : FunL kn) {u l l' : Addr} {vs vs' : List Value} (x : SetTop kn u l vs) (y : SetTop kn u l' vs') : l = l' ∧ vs = vs' := by
  obtain ⟨du, _, _, _, _, a1, a2, a3⟩ := x
  obtain ⟨du', _, _, _, _, b1, b2, b3⟩ := y
  have e := F.at a1 b1
  obtain rfl : du = du' := by injection e with _ e2 _ _; exact Option.some.inj e2
  have e4 := congrArg valsOf (F.at a2 b2)
  simp [valsOf, dictOf] at e4
  subst e4
  have e5 := congrArg valsOf (F.at a3 b3)
  exact ⟨rfl, by simpa [valsOf, W.listOf] using e5⟩
theorem DataR_grp {kn : Led} {k : Nat} {d : Value} {n : Int} {fs : List Fld} (h : DataR kn k d (.grp n fs)) : ∃ k', k = k' + 1 ∧ fs.length ≤ 2 ∧ ∃ u, d = .ref u ∧ SetR kn k' u fs := by
  cases k with
  | zero => unfold DataR at h; exact h.elim
  | succ k => unfold DataR at h; obtain ⟨a, u, l, vs, b, c, e⟩ := h; exact ⟨k, rfl, a, u, b, l, vs, c, e⟩
theorem SayR_grpD {kn : Led} {k : Nat} {d : Value} {n : Int} {fs : List Fld} (h : SayR kn k d (.grp n fs)) : ∃ k', k = k' + 1 ∧ fs.length ≤ 2 ∧ ∃ l, d = .ref l ∧ RowR kn k' l fs := by
  cases k with
  | zero => unfold SayR at h; exact h.elim
  | succ k => unfold SayR at h; obtain ⟨a, l, vs, nn, b, c, e⟩ := h; exact ⟨k, rfl, a, l, b, vs, nn, c, e⟩
theorem all2_nums {kn : Led} (F : FunL kn) {k : Nat} {vs : List Value} {fs : List Fld} (x : All2 (FieldR kn k) vs fs) : ∀ {gs : List Fld}, All2 (FieldR kn k) vs gs → fs.map Fld.num = gs.map Fld.num := by
  induction x with
  | nil => intro gs y; cases y; rfl
  | cons r _ ih =>
    intro gs y
    cases y with
    | cons r' y =>
      obtain ⟨a, e, h1, h2, _⟩ := r
      obtain ⟨a', e', h1', h2', _⟩ := r'
      rw [h1] at h1'
      cases h1'
      rw [List.map_cons, List.map_cons, (h2.same F h2').1, ih y]
theorem all2_upto {α : Type} {R : α → Fld → Prop} {e : Fld → Fld → Bool} (h : ∀ v f g, R v f → R v g → e f g = true) {vs : List α} {fs gs : List Fld} (x : All2 R vs fs) (y : All2 R vs gs) : allEq e fs gs = true :=
  allEq_yes (by rw [← x.length, ← y.length]) fun j f g hj h1 h2 => by
    have hv : j < vs.length := by rw [x.length]; exact hj
    exact h _ f g (x.at (List.getElem?_eq_getElem hv) h1) (y.at (List.getElem?_eq_getElem hv) h2)
noncomputable def KD (P : Nat → Addr → List Fld → Prop) (k : Nat) (d : Value) (f : Fld) : Prop :=
  (∃ n w v t, f = .int n w v ∧ d = .int v t) ∨ (∃ n b t, f = .byt n b ∧ d = .bytes b.toArray t) ∨ ∃ n fs k' u, f = .grp n fs ∧ k = k' + 1 ∧ d = .ref u ∧ P k' u fs
theorem DataR.kd {kn : Led} {k : Nat} {d : Value} : ∀ {f : Fld}, DataR kn k d f → KD (SetR kn) k d f
  | .int .., h => let ⟨_, t, e⟩ := DataR_int h; .inl ⟨_, _, _, t, rfl, e⟩
  | .byt .., h => let ⟨t, e⟩ := DataR_byt h; .inr (.inl ⟨_, _, t, rfl, e⟩)
  | .grp .., h => let ⟨k', e, _, u, d, s⟩ := DataR_grp h; .inr (.inr ⟨_, _, k', u, rfl, e, d, s⟩)
theorem SayR.kd {kn : Led} {k : Nat} {d : Value} : ∀ {f : Fld}, SayR kn k d f → KD (RowR kn) k d f
  | .int .., h => let ⟨_, t, e⟩ := SayR_intD h; .inl ⟨_, _, _, t, rfl, e⟩
  | .byt .., h => let ⟨t, e⟩ := SayR_bytD h; .inr (.inl ⟨_, _, t, rfl, e⟩)
  | .grp .., h => let ⟨k', e, _, u, d, s⟩ := SayR_grpD h; .inr (.inr ⟨_, _, k', u, rfl, e, d, s⟩)
theorem KD.same {P : Nat → Addr → List Fld → Prop} {k : Nat} {d : Value} {f g : Fld} {r : List Fld → List Fld → Bool} (x : KD P k d f) (y : KD P k d g) (hr : ∀ k' u fs gs, k = k' + 1 → P k' u fs → P k' u gs → r fs gs = true) : datEq r f g = true := by
  rcases x with ⟨n, w, v, t, ef, ed⟩ | ⟨n, b, t, ef, ed⟩ | ⟨n, fs, k', u, ef, ek, ed, hp⟩
  · rcases y with ⟨n', w', v', t', eg, ed'⟩ | ⟨n', b', t', eg, ed'⟩ | ⟨n', fs', k1, u', eg, ek', ed', hp'⟩
    · rw [ef, eg, (Value.int.inj (ed.symm.trans ed')).1]; exact beq_self_eq_true v'
    · exact nomatch ed.symm.trans ed'
    · exact nomatch ed.symm.trans ed'
  · rcases y with ⟨n', w', v', t', eg, ed'⟩ | ⟨n', b', t', eg, ed'⟩ | ⟨n', fs', k1, u', eg, ek', ed', hp'⟩
    · exact nomatch ed.symm.trans ed'
    · have e : b = b' := congrArg Array.toList (Value.bytes.inj (ed.symm.trans ed')).1
      rw [ef, eg, e]; exact beq_self_eq_true b'
    · exact nomatch ed.symm.trans ed'
  · rcases y with ⟨n', w', v', t', eg, ed'⟩ | ⟨n', b', t', eg, ed'⟩ | ⟨n', fs', k1, u', eg, ek', ed', hp'⟩
    · exact nomatch ed.symm.trans ed'
    · exact nomatch ed.symm.trans ed'
    · rw [ef, eg]
      have eu := Value.ref.inj (ed.symm.trans ed')
      have e1 := Nat.succ.inj (ek.symm.trans ek')
      exact hr k' u fs fs' ek hp (eu ▸ e1 ▸ hp')
theorem eqF_eq (k : Nat) (f g : Fld) : eqF k f g = (f.num == g.num && f.wire == g.wire && datEq (match k with | 0 => fun _ _ => false | k + 1 => fun fs gs => eqS k fs gs) f g) := by cases k <;> rfl
theorem seqF_eq (k : Nat) (f g : Fld) : seqF k f g = (f.num == g.num && f.wire == g.wire && datEq (match k with | 0 => fun _ _ => false | k + 1 => fun fs gs => allEq (seqF k) fs gs) f g) := by cases k <;> rfl
theorem set_of {kn : Led} (F : FunL kn) {k : Nat} (H : ∀ v f g, FieldR kn k v f → FieldR kn k v g → eqF k f g = true) (u : Addr) (fs gs : List Fld) (x : SetR kn k u fs) (y : SetR kn k u gs) : eqS k fs gs = true := by
  obtain ⟨l, vs, hst, hall⟩ := x
  obtain ⟨l', vs', hst', hall'⟩ := y
  have e := (hst.same F hst').2
  subst e
  have en := all2_nums F hall hall'
  unfold eqS sortF
  rw [← en]
  exact all2_upto H (sort_all2 (d := .none) hall (by simp)) (sort_all2 (d := .none) hall' (by rw [en]; simp))
theorem field_sameS {kn : Led} (F : FunL kn) {k : Nat} (IH : ∀ k', k = k' + 1 → ∀ u fs gs, SetR kn k' u fs → SetR kn k' u gs → eqS k' fs gs = true) (v : Value) (f g : Fld) (x : FieldR kn k v f) (y : FieldR kn k v g) : eqF k f g = true := by
  obtain ⟨a, e, h1, h2, h3⟩ := x
  obtain ⟨a', e', h1', h2', h3'⟩ := y
  have ea := Value.ref.inj (h1.symm.trans h1')
  subst ea
  obtain ⟨q1, q2, q3⟩ := h2.same F h2'
  subst q3
  rw [eqF_eq, q1, q2, beq_self_eq_true, beq_self_eq_true, Bool.true_and, Bool.true_and]
  exact h3.kd.same h3'.kd fun k' u fs gs ek x y => by subst ek; exact IH k' rfl u fs gs x y
theorem field_same {kn : Led} (F : FunL kn) (k : Nat) : ∀ (v : Value) (f g : Fld), FieldR kn k v f → FieldR kn k v g → eqF k f g = true := by
  induction k with
  | zero => exact field_sameS F fun _ e => nomatch e
  | succ k ih => exact field_sameS F fun k' e => Nat.succ.inj e ▸ set_of F ih
theorem set_same {kn : Led} (F : FunL kn) {k : Nat} {u : Addr} {fs gs : List Fld} (x : SetR kn k u fs) (y : SetR kn k u gs) : eqS k fs gs = true := set_of F (field_same F k) u fs gs x y
theorem row_of {kn : Led} (F : FunL kn) {k : Nat} (H : ∀ v f g, SaidR kn k v f → SaidR kn k v g → seqF k f g = true) (l : Addr) (fs gs : List Fld) (x : RowR kn k l fs) (y : RowR kn k l gs) : allEq (seqF k) fs gs = true := by
  obtain ⟨vs, nn, hm, hall⟩ := x
  obtain ⟨vs', nn', hm', hall'⟩ := y
  have e7 : vs = vs' := by simpa [valsOf, W.listOf] using congrArg valsOf (F.at hm hm')
  subst e7
  exact all2_upto H hall hall'
theorem said_sameS {kn : Led} (F : FunL kn) {k : Nat} (IH : ∀ k', k = k' + 1 → ∀ l fs gs, RowR kn k' l fs → RowR kn k' l gs → allEq (seqF k') fs gs = true) (v : Value) (f g : Fld) (x : SaidR kn k v f) (y : SaidR kn k v g) : seqF k f g = true := by
  obtain ⟨a, e, t1, t2, h1, h2, h3⟩ := x
  obtain ⟨a', e', t1', t2', h1', h2', h3'⟩ := y
  have ea := Value.ref.inj (h1.symm.trans h1')
  subst ea
  have e7 := congrArg valsOf (F.at h2 h2')
  simp [valsOf] at e7
  obtain ⟨⟨q1, _⟩, ⟨q2, _⟩, q3⟩ := e7
  subst q3
  rw [seqF_eq, q1, q2, beq_self_eq_true, beq_self_eq_true, Bool.true_and, Bool.true_and]
  exact h3.kd.same h3'.kd fun k' u fs gs ek x y => by subst ek; exact IH k' rfl u fs gs x y
theorem said_same {kn : Led} (F : FunL kn) (k : Nat) : ∀ (v : Value) (f g : Fld), SaidR kn k v f → SaidR kn k v g → seqF k f g = true := by
  induction k with
  | zero => exact said_sameS F fun _ e => nomatch e
  | succ k ih => exact said_sameS F fun k' e => Nat.succ.inj e ▸ row_of F ih
theorem row_same {kn : Led} (F : FunL kn) {k : Nat} {l : Addr} {fs gs : List Fld} (x : RowR kn k l fs) (y : RowR kn k l gs) : allEq (seqF k) fs gs = true := row_of F (said_same F k) l fs gs x y
theorem WfF.wire {k : Nat} : ∀ {f : Fld}, WfF k f → (∃ n w v, f = .int n w v ∧ w ≠ 2 ∧ w ≠ 3) ∨ (∃ n b, f = .byt n b) ∨ ∃ k' n fs, k = k' + 1 ∧ f = .grp n fs
  | .int .., h => .inl ⟨_, _, _, rfl, by cases k <;> (unfold WfF at h; omega)⟩
  | .byt .., _ => .inr (.inl ⟨_, _, rfl⟩)
  | .grp .., h => .inr (.inr (by
    cases k with
    | zero => unfold WfF at h; exact h.elim
    | succ k => exact ⟨k, _, _, rfl, rfl⟩))
theorem same_kind {k : Nat} {f g : Fld} (wf : WfF k f) (wg : WfF k g) (h : (f.wire == g.wire) = true) :
    (∃ n w v n' w' v', f = .int n w v ∧ g = .int n' w' v') ∨ (∃ n b n' b', f = .byt n b ∧ g = .byt n' b') ∨ ∃ k' n fs n' gs, k = k' + 1 ∧ f = .grp n fs ∧ g = .grp n' gs := by
  have hw : f.wire = g.wire := by simpa using h
  rcases wf.wire with ⟨n, w, v, ef, w2, w3⟩ | ⟨n, b, ef⟩ | ⟨k', n, fs, ek, ef⟩
  · rcases wg.wire with ⟨n', w', v', eg, u2, u3⟩ | ⟨n', b', eg⟩ | ⟨k1, n', gs, ek', eg⟩
    · exact .inl ⟨_, _, _, _, _, _, ef, eg⟩
    · rw [ef, eg] at hw; exact absurd hw w2
    · rw [ef, eg] at hw; exact absurd hw w3
  · rcases wg.wire with ⟨n', w', v', eg, u2, u3⟩ | ⟨n', b', eg⟩ | ⟨k1, n', gs, ek', eg⟩
    · rw [ef, eg] at hw; exact absurd hw.symm u2
    · exact .inr (.inl ⟨_, _, _, _, ef, eg⟩)
    · rw [ef, eg] at hw; exact absurd (show (2 : Int) = 3 from hw) (by decide)
  · rcases wg.wire with ⟨n', w', v', eg, u2, u3⟩ | ⟨n', b', eg⟩ | ⟨k1, n', gs, ek', eg⟩
    · rw [ef, eg] at hw; exact absurd hw.symm u3
    · rw [ef, eg] at hw; exact absurd (show (3 : Int) = 2 from hw) (by decide)
    · exact .inr (.inr ⟨k', _, _, _, _, ek, ef, eg⟩)
end
-- EQ4
section
open PySem.SeqAt
section
variable {A : Around} {s : Shared}
theorem eqAt_bytes (b : Array UInt8) (t : Tok) (c : Array UInt8) (u : Tok) : EqAt A s (.bytes b t) (.bytes c u) (b.toList == c.toList) := fun prog w E Q h => by
  unfold eqBool
  refine wpAny_holding ?_
  refine wpAny_ite_split (fun hab => ?_) (fun _ => ?_)
  · have := eq_of_beq hab
    injection this with e _
    subst e
    simp only [beq_self_eq_true] at h
    exact wpAny_bind (wpAny_rule (wpAny_pure h))
  · exact wpAny_bind ((PySem.W.eq_bytes (wpAny_truthy_bool h)))
end
theorem allEq_range {e : Fld → Fld → Bool} : ∀ {fs gs : List Fld} (n : Nat), n = fs.length → fs.length = gs.length → ((List.range n).all fun j => match fs[j]?, gs[j]? with | some f, some g => e f g | _, _ => true) = allEq e fs gs := by
  intro fs gs n hn hl
  subst hn
  cases h : allEq e fs gs with
  | true =>
    refine List.all_eq_true.mpr fun j hj => ?_
    have hj' := List.mem_range.mp hj
    rw [List.getElem?_eq_getElem hj', List.getElem?_eq_getElem (by omega)]
    dsimp only
    cases q : e fs[j] (gs[j]'(by omega)) with
    | true => rfl
    | false => rw [allEq_no (List.getElem?_eq_getElem hj') (List.getElem?_eq_getElem (by omega)) q] at h; cases h
  | false =>
    cases q : ((List.range fs.length).all fun j => match fs[j]?, gs[j]? with | some f, some g => e f g | _, _ => true) with
    | false => rfl
    | true =>
      have q' := List.all_eq_true.mp q
      rw [allEq_yes hl fun j f g hj h1 h2 => by
        have := q' j (List.mem_range.mpr hj)
        rw [h1, h2] at this
        exact this] at h
      cases h
theorem said_eqS : ∀ {s : Shared} {kn : Led} (N : ∀ p ∈ kn, s.heap.get? p.1 = some p.2) (F : FunL kn) {k : Nat} (IH : ∀ k', k = k' + 1 → ∀ (A : Around) (v v' : Value) (f g : Fld), SaidR kn k' v f → SaidR kn k' v' g → WfF k' f → WfF k' g → A.units + (3 * k' + 3) < cLine → EqAt A s v v' (seqF k' f g)) (A : Around) (v v' : Value) (f g : Fld) (hv : SaidR kn k v f) (hg : SaidR kn k v' g) (wf : WfF k f) (wg : WfF k g) (hu : A.units + (3 * k + 3) < cLine), EqAt A s v v' (seqF k f g) := by
  have hon : HKon := trivial
  intro s kn N F k IH A v v' f g hv hg wf wg hu
  have hv0 := hv
  have hg0 := hg
  obtain ⟨a, e, t1, t2, ev, h2, h3⟩ := hv
  obtain ⟨a', e', t1', t2', eg, h2', h3'⟩ := hg
  by_cases hab : a = a'
  · rw [ev] at hv0 ⊢
    rw [eg, ← hab] at hg0 ⊢
    rw [said_same F k _ f g hv0 hg0]
    exact EqAt.same _
  rw [ev, eg]
  clear hv0 hg0 ev eg
  refine EqAt.of_refs hab ?_
  rw [seqF_eq]
  refine tup3_eq (N _ h2) (N _ h2') (by omega) (EqAt.int_int _ _ _ _) (fun _ => EqAt.int_int _ _ _ _) ?_
  intro _ hw
  clear h2 h2'
  rcases same_kind wf wg hw with h | h | h
  · obtain ⟨_, _, _, _, _, _, rfl, rfl⟩ := h
    obtain ⟨_, t, rfl⟩ := SayR_intD h3
    obtain ⟨_, t', rfl⟩ := SayR_intD h3'
    exact EqAt.int_int _ _ _ _
  · obtain ⟨_, _, _, _, rfl, rfl⟩ := h
    obtain ⟨t, rfl⟩ := SayR_bytD h3
    obtain ⟨t', rfl⟩ := SayR_bytD h3'
    exact eqAt_bytes _ _ _ _
  · obtain ⟨k', n, fs, n', gs, rfl, rfl, rfl⟩ := h
    obtain ⟨k1, e1, _, l, rfl, vs, nn, hm, hall⟩ := SayR_grpD h3
    obtain ⟨k2, e2, _, l', rfl, vs', nn', hm', hall'⟩ := SayR_grpD h3'
    obtain rfl := Nat.succ.inj e1
    obtain rfl := Nat.succ.inj e2
    show EqAt _ _ _ _ (allEq (seqF k') fs gs)
    unfold WfF at wf wg
    by_cases hll : l = l'
    · subst hll
      rw [row_same F ⟨vs, nn, hm, hall⟩ ⟨vs', nn', hm', hall'⟩]
      exact EqAt.same _
    refine EqAt.of_refs hll ?_
    have e1 := hall.length
    have e2 := hall'.length
    have il : s.heap.IsList l vs.toArray := ⟨_, N _ hm, rfl, _, rfl⟩
    have il' : s.heap.IsList l' vs'.toArray := ⟨_, N _ hm', rfl, _, rfl⟩
    have hu1 : A.in1.units = A.units + 1 := rfl
    by_cases hlen : fs.length = gs.length
    · rw [← allEq_range vs.toArray.size (by simp; omega) hlen]
      refine RcAt.lists il il' (by simp; omega) (by omega) ?_
      intro j h1 h2
      have j1 : j < vs.length := by simpa using h1
      have j2 : j < vs'.length := by simpa using h2
      have f1 : fs[j]? = some (fs[j]'(by omega)) := List.getElem?_eq_getElem _
      have g1 : gs[j]? = some (gs[j]'(by omega)) := List.getElem?_eq_getElem _
      rw [f1, g1]
      simp only [List.getElem_toArray]
      exact IH k' rfl A.in1.in1 _ _ _ _ (hall.at (List.getElem?_eq_getElem j1) f1) (hall'.at (List.getElem?_eq_getElem j2) g1) (wf.2 _ (List.getElem_mem _)) (wg.2 _ (List.getElem_mem _)) (by show A.units + 1 + 1 + _ < cLine; omega)
    · rw [allEq_len hlen]
      exact RcAt.lists_lengths il il' (by simp; omega) (by omega)
theorem said_eqAt {s : Shared} {kn : Led} (N : ∀ p ∈ kn, s.heap.get? p.1 = some p.2) (F : FunL kn) : ∀ (k : Nat) (A : Around) (v v' : Value) (f g : Fld), SaidR kn k v f → SaidR kn k v' g → WfF k f → WfF k g → A.units + (3 * k + 3) < cLine → EqAt A s v v' (seqF k f g) := by
  intro k
  induction k with
  | zero => exact said_eqS N F fun _ e => nomatch e
  | succ k ih => exact said_eqS N F fun k' e => Nat.succ.inj e ▸ ih
theorem row_eq {prog : Program} {w : World} {A : Around} {E : Value → Shared → Prop} {s : Shared} {kn : Led} {k : Nat} {l l' : Addr} {fs gs : List Fld} {Q : Value → Shared → Prop} (N : ∀ p ∈ kn, s.heap.get? p.1 = some p.2) (x : RowR kn k l fs) (y : RowR kn k l' gs) (wf : ∀ f ∈ fs, WfF k f) (wg : ∀ f ∈ gs, WfF k f) (hu : A.units + 100 < cLine) (hk : k ≤ 10)
    (h : Q (.bool (allEq (seqF k) fs gs)) s) : wpAny (model prog w) A (compareOp .Eq (.ref l) (.ref l')) Q E s := by
  have F : FunL kn := fun p hp q hq e => by have a := N p hp; rw [e, N q hq] at a; exact (Option.some.inj a).symm
  obtain ⟨vs, nn, hm, hall⟩ := x
  obtain ⟨vs', nn', hm', hall'⟩ := y
  have e1 := hall.length
  have e2 := hall'.length
  have il : s.heap.IsList l vs.toArray := ⟨_, N _ hm, rfl, _, rfl⟩
  have il' : s.heap.IsList l' vs'.toArray := ⟨_, N _ hm', rfl, _, rfl⟩
  by_cases hlen : fs.length = gs.length
  · rw [← allEq_range vs.toArray.size (by simp; omega) hlen] at h
    refine eq_listAt il il' (by simp; omega) (by omega) (fun j h1 h2 => ?_) h
    have j1 : j < vs.length := by simpa using h1
    have j2 : j < vs'.length := by simpa using h2
    have f1 : fs[j]? = some (fs[j]'(by omega)) := List.getElem?_eq_getElem _
    have g1 : gs[j]? = some (gs[j]'(by omega)) := List.getElem?_eq_getElem _
    rw [f1, g1]
    simp only [List.getElem_toArray]
    exact said_eqAt N F k A.in1 _ _ _ _ (hall.at (List.getElem?_eq_getElem j1) f1) (hall'.at (List.getElem?_eq_getElem j2) g1) (wf _ (List.getElem_mem _)) (wg _ (List.getElem_mem _)) (by show A.units + 1 + _ < cLine; omega)
  · rw [allEq_len hlen] at h
    exact eq_list_lengthsAt il il' (by simp; omega) (by omega) h
end
-- LS0
section
set_option maxHeartbeats 4000000 in
theorem c_num : ∀ {w : World} {kn : Led} {t : Addr} {n : Int} {t1 : Tok} {a b : Value} (hm : (t, tupO #[.int n t1, a, b]) ∈ kn), Con0 w (.ref 348) [.ref t] 10 100 kn (fun r => r = .int n t1) := by
  have hon : HKon := trivial
  intro w kn t n t1 a b hm
  refine Con0.openG (hkO (no_implicit_lambda% ((?hopq : HTO _) _ _ _ _ _ _ _ _ _ _ _ _ _ _ _)))
  intros s dp un gd t1 t2 t3 base g outs loose mean mg mb Z
  refine Con0G.mk ?_
  intro R ret hd hu
  k_extra "M body"
  intro L h₁ hL F N B X T C1 C2 C3 TK l1 l2 l3 l4
  try dsimp only
  try k_fold
  k_steps
  all_goals (k_extra "M out")
  refine ret _ _ _ (same_end R hL (by assumption) (by assumption) (fun _ h => h)) rfl
end
-- LS1
section
theorem kwLS10 : True := by
  (k_with "call builtin:sorted" => (k_here; refine HoldW.out ?_))
  (k_with "newTuple" => (k_here; (with_reducible rename StopS => sthold); refine HoldW.out ?_))
  (k_with "call ref" => (k_here; (with_reducible rename StopS => sthold); k_dflt (show wpAny _ _ (call (Value.ref 353) [Value.ref _]) _ _ _); refine HoldW.out ?_))
  trivial
theorem TurnP.tup {s s0 : Shared} {h0 h : Heap} {led : Led} {J : Led → Prop} {t1 t2 t3 : Array Value} {led' : Led} {vs : Array Value} {gs : Array GenState} (hs0 : s0.heap = h0) (k : Keep3 h0 h) (hz : h0.objs.size ≤ h.objs.size) (hg : AllBare s0.gens → AllBare gs) (hn : ∀ p ∈ tabs t1 t2 t3 ++ led', h.get? p.1 = some p.2)
    (tok : TabOk t1 t2 t3 led') (hf : ∀ p ∈ led', p ∈ led ∨ h0.get? p.1 = none) (hJ : J ((h.objs.size, tupO vs) :: led')) (hd : s.drawn = s0.drawn) (ho : s.os = s0.os) (hsh : s.heap = h.push (tupO vs)) (hsg : s.gens = gs) : TurnP s0 led J s := by
  have kp : ∀ b o, h.get? b = some o → (h.push (tupO vs)).get? b = some o := fun b o e => Heap.get?_push_of_some _ e
  have hT : (h.push (tupO vs)).get? h.objs.size = some (tupO vs) := Heap.get?_push_size _ rfl
  have lt : ∀ p ∈ tabs t1 t2 t3 ++ led', p.1 < h.objs.size := fun p hp => Heap.lt_size (hn p hp)
  refine ⟨h.push (tupO vs), s.toks, gs, t1, t2, t3, (h.objs.size, tupO vs) :: led', ?_, fun b o e a c d => ?_, ?_, hg, fun p hp => ?_, tok.cons ⟨Nat.ne_of_gt (lt (266, tabObj t1) (by simp)), Nat.ne_of_gt (lt (280, tabObj t2) (by simp)), Nat.ne_of_gt (lt (159, tabObj t3) (by simp))⟩, fun p hp => ?_, hJ⟩
  · obtain ⟨a, b, c, d, e⟩ := s
    dsimp only at hsh hsg hd ho ⊢
    subst hsh hsg hd ho
    rfl
  · rw [hs0] at e
    exact kp _ _ (k b o e a c d)
  · rw [hs0, Heap.size_push]
    exact Nat.le_succ_of_le hz
  · have : p ∈ tabs t1 t2 t3 ++ led' ∨ p = (h.objs.size, tupO vs) := by
      simp only [List.mem_append, List.mem_cons] at hp ⊢
      grind
    rcases this with hp | rfl
    · exact kp _ _ (hn p hp)
    · exact hT
  · rw [hs0]
    rcases List.mem_cons.mp hp with rfl | hp
    · exact .inr (Heap.get?_none_of_le hz)
    · exact hf p hp
theorem newL_of {h : Heap} {t1 t2 t3 : Array Value} {led : Led} (N : ∀ p ∈ tabs t1 t2 t3 ++ led, h.get? p.1 = some p.2) : NewL h.objs.size led :=
  ⟨Heap.lt_size (N (266, tabObj t1) (by simp)), Heap.lt_size (N (280, tabObj t2) (by simp)), Heap.lt_size (N (159, tabObj t3) (by simp)), allLt_of fun p hp => Heap.lt_size (N p (List.mem_append_right _ hp))⟩
theorem RowR.mono : ∀ {kn kn' : Led} (h : ∀ p ∈ kn, p ∈ kn') {k : Nat} {l : Addr} {fs : List Fld} (x : RowR kn k l fs), RowR kn' k l fs := by
  have hon : HKon := trivial
  intro kn kn' h k l fs x
  obtain ⟨vs, n, a, b⟩ := x
  first | exact exI2 ⟨h _ a, b.imp fun _ _ y => y.mono h⟩ | exact exI1 ⟨n, h _ a, b.imp fun _ _ y => y.mono h⟩ | exact ⟨vs, n, h _ a, b.imp fun _ _ y => y.mono h⟩
theorem normS_length {k : Nat} {fs : List Fld} : (normS k fs).length = fs.length := by unfold normS; rw [List.length_map, sortF_length]
noncomputable def LsC (w : World) (l : Addr) (k : Nat) (fs : List Fld) (n m : Nat) (kn : Led) : Prop := Con w (.ref 353) [.ref l] n m kn (fun kn' r => ∃ l', r = .ref l' ∧ RowR kn' k l' (normS k fs))
set_option maxHeartbeats 4000000 in
theorem c_lsortA : ∀ {w : World} {kn : Led} {l : Addr} {k n m : Nat} {fs : List Fld} {vs : List Value} {nl : Nat} (hm : (l, W.listOf vs.toArray nl) ∈ kn) (hall : All2 (SaidR kn k) vs fs) (hln : fs.length ≤ 60) (hk : k ≤ 5) (IH : ∀ k' K l' gs, k = k' + 1 → RowR K k' l' gs → gs.length ≤ 2 → LsC w l' k' gs n m K),
   Con w (.ref 353) [.ref l] (n + 100) (m + 1000) kn (fun kn' r => ∃ l', r = .ref l' ∧ RowR kn' k l' (normS k fs)) := by
  have hon : HKon := trivial
  intro w kn l k n m fs vs nl hm hall hln hk IH
  refine Con.openG (hkO (no_implicit_lambda% ((?hopq : HTO _) _ _ _ _ _ _ _ _ _ _ _ _ _ _ _)))
  intros s dp un gd t1 t2 t3 base g outs loose mean mg mb Z
  refine ConG.mk ?_
  intro R ret hd hu
  k_extra "M body"
  intro L h₁ hL F N B X T C1 C2 C3 TK l1 l2 l3 l4
  try dsimp only
  try k_fold
  have hvl := hall.length
  k_steps
  refine HoldW.mk ?_
  refine sorted_det (kz := fs.map Fld.num) (kw := [(Str.ofString "key", .ref 348)]) F N (listL N (List.mem_append_right (tabs t1 t2 t3) hm)) (by simp; omega) (by omega) (ksk_s1 _ _) (fun x => ksk_l1 _ _) (fun x => ksk_t1 348 x) ?turn1 ?_
  case turn1 =>
    intro i v z hv hz h tk own F2 N2
    have hi := (List.getElem?_eq_some_iff.mp hv).1
    obtain ⟨f, hf⟩ : ∃ f, fs[i]? = some f := ⟨_, List.getElem?_eq_getElem (by omega)⟩
    obtain ⟨t, e, t1', t2', rfl, hmt, _⟩ := hall.at hv hf
    have ez : z = f.num := by simpa [hf] using hz.symm
    subst ez
    refine use_con0 (c_num hmt) B F2 X N2 T C1 C2 C3 TK (fun p hp => List.mem_append_left _ hp) rfl rfl rfl rfl (by show dp + 1 + _ < 1000; omega) (by show un + 3 + 1 + 1 + _ < 9900; omega) fun r h' tk' F' N' p => ?_
    subst p
    exact KskEnd.intro F' N' fun p hp => hp
  intro D h2 tk2 c F2 N2 lD
  refine HoldW.mk ?_
  have l5 := lD (266, tabObj t1) (by simp)
  have l6 := lD (280, tabObj t2) (by simp)
  have l7 := lD (159, tabObj t3) (by simp)
  have l8 : AllLt D kn := allLt_of fun p hp => lD p (by simp [hp])
  dsimp only at l5 l6 l7
  have tkD : TabOk t1 t2 t3 ((D, W.listOf (sortL (fs.map Fld.num) vs .none).toArray c) :: kn) := TK.cons ⟨Nat.ne_of_gt l5, Nat.ne_of_gt l6, Nat.ne_of_gt l7⟩
  have NDs : News g L h2 (tabs t1 t2 t3 ++ ((D, W.listOf (sortL (fs.map Fld.num) vs .none).toArray c) :: kn)) := fun p hp => N2 p (by simp only [List.mem_append, List.mem_cons, List.not_mem_nil, or_false] at hp ⊢; grind)
  have grD := Gr.consD tkD fun q hq => AllLt.ne l8 q hq
  have hall2 : All2 (SaidR kn k) (sortL (fs.map Fld.num) vs .none) (sortF fs) := sort_all2 hall (by simp)
  have e2 := hall2.length
  have e3 := sortF_length (fs := fs)
  clear F N
  refine' comp_L (RR := fun acc C => compPost (model prg _) _ _ _ _ acc C) (fun i v m₂ => ∃ t f e t1 t2, v = .ref t ∧ (sortF fs)[i]? = some f ∧ (t, tupO #[.int f.num t1, .int f.wire t2, e]) ∈ kn ∧ SayR kn k e f ∧ m₂ "number" = some (.int f.num t1) ∧ m₂ "wire" = some (.int f.wire t2) ∧ m₂ "value" = some e)
    (fun i zs led' => Gr ((D, W.listOf (sortL (fs.map Fld.num) vs .none).toArray c) :: kn) led' ∧ All2 (SaidR led' k) zs ((normS k fs).take i)) rfl F2 NDs tkD (.head _) (by omega) ?hcell rfl ⟨Gr.refl _, by simpa using All2.nil⟩ ?hasg ?turn ?hRR
  case hcell => decide
  case hasg =>
    rintro I C' D' i v u1 u2 u3 led' zs s1 m1 Q E' hv S ⟨gr4, hz⟩ hn hCD hQ
    have hi := (List.getElem?_eq_some_iff.mp hv).1
    obtain ⟨f, hf⟩ : ∃ f, (sortF fs)[i]? = some f := ⟨_, List.getElem?_eq_getElem (by omega)⟩
    obtain ⟨t, e, ta, tb, rfl, hmt, hsay⟩ := hall2.at hv hf
    refine asg_triple rfl rfl rfl rfl rfl hn (S.N _ (List.mem_append_right _ (gr4.1 _ (.tail _ hmt)))).1 fun h' tk hn' hk => hQ h' tk _ hn' ⟨t, f, e, ta, tb, rfl, hf, hmt, hsay, rfl, rfl, rfl⟩ hk
  case turn =>
    rintro I C' D' i v u1 u2 u3 led' zs s1 m1 E' hv S ⟨gr4, hz⟩ hzl hn ⟨t, f, e, ta, tb, rfl, hf, hmt, hsay, q1, q2, q3⟩
    refine wpAny_tests_nil ?_
    simp only [if_true]
    have S' := S
    obtain ⟨F5, N5, tk5, off5⟩ := S
    first | ((with_reducible rename HKon => hkm); (with_reducible refine' (_ : ShE s1 _) _ _ _ _ _ rfl); intros hh gg dd tt oo hq; subst hq) | obtain ⟨hh, gg, dd, tt, oo⟩ := s1
    dsimp only at hn F5 N5
    have stop := StopS.is
    have mono : ∀ p ∈ kn, p ∈ led' := fun p hp => gr4.1 _ (.tail _ hp)
    have hnorm : (normS k fs)[i]? = some (normF k f) := by unfold normS; rw [List.getElem?_map, hf]; rfl
    have key : ∀ (led2 : Led) (T : Addr) (e' : Value), (∀ p ∈ led', p ∈ led2) → (T, tupO #[.int f.num ta, .int f.wire tb, e']) ∈ led2 → SayR led2 k e' (normF k f) → All2 (SaidR led2 k) (zs ++ [.ref T]) ((normS k fs).take (i + 1)) := fun led2 T e' h1 h2 h3 => by
      rw [List.take_add_one, hnorm]
      refine (hz.imp fun _ _ x => x.mono h1).snoc ⟨T, e', ta, tb, rfl, ?_, h3⟩
      rw [(normF_num k f).1, (normF_num k f).2]
      exact h2
    have hk := hsay.kd
    rcases hk with hk | hk | hk
    · obtain ⟨nn, ww, vv, _, rfl, _⟩ := hk
      obtain ⟨hw3, t3, rfl⟩ := SayR_intD hsay
      dsimp only [Fld.num, Fld.wire] at *
      k_steps
      refine HoldW.mk (wpAny_newTuple ?_ (by show 3 ≤ _; rw [sizeLine_eq]; omega))
      exact TurnP.tup rfl (Keep3.refl _) (Nat.le_refl _) id (fun p hp => (S'.N p hp).1) S'.tok (fun _ hp => .inl hp) ⟨gr4.trans (Gr.cons (newL_of fun p hp => (S'.N p hp).1)), key _ _ _ (fun p hp => .tail _ hp) (.head _) (by cases k <;> (unfold normF SayR; exact ⟨hw3, _, rfl⟩))⟩ rfl rfl rfl rfl
    · obtain ⟨nn, bb, _, rfl, _⟩ := hk
      obtain ⟨t3, rfl⟩ := SayR_bytD hsay
      dsimp only [Fld.num, Fld.wire] at *
      k_steps
      refine HoldW.mk (wpAny_newTuple ?_ (by show 3 ≤ _; rw [sizeLine_eq]; omega))
      exact TurnP.tup rfl (Keep3.refl _) (Nat.le_refl _) id (fun p hp => (S'.N p hp).1) S'.tok (fun _ hp => .inl hp) ⟨gr4.trans (Gr.cons (newL_of fun p hp => (S'.N p hp).1)), key _ _ _ (fun p hp => .tail _ hp) (.head _) (by cases k <;> (unfold normF SayR; exact ⟨_, rfl⟩))⟩ rfl rfl rfl rfl
    · obtain ⟨nn, gs, _, _, rfl, _⟩ := hk
      obtain ⟨k', rfl, hl2, l', rfl, hrow⟩ := SayR_grpD hsay
      dsimp only [Fld.num, Fld.wire] at *
      k_steps
      refine HoldW.mk ?_
      refine wpAny_call (IH k' led' l' gs rfl (RowR.mono mono hrow) hl2 _ _ u1 u2 u3 base (_ :: outs) _ loose mean mg mb _ (rdy_of B S'.F X S'.N T C1 C2 C3 rfl rfl rfl (fun _ h => h) S'.tok rfl ?hd ?hu) ?_)
      case hd => k_room
      case hu => k_units
      intro r h' tk' gs' a1 a2 a3 tl x hg p
      obtain ⟨l2, rfl, hrow2⟩ := p
      clear F5 N5
      k_steps
      refine HoldW.mk (wpAny_newTuple ?_ (by show 3 ≤ _; rw [sizeLine_eq]; omega))
      refine TurnP.tup (h := h') rfl x.keep x.size hg x.news x.tok (fun p hp => (List.mem_append.mp hp).elim .inl (x.fresh p)) ⟨(gr4.trans ?gx).trans (Gr.cons (newL_of x.news)), key _ _ _ (fun p hp => .tail _ (List.mem_append_left _ hp)) (.head _) ?sx⟩ rfl rfl rfl rfl
      case gx =>
        refine ⟨fun _ h => List.mem_append_left _ h, fun p hp => (List.mem_append.mp hp).elim .inl fun hp => (x.fresh p hp).imp id fun fr => ?_⟩
        have ne : ∀ q ∈ tabs u1 u2 u3 ++ led', p.1 ≠ q.1 := fun q hq e => by
          have := (S'.N q hq).1
          rw [e, this] at fr; cases fr
        exact ⟨ne (266, tabObj u1) (by simp), ne (280, tabObj u2) (by simp), ne (159, tabObj u3) (by simp), fun q hq => ne q (List.mem_append_right _ hq)⟩
      case sx =>
        obtain ⟨vz, nz, hmz, hallz⟩ := hrow2
        show SayR _ (k' + 1) _ (.grp nn (normS k' gs))
        unfold SayR
        exact ⟨by rw [normS_length]; exact hl2, l2, vz, nz, rfl, .tail _ hmz, hallz.imp fun _ _ x => x.mono fun p hp => .tail _ hp⟩
  case hRR =>
    rintro I C' D' h7 tk7 gs7 m7 zs7 k7 u1 u2 u3 led' S hg7 ⟨gr4, hz⟩ hzl hn hd7 a1 b1 c1 d1 e1 f1
    refine post_none S hn hd7 a1 b1 c1 d1 e1 f1 ?_
    intro h8 F8 N8 tk8 off8
    replace N8 : News g L h8 ((266, tabObj u1) :: (280, tabObj u2) :: (159, tabObj u3) :: (D', W.listOf zs7.toArray k7) :: led') := N8
    have grE := (grD.trans gr4).trans (Gr.consD tk8 off8)
    have hz' : All2 (SaidR led' k) zs7 (normS k fs) := by
      rw [List.take_of_length_le (by rw [normS_length]; omega)] at hz
      exact hz
    clear F2 N2 NDs grD gr4
    k_steps
    all_goals (k_extra "M out")
    refine' ret _ _ _ _ _ _ _ ([] ++ _) ?X hg7 ⟨_, rfl, zs7, k7, List.mem_append_right _ (.head _), hz'.imp fun _ _ x => x.mono ?mm⟩
    case X => k_extra "M fin3"
    case mm => exact fun p hp => List.mem_append_right _ (.tail _ hp)
end
-- LS2
section
theorem c_lsort {w : World} : ∀ (k : Nat), k ≤ 5 → ∀ (kn : Led) (l : Addr) (fs : List Fld), RowR kn k l fs → fs.length ≤ 60 → LsC w l k fs (100 * k + 100) (1000 * k + 1000) kn
  | 0, _, kn, l, fs, ⟨vs, n, hm, hall⟩, hl => c_lsortA (n := 0) (m := 0) hm hall hl (by omega) fun _ _ _ _ e => by omega
  | k + 1, hk, kn, l, fs, ⟨vs, n, hm, hall⟩, hl => c_lsortA (n := 100 * k + 100) (m := 1000 * k + 1000) hm hall hl hk fun k' K l' gs e hr hlg => by
    obtain rfl : k = k' := by omega
    exact c_lsort k (by omega) K l' gs hr (by omega)
end
-- UE1
section
noncomputable def FeqC (w : World) (a b : Addr) (k : Nat) (f g : Fld) (n m : Nat) (kn : Led) : Prop := Con w (.ref 42) [.ref a, .ref b] n m kn (fun _ r => r = .bool (eqF k f g))
noncomputable def SeqC (w : World) (u u2 : Addr) (k : Nat) (fs gs : List Fld) (n m : Nat) (kn : Led) : Prop := Con w (.ref 164) [.ref u, .ref u2] n m kn (fun _ r => r = .bool (eqS k fs gs))
theorem All2.mem {α β : Type} {R : α → β → Prop} {as : List α} {bs : List β} (x : All2 R as bs) {i : Nat} {a : α} (ha : as[i]? = some a) : ∃ b, bs[i]? = some b ∧ R a b := by
  have hi := (List.getElem?_eq_some_iff.mp ha).1
  have hb : bs[i]? = some (bs[i]'(by rw [← x.length]; exact hi)) := List.getElem?_eq_getElem _
  exact ⟨_, hb, x.at ha hb⟩
section
variable {w : World} {A A₀ : Around} {E : Value → Shared → Prop} {s : Shared} {base h₀ : Heap} {outer : List Env} {env : Env} {L : Addr} {m : Str → Option Value} {loose : List Str} {mean : ExcName → Option Value} {mg mb : Str → Option Value}
  {t1 t2 t3 : Array Value} {kn : Led} {n u : Nat} {Q : Value → Shared → Prop}
set_option maxHeartbeats 4000000 in
theorem eq_sorted : ∀ {w : World} {A A₀ : Around} {E : Value → Shared → Prop} {s : Shared} {base h₀ : Heap} {outer : List Env} {env : Env} {L : Addr} {m : Str → Option Value} {loose : List Str} {mean : ExcName → Option Value} {mg mb : Str → Option Value} {t1 t2 t3 : Array Value} {kn : Led} {n u : Nat} {Q : Value → Shared → Prop} {D D' : Addr} {c c' k : Nat} {vs ws : List Value} {fs gs : List Fld} (B : Below A₀ base outer h₀) (F : Fr h₀ L s.heap m) (X : (hd.heap_1_39 w.params).In h₀) (N : News h₀ L s.heap (tabs t1 t2 t3 ++ kn)) (T : Top topProg loose mean mg mb h₀) (C1 : CodeHd h₀ 270 266) (C2 : CodeHd h₀ 284 280) (C3 : CodeHd h₀ 163 159) (TK : TabOk t1 t2 t3 kn) (hA : A.frames = some (env :: outer)) (hf : env.frame = some L) (hke : env.scope.kind = .function) (hh : A.handled = none) (hd : A.depth + (n + 1) < recursionLimit) (hu : A.units + (u + 10) < cLine) (m1 : (D, W.listOf vs.toArray c) ∈ kn) (m2 : (D', W.listOf ws.toArray c') ∈ kn) (hv : All2 (FieldR kn k) vs fs) (hw : All2 (FieldR kn k) ws gs) (IH : ∀ K a b f g, f ∈ fs → g ∈ gs → FieldR K k (.ref a) f → FieldR K k (.ref b) g → a ≠ b → FeqC w a b k f g n u K) (h : ∀ h' tk' gs' t1' t2' t3' kn', Fr h₀ L h' m → News h₀ L h' (tabs t1' t2' t3' ++ kn') → Gr kn kn' → TabOk t1' t2' t3' kn' → (AllBare s.gens → AllBare gs') → Q (.bool (allEq (eqF k) fs gs)) { s with heap := h', toks := tk', gens := gs' }),
    wpAny (model prg w) A (compareOp .Eq (.ref D) (.ref D')) Q E s := by
  have hon : HKon := trivial
  intro w A A₀ E s base h₀ outer env L m loose mean mg mb t1 t2 t3 kn n u Q D D' c c' k vs ws fs gs B F X N T C1 C2 C3 TK hA hf hke hh hd hu m1 m2 hv hw IH h
  have e1 := hv.length
  have e2 := hw.length
  refine eq_listI (items := vs.toArray) (items2 := ws.toArray) (n := c) (n2 := c') (by show A.units < _; omega) (fun i s' => ∃ h' tk' gs' u1 u2 u3 K, s' = { s with heap := h', toks := tk', gens := gs' } ∧ Fr h₀ L h' m ∧ News h₀ L h' (tabs u1 u2 u3 ++ K) ∧ Gr kn K ∧ TabOk u1 u2 u3 K ∧ (AllBare s.gens → AllBare gs') ∧ fs.length = gs.length ∧ upto (eqF k) fs gs i)
    (N _ (List.mem_append_right _ m1)).1 (N _ (List.mem_append_right _ m2)).1 (fun hne => ?ne) (fun hsz => ?zero) ?l1 ?l2 ?step ?done
  case ne =>
    have e3 : allEq (eqF k) fs gs = false := allEq_len (by simp at hne; omega)
    rw [← e3]
    exact h _ _ _ _ _ _ _ F N (Gr.refl _) TK id
  case zero => exact ⟨_, _, _, _, _, _, _, rfl, F, N, Gr.refl _, TK, id, by simp at hsz; omega, fun j _ _ hj => by omega⟩
  case l1 =>
    rintro i s' ⟨h', tk', gs', u1, u2, u3, K, rfl, F', N', gr, TK', hg, hl, up⟩
    exact (N' _ (List.mem_append_right _ (gr.1 _ m1))).1
  case l2 =>
    rintro i s' ⟨h', tk', gs', u1, u2, u3, K, rfl, F', N', gr, TK', hg, hl, up⟩
    exact (N' _ (List.mem_append_right _ (gr.1 _ m2))).1
  case done =>
    rintro s' ⟨h', tk', gs', u1, u2, u3, K, rfl, F', N', gr, TK', hg, hl, up⟩
    have e3 : allEq (eqF k) fs gs = true := allEq_yes hl (by simpa [e1] using up)
    rw [← e3]
    exact h _ _ _ _ _ _ _ F' N' gr TK' hg
  case step =>
    rintro i s' x y hx hy ⟨h', tk', gs', u1, u2, u3, K, rfl, F', N', gr, TK', hg, hl, up⟩
    obtain ⟨f, hf', rx⟩ := hv.mem (i := i) (by simpa using hx)
    obtain ⟨g, hg', ry⟩ := hw.mem (i := i) (by simpa using hy)
    obtain ⟨a, ea, rfl, a1, a2⟩ := rx
    obtain ⟨b, eb, rfl, b1, b2⟩ := ry
    have rx : FieldR K k (.ref a) f := ⟨a, ea, rfl, a1.mono gr.1, a2.mono gr.1⟩
    have ry : FieldR K k (.ref b) g := ⟨b, eb, rfl, b1.mono gr.1, b2.mono gr.1⟩
    have FK : FunL K := fun p hp q hq e => by have a := (N' p (List.mem_append_right _ hp)).1; rw [e, (N' q (List.mem_append_right _ hq)).1] at a; exact (Option.some.inj a).symm
    unfold eqBool
    refine wpAny_holding ?_
    by_cases hab : a = b
    · subst hab
      have e3 := field_same FK k _ f g rx ry
      simp only [beq_self_eq_true, if_true]
      exact wpAny_bind (wpAny_rule (wpAny_pure ⟨_, _, _, _, _, _, _, rfl, F', N', gr, TK', hg, hl, up.step hf' hg' e3⟩))
    · obtain ⟨df, x1, x2, x3, x4, x5, x6, x7, x8, x9, i1, i2⟩ := a1.mono gr.1
      obtain ⟨df', y1, y2, y3, y4, y5, y6, y7, y8, y9, j1, j2⟩ := b1.mono gr.1
      have i1' : (a, instObj 45 df) ∈ tabs u1 u2 u3 ++ K := List.mem_append_right _ i1
      have j1' : (b, instObj 45 df') ∈ tabs u1 u2 u3 ++ K := List.mem_append_right _ j1
      have hb : ¬ ((Value.ref a == Value.ref b) = true) := fun q => hab (by injection (eq_of_beq q))
      rw [if_neg hb]
      refine wpAny_bind ?_
      refine' cmp_K ?k1 ?k2 ?k3 ?k4 ?k5 ?k6 ?k7 ?k8 ?_
      (case k1 => show A.units + 1 < _; omega); (case k2 => exact F'); (case k3 => exact X); (case k4 => k_inst); (case k5 => k_typeOf); (case k6 => k_is); (case k7 => k_is); (case k8 => k_is)
      refine use_con (IH K a b f g (List.mem_of_getElem? hf') (List.mem_of_getElem? hg') rx ry hab) B F' X N' T C1 C2 C3 TK' (fun _ h => h) hA hf hke hh (by show A.depth + n < _; omega) (by show A.units + 1 + u < _; omega) ?_
      intro r h2 tk2 gs2 v1 v2 v3 tl bk hg2 p
      subst p
      have gr2 : Gr K (K ++ tl) := ⟨fun _ hp => List.mem_append_left _ hp, fun p hp => ((List.mem_append.mp hp).elim .inl (bk.ne p)).imp id fun ne => ⟨ne (266, tabObj u1) (by simp), ne (280, tabObj u2) (by simp), ne (159, tabObj u3) (by simp), fun q hq => ne q (List.mem_append_right _ hq)⟩⟩
      show wpAny _ _ (truthOfDropped (.bool (eqF k f g))) _ _ _
      refine wpAny_truthy_bool ?_
      have N2 : News h₀ L h2 (tabs v1 v2 v3 ++ (K ++ tl)) := bk.N
      cases hfg : eqF k f g with
      | true =>
        simp only [if_true]
        exact ⟨_, _, _, _, _, _, _, rfl, bk.F, N2, gr.trans gr2, bk.tok, fun x => hg2 (hg x), hl, up.step hf' hg' hfg⟩
      | false =>
        simp only [Bool.false_eq_true, if_false]
        refine ⟨(N2 _ (List.mem_append_right _ ((gr.trans gr2).1 _ m1))).1, (N2 _ (List.mem_append_right _ ((gr.trans gr2).1 _ m2))).1, ?_⟩
        have e3 := allEq_no hf' hg' hfg
        rw [← e3]
        exact h _ _ _ _ _ _ _ bk.F N2 (gr.trans gr2) bk.tok fun x => hg2 (hg x)
end
end
-- UE2
section
theorem News.pick {g h : Heap} {L : Addr} {a b : Led} (N : News g L h a) (hs : ∀ p ∈ b, p ∈ a) : News g L h b := fun p hp => N p (hs p hp)
theorem tabC {t1 t2 : Array Value} {K : Led} {c d : Addr} {oc od : Obj} {vs ws : Array Value} {t t' : Tok} (x : TabOk t1 t2 #[] K) (m1 : (c, oc) ∈ K) (m2 : (d, od) ∈ K) (e1 : oc.data = .fields vs) (e2 : vs[1]? = some (.str "UnknownFieldSet.__eq__.<locals>.<lambda>" t))
    (e3 : od.data = .fields ws) (e4 : ws[1]? = some (.str "UnknownFieldSet.__eq__.<locals>.<lambda>" t')) :
    TabOk t1 t2 #[rawInt 86, rawInt 36, .ref c, rawInt 87, rawInt 49, .ref d] K where
  a := x.a
  b := x.b
  c := .inr ⟨c, d, rfl, ⟨oc, vs, t, m1, e1, e2⟩, ⟨od, ws, t', m2, e3, e4⟩⟩
  d := x.d
theorem TabOk.consN {t1 t2 t3 : Array Value} {kn : Led} {p : Addr × Obj} (x : TabOk t1 t2 t3 kn) (h : NewL p.1 kn) : TabOk t1 t2 t3 (p :: kn) := x.cons ⟨Nat.ne_of_gt h.1, Nat.ne_of_gt h.2.1, Nat.ne_of_gt h.2.2.1⟩
theorem kwUE20 : True := by
  (k_with "call type:list" => (k_here; (with_reducible rename StopS => sthold); refine HoldW.out ?_))
  (k_with "compareOp Eq ref ref" => (k_here; (with_reducible rename StopS => sthold); refine HoldW.out ?_))
  trivial
set_option maxHeartbeats 1000000 in
theorem lam_call {w : World} {dp un : Nat} {gd : Option (List Code)} {outs : List Env} {nms : List (Str × NameKind)} {base h₀ : Heap} {L f c a df : Addr} {oc : Obj} {ovs : Array Value} {ct : Value} {news : Led} {p1 p2 p3 : Pos} {m : Str → Option Value} {loose : List Str} {mean : ExcName → Option Value} {mg mb : Str → Option Value}
    {x1 x4 x7 : Int} {x2 x3 x5 x6 x8 ot : Tok} {x9 : Nat} {num wr : Int} {ea : Value} {s : Shared} {E : Value → Shared → Prop} (B : Below ⟨none, dp, some outs, gd, un⟩ base outs h₀) (F : Fr h₀ L s.heap m) (X : (hd.heap_1_39 w.params).In h₀) (N : News h₀ L s.heap news) (T : Top topProg loose mean mg mb h₀)
    (C1 : CodeHd h₀ 270 266) (C2 : CodeHd h₀ 284 280) (C3 : CodeHd h₀ 163 159) (hd : dp + 10 < 1000) (hu : un + 50 < 9900)
    (hf : (f, kla_obj (Str.ofString "<lambda>") (Str.ofString "UnknownFieldSet.__eq__.<locals>.<lambda>") { posonlyargs := [], args := [{ arg := Str.ofString "field", annotation := none, pos := p1 }], vararg := none, kwonlyargs := [], kw_defaults := [], kwarg := none, defaults := [] }
       ((Expr.Name (Str.ofString "field") p2).Attribute (Str.ofString "_field_number") p3) { kind := ScopeKind.function, names := [(Str.ofString "field", NameKind.local)], isGenerator := false, isCoroutine := false } [] ((mg (Str.ofString "__name__")).getD Value.none) c ct) ∈ news)
    (hc : (c, oc) ∈ news) (hod : oc.data = .fields ovs) (hov : ovs[1]? = some (.str (Str.ofString "UnknownFieldSet.__eq__.<locals>.<lambda>") ot)) (i1 : (a, instObj 45 df) ∈ news)
    (i2 : (df, dictOf [⟨x1, .str "_field_number" x2, .int num x3⟩, ⟨x4, .str "_wire_type" x5, .int wr x6⟩, ⟨x7, .str "_data" x8, ea⟩] x9) ∈ news) :
    wpAny (model prg w) (Around.deeper ⟨none, dp, some outs, gd, un⟩ (envOf (Str.ofString "UnknownFieldSet.__eq__") { kind := ScopeKind.function, names := nms, isGenerator := false, isCoroutine := false } L 164 (Value.ref 163))).in1.in1
      (call (.ref f) [.ref a]) (KskEnd h₀ L m news num s) E s := by

  first | ((with_reducible rename HKon => hkm); (with_reducible refine' (_ : ShE s _) _ _ _ _ _ rfl); intros hh gg dd tt oo hq; subst hq) | obtain ⟨hh, gg, dd, tt, oo⟩ := s
  dsimp only at F N
  k_steps
set_option maxHeartbeats 4000000 in
theorem c_seqA : ∀ {w : World} {kn : Led} {u l u2 l2 : Addr} {vs ws : List Value} {fs gs : List Fld} {k n m : Nat} (hs : SetTop kn u l vs) (hs2 : SetTop kn u2 l2 ws) (hv : All2 (FieldR kn k) vs fs) (hw : All2 (FieldR kn k) ws gs) (hne : u ≠ u2) (hl1 : vs.length ≤ 60) (hl2 : ws.length ≤ 60) (IH : ∀ K a b f g, f ∈ fs → g ∈ gs → FieldR K k (.ref a) f → FieldR K k (.ref b) g → a ≠ b → FeqC w a b k f g n m K), SeqC w u u2 k fs gs (n + 100) (m + 1000) kn := by
  have hon : HKon := trivial
  intro w kn u l u2 l2 vs ws fs gs k n m hs hs2 hv hw hne hl1 hl2 IH
  have hs0 := hs
  obtain ⟨du, g1, g2, g3, g4, m1, m2, m3⟩ := hs
  obtain ⟨du2, e1, e2, e3, e4, q1, q2, q3⟩ := hs2
  refine Con.openG (hkO (no_implicit_lambda% ((?hopq : HTO _) _ _ _ _ _ _ _ _ _ _ _ _ _ _ _)))
  intros s dp un gd t1 t2 t3 base g outs loose mean mg mb Z
  refine ConG.mk ?_
  intro R ret hd hu
  k_extra "M body"
  intro L h₁ hL F N B X T C1 C2 C3 TK l1 l2 l3 l4
  try dsimp only
  try k_fold
  have stop := StopS.is
  k_steps
  refine HoldW.mk ?_
  refine list_copyK (items := vs.toArray) F N ?_ ?_ (by rw [sizeLine_eq]; simp; omega)
  · exact listL N (List.mem_append_right (tabs t1 t2 t3) m3)
  intro D c h2 F2 N2 lD
  k_lt lD
  rcases TK.c with e | hTc
  rotate_left
  obtain ⟨c1, d1, e, hc1, hd1⟩ := hTc
  rotate_left
  all_goals subst e
  all_goals clear F N
  all_goals k_steps
  · rename_i f1 c1 oc1 vs1 ts1 ct1 h3 tk3 F3 N3 d1 d2 l9 l10
    refine HoldW.mk ?_
    refine' sorted_det (kz := fs.map Fld.num) (vs := vs) (kw := [(Str.ofString "key", _)]) F3 N3 (listL N3 ?mem) ?ln ?l6 (ksk_s1 _ _) (fun x => ksk_l1 _ _) (fun x => ksk_t1 _ x) ?turn1 ?_
    case mem => k_mem
    case ln => have := hv.length; simp; omega
    case l6 => omega
    case turn1 =>
      intro i v z hv' hz h tk own F4 N4
      have hi := (List.getElem?_eq_some_iff.mp hv').1
      obtain ⟨f, hf, a, ea, rfl, ft, _⟩ := hv.mem hv'
      obtain ⟨df, x1, x2, x3, x4, x5, x6, x7, x8, x9, i1, i2⟩ := ft
      have ez : z = f.num := by simpa [hf] using hz.symm
      subst ez
      refine' lam_call B F4 X N4 T C1 C2 C3 ?ld ?lu (List.mem_append_left own ?lf) (List.mem_append_left own ?lc) d1 d2 (List.mem_append_left own ?li1) (List.mem_append_left own ?li2)
      case ld => omega
      case lu => omega
      case lf => k_mem
      case lc => k_mem
      case li1 => k_mem
      case li2 => k_mem
    intro D2 h4 tk2 cc2 F4 N4 lD2
    k_lt lD2
    clear N3 F3
    k_steps
    rename_i f2 c2 oc2 vs2 ts2 ct2 h3 tk3 F3 N3 d1' d2' l9' l10'
    refine HoldW.mk ?_
    refine' sorted_det (kz := gs.map Fld.num) (vs := ws) (kw := [(Str.ofString "key", _)]) F3 N3 (listL N3 ?mem) ?ln ?l6 (ksk_s1 _ _) (fun x => ksk_l1 _ _) (fun x => ksk_t1 _ x) ?turn1 ?_
    case mem => k_mem
    case ln => have := hw.length; simp; omega
    case l6 => omega
    case turn1 =>
      intro i v z hv' hz h tk own F4 N4
      have hi := (List.getElem?_eq_some_iff.mp hv').1
      obtain ⟨f, hf, a, ea, rfl, ft, _⟩ := hw.mem hv'
      obtain ⟨df, x1, x2, x3, x4, x5, x6, x7, x8, x9, i1, i2⟩ := ft
      have ez : z = f.num := by simpa [hf] using hz.symm
      subst ez
      refine' lam_call B F4 X N4 T C1 C2 C3 ?ld ?lu (List.mem_append_left own ?lf) (List.mem_append_left own ?lc) d1' d2' (List.mem_append_left own ?li1) (List.mem_append_left own ?li2)
      case ld => omega
      case lu => omega
      case lf => k_mem
      case lc => k_mem
      case li1 => k_mem
      case li2 => k_mem
    intro D3 h5 tk3 cc3 F5 N5 lD3
    k_lt lD3
    clear N3 F3
    k_steps
    rename Fr _ _ _ _ => F6
    rename News _ _ _ _ => N6
    have n1 : NewL c1 kn := ⟨l9.2.1, l9.2.2.1, l9.2.2.2.1, l9.2.2.2.2⟩
    have n3 : NewL D2 ((c1, oc1) :: kn) := ⟨by omega, by omega, by omega, by omega, by grind⟩
    have n2 : NewL c2 ((D2, W.listOf (sortL (List.map Fld.num fs) vs Value.none).toArray cc2) :: (c1, oc1) :: kn) := ⟨by omega, by omega, by omega, by omega, by omega, by grind⟩
    have n4 : NewL D3 ((c2, oc2) :: (D2, W.listOf (sortL (List.map Fld.num fs) vs Value.none).toArray cc2) :: (c1, oc1) :: kn) := ⟨by omega, by omega, by omega, by omega, by omega, by omega, by grind⟩
    have TK1 := tabC ((((TK.consN n1).consN n3).consN n2).consN (p := (D3, W.listOf (sortL (List.map Fld.num gs) ws Value.none).toArray cc3)) n4) (c := c1) (d := c2) (.tail _ (.tail _ (.tail _ (.head _)))) (.tail _ (.head _)) d1 d2 d1' d2'
    have gr := (Gr.cons n1).trans ((Gr.cons n3).trans ((Gr.cons n2).trans (Gr.cons (p := (D3, W.listOf (sortL (List.map Fld.num gs) ws Value.none).toArray cc3)) n4)))
    have N7 : News g L _ (tabs t1 t2 #[rawInt 86, rawInt 36, .ref c1, rawInt 87, rawInt 49, .ref c2] ++ ((D3, W.listOf (sortL (List.map Fld.num gs) ws Value.none).toArray cc3) :: (c2, oc2) :: (D2, W.listOf (sortL (List.map Fld.num fs) vs Value.none).toArray cc2) :: (c1, oc1) :: kn)) := News.pick N6 (by
      refine List.forall_mem_cons.mpr ⟨?_, List.forall_mem_cons.mpr ⟨?_, List.forall_mem_cons.mpr ⟨?_, List.forall_mem_cons.mpr ⟨?_, List.forall_mem_cons.mpr ⟨?_, List.forall_mem_cons.mpr ⟨?_, List.forall_mem_cons.mpr ⟨?_, fun p hp => ?_⟩⟩⟩⟩⟩⟩⟩
      all_goals first | k_mem | (simp; done))
    have hv2 := (sort_all2 (kz := fs.map Fld.num) (d := .none) (d' := dfl) hv (by simp)).imp fun _ _ x => FieldR.mono gr.1 x
    have hw2 := (sort_all2 (kz := gs.map Fld.num) (d := .none) (d' := dfl) hw (by simp)).imp fun _ _ x => FieldR.mono gr.1 x
    refine HoldW.mk ?_
    refine' eq_sorted (n := n) (u := m) (fs := sortF fs) (gs := sortF gs) (k := k) B F6 X N7 T C1 C2 C3 TK1 rfl rfl rfl rfl ?ld ?lu ?p1 (.head _) hv2 hw2 (fun K a b f g hf hg => IH K a b f g (sortF_mem f hf) (sortF_mem g hg)) ?_
    case ld => k_room
    case lu => k_units
    case p1 => k_mem
    intro h' tk' gs' u1 u2 u3 kn' F8 N8 gr' TK8 hg8
    have grE := gr.trans gr'
    clear F6 N6 N7 gr gr' TK1 TK
    k_steps
    all_goals (k_extra "M out")
    refine' ret _ _ _ _ _ _ _ ([] ++ _) ?X hg8 rfl
    case X => k_extra "M fin3"
  · rename_i f1 ct1 h3 tk3 F3 N3 l9
    have hc1' := hc1
    have hd1' := hd1
    obtain ⟨oc, ovs, otk, hoc, hod, hov⟩ := hc1'
    obtain ⟨oe, ove, ote, hoe, hpd, hpv⟩ := hd1'
    refine HoldW.mk ?_
    refine' sorted_det (kz := fs.map Fld.num) (vs := vs) (kw := [(Str.ofString "key", _)]) F3 N3 (listL N3 ?mem) ?ln ?l6 (ksk_s1 _ _) (fun x => ksk_l1 _ _) (fun x => ksk_t1 _ x) ?turn1 ?_
    case mem => k_mem
    case ln => have := hv.length; simp; omega
    case l6 => omega
    case turn1 =>
      intro i v z hv' hz h tk own F4 N4
      have hi := (List.getElem?_eq_some_iff.mp hv').1
      obtain ⟨f, hf, a, ea, rfl, ft, _⟩ := hv.mem hv'
      obtain ⟨df, x1, x2, x3, x4, x5, x6, x7, x8, x9, i1, i2⟩ := ft
      have ez : z = f.num := by simpa [hf] using hz.symm
      subst ez
      refine' lam_call B F4 X N4 T C1 C2 C3 ?ld ?lu (List.mem_append_left own ?lf) (List.mem_append_left own ?lc) hod hov (List.mem_append_left own ?li1) (List.mem_append_left own ?li2)
      case ld => omega
      case lu => omega
      case lf => k_mem
      case lc => k_mem
      case li1 => k_mem
      case li2 => k_mem
    intro D2 h4 tk2 cc2 F4 N4 lD2
    k_lt lD2
    clear N3 F3
    k_steps
    rename_i f2 ct2 h3 tk3 F3 N3 l9'
    refine HoldW.mk ?_
    refine' sorted_det (kz := gs.map Fld.num) (vs := ws) (kw := [(Str.ofString "key", _)]) F3 N3 (listL N3 ?mem) ?ln ?l6 (ksk_s1 _ _) (fun x => ksk_l1 _ _) (fun x => ksk_t1 _ x) ?turn1 ?_
    case mem => k_mem
    case ln => have := hw.length; simp; omega
    case l6 => omega
    case turn1 =>
      intro i v z hv' hz h tk own F4 N4
      have hi := (List.getElem?_eq_some_iff.mp hv').1
      obtain ⟨f, hf, a, ea, rfl, ft, _⟩ := hw.mem hv'
      obtain ⟨df, x1, x2, x3, x4, x5, x6, x7, x8, x9, i1, i2⟩ := ft
      have ez : z = f.num := by simpa [hf] using hz.symm
      subst ez
      refine' lam_call B F4 X N4 T C1 C2 C3 ?ld ?lu (List.mem_append_left own ?lf) (List.mem_append_left own ?lc) hpd hpv (List.mem_append_left own ?li1) (List.mem_append_left own ?li2)
      case ld => omega
      case lu => omega
      case lf => k_mem
      case lc => k_mem
      case li1 => k_mem
      case li2 => k_mem
    intro D3 h5 tk3 cc3 F5 N5 lD3
    k_lt lD3
    clear N3 F3
    k_steps
    rename Fr _ _ _ _ => F6
    rename News _ _ _ _ => N6
    have n3 : NewL D2 kn := ⟨by omega, by omega, by omega, by grind⟩
    have n4 : NewL D3 ((D2, W.listOf (sortL (List.map Fld.num fs) vs Value.none).toArray cc2) :: kn) := ⟨by omega, by omega, by omega, by omega, by grind⟩
    have TK1 := (TK.consN (p := (D2, W.listOf (sortL (List.map Fld.num fs) vs Value.none).toArray cc2)) n3).consN (p := (D3, W.listOf (sortL (List.map Fld.num gs) ws Value.none).toArray cc3)) n4
    have gr := (Gr.cons n3).trans (Gr.cons (p := (D3, W.listOf (sortL (List.map Fld.num gs) ws Value.none).toArray cc3)) n4)
    have N7 : News g L _ (tabs t1 t2 #[rawInt 86, rawInt 36, .ref c1, rawInt 87, rawInt 49, .ref d1] ++ ((D3, W.listOf (sortL (List.map Fld.num gs) ws Value.none).toArray cc3) :: (D2, W.listOf (sortL (List.map Fld.num fs) vs Value.none).toArray cc2) :: kn)) := News.pick N6 (by
      refine List.forall_mem_cons.mpr ⟨?_, List.forall_mem_cons.mpr ⟨?_, List.forall_mem_cons.mpr ⟨?_, List.forall_mem_cons.mpr ⟨?_, List.forall_mem_cons.mpr ⟨?_, fun p hp => ?_⟩⟩⟩⟩⟩
      all_goals first | k_mem | (simp; done))
    have hv2 := (sort_all2 (kz := fs.map Fld.num) (d := .none) (d' := dfl) hv (by simp)).imp fun _ _ x => FieldR.mono gr.1 x
    have hw2 := (sort_all2 (kz := gs.map Fld.num) (d := .none) (d' := dfl) hw (by simp)).imp fun _ _ x => FieldR.mono gr.1 x
    refine HoldW.mk ?_
    refine' eq_sorted (n := n) (u := m) (fs := sortF fs) (gs := sortF gs) (k := k) B F6 X N7 T C1 C2 C3 TK1 rfl rfl rfl rfl ?ld ?lu ?p1 (.head _) hv2 hw2 (fun K a b f g hf hg => IH K a b f g (sortF_mem f hf) (sortF_mem g hg)) ?_
    case ld => k_room
    case lu => k_units
    case p1 => k_mem
    intro h' tk' gs' u1 u2 u3 kn' F8 N8 gr' TK8 hg8
    have grE := gr.trans gr'
    clear F6 N6 N7 gr gr' TK1 TK
    k_steps
    all_goals (k_extra "M out")
    refine' ret _ _ _ _ _ _ _ ([] ++ _) ?X hg8 rfl
    case X => k_extra "M fin3"
end
-- UE3
section
theorem kwUE30 : True := by
  (k_with "compareOp Eq ref ref" => (k_here; (with_reducible rename StopS => sthold); refine HoldW.out ?_))
  (k_with "compareOp Eq bytes bytes" => (k_here; (with_reducible rename StopS => sthold); refine HoldW.out ?_))
  (k_with "compareOp Eq int int" => (k_here; (with_reducible rename StopS => sthold); refine HoldW.out ?_))
  trivial
theorem eqF_no1 {k : Nat} {f g : Fld} (h : (f.num == g.num) = false) : eqF k f g = false := by rw [eqF_eq, h]; rfl
theorem eqF_no2 {k : Nat} {f g : Fld} (h1 : (f.num == g.num) = true) (h : (f.wire == g.wire) = false) : eqF k f g = false := by rw [eqF_eq, h1, h]; rfl
theorem eqF_yes {k : Nat} {f g : Fld} (h1 : (f.num == g.num) = true) (h : (f.wire == g.wire) = true) : eqF k f g = datEq (match k with | 0 => fun _ _ => false | k + 1 => fun fs gs => eqS k fs gs) f g := by rw [eqF_eq, h1, h]; rfl
theorem fieldR_ref {kn : Led} {k : Nat} {a : Addr} {f : Fld} (h : FieldR kn k (.ref a) f) : ∃ e, FieldTop kn a f.num f.wire e ∧ DataR kn k e f := by
  obtain ⟨_, e, h1, h2, h3⟩ := h
  cases h1
  exact ⟨e, h2, h3⟩
set_option maxHeartbeats 4000000 in
theorem c_feqA : ∀ {w : World} {kn : Led} {a b : Addr} {f1 f2 : Fld} {k n m : Nat} (hv : FieldR kn k (.ref a) f1) (hw : FieldR kn k (.ref b) f2) (hne : a ≠ b) (wf : WfF k f1) (wg : WfF k f2) (IH : ∀ k' K u u2 fs gs, k = k' + 1 → SetR K k' u fs → SetR K k' u2 gs → fs.length ≤ 2 → gs.length ≤ 2 → (∀ f ∈ fs, WfF k' f) → (∀ f ∈ gs, WfF k' f) → SeqC w u u2 k' fs gs n m K), FeqC w a b k f1 f2 (n + 20) (m + 200) kn := by
  have hon : HKon := trivial
  intro w kn a b f1 f2 k n m hv hw hne wf wg IH
  obtain ⟨ea, a1, a2⟩ := fieldR_ref hv
  obtain ⟨eb, b1, b2⟩ := fieldR_ref hw
  obtain ⟨df, x1, x2, x3, x4, x5, x6, x7, x8, x9, i1, i2⟩ := a1
  obtain ⟨df', y1, y2, y3, y4, y5, y6, y7, y8, y9, j1, j2⟩ := b1
  refine Con.openG (hkO (no_implicit_lambda% ((?hopq : HTO _) _ _ _ _ _ _ _ _ _ _ _ _ _ _ _)))
  intros s dp un gd t1 t2 t3 base g outs loose mean mg mb Z
  refine ConG.mk ?_
  intro R ret hd hu
  k_extra "M body"
  intro L h₁ hL F N B X T C1 C2 C3 TK l1 l2 l3 l4
  try dsimp only
  try k_fold
  have stop := StopS.is
  k_steps
  refine HoldW.mk (PyProof.Rows.eq_int ?_)
  cases h1 : (f1.num == f2.num)
  · have hE := eqF_no1 (k := k) h1
    k_steps
    all_goals (k_extra "M out")
    refine' ret _ _ _ _ _ _ _ [] ?X id (by rw [hE])
    case X =>
      refine' fin0 ?R ?hL ?F ?Nq ?TK ?ht ?hk ?htl
      case R => assumption
      case hL => assumption
      case F => k_asm
      case Nq => k_asm
      case TK => with_reducible assumption
      case ht => k_extra "M sub"
      case hk => k_extra "M sub"
      case htl => exact List.forall_mem_nil _
  k_steps
  refine HoldW.mk (PyProof.Rows.eq_int ?_)
  cases h2 : (f1.wire == f2.wire)
  · have hE := eqF_no2 (k := k) h1 h2
    k_steps
    all_goals (k_extra "M out")
    refine' ret _ _ _ _ _ _ _ [] ?X id (by rw [hE])
    case X =>
      refine' fin0 ?R ?hL ?F ?Nq ?TK ?ht ?hk ?htl
      case R => assumption
      case hL => assumption
      case F => k_asm
      case Nq => k_asm
      case TK => with_reducible assumption
      case ht => k_extra "M sub"
      case hk => k_extra "M sub"
      case htl => exact List.forall_mem_nil _
  have hE := eqF_yes (k := k) h1 h2
  rcases same_kind wf wg h2 with hsk | hsk | hsk
  · obtain ⟨_, _, v, _, _, v', rfl, rfl⟩ := hsk
    obtain ⟨_, t, rfl⟩ := DataR_int a2
    obtain ⟨_, t', rfl⟩ := DataR_int b2
    k_steps
    refine HoldW.mk (PyProof.Rows.eq_int ?_)
    replace hE : eqF k _ _ = (v == v') := hE
    k_steps
    all_goals (k_extra "M out")
    refine' ret _ _ _ _ _ _ _ [] ?X id (by rw [hE])
    case X =>
      refine' fin0 ?R ?hL ?F ?Nq ?TK ?ht ?hk ?htl
      case R => assumption
      case hL => assumption
      case F => k_asm
      case Nq => k_asm
      case TK => with_reducible assumption
      case ht => k_extra "M sub"
      case hk => k_extra "M sub"
      case htl => exact List.forall_mem_nil _
  · obtain ⟨_, y, _, y', rfl, rfl⟩ := hsk
    obtain ⟨t, rfl⟩ := DataR_byt a2
    obtain ⟨t', rfl⟩ := DataR_byt b2
    k_steps
    refine HoldW.mk (PySem.W.eq_bytes ?_)
    replace hE : eqF k _ _ = (y.toArray.toList == y'.toArray.toList) := hE
    k_steps
    all_goals (k_extra "M out")
    refine' ret _ _ _ _ _ _ _ [] ?X id (by rw [hE])
    case X =>
      refine' fin0 ?R ?hL ?F ?Nq ?TK ?ht ?hk ?htl
      case R => assumption
      case hL => assumption
      case F => k_asm
      case Nq => k_asm
      case TK => with_reducible assumption
      case ht => k_extra "M sub"
      case hk => k_extra "M sub"
      case htl => exact List.forall_mem_nil _
  · obtain ⟨k', _, fs, _, gs, rfl, rfl, rfl⟩ := hsk
    unfold DataR at a2 b2
    unfold WfF at wf wg
    obtain ⟨hl1, u1, l1', vs, rfl, st, al⟩ := a2
    obtain ⟨hl2, u2, l2', ws, rfl, st', al'⟩ := b2
    have st0 := st
    have st0' := st'
    obtain ⟨du, g1, g2, g3, g4, m1, m2, m3⟩ := st
    obtain ⟨du2, e1, e2, e3, e4, q1, q2, q3⟩ := st'
    k_steps
    refine HoldW.mk ?_
    refine cmp_ofEq ?_
    refine' cmp_K ?k1 ?k2 ?k3 ?k4 ?k5 ?k6 ?k7 ?k8 ?_
    (case k1 => k_units); (case k2 => k_asm); (case k3 => k_asm); (case k4 => k_inst); (case k5 => k_typeOf); (case k6 => k_is); (case k7 => k_is); (case k8 => k_is)
    refine' use_con3 (IH k' kn u1 u2 fs gs rfl ⟨_, _, st0, al⟩ ⟨_, _, st0', al'⟩ hl1 hl2 wf.2 wg.2) ?B ?F ?X ?Nq ?T ?C1 ?C2 ?C3 ?TK ?hO ?hA ?hf ?hke ?hh ?hd ?hu ?_
    k_extra "M std2"
    intro r' h' tk' gs' t1' t2' t3' kn' F' N' gr' ne' TK' hg' p'
    subst p'
    show PySem.W.CmpBack _ (Value.bool _) _
    unfold PySem.W.CmpBack
    dsimp only
    replace hE : eqF (k' + 1) _ _ = eqS k' fs gs := hE
    try dsimp only at N'
    clear F N TK
    k_steps
    all_goals (k_extra "M out")
    refine' ret _ _ _ _ _ _ _ ([] ++ _) ?X hg' (by rw [hE])
    case X => k_extra "M fin3"
theorem c_seqSame : ∀ {w : World} {kn : Led} {u : Addr} {fs gs : List Fld} {k : Nat} (hs : SetR kn k u fs) (hs2 : SetR kn k u gs), SeqC w u u k fs gs 100 1000 kn := by
  have hon : HKon := trivial
  intro w kn u fs gs k hs hs2
  obtain ⟨l, vs, hs0, hv⟩ := hs
  obtain ⟨ll2, ws, hs2, hw⟩ := hs2
  have hs1 := hs0
  obtain ⟨du, g1, g2, g3, g4, m1, m2, m3⟩ := hs1
  refine Con.openG (hkO (no_implicit_lambda% ((?hopq : HTO _) _ _ _ _ _ _ _ _ _ _ _ _ _ _ _)))
  intros s dp un gd t1 t2 t3 base g outs loose mean mg mb Z
  refine ConG.mk ?_
  intro R ret hd hu
  k_extra "M body"
  intro L h₁ hL F N B X T C1 C2 C3 TK l1 l2 l3 l4
  try dsimp only
  try k_fold
  have FK : FunL kn := fun p hp q hq e => by have a := (N p (List.mem_append_right (tabs t1 t2 t3) hp)).1; rw [e, (N q (List.mem_append_right (tabs t1 t2 t3) hq)).1] at a; exact (Option.some.inj a).symm
  have hE := set_same FK ⟨l, vs, hs0, hv⟩ ⟨ll2, ws, hs2, hw⟩
  k_steps
  all_goals (k_extra "M out")
  refine' ret _ _ _ _ _ _ _ [] ?X id (by rw [hE])
  case X =>
    refine' fin0 ?R ?hL ?F ?Nq ?TK ?ht ?hk ?htl
    case R => assumption
    case hL => assumption
    case F => k_asm
    case Nq => k_asm
    case TK => with_reducible assumption
    case ht => k_extra "M sub"
    case hk => k_extra "M sub"
    case htl => exact List.forall_mem_nil _
theorem c_seq : ∀ {w : World} (k : Nat) (kn : Led) (u u2 : Addr) (fs gs : List Fld), SetR kn k u fs → SetR kn k u2 gs → fs.length ≤ 60 → gs.length ≤ 60 → (∀ f ∈ fs, WfF k f) → (∀ f ∈ gs, WfF k f) → SeqC w u u2 k fs gs (120 * k + 120) (1200 * k + 1200) kn := by
  have hon : HKon := trivial
  intro w
  refine by_pred ?_
  intro k ih kn u u2 fs gs h1 h2 l1 l2 w1 w2
  by_cases hu : u = u2
  · subst hu
    exact (c_seqSame h1 h2).le (by omega) (by omega)
  obtain ⟨l, vs, hs0, hv⟩ := h1
  obtain ⟨l2, ws, hs2, hw⟩ := h2
  refine (c_seqA (n := 120 * k + 20) (m := 1200 * k + 200) hs0 hs2 hv hw hu (by rw [hv.length]; omega) (by rw [hw.length]; omega) ?turn).le (by omega) (by omega)
  intro K a b f g hf hg rf rg hne
  refine c_feqA rf rg hne (w1 f hf) (w2 g hg) ?ih
  intro k' K u u2 fs gs e a1 a2 a3 a4 a5 a6
  exact (ih k' e K u u2 fs gs a1 a2 (by omega) (by omega) a5 a6).le (by omega) (by omega)
end
-- UE4
section
set_option maxHeartbeats 4000000 in
theorem c_eqNone : ∀ {w : World} {kn : Led} {u : Addr} {fs : List Fld} {k : Nat} (hs : SetR kn k u fs) (hl1 : fs.length ≤ 60), Con w (.ref 164) [.ref u, .none] 50 500 kn (fun _ r => r = .bool fs.isEmpty) := by
  have hon : HKon := trivial
  intro w kn u fs k hs hl1
  obtain ⟨l, vs, hs0, hv⟩ := hs
  have hln := hv.length
  have hE : fs.isEmpty = vs.isEmpty := by cases fs <;> cases vs <;> simp at hln ⊢
  obtain ⟨du, g1, g2, g3, g4, m1, m2, m3⟩ := hs0
  refine Con.openG (hkO (no_implicit_lambda% ((?hopq : HTO _) _ _ _ _ _ _ _ _ _ _ _ _ _ _ _)))
  intros s dp un gd t1 t2 t3 base g outs loose mean mg mb Z
  refine ConG.mk ?_
  intro R ret hd hu
  k_extra "M body"
  intro L h₁ hL F N B X T C1 C2 C3 TK l1 l2 l3 l4
  try dsimp only
  try k_fold
  have stop := StopS.is
  k_steps
  refine HoldW.mk ?_
  refine list_copyK (items := vs.toArray) F N ?_ (fun D c h2 F2 N2 lD => ?_) (by rw [sizeLine_eq]; simp; omega)
  · exact listL N (List.mem_append_right (tabs t1 t2 t3) m3)
  clear F N
  k_lt lD
  have gr : Gr kn ((D, W.listOf vs.toArray c) :: kn) := Gr.cons ⟨lD.1, lD.2.1, lD.2.2.1, lD.2.2.2⟩
  have TK1 := TK.consN (p := (D, W.listOf vs.toArray c)) ⟨lD.1, lD.2.1, lD.2.2.1, lD.2.2.2⟩
  cases vs with
  | nil =>
    k_steps
    refine' ret _ _ _ _ _ _ _ ([] ++ _) ?X id (by rw [hE]; rfl)
    case X => k_extra "M fin3"
  | cons v vs =>
    k_steps
    refine' ret _ _ _ _ _ _ _ ([] ++ _) ?X id (by rw [hE]; rfl)
    case X => k_extra "M fin3"
end
-- CL0
section
noncomputable def VDo (o : Obj) : Prop := ∃ h k x n, o = dictOf [⟨h, .str "_values" k, x⟩] n
theorem nv_inst {c d : Addr} : ¬ VDo (instObj c d) := fun ⟨_, _, _, _, e⟩ => by cases e
theorem nv_list {a : Array Value} {n : Nat} : ¬ VDo (W.listOf a n) := fun ⟨_, _, _, _, e⟩ => by have := congrArg Obj.data e; cases this
theorem nv_dict2 {a b : DictEntry} {r : List DictEntry} {n : Nat} : ¬ VDo (dictOf (a :: b :: r) n) := fun ⟨_, _, _, _, e⟩ => by
  have := congrArg (fun o => (valsOf o).length) e
  simp [valsOf, dictOf] at this
noncomputable def Keeps (K K2 : Led) (D : List Addr) : Prop := ∀ p ∈ K, (¬ VDo p.2 ∨ p.1 ∈ D) → p ∈ K2
theorem Keeps.less {K K2 : Led} {D D' : List Addr} (x : Keeps K K2 D) (h : ∀ d ∈ D', d ∈ D) : Keeps K K2 D' := fun p hp hd => x p hp (hd.imp id (h _))
structure Chg (kn K : Led) (ch : List Addr) : Prop where
  still : ∀ p ∈ kn, p.1 ∉ ch → p ∈ K
  chin : ∀ c ∈ ch, ∃ o, (c, o) ∈ kn ∧ VDo o
  fresh : ∀ p ∈ K, (∃ q ∈ kn, q.1 = p.1) ∨ FrA kn p.1
theorem Chg.refl (kn : Led) : Chg kn kn [] := ⟨fun _ h _ => h, fun _ h => (by simp at h), fun p hp => .inl ⟨p, hp, rfl⟩⟩
theorem Chg.keeps {K K2 : Led} {ch D : List Addr} (x : Chg K K2 ch) (F : FunL K) (h : ∀ d ∈ D, d ∉ ch) : Keeps K K2 D := fun p hp hd => x.still p hp fun hc => by
  rcases hd with nv | hd
  · obtain ⟨o, ho, v⟩ := x.chin _ hc
    have := F p hp _ ho rfl
    exact nv (this ▸ v)
  · exact h _ hd hc
theorem Chg.trans {kn K K2 : Led} {ch ch2 : List Addr} (x : Chg kn K ch) (y : Chg K K2 ch2) (F : FunL K) (h : ∀ c ∈ ch2, c ∉ ch ∧ ∃ o, (c, o) ∈ kn) : Chg kn K2 (ch ++ ch2) where
  still := fun p hp hc => y.still p (x.still p hp fun q => hc (List.mem_append_left _ q)) fun q => hc (List.mem_append_right _ q)
  chin := fun c hc => by
    rcases List.mem_append.mp hc with hc | hc
    · exact x.chin c hc
    · obtain ⟨o, ho, v⟩ := y.chin c hc
      obtain ⟨nc, o', ho'⟩ := h c hc
      have := F _ (x.still _ ho' nc) _ ho rfl
      dsimp only at this
      exact ⟨o', ho', this ▸ v⟩
  fresh := fun p hp => by
    have dom : ∀ q ∈ kn, ∃ q' ∈ kn, q'.1 = q.1 := fun q hq => ⟨q, hq, rfl⟩
    rcases y.fresh p hp with ⟨q, hq, e⟩ | fr
    · rcases x.fresh q hq with ⟨q', hq', e'⟩ | fr
      · exact .inl ⟨q', hq', e'.trans e⟩
      · exact .inr (e ▸ fr)
    · by_cases hz : ∃ q ∈ kn, q.1 = p.1
      · exact .inl hz
      · exact .inr ⟨fr.1, fr.2.1, fr.2.2.1, fun q hq e => hz ⟨q, hq, e.symm⟩⟩
theorem FieldTop.keepV : ∀ {K K2 : Led} {D : List Addr} (h : Keeps K K2 D) {a : Addr} {n w : Int} {e : Value} (x : FieldTop K a n w e), FieldTop K2 a n w e := by
  have hon : HKon := trivial
  intro K K2 D h a n w e x
  obtain ⟨du, a, b, c, d, e, f, g, k, l, m, n⟩ := x
  first | exact exI10 ⟨h _ m (.inl nv_inst), h _ n (.inl nv_dict2)⟩ | exact exI9 ⟨l, h _ m (.inl nv_inst), h _ n (.inl nv_dict2)⟩ | exact exI8 ⟨k, l, h _ m (.inl nv_inst), h _ n (.inl nv_dict2)⟩ | exact ⟨du, a, b, c, d, e, f, g, k, l, h _ m (.inl nv_inst), h _ n (.inl nv_dict2)⟩
theorem SetTopD.keepV : ∀ {K K2 : Led} {D : List Addr} (h : Keeps K K2 D) {u du l : Addr} {vs : List Value} (x : SetTopD K u du l vs) (hd : du ∈ D), SetTopD K2 u du l vs := by
  have hon : HKon := trivial
  intro K K2 D h u du l vs x hd
  obtain ⟨a, b, c, d, e, f, g⟩ := x
  first | exact exI4 ⟨h _ e (.inl nv_inst), h _ f (.inr hd), h _ g (.inl nv_list)⟩ | exact exI3 ⟨d, h _ e (.inl nv_inst), h _ f (.inr hd), h _ g (.inl nv_list)⟩ | exact exI2 ⟨c, d, h _ e (.inl nv_inst), h _ f (.inr hd), h _ g (.inl nv_list)⟩ | exact ⟨a, b, c, d, h _ e (.inl nv_inst), h _ f (.inr hd), h _ g (.inl nv_list)⟩
theorem All2D.impM {α β : Type} {R R' : α → β → List Addr → Prop} {as : List α} {bs : List β} {ds : List Addr} (x : All2D R as bs ds) : (∀ a b d, (∀ e ∈ d, e ∈ ds) → R a b d → R' a b d) → All2D R' as bs ds := by
  induction x with
  | nil => exact fun _ => .nil
  | cons r _ ih => exact fun h => .cons (h _ _ _ (fun e he => List.mem_append_left _ he) r) (ih fun a b d hd q => h a b d (fun e he => List.mem_append_right _ (hd e he)) q)
theorem DataD.keepV {K K2 : Led} : ∀ {k : Nat} {e : Value} {f : Fld} {D : List Addr}, Keeps K K2 D → DataD K k e f D → DataD K2 k e f D
  | 0, _, .int .., _, _, x => by unfold DataD at *; exact x
  | 0, _, .byt .., _, _, x => by unfold DataD at *; exact x
  | 0, _, .grp .., _, _, x => by unfold DataD at *; exact x
  | k + 1, _, .int .., _, _, x => by unfold DataD at *; exact x
  | k + 1, _, .byt .., _, _, x => by unfold DataD at *; exact x
  | k + 1, _, .grp _ fs, _, h, x => by
    unfold DataD at *
    obtain ⟨a, u, du, l, vs, D', b, c, rfl, d⟩ := x
    exact ⟨a, u, du, l, vs, D', b, c.keepV h (.head _), rfl, d.impM fun v f D hd ⟨a, e, p, q, r⟩ => ⟨a, e, p, q.keepV h, DataD.keepV (h.less fun z hz => .tail _ (.tail _ (hd z hz))) r⟩⟩
theorem FieldD.keepV : ∀ {K K2 : Led} {k : Nat} {v : Value} {f : Fld} {D : List Addr} (h : Keeps K K2 D) (x : FieldD K k v f D), FieldD K2 k v f D := by
  have hon : HKon := trivial
  intro K K2 k v f D h x
  obtain ⟨a, e, p, q, r⟩ := x
  exact ⟨a, e, p, q.keepV h, r.keepV h⟩
noncomputable def ClrTopD (K : Led) (u du : Addr) : Prop := ∃ h k n, (u, instObj 174 du) ∈ K ∧ (du, dictOf [⟨h, .str "_values" k, .none⟩] n) ∈ K
theorem ClrTopD.top : ∀ {K : Led} {u du : Addr} (x : ClrTopD K u du), ClrTop K u := by
  have hon : HKon := trivial
  intro K u du x
  obtain ⟨a, b, c, d, e⟩ := x
  first | exact ⟨du, a, b, c, d, e⟩
theorem ClrTopD.keepV : ∀ {K K2 : Led} {D : List Addr} (h : Keeps K K2 D) {u du : Addr} (x : ClrTopD K u du) (hd : du ∈ D), ClrTopD K2 u du := by
  have hon : HKon := trivial
  intro K K2 D h u du x hd
  obtain ⟨a, b, c, d, e⟩ := x
  exact ⟨a, b, c, h _ d (.inl nv_inst), h _ e (.inr hd)⟩
noncomputable def ClrF (K : Led) (D : List Addr) (v : Value) (f : Fld) : Prop := ∀ n gs, f = .grp n gs → ∃ a u du, v = .ref a ∧ FieldTop K a n 3 (.ref u) ∧ ClrTopD K u du ∧ du ∈ D
theorem ClrF.keepV {K K2 : Led} {D D' : List Addr} (h : Keeps K K2 D) {v : Value} {f : Fld} (hd : ∀ d ∈ D, d ∈ D') (x : ClrF K D v f) : ClrF K2 D' v f := fun n gs e => by
  obtain ⟨a, u, du, p, q, r, z⟩ := x n gs e
  exact ⟨a, u, du, p, q.keepV h, r.keepV h z, hd _ z⟩
section
variable {w : World} {A : Around} {E : Value → Shared → Prop} {s : Shared} {env : Env}
noncomputable def LIt (o : Obj) (l : Addr) (i : Nat) : Prop := o.cls = .type "list_iterator" ∧ o.data = .fields #[.ref l, .int i 0]
theorem for_L {x : Str} {px : Pos} {body : List Stmt} {l : Addr} {vs : List Value} {Q : Flow → Shared → Prop} (hh : A.handled = none) (hl : s.heap.IsList l vs.toArray) (I : Nat → Addr → Shared → Prop)
    (init : ∀ h' o, (∀ b o, s.heap.get? b = some o → h'.get? b = some o) → h'.get? s.heap.objs.size = some o → LIt o l 0 → I 0 s.heap.objs.size { s with heap := h' })
    (hit : ∀ i It s', I i It s' → (∃ o, s'.heap.get? It = some o ∧ LIt o l i) ∧ s'.heap.IsList l vs.toArray)
    (turn : ∀ i It s' h₁ tk₁ v o E', vs[i]? = some v → I i It s' → h₁.get? It = some o → LIt o l (i + 1) → (∀ b o, b ≠ It → s'.heap.get? b = some o → h₁.get? b = some o) →
      wpAny (model prg w) A (assign (.Name x px) env v) (fun _ s₂ => wpAny (model prg w) A (execs body env) (fun f s₃ => match f with
        | .next | .cont => I (i + 1) It s₃
        | .brk => Q .next s₃
        | .ret v => Q (.ret v) s₃) E' s₂) E' { s' with heap := h₁, toks := tk₁ })
    (done : ∀ It s' h₁ tk₁, I vs.length It s' → (∀ b o, b ≠ It → s'.heap.get? b = some o → h₁.get? b = some o) → Q .next { s' with heap := h₁, toks := tk₁ }) :
    wpAny (model prg w) A (pyIter (.ref l)) (fun it s₂ => codeAny (model prg w) A (.forLoop (.Name x px) it body [] env) (fun r s' => match r with | .ok f => Q f s' | .error e => cameBackBy (model prg w) A env E e s') s₂) E s := by
  refine wpAny_pyIter_list hl ?_
  have k0 : ∀ b o, s.heap.get? b = some o → (s.heap.push { cls := .type "list_iterator", data := .fields #[.ref l, .int 0 0] }).get? b = some o := fun b o e => Heap.get?_push_of_some _ e
  have hls : l ≠ s.heap.objs.size := fun e => by
    obtain ⟨o, ho, _⟩ := hl
    rw [e, Heap.get?_none_of_le (Nat.le_refl _)] at ho; cases ho
  refine codeAny_forLoop_any (fun k s' => ∃ i, I i s.heap.objs.size s' ∧ i ≤ vs.length ∧ k = vs.length + 1 - i) ?_ (vs.length + 1) ⟨0, init _ _ k0 (Heap.get?_push_size _ rfl) ⟨rfl, rfl⟩, Nat.zero_le _, rfl⟩
  rintro k s' ⟨i, hI, hi, rfl⟩
  generalize hIt : s.heap.objs.size = It at *
  have W := Walks.list (prog := prg) (w := w) hh It l hls vs.toArray
  rw [List.size_toArray] at W
  by_cases hlt : i < vs.length
  · refine W.item i s' _ _ hlt (hit i It s' hI) fun v h₁ tk₁ hv hst hk => ?_
    obtain ⟨⟨o, ho, hL⟩, _⟩ := hst
    dsimp only
    refine wpAny_of_eq rfl ?_
    refine wpAny_mono (turn i It s' h₁ tk₁ v o _ (by simpa using hv) hI ho hL (fun b o hb e => hk b o (by simpa using hb) e)) (fun _ s₂ h₂ => wpAny_mono h₂ (fun f s₃ h₃ => ?_) fun _ _ e => e) fun _ _ e => e
    cases f with
    | next => exact ⟨vs.length + 1 - (i + 1), by omega, i + 1, h₃, by omega, rfl⟩
    | cont => exact ⟨vs.length + 1 - (i + 1), by omega, i + 1, h₃, by omega, rfl⟩
    | brk => exact h₃
    | ret v => exact h₃
  · obtain rfl : i = vs.length := by omega
    refine W.done s' _ _ (hit vs.length It s' hI) fun h₁ tk₁ hk => wpAny_execs_nil ?_
    exact done It s' h₁ tk₁ hI fun b o hb e => hk b o (by simpa using hb) e
end
end
-- CL1
section
theorem kwCL10 : True := by
  (k_with "exec For Name Attribute cons nil" => (k_here; k_dflt (refine' For_hold ?_ ?hszCL10; (case hszCL10 => (intro _; exact rfl)))))
  (k_with "call ref" => (k_here; (with_reducible rename StopS => sthold); k_dflt (show wpAny _ _ (call (Value.ref 171) [Value.ref _]) _ _ _); refine HoldW.out ?_))
  trivial
noncomputable def locU (sv : Value) (m0 : Str → Option Value) : Str → Option Value := fun y => if y = "self" then some sv else m0 y
theorem Fr.locU {g h : Heap} {L : Addr} {m : Str → Option Value} {fv : Value} (F : Fr g L h m) (h1 : m "self" = some fv) : Fr g L h (locU fv m) := by
  have e : m = Mine.locU fv m := by
    funext y
    unfold Mine.locU
    split
    · rename_i h; rw [h, h1]
    rfl
  exact (congrArg (Fr g L h) e).mp F
noncomputable def ClrC (w : World) (u du l : Addr) (k : Nat) (vs : List Value) (fs : List Fld) (D' : List Addr) (n m : Nat) (kn : Led) : Prop :=
  ConU w (.ref 171) [.ref u] n m kn (fun ch K2 r => r = .none ∧ (∀ c ∈ ch, c ∈ du :: l :: D' ∧ ∃ o, (c, o) ∈ kn ∧ VDo o) ∧ ClrTopD K2 u du ∧ All2 (ClrF K2 (du :: l :: D')) vs fs)
noncomputable def ClI (w : World) (g : Heap) (L : Addr) (kn : Led) (u du l : Addr) (k : Nat) (vs : List Value) (fs : List Fld) (D' : List Addr) (s₀ : Shared) (i : Nat) (It : Addr) (s₁ : Shared) : Prop :=
  ∃ h' tk gs t1 t2 t3 K m0 ch Dd Dr oI, s₁ = { s₀ with heap := h', toks := tk, gens := gs } ∧ Fr g L h' (locU (.ref u) m0) ∧ News g L h' ((It, oI) :: (266, tabObj t1) :: (280, tabObj t2) :: (159, tabObj t3) :: K) ∧ LIt oI l i ∧ TabOk t1 t2 t3 K ∧ (∀ p ∈ K, p.1 ≠ It) ∧ @LT.lt Nat instLTNat 280 It ∧ (AllBare s₀.gens → AllBare gs) ∧
    Chg kn K ch ∧ Dd ++ Dr = D' ∧ (∀ c ∈ ch, c ∈ Dd) ∧ SetTopD K u du l vs ∧ All2D (FieldD K k) (vs.drop i) (fs.drop i) Dr ∧ All2 (ClrF K Dd) (vs.take i) (fs.take i)
theorem DataD.kinds {K : Led} {ea : Value} {d : List Addr} : ∀ {k : Nat} {f : Fld}, DataD K k ea f d → ((∀ n gs, f ≠ .grp n gs) ∧ d = [] ∧ ∃ v t, ea = .int v t) ∨ ((∀ n gs, f ≠ .grp n gs) ∧ d = [] ∧ ∃ y t, ea = .bytes y t) ∨
    ∃ nn gs' k', f = .grp nn gs' ∧ k = k' + 1 ∧ gs'.length ≤ 2 ∧ ∃ u' du' l' vs' D2, ea = .ref u' ∧ SetTopD K u' du' l' vs' ∧ d = du' :: l' :: D2 ∧ All2D (FieldD K k') vs' gs' D2
  | 0, .int .., h | _ + 1, .int .., h => by unfold DataD at h; exact .inl ⟨fun _ _ e => (nomatch e), h.1, _, h.2.2⟩
  | 0, .byt .., h | _ + 1, .byt .., h => by unfold DataD at h; exact .inr (.inl ⟨fun _ _ e => (nomatch e), h.1, _, h.2⟩)
  | 0, .grp .., h => by unfold DataD at h; exact h.elim
  | _ + 1, .grp .., h => by
    unfold DataD at h
    obtain ⟨a, u, du, l, vs, D', b, c, e, f⟩ := h
    exact .inr (.inr ⟨_, _, _, rfl, rfl, a, u, du, l, vs, D', b, c, e, f⟩)
set_option maxHeartbeats 4000000 in
theorem c_clrA : ∀ {w : World} {kn : Led} {u du l : Addr} {vs : List Value} {fs : List Fld} {D' : List Addr} {k n m : Nat} (hs : SetTopD kn u du l vs) (hall : All2D (FieldD kn k) vs fs D') (hnd : (du :: l :: D').Nodup) (hl1 : vs.length ≤ 60) (IH : ∀ k' K u du l vs fs D', k = k' + 1 → SetTopD K u du l vs → All2D (FieldD K k') vs fs D' → (du :: l :: D').Nodup → fs.length ≤ 2 → ClrC w u du l k' vs fs D' n m K), ClrC w u du l k vs fs D' (n + 60) (m + 600) kn := by
  have hon : HKon := trivial
  intro w kn u du l vs fs D' k n m hs hall hnd hl1 IH
  have hs0 := hs
  obtain ⟨g1, g2, g3, g4, m1, m2, m3⟩ := hs
  refine ConU.openG (hkO (no_implicit_lambda% ((?hgo : HTO _) _ _ _ _ _ _ _ _ _ _ _ _ _ _ _)))
  intros s dp un gd t1 t2 t3 base g outs loose mean mg mb Z
  refine ConUG.mk ?_
  intro R ret hd hu
  k_extra "M body"
  intro L h₁ hL F N B X T C1 C2 C3 TK l1 l2 l3 l4
  try dsimp only
  try k_fold
  rename Rdy _ _ _ _ _ _ _ _ _ _ _ _ _ _ _ _ => R0
  have stop := StopS.is
  k_steps
  refine HoldW.mk ?_
  rename News _ _ _ _ => N9
  rename Fr _ _ _ _ => F9
  refine for_L rfl (listL N9 (List.mem_append_right (tabs t1 t2 t3) m3)) (ClI w g L kn u du l k vs fs D' s) ?init ?hit ?turn ?done
  case init =>
    intro h' oI k' e hL'
    have hIg : g.get? _ = none := Heap.get?_none_of_le (Nat.le_trans F9.above (Nat.le_of_lt F9.ns.lt))
    have lIt : L < _ := F9.ns.lt
    refine ⟨h', _, _, t1, t2, t3, kn, _, [], [], D', oI, rfl, Mine.Fr.locU (F9.keeps k') rfl, fun p hp => ?_, hL', TK, fun p hp => Nat.ne_of_lt (Heap.lt_size (N9 p (.tail _ (.tail _ (.tail _ hp)))).1), Heap.lt_size (N9 (280, tabObj t2) (by simp)).1, id, Chg.refl kn, rfl, fun _ h => (by simp at h), hs0, by simpa using hall, by simpa using All2.nil⟩
    rcases List.mem_cons.mp hp with rfl | hp
    · exact ⟨e, Nat.ne_of_gt lIt, hIg⟩
    · exact ⟨k' _ _ (N9 p hp).1, (N9 p hp).2⟩
  case hit => 
    intro i It s' hI
    obtain ⟨h', tk, gs, t1, t2, t3, K, m0, ch, Dd, Dr, oI, rfl, F3, N3, hL3, TK3, off3, hIt, hg3, cg, eD, cD, st, al, cl⟩ := hI
    obtain ⟨_, _, _, _, i1, i2, i3⟩ := st
    exact ⟨⟨oI, (N3 _ (.head _)).1, hL3⟩, ⟨_, (N3 _ (.tail _ (.tail _ (.tail _ (.tail _ i3))))).1, rfl, _, rfl⟩⟩
  case turn =>
    rintro i It s' h2 tk2 v oI' E' hv ⟨h', tk, gs, t1', t2', t3', K, m0, ch, Dd, Dr, oI, rfl, F3, N3, hL3, TK3, off3, hIt, hg3, cg, eD, cD, st, al, cl⟩ e2 hL2 k2
    obtain ⟨F4, N4⟩ := it_step F3 N3 e2 k2 (fun p hp => by
      simp only [List.mem_cons] at hp
      rcases hp with rfl | rfl | rfl | hp
      · exact neN (by omega)
      · exact neN (by omega)
      · exact neN (by omega)
      · exact off3 p hp)
    clear F9 N9 F3 N3
    have hil := (List.getElem?_eq_some_iff.mp hv).1
    have hln := hall.length
    obtain ⟨f, hf⟩ : ∃ f, fs[i]? = some f := ⟨_, List.getElem?_eq_getElem (by omega)⟩
    have ev : vs.drop i = v :: vs.drop (i + 1) := by rw [List.drop_eq_getElem_cons hil]; congr 1; exact (List.getElem?_eq_some_iff.mp hv).2
    have ef : fs.drop i = f :: fs.drop (i + 1) := by rw [List.drop_eq_getElem_cons (by omega)]; congr 1; exact (List.getElem?_eq_some_iff.mp hf).2
    rw [ev, ef] at al
    generalize hvd : vs.drop (i + 1) = vd at al
    generalize hfd : fs.drop (i + 1) = fd at al
    obtain ⟨d, ds, rfl, hfD, al2⟩ : ∃ d ds, Dr = d ++ ds ∧ FieldD K k v f d ∧ All2D (FieldD K k) vd fd ds := by cases al with | cons a b => exact ⟨_, _, rfl, a, b⟩
    have htv : vs.take (i + 1) = vs.take i ++ [v] := by rw [List.take_add_one, hv]; rfl
    have htf : fs.take (i + 1) = fs.take i ++ [f] := by rw [List.take_add_one, hf]; rfl
    have fin1 : (∀ n gs, f ≠ .grp n gs) → d = [] → ∀ h' tk m0, Fr g L h' (locU (.ref u) m0) → News g L h' ((It, oI') :: (266, tabObj t1') :: (280, tabObj t2') :: (159, tabObj t3') :: K) → ClI w g L kn u du l k vs fs D' s (i + 1) It { s with heap := h', toks := tk, gens := gs } := fun nf e0 h' tk m0 F N => by
      subst e0
      refine ⟨h', tk, gs, t1', t2', t3', K, m0, ch, Dd, ds, oI', rfl, F, N, hL2, TK3, off3, hIt, hg3, cg, by simpa using eD, cD, st, by rw [hvd, hfd]; exact al2, ?_⟩
      rw [htv, htf]
      exact cl.snoc fun n gs e => absurd e (nf n gs)
    obtain ⟨a, ea, rfl, ft, hD⟩ := hfD
    have ft0 := ft
    obtain ⟨df, x1, x2, x3, x4, x5, x6, x7, x8, x9, i1, i2⟩ := ft
    have hfc := hD.kinds
    rcases hfc with hfc | hfc | hfc
    · obtain ⟨nf, e0, vv, t, rfl⟩ := hfc
      k_steps
      show ClI w g L kn u du l k vs fs D' s (i + 1) It _
      refine' fin1 ?nf e0 _ _ _ (Mine.Fr.locU ?F ?g) ?Nq
      case nf => exact nf
      case F => k_asm
      case g => exact rfl
      case Nq => k_asm
    · obtain ⟨nf, e0, vv, t, rfl⟩ := hfc
      k_steps
      show ClI w g L kn u du l k vs fs D' s (i + 1) It _
      refine' fin1 ?nf e0 _ _ _ (Mine.Fr.locU ?F ?g) ?Nq
      case nf => exact nf
      case F => k_asm
      case g => exact rfl
      case Nq => k_asm
    · obtain ⟨nn, gs', k', rfl, rfl, hl2, u', du', l', vs', D2, rfl, st2, rfl, al3⟩ := hfc
      clear fin1
      have st2' := st2
      obtain ⟨y1, y2, y3, y4, j1, j2, j3⟩ := st2'
      have ndD : (du' :: l' :: D2).Nodup := by
        have := (List.nodup_cons.mp (List.nodup_cons.mp hnd).2).2
        rw [← eD] at this
        exact (List.nodup_append.mp (List.nodup_append.mp this).2.1).1
      k_steps
      refine HoldW.mk ?_
      rename News _ _ _ _ => N6
      have FK : FunL K := fun p hp q hq e => news_fun N6 (by k_mem) (by k_mem) e
      refine' use_conU (IH k' K u' du' l' vs' gs' D2 rfl st2 al3 ndD hl2) ?B ?F ?X ?Nq ?T ?C1 ?C2 ?C3 ?TK ?hO ?hA ?hf ?hke ?hh ?hd ?hu ?_
      (case hA => exact rfl); (case hf => exact rfl); (case hke => exact rfl); (case hh => exact rfl); (case F => k_asm); (case Nq => k_asm); (case B => k_asm); (case X => k_asm); (case T => k_asm); (case C1 => k_asm); (case C2 => k_asm); (case C3 => k_asm); (case TK => k_asm)
      (case hO => exact OwnU.cons ⟨neN (by omega), neN (by omega), neN (by omega)⟩ off3 OwnU.nil); (case hd => k_room); (case hu => k_units)
      intro r' h' tk' gs2 v1 v2 v3 K2 ch2 F7 N7 x7 Nh7 TK7 hg7 p7
      obtain ⟨_, hch2, ctop, _⟩ := p7
      have cg2 : Chg K K2 ch2 := ⟨x7.still, fun c hc => (hch2 c hc).2, fun p hp => (x7.fresh p hp).imp id fun fr =>
        have ne : ∀ q ∈ tabs t1' t2' t3' ++ K, p.1 ≠ q.1 := fun q hq => get_ne (Nh7 q hq) fr
        ⟨ne _ (List.mem_append_left _ (.head _)), ne _ (List.mem_append_left _ (.tail _ (.head _))), ne _ (List.mem_append_left _ (.tail _ (.tail _ (.head _)))), fun q hq => ne q (List.mem_append_right _ hq)⟩⟩
      have domk : ∀ e ∈ D', ∃ o, (e, o) ∈ kn := hall.dom (P := fun e => ∃ o, (e, o) ∈ kn) fun v f D ⟨a, e, p, q, r⟩ => DataD.dom r
      have nd1 := List.nodup_cons.mp hnd
      have nd2 := List.nodup_cons.mp nd1.2
      have nd3 : (Dd ++ (du' :: l' :: D2 ++ ds)).Nodup := by rw [eD]; exact nd2.2
      have nd4 := List.nodup_append.mp nd3
      have nd5 := List.nodup_append.mp nd4.2.1
      have inD : ∀ c ∈ du' :: l' :: D2, c ∈ D' := fun c hc => by rw [← eD]; exact List.mem_append_right _ (List.mem_append_left _ hc)
      have c2d : ∀ c ∈ ch2, c ∈ du' :: l' :: D2 := fun c hc => (hch2 c hc).1
      have cg3 := cg.trans cg2 FK fun c hc => ⟨fun q => nd4.2.2 _ (cD _ q) _ (List.mem_append_left _ (c2d c hc)) rfl, domk _ (inD _ (c2d c hc))⟩
      have kp : Keeps K K2 (du :: l :: (Dd ++ ds)) := cg2.keeps FK fun e he hc =>
        (List.mem_cons.mp he).elim (fun h => nd1.1 (.tail _ (inD _ (h ▸ c2d e hc)))) fun he => (List.mem_cons.mp he).elim (fun h => nd2.1 (inD _ (h ▸ c2d e hc))) fun he =>
          (List.mem_append.mp he).elim (fun he => nd4.2.2 _ he _ (List.mem_append_left _ (c2d e hc)) rfl) fun he => nd5.2.2 _ (c2d e hc) _ he rfl
      have off7 : ∀ p ∈ K2, p.1 ≠ It := fun p hp => (x7.fresh p hp).elim (fun ⟨q, hq, e⟩ => e ▸ off3 q hq) fun fr => get_ne (N6 (It, oI') (.head _)).1 fr
      clear N6 hch2 IH
      k_steps
      show ClI w g L kn u du l (k' + 1) vs fs D' s (i + 1) It _
      refine' ⟨_, _, _, _, _, _, K2, _, ch ++ ch2, Dd ++ (du' :: l' :: D2), ds, oI', rfl, Mine.Fr.locU ?F ?g, ?Nq, hL2, TK7, off7, hIt, fun z => hg7 (hg3 z), cg3, by rw [List.append_assoc]; exact eD, fun c hc => ?cc, st.keepV kp (.head _), ?al, ?cl⟩
      case F => k_asm
      case g => exact rfl
      case Nq => k_asm
      case cc => exact (List.mem_append.mp hc).elim (fun h => List.mem_append_left _ (cD c h)) fun h => List.mem_append_right _ (c2d c h)
      case al =>
        rw [hvd, hfd]
        exact al2.impM fun v f D hd x => x.keepV (kp.less fun z hz => .tail _ (.tail _ (List.mem_append_right _ (hd z hz))))
      case cl =>
        rw [htv, htf]
        refine (cl.imp fun _ _ x => ClrF.keepV (kp.less fun z hz => .tail _ (.tail _ (List.mem_append_left _ hz))) (fun z hz => List.mem_append_left _ hz) x).snoc ?_
        intro n gs e
        cases e
        exact ⟨a, u', du', rfl, ft0.keepV kp, ctop, List.mem_append_right _ (.head _)⟩
  case done =>
    rintro It s' h2 tk2 ⟨h', tk, gs, t1', t2', t3', K, m0, ch, Dd, Dr, oI, rfl, F3, N3, hL3, TK3, off3, hIt, hg3, cg, eD, cD, st, al, cl⟩ k2
    obtain ⟨F4, N4⟩ := it_end F3 N3 k2 (fun p hp => by
      simp only [List.mem_cons] at hp
      rcases hp with rfl | rfl | rfl | hp
      · exact neN (by omega)
      · exact neN (by omega)
      · exact neN (by omega)
      · exact off3 p hp)
    clear F9 N9 F3 N3 IH
    have st0 := st
    obtain ⟨y1, y2, y3, y4, j1, j2, j3⟩ := st
    have FK : FunL K := fun p hp q hq e => news_fun N4 (.tail _ (.tail _ (.tail _ hp))) (.tail _ (.tail _ (.tail _ hq))) e
    have t4 := TK3.d _ j2
    dsimp only at t4
    have dI := del_iff j2 fun p hp e => FK p hp _ j2 e
    have fu : u ≠ du := fun e => by have := FK _ j1 _ j2 e; have := congrArg Obj.data this; cases this
    have ju : (u, instObj 174 du) ∈ del du K := mem_del.mpr ⟨j1, fu⟩
    have offd : ∀ p ∈ del du K, p.1 ≠ du := fun p hp => (mem_del.mp hp).2
    have N5 : News g L h2 ((du, dictOf [⟨y1, .str "_values" y2, .ref l⟩] y3) :: (266, tabObj t1') :: (280, tabObj t2') :: (159, tabObj t3') :: del du K) := News.pick N4 fun p hp => by
      simp only [List.mem_cons, mem_del] at hp ⊢
      rcases hp with rfl | rfl | rfl | rfl | ⟨hp, _⟩
      · exact .inr (.inr (.inr j2))
      · exact .inl rfl
      · exact .inr (.inl rfl)
      · exact .inr (.inr (.inl rfl))
      · exact .inr (.inr (.inr hp))
    clear N4
    k_steps
    have t5 : (266 : Addr) ≠ du := t4.1.symm
    have t6 : (280 : Addr) ≠ du := t4.2.1.symm
    have t7 : (159 : Addr) ≠ du := t4.2.2.symm
    k_dflt (refine' set_dict (es' := [⟨y1, .str "_values" y2, .none⟩]) (n' := y3) (news' := (du, dictOf [⟨y1, .str "_values" y2, .none⟩] y3) :: (266, tabObj t1') :: (280, tabObj t2') :: (159, tabObj t3') :: del du K) ?k1 ?k2 ?k3 ?k4 ?k5 ?k6 ?k7 ?k8 ?k9 ?k10 ?k11 ?k12 ?k13 ?_)
    (case k1 => k_asm); (case k2 => k_asm); (case k3 => k_asm); (case k4 => k_inst); (case k5 => exact rfl); (case k6 => k_is); (case k7 => k_is); (case k8 => k_is); (case k9 => k_is); (case k10 => k_get)
    case k11 => exact rfl
    case k13 => simp
    case k12 =>
      refine Upd.head fun p hp => ?_
      simp only [List.mem_cons] at hp
      rcases hp with rfl | rfl | rfl | hp
      · exact t5
      · exact t6
      · exact t7
      · exact offd p hp
    intro h6 F6 N6
    clear N5 F4
    have dL : ∀ (q : Str) (d : Addr), CodeE K q d → CodeE (del du K) q d := fun q d ⟨oc, vs, tk, a, b, e⟩ => ⟨oc, vs, tk, mem_del.mpr ⟨a, fun z => by
      have := FK _ a _ j2 z
      dsimp only at this
      subst this
      cases b⟩, b, e⟩
    have TK6 : TabOk t1' t2' t3' ((du, dictOf [⟨y1, .str "_values" y2, .none⟩] y3) :: del du K) := TabOk.cons ⟨TK3.a.imp id fun ⟨c, e, y⟩ => ⟨c, e, dL _ _ y⟩, TK3.b.imp id fun ⟨c, e, y⟩ => ⟨c, e, dL _ _ y⟩, TK3.c.imp id fun ⟨c, d, e, y, z⟩ => ⟨c, d, e, dL _ _ y, dL _ _ z⟩, fun p hp => TK3.d p (mem_del.mp hp).1⟩ t4
    k_steps
    all_goals (k_extra "M out")
    have nd1 := List.nodup_cons.mp hnd
    have kp : Keeps K ((du, dictOf [⟨y1, .str "_values" y2, .none⟩] y3) :: del du K) D' := fun p hp hd => .tail _ (mem_del.mpr ⟨hp, fun e => by
      rcases hd with nv | hd
      · have := FK _ hp _ j2 e
        exact nv (this ▸ ⟨_, _, _, _, rfl⟩)
      · exact nd1.1 (.tail _ (e ▸ hd))⟩)
    have cDl : ∀ c ∈ Dd, c ∈ D' := fun c hc => by rw [← eD]; exact List.mem_append_left _ hc
    refine' ret _ _ _ _ _ _ _ ((du, dictOf [⟨y1, .str "_values" y2, .none⟩] y3) :: del du K) (du :: ch) ?X hg3 ⟨rfl, List.forall_mem_cons.mpr ⟨⟨.head _, _, m2, _, _, _, _, rfl⟩, fun c hc => ⟨.tail _ (.tail _ (cDl _ (cD c hc))), cg.chin c hc⟩⟩, ⟨_, _, _, .tail _ ju, .head _⟩, ?cl⟩
    case cl =>
      rw [List.take_of_length_le (by omega), List.take_of_length_le (by have := hall.length; omega)] at cl
      exact cl.imp fun _ _ x => ClrF.keepV (kp.less cDl) (fun z hz => .tail _ (.tail _ (cDl z hz))) x
    case X =>
      refine' finU R0 (Nat.le_of_eq hL.symm) ?F ?Nq TK6 ?ht ?hk ?hst ?hch ?hfr
      case F => k_asm
      case Nq => k_asm
      case ht => k_extra "M sub"
      case hk => k_extra "M sub"
      case hst => exact fun p hp hc => .tail _ (mem_del.mpr ⟨cg.still p hp fun h => hc (.tail _ h), fun e => hc (e ▸ .head _)⟩)
      case hch => exact List.forall_mem_cons.mpr ⟨⟨_, m2⟩, fun c hc => let ⟨o, h, _⟩ := cg.chin c hc; ⟨o, h⟩⟩
      case hfr => exact List.forall_mem_cons.mpr ⟨.inl ⟨_, m2, rfl⟩, fun p hp => cg.fresh p (mem_del.mp hp).1⟩
theorem ConU.le {w : World} {f : Value} {args : List Value} {n u n' u' : Nat} {kn : Led} {P : List Addr → Led → Value → Prop} (x : ConU w f args n u kn P) (h : n ≤ n') (h' : u ≤ u') : ConU w f args n' u' kn P :=
  fun A s t1 t2 t3 base outs g loose mean mg mb Z R ret => x A s t1 t2 t3 base outs g loose mean mg mb Z { R with depth := by have := R.depth; omega, units := by have := R.units; omega } ret
theorem c_clear : ∀ {w : World} (k : Nat) (kn : Led) (u du l : Addr) (vs : List Value) (fs : List Fld) (D' : List Addr), SetTopD kn u du l vs → All2D (FieldD kn k) vs fs D' → (du :: l :: D').Nodup → fs.length ≤ 60 → ClrC w u du l k vs fs D' (60 * k + 60) (600 * k + 600) kn := by
  have hon : HKon := trivial
  intro w
  refine by_pred ?_
  intro k ih kn u du l vs fs D' h1 h2 h3 h4
  refine c_clrA (n := 60 * k) (m := 600 * k) h1 h2 h3 (by have := h2.length; omega) ?ih
  intro k' K u du l vs fs D' e a1 a2 a3 a4
  exact (ih k' e K u du l vs fs D' a1 a2 a3 (by omega)).le (by omega) (by omega)
end
-- CRP
section
inductive StopT : Prop
  | is
theorem Same.trans {a b c : Heap} (x : Same a b) (y : Same b c) : Same a c := ⟨fun b o e => y.keep b o (x.keep b o e), Nat.le_trans x.size y.size⟩
section
variable {prog : Program} {w : World} {A A₀ : Around} {E : Value → Shared → Prop} {s : Shared} {h₀ base : Heap} {L x C dx : Addr} {m : Str → Option Value} {news kn : Led} {env : Env} {outer : List Env} {t1 t2 t3 : Array Value}
  {loose : List Str} {mean : ExcName → Option Value} {mg mb : Str → Option Value} {n u : Nat} {Post0 : Value → Prop} {name : Str} {expr : Bool} {Q : Value → Shared → Prop} {p fget : Addr} {rest : List Value} {od ox : Obj}
theorem get_conS (C0 : Con0 w (.ref fget) [.ref x] n u kn Post0) (hv : ∀ r, Post0 r → handedIn r = true) (TK : TabOk t1 t2 t3 kn) (I : InstAt s.heap x ox C (some od))
    (hg : plainGet (hd.heap_1_39 w.params) C name = true) (hhd : hasDictIn (hd.heap_1_39 w.params) C = true)
    (ha : findIn (hd.heap_1_39 w.params) (.ref C) name = some (some (.ref p))) (hn : specialIn (hd.heap_1_39 w.params) (.ref p) "__get__" = some (some (.builtin "property.__get__"))) (ht : takesIn (hd.heap_1_39 w.params) (.ref p) = some true) (hp : recIn (hd.heap_1_39 w.params) p "property" = some (.ref fget :: rest))
    (B : Below A₀ base outer h₀) (F : Fr h₀ L s.heap m) (X : (hd.heap_1_39 w.params).In h₀) (N : News h₀ L s.heap news) (T : Top topProg loose mean mg mb h₀)
    (C1 : CodeHd h₀ 270 266) (C2 : CodeHd h₀ 284 280) (C3 : CodeHd h₀ 163 159) (hsub : ∀ p ∈ tabs t1 t2 t3 ++ kn, p ∈ news)
    (hA : A.frames = some (env :: outer)) (hf : env.frame = some L) (hke : env.scope.kind = .function)
    (hh : A.handled = none) (hd : A.depth + n < recursionLimit) (hu : A.units + (u + 1) < cLine)
    (h : ∀ r h' tk', Same s.heap h' → Fr h₀ L h' m → News h₀ L h' news → Post0 r → Q r { s with heap := h', toks := tk' }) : wpAny (model prg w) A (getAttr (.ref x) name expr) Q E s :=
  get_prop F X I hg hhd ha hn ht hp (C0 A.in1 { s with toks := s.toks + 1 } t1 t2 t3 base (env :: outer) _ loose mean mg mb _ (rdy_of B F X N T C1 C2 C3 hA hf hke hsub TK hh hd (by show A.units + 1 + u < cLine; omega)) fun r h' tk' x q => handed_on (hv r q) (h r h' tk' x (x.fr F) (x.led N) q))
end
theorem kwCRP0 : True := by
  (k_with "getAttr ref" => (k_here; (with_reducible rename StopT => sthold); (with_reducible show wpAny _ _ (getAttr (Value.ref _) (PySem.Str.ofString "wire_type") _) _ _ _); k_dflt (refine' get_conS (c_wtype ?q1zCRP0 ?q2zCRP0 ?q3zCRP0 ?q4zCRP0 ?q5zCRP0 ?q6zCRP0) ?hvzCRP0 ?TK ?I ?hg ?hhd ?ha ?hn ?ht ?hp ?B ?F ?X ?Nq ?T ?C1 ?C2 ?C3 ?sub ?hA ?hf ?hke ?hh ?hd ?hu ?_; (case q1zCRP0 => assumption); (case q2zCRP0 => assumption); (case q3zCRP0 => omega); (case q4zCRP0 => assumption); (case q5zCRP0 => assumption); (case q6zCRP0 => assumption); (case hvzCRP0 => (intro _ e; obtain ⟨_, e⟩ := e; subst e; rfl)); k_extra "M get"); intro r'w h'w tk'w sm'w F'w N'w p'w; (try (rename Heap.Ns _ _ _ => hn'w; replace hn'w := Heap.Ns.keeps hn'w (Same.keep sm'w))); obtain ⟨_, e'w⟩ := p'w; subst e'w; k_extra "M after"))
  (k_with "getAttr ref" => (k_here; (with_reducible rename StopT => sthold); (with_reducible show wpAny _ _ (getAttr (Value.ref _) (PySem.Str.ofString "data") _) _ _ _); k_dflt (refine' get_conS (c_data ?q1zCRP1 ?q2zCRP1 ?q3zCRP1 ?q4zCRP1 ?q5zCRP1 ?q6zCRP1) ?hvzCRP1 ?TK ?I ?hg ?hhd ?ha ?hn ?ht ?hp ?B ?F ?X ?Nq ?T ?C1 ?C2 ?C3 ?sub ?hA ?hf ?hke ?hh ?hd ?hu ?_; (case q1zCRP1 => assumption); (case q2zCRP1 => assumption); (case q3zCRP1 => omega); (case q4zCRP1 => assumption); (case q5zCRP1 => assumption); (case q6zCRP1 => assumption); (case hvzCRP1 => (intro _ e; subst e; assumption)); k_extra "M get"); intro r'w h'w tk'w sm'w F'w N'w p'w; (try (rename Heap.Ns _ _ _ => hn'w; replace hn'w := Heap.Ns.keeps hn'w (Same.keep sm'w))); subst p'w; k_extra "M after"))
  (k_with "call ref" => (k_here; (with_reducible rename StopT => sthold); k_dflt (show wpAny _ _ (call (Value.ref 358) [Value.ref _]) _ _ _); refine HoldW.out ?_))
  (k_with "call ref" => (k_here; (with_reducible rename StopT => sthold); k_dflt (show wpAny _ _ (call (Value.ref 171) [Value.ref _]) _ _ _); refine HoldW.out ?_))
  (k_with "call ref" => (k_here; (with_reducible rename StopT => sthold); k_dflt (show wpAny _ _ (call (Value.ref 384) [Value.ref _]) _ _ _); refine HoldW.out ?_))
  (k_with "call ref" => (k_here; (with_reducible rename StopT => sthold); k_dflt (show wpAny _ _ (call (Value.ref 377) [Value.ref _, Value.int _ _]) _ _ _); refine HoldW.out ?_))
  (k_with "call ref" => (k_here; (with_reducible rename StopT => sthold); k_dflt (show wpAny _ _ (call (Value.ref 391) [Value.ref _, Value.int _ _]) _ _ _); refine HoldW.out ?_))
  (k_with "call ref" => (k_here; (with_reducible rename StopT => sthold); k_dflt (show wpAny _ _ (call (Value.ref 370) [Value.ref _, Value.ref _]) _ _ _); refine HoldW.out ?_))
  trivial
noncomputable def FldsR (kn : Led) (k : Nat) (l : Addr) (fs : List Fld) : Prop := ∃ (vs : List Value) (ps : List (Value × Value)) (xs : List (List UInt8 × Tok)) (n : Nat), (l, W.listOf vs.toArray n) ∈ kn ∧ PairsR kn vs ps ∧ ps.map Prod.fst = xs.map BJ.val ∧ All2 (EncR k) fs (xs.map (·.1)) ∧ All2 (SaidR kn k) (ps.map Prod.snd) fs
theorem FldsR.mono : ∀ {kn kn' : Led} {k : Nat} {l : Addr} {fs : List Fld} (x : FldsR kn k l fs) (h : ∀ p ∈ kn, p ∈ kn'), FldsR kn' k l fs := by
  have hon : HKon := trivial
  intro kn kn' k l fs x h
  obtain ⟨vs, ps, xs, n, a, b, c, d, e⟩ := x
  first | exact exI4 ⟨h _ a, b.mono h, c, d, e.imp fun _ _ y => y.mono h⟩ | exact exI3 ⟨n, h _ a, b.mono h, c, d, e.imp fun _ _ y => y.mono h⟩ | exact exI2 ⟨xs, n, h _ a, b.mono h, c, d, e.imp fun _ _ y => y.mono h⟩ | exact ⟨vs, ps, xs, n, h _ a, b.mono h, c, d, e.imp fun _ _ y => y.mono h⟩
theorem c_lsetF : ∀ {w : World} {kn : Led} {k : Nat} {fs : List Fld} {l : Addr} (hk : k ≤ 2) (h : FldsR kn k l fs) (hl : fs.length ≤ 8), Con w (.ref 358) [.ref l] (nK k + 110) (uK k + 3000) kn (fun kn' r => ∃ a, r = .ref a ∧ SetN kn kn' k a fs) := by
  have hon : HKon := trivial
  intro w kn k fs l hk h hl
  obtain ⟨_, _, _, _, a, b, c, d, _⟩ := h
  exact c_lset hk a b c d hl
theorem All2D.mem {α β : Type} {R : α → β → List Addr → Prop} {as : List α} {bs : List β} {ds : List Addr} (x : All2D R as bs ds) : ∀ {i : Nat} {a : α}, as[i]? = some a → ∃ b d, bs[i]? = some b ∧ R a b d := by
  induction x with
  | nil => intro i a h; simp at h
  | cons r _ ih =>
    intro i a h
    cases i with
    | zero => simp at h; subst h; exact ⟨_, _, rfl, r⟩
    | succ i => obtain ⟨b, d, h1, h2⟩ := ih (i := i) (by simpa using h); exact ⟨b, d, by simpa using h1, h2⟩
theorem DataR.handed {kn : Led} {k : Nat} {e : Value} {f : Fld} (h : DataR kn k e f) : handedIn e = true := by
  cases k <;> cases f <;> unfold DataR at h
  · obtain ⟨_, t, rfl⟩ := h; rfl
  · obtain ⟨t, rfl⟩ := h; rfl
  · exact h.elim
  · obtain ⟨_, t, rfl⟩ := h; rfl
  · obtain ⟨t, rfl⟩ := h; rfl
  · obtain ⟨_, u, l, vs, rfl, _⟩ := h; rfl
theorem turn_same {s : Shared} {h' : Heap} {tk : Nat} {g : Heap} {L I C D : Addr} {m : Str → Option Value} {t1 t2 t3 : Array Value} {led : Led} {J : Led → Prop} (S : CompSt g L m I C D t1 t2 t3 led s.heap) (x : Same s.heap h') (hJ : J led) : TurnP s led J { s with heap := h', toks := tk } :=
  ⟨h', tk, s.gens, t1, t2, t3, led, rfl, Keep3.of x.keep, x.size, id, fun p hp => x.keep _ _ (S.N p hp).1, S.tok, fun p hp => .inl hp, hJ⟩
theorem RefAt.keepV {K K2 : Led} {D : List Addr} (h : Keeps K K2 D) {r u : Addr} {i : Nat} (x : RefAt K r u i) : RefAt K2 r u i := by
  obtain ⟨dx, a1, a2, a3, a4, a5, a6, a, b⟩ := x
  exact ⟨dx, a1, a2, a3, a4, a5, a6, h _ a (.inl nv_inst), h _ b (.inl nv_dict2)⟩
theorem RefsR.keepV {K K2 : Led} {D : List Addr} (h : Keeps K K2 D) {u : Addr} {zs : List Value} (x : RefsR K u zs) : RefsR K2 u zs := fun j v e => let ⟨r, a, b⟩ := x j v e; ⟨r, a, b.keepV h⟩
theorem SetD.keepV {K K2 : Led} {D : List Addr} (h : Keeps K K2 D) {k : Nat} {u : Addr} {fs : List Fld} (x : SetD K k u fs D) : SetD K2 k u fs D := by
  obtain ⟨du, l, vs, D', st, rfl, al⟩ := x
  exact ⟨du, l, vs, D', st.keepV h (.head _), rfl, al.impM fun v f d hd y => y.keepV (h.less fun z hz => .tail _ (.tail _ (hd z hz)))⟩
end
-- CC0
section
theorem new_cell {w : World} {A : Around} {E : Value → Shared → Prop} {s : Shared} {scope : Scope} {globals : Addr} {cl : List (Str × Addr)} {qual : Str} {outer : Env} {x0 y : Str} {rest : List (Str × NameKind)} {Q : Env → Shared → Prop}
    (hnm : scope.names = (x0, .local) :: (y, .cell) :: rest) (hrest : ∀ z ∈ rest, z.2 ≠ .cell)
    (hQ : Q (newEnv scope s.heap.objs.size globals ((y, s.heap.objs.size + 1) :: cl) qual none .none (some outer) builtinsNs) { s with heap := (s.heap.push { cls := .type "dict", data := .dict #[] }).push { cls := .type "cell", data := .cell none } }) :
    wpAny (model prg w) A (newFunctionEnv scope globals cl [] qual none .none (some outer)) Q E s := by
  simp only [newFunctionEnv, Option.isSome_some, if_true]
  simp only [newEnv] at hQ
  refine wpAny_bind (wpAny_alloc ?_)
  have e0 : (NameKind.local == NameKind.cell) = false := rfl
  rw [hnm, List.forIn_cons]
  simp only [e0, Bool.false_eq_true, if_false, pure_bind]
  rw [List.forIn_cons]
  simp only [beq_self_eq_true, if_true]
  refine wpAny_bind (wpAny_bind (wpAny_bind (wpAny_alloc (wpAny_pure ?_))))
  dsimp only
  rw [Heap.size_push]
  rw [forIn_yield_id ((y, s.heap.objs.size + 1) :: cl) (fun x hx c => by
    obtain ⟨name, kind⟩ := x
    have : (kind == NameKind.cell) = false := by simpa using hrest _ hx
    simp only [this, Bool.false_eq_true, if_false])]
  refine wpAny_pure ?_
  rw [List.forIn_nil]
  exact wpAny_bind (wpAny_pure (wpAny_pure hQ))
theorem CompSt.step4 {L I C D c : Addr} {h₀ h h' : Heap} {m : Str → Option Value} {t1 t2 t3 : Array Value} {led : Led} (x : CompSt h₀ L m I C D t1 t2 t3 led h) (hI : h₀.get? I = none) (hC : h₀.get? C = none) (hD : h₀.get? D = none) (hc : h₀.get? c = none) (hLI : L ≠ I) (hLC : L ≠ C) (hLD : L ≠ D) (hLc : L ≠ c)
    (hT : ∀ b ∈ [I, C, D, c], b ≠ 266 ∧ b ≠ 280 ∧ b ≠ 159) (offc : ∀ p ∈ led, p.1 ≠ c) (k : ∀ b o, b ≠ I → b ≠ C → b ≠ D → b ≠ c → h.get? b = some o → h'.get? b = some o) : CompSt h₀ L m I C D t1 t2 t3 led h' := by
  obtain ⟨oL, es, ep, hL, r⟩ := x.F.ns
  refine ⟨⟨⟨oL, es, ep, k _ _ hLI hLC hLD hLc hL, r⟩, fun b o e => k _ _ (fun q => by rw [q, hI] at e; cases e) (fun q => by rw [q, hC] at e; cases e) (fun q => by rw [q, hD] at e; cases e) (fun q => by rw [q, hc] at e; cases e) (x.F.keep b o e), x.F.above⟩, fun p hp => ⟨?_, (x.N p hp).2⟩, x.tok, x.off⟩
  have ne : p.1 ≠ I ∧ p.1 ≠ C ∧ p.1 ≠ D ∧ p.1 ≠ c := by
    rcases List.mem_append.mp hp with hp | hp
    · have a := hT I (by simp); have b := hT C (by simp); have d := hT D (by simp); have e := hT c (by simp)
      simp only [List.mem_cons, List.not_mem_nil, or_false] at hp
      rcases hp with rfl | rfl | rfl
      · exact ⟨a.1.symm, b.1.symm, d.1.symm, e.1.symm⟩
      · exact ⟨a.2.1.symm, b.2.1.symm, d.2.1.symm, e.2.1.symm⟩
      · exact ⟨a.2.2.symm, b.2.2.symm, d.2.2.symm, e.2.2.symm⟩
    · exact ⟨(x.off p hp).1, (x.off p hp).2.1, (x.off p hp).2.2, offc p hp⟩
  exact k _ _ ne.1 ne.2.1 ne.2.2.1 ne.2.2.2 (x.N p hp).1
noncomputable def dels (own K : Led) : Led := K.filter fun p => own.all fun q => p.1 != q.1
theorem mem_dels {own K : Led} {p : Addr × Obj} : p ∈ dels own K ↔ p ∈ K ∧ ∀ q ∈ own, p.1 ≠ q.1 := by
  unfold dels
  simp
theorem Gr.dels {own led led₅ : Led} (g : Gr (own ++ led) led₅) (off : ∀ p ∈ led, ∀ q ∈ own, p.1 ≠ q.1) : Gr led (Mine.dels own led₅) := by
  refine ⟨fun p hp => mem_dels.mpr ⟨g.1 p (List.mem_append_right _ hp), off p hp⟩, fun p hp => ?_⟩
  obtain ⟨h1, h2⟩ := mem_dels.mp hp
  rcases g.2 p h1 with h | h
  · rcases List.mem_append.mp h with h | h
    · exact absurd rfl (h2 p h)
    · exact .inl h
  · exact .inr ⟨h.1, h.2.1, h.2.2.1, fun q hq => h.2.2.2 q (List.mem_append_right _ hq)⟩
theorem TabOk.dels {t1 t2 t3 : Array Value} {own K : Led} (x : TabOk t1 t2 t3 K) (f : ∀ p ∈ K, ∀ q ∈ own, p.1 = q.1 → p.2 = q.2) (h : ∀ q ∈ own, ∀ vs nm tk, q.2.data = .fields vs → vs[1]? ≠ some (.str nm tk)) : TabOk t1 t2 t3 (Mine.dels own K) := by
  have d : ∀ q e, CodeE K q e → CodeE (Mine.dels own K) q e := fun q e ⟨oc, vs, tk, a, b, z⟩ => ⟨oc, vs, tk, mem_dels.mpr ⟨a, fun r hr e => by
    have := f _ a r hr e
    dsimp only at this
    subst this
    exact h r hr vs q tk b z⟩, b, z⟩
  exact ⟨x.a.imp id fun ⟨c, e, y⟩ => ⟨c, e, d _ _ y⟩, x.b.imp id fun ⟨c, e, y⟩ => ⟨c, e, d _ _ y⟩, x.c.imp id fun ⟨c, e, z, y, v⟩ => ⟨c, e, z, d _ _ y, d _ _ v⟩, fun p hp => x.d p (mem_dels.mp hp).1⟩
noncomputable def TurnK (A₀ : Around) (base : Heap) (outer : List Env) (g₂ : Heap) (L : Addr) (m : Str → Option Value) (own : Led) (s : Shared) (J : Led → Prop) (s' : Shared) : Prop :=
  ∃ g₃ h₄ tk gs t1 t2 t3 led, s' = { s with heap := h₄, toks := tk, gens := gs } ∧ KtsTurn (frs outer) g₂ g₃ ∧ Below A₀ base outer g₃ ∧ (AllBare s.gens → AllBare gs) ∧ Fr g₃ L h₄ m ∧ News g₃ L h₄ (tabs t1 t2 t3 ++ led) ∧ TabOk t1 t2 t3 led ∧ (∀ q ∈ own, q ∈ led) ∧ J (dels own led)
theorem push4 (h : Heap) (o1 o2 o3 o4 : Obj) (f1 : o1.isFreed = false) (f2 : o2.isFreed = false) (f3 : o3.isFreed = false) (f4 : o4.isFreed = false) : ∃ (H : Heap) (I D C c : Addr), (((h.push o1).push o2).push o3).push o4 = H ∧ h.objs.size = I ∧ (h.push o1).objs.size = D ∧ ((h.push o1).push o2).objs.size = C ∧ C + 1 = c ∧ @LT.lt Nat instLTNat I D ∧ @LT.lt Nat instLTNat D C ∧ @LT.lt Nat instLTNat C c ∧
    H.get? I = some o1 ∧ H.get? D = some o2 ∧ H.get? C = some o3 ∧ H.get? c = some o4 ∧ ∀ b o, h.get? b = some o → H.get? b = some o := by
  have lt : ∀ (h : Heap) (o : Obj), @LT.lt Nat instLTNat h.objs.size (h.push o).objs.size := fun h o => Nat.lt_of_lt_of_eq (Nat.lt_succ_self _) (Heap.size_push ..).symm
  have k : ∀ {h : Heap} {o b x}, h.get? b = some x → (h.push o).get? b = some x := fun e => Heap.get?_push_of_some _ e
  exact ⟨_, _, _, _, (((h.push o1).push o2).push o3).objs.size, rfl, rfl, rfl, rfl, (Heap.size_push ..).symm, lt _ _, lt _ _, lt _ _, k (k (k (Heap.get?_push_size _ f1))), k (k (Heap.get?_push_size _ f2)), k (Heap.get?_push_size _ f3), Heap.get?_push_size _ f4, fun b o e => k (k (k (k e)))⟩
structure LKx (h₀ : Heap) (L I D C c : Addr) (ks : Led) : Prop where
  h0 : @LE.le Nat instLENat h₀.objs.size L
  LI : @LT.lt Nat instLTNat L I
  ID : @LT.lt Nat instLTNat I D
  DC : @LT.lt Nat instLTNat D C
  Cc : @LT.lt Nat instLTNat C c
  led : ∀ p ∈ ks, @LT.lt Nat instLTNat p.1 I
section
variable {h₀ : Heap} {L I D C c l : Addr} {t1 t2 t3 : Array Value} {led : Led} {m : Str → Option Value}
theorem LKx.dc {ks : Led} (x : LKx h₀ L I D C c ks) : @LT.lt Nat instLTNat D c := Nat.lt_trans x.DC x.Cc
theorem LKx.ic {ks : Led} (x : LKx h₀ L I D C c ks) : @LT.lt Nat instLTNat I c := Nat.lt_trans x.ID x.dc
theorem LKx.iC {ks : Led} (x : LKx h₀ L I D C c ks) : @LT.lt Nat instLTNat I C := Nat.lt_trans x.ID x.DC
theorem LKx.nn {ks : Led} (x : LKx h₀ L I D C c ks) {b : Nat} (h : I ≤ b) : h₀.get? b = none := Heap.get?_none_of_le (Nat.le_trans x.h0 (Nat.le_trans (Nat.le_of_lt x.LI) h))
theorem LKx.nL {ks : Led} (x : LKx h₀ L I D C c ks) {b : Nat} (h : I ≤ b) : L ≠ b := Nat.ne_of_lt (Nat.lt_of_lt_of_le x.LI h)
theorem LKx.tab (x : LKx h₀ L I D C c (tabs t1 t2 t3 ++ led)) {b : Nat} (h : I ≤ b) : b ≠ 266 ∧ b ≠ 280 ∧ b ≠ 159 :=
  have k : ∀ p ∈ tabs t1 t2 t3, b ≠ p.1 := fun p hp => Nat.ne_of_gt (Nat.lt_of_lt_of_le (x.led p (List.mem_append_left _ hp)) h)
  ⟨k _ (.head _), k _ (.tail _ (.head _)), k _ (.tail _ (.tail _ (.head _)))⟩
theorem LKx.off (x : LKx h₀ L I D C c (tabs t1 t2 t3 ++ led)) : ∀ p ∈ led, (p.1 ≠ I ∧ p.1 ≠ C ∧ p.1 ≠ D) ∧ p.1 ≠ c := fun p hp =>
  have k : ∀ b : Nat, I ≤ b → p.1 ≠ b := fun b h => Nat.ne_of_lt (Nat.lt_of_lt_of_le (x.led p (List.mem_append_right _ hp)) h)
  ⟨⟨k _ (Nat.le_refl _), k _ (Nat.le_of_lt x.iC), k _ (Nat.le_of_lt x.ID)⟩, k _ (Nat.le_of_lt x.ic)⟩
theorem LKx.step (x : LKx h₀ L I D C c (tabs t1 t2 t3 ++ led)) {g h h' : Heap} (gn : ∀ b, h₀.get? b = none → g.get? b = none) {u1 u2 u3 : Array Value} {K : Led} (S : CompSt g L m I C D u1 u2 u3 K h) (offc : ∀ p ∈ K, p.1 ≠ c) (k : ∀ b o, b ≠ I → b ≠ C → b ≠ D → b ≠ c → h.get? b = some o → h'.get? b = some o) : CompSt g L m I C D u1 u2 u3 K h' := by
  have l1 := Nat.le_refl I
  have l2 := Nat.le_of_lt x.iC
  have l3 := Nat.le_of_lt x.ID
  have l4 := Nat.le_of_lt x.ic
  exact S.step4 (gn _ (x.nn l1)) (gn _ (x.nn l2)) (gn _ (x.nn l3)) (gn _ (x.nn l4)) (x.nL l1) (x.nL l2) (x.nL l3) (x.nL l4) (List.forall_mem_cons.mpr ⟨x.tab l1, List.forall_mem_cons.mpr ⟨x.tab l2, List.forall_mem_cons.mpr ⟨x.tab l3, List.forall_mem_cons.mpr ⟨x.tab l4, List.forall_mem_nil _⟩⟩⟩⟩) offc k
theorem LKx.own (x : LKx h₀ L I D C c (tabs t1 t2 t3 ++ led)) {g h : Heap} (gn : ∀ b, h₀.get? b = none → g.get? b = none) {K : Led} (N : News g L h K) {oI oC oD oc : Obj} (hI : h.get? I = some oI) (hC : h.get? C = some oC) (hD : h.get? D = some oD) (hc : h.get? c = some oc) :
    News g L h ([(I, oI), (C, oC), (D, oD), (c, oc)] ++ K) :=
  have k : ∀ b : Nat, I ≤ b → b ≠ L ∧ g.get? b = none := fun b h => ⟨(x.nL h).symm, gn _ (x.nn h)⟩
  List.forall_mem_cons.mpr ⟨⟨hI, k _ (Nat.le_refl _)⟩, List.forall_mem_cons.mpr ⟨⟨hC, k _ (Nat.le_of_lt x.iC)⟩, List.forall_mem_cons.mpr ⟨⟨hD, k _ (Nat.le_of_lt x.ID)⟩, List.forall_mem_cons.mpr ⟨⟨hc, k _ (Nat.le_of_lt x.ic)⟩, N⟩⟩⟩⟩
theorem turnK_aft : ∀ {h₀ g : Heap} {L : Addr} {m : Str → Option Value} {A₀ : Around} {base h : Heap} {outer : List Env} {own : Led} {tk : Tok} {gs : Array GenState} {J' : Led → Prop} {s s₄ : Shared} (KT : KtsTurn (frs outer) h₀ g) (t : TurnK A₀ base outer g L m own { s with heap := h, toks := tk, gens := gs } J' s₄)
    (hown : ∀ q ∈ own, ∀ vs nm tk, q.2.data = .fields vs → vs[1]? ≠ some (.str nm tk)),
    ∃ h' tk' gs', s₄ = { s with heap := h', toks := tk', gens := gs' } ∧ (AllBare gs → AllBare gs') ∧ ∃ (b : Heap) (u1 u2 u3 : Array Value) (K : Led), (KtsTurn (frs outer) h₀ b ∧ Below A₀ base outer b) ∧ (Fr b L h' m ∧ News b L h' (tabs u1 u2 u3 ++ K) ∧ TabOk u1 u2 u3 K) ∧ (∀ q ∈ own, h'.get? q.1 = some q.2 ∧ ∀ p ∈ K, p.1 ≠ q.1) ∧ J' K := by
  have hon : HKon := trivial
  intro h₀ g L m A₀ base h outer own tk gs J' s s₄ KT t hown
  obtain ⟨g₃, h₄, tk₄, gs₄, u1, u2, u3, led₅, e₄, KT₃, B₃, hg₄, F₄, N₄, TK₄, own₄, hJ₄⟩ := t
  exact exI3 ⟨e₄, hg₄, exI5 (x1 := g₃) (x2 := u1) (x3 := u2) (x4 := u3) (x5 := dels own led₅) ⟨⟨KT.trans KT₃, B₃⟩, ⟨F₄, fun p hp => (List.mem_append.mp hp).elim (fun hp => N₄ p (List.mem_append_left _ hp)) fun hp => N₄ p (List.mem_append_right _ (mem_dels.mp hp).1),
    TK₄.dels (fun p hp q hq e => news_fun N₄ (List.mem_append_right _ hp) (List.mem_append_right _ (own₄ q hq)) e) hown⟩, fun q hq => ⟨(N₄ q (List.mem_append_right _ (own₄ q hq))).1, fun p hp => (mem_dels.mp hp).2 q hq⟩, hJ₄⟩⟩
end
inductive LKInv (g0 : Array GenState) (A₀ : Around) (base : Heap) (outer : List Env) (h₀ : Heap) (L : Addr) (m : Str → Option Value) (I C D c l : Addr) (vs : List Value) (J : Nat → List Value → Led → Prop) (i : Nat) (zs : List Value) (h : Heap) (gs : Array GenState) : Prop
  | mk {a : Heap} {m' : Str → Option Value} {kz : Nat} {u1 u2 u3 : Array Value} {K : Led} {oc : Obj} {v₀ : Option Value} : (KtsTurn (frs outer) h₀ a ∧ Below A₀ base outer a) → (AllBare g0 → AllBare gs) → CompSt a L m I C D u1 u2 u3 K h → (h.IsListIter I l i ∧ h.IsList l vs.toArray) → J i zs K → h.Ns C m' → h.get? D = some (W.listOf zs.toArray kz) → h.get? c = some oc → oc.data = .cell v₀ → (∀ p ∈ K, p.1 ≠ c) → LKInv g0 A₀ base outer h₀ L m I C D c l vs J i zs h gs
theorem LKInv.inv {g0 : Array GenState} {A₀ : Around} {base : Heap} {outer : List Env} {h₀ : Heap} {L : Addr} {m : Str → Option Value} {I C D c l : Addr} {vs : List Value} {J : Nat → List Value → Led → Prop} {i : Nat} {zs : List Value} {h : Heap} {gs : Array GenState} (x : LKInv g0 A₀ base outer h₀ L m I C D c l vs J i zs h gs) :
    ∃ (a : Heap) (m' : Str → Option Value) (kz : Nat) (u1 u2 u3 : Array Value) (K : Led) (oc : Obj) (v₀ : Option Value), (KtsTurn (frs outer) h₀ a ∧ Below A₀ base outer a) ∧ (AllBare g0 → AllBare gs) ∧ CompSt a L m I C D u1 u2 u3 K h ∧ (h.IsListIter I l i ∧ h.IsList l vs.toArray) ∧ J i zs K ∧ h.Ns C m' ∧ h.get? D = some (W.listOf zs.toArray kz) ∧ h.get? c = some oc ∧ oc.data = .cell v₀ ∧ ∀ p ∈ K, p.1 ≠ c := by
  cases x
  exact ⟨_, _, _, _, _, _, _, _, _, ‹_›, ‹_›, ‹_›, ‹_›, ‹_›, ‹_›, ‹_›, ‹_›, ‹_›, ‹_›⟩
section
variable {w : World} {A A₀ : Around} {E : Value → Shared → Prop} {s : Shared} {env : Env} {outer : List Env} {base h₀ : Heap} {L : Addr} {m : Str → Option Value} {t1 t2 t3 : Array Value} {led : Led}
theorem comp_LK : ∀ {w : World} {A A₀ : Around} {E : Value → Shared → Prop} {s : Shared} {env : Env} {outer : List Env} {base h₀ : Heap} {L : Addr} {m : Str → Option Value} {t1 t2 t3 : Array Value} {led : Led} {x0 y : Str} {py : Pos} {rest : List (Str × NameKind)} {elt iter : Expr} {ifs : List Expr} {scope : Scope} {cl : List (Str × Addr)} {pos : Pos} {l : Addr} {vs : List Value} {kl : Nat} {RR : Value → Addr → Result → Shared → Prop} (J : Nat → List Value → Led → Prop) (hnm : scope.names = (x0, .local) :: (y, .cell) :: rest) (hrest : ∀ z ∈ rest, z.2 ≠ .cell) (hky : ∀ c C, (compEnvC scope ((y, c) :: cl) C env).kindOf y = some .cell) (hks : ∀ c C, (compEnvC scope ((y, c) :: cl) C env).scope.kind = .function) (hh : A.handled = none) (hA : A.frames = some (env :: outer)) (hfe : env.frame = some L) (B : Below A₀ base outer h₀) (DD : DK (frs outer) h₀) (F : Fr h₀ L s.heap m) (N : News h₀ L s.heap (tabs t1 t2 t3 ++ led)) (TK : TabOk t1 t2 t3 led) (hm : (l, W.listOf vs.toArray kl) ∈ led) (hlen : vs.length ≤ 1000) (J0 : J 0 [] led) (hJl : ∀ i zs K, J i zs K → (l, W.listOf vs.toArray kl) ∈ K) (turn : ∀ g₂ I C D c oI oC oD oc i v t1 t2 t3 led zs s E', KtsTurn (frs outer) h₀ g₂ → Below A₀ base outer g₂ → vs[i]? = some v → oc.data = .cell (some v) → Fr g₂ L s.heap m → News g₂ L s.heap ([(I, oI), (C, oC), (D, oD), (c, oc)] ++ (tabs t1 t2 t3 ++ led)) → TabOk t1 t2 t3 led → @LT.lt Nat instLTNat L I → @LT.lt Nat instLTNat I D → @LT.lt Nat instLTNat D C → @LT.lt Nat instLTNat C c → @LT.lt Nat instLTNat 266 I → @LT.lt Nat instLTNat 280 I → @LT.lt Nat instLTNat 159 I → (∀ p ∈ led, ∀ q ∈ [(I, oI), (C, oC), (D, oD), (c, oc)], p.1 ≠ q.1) → J i zs led → zs.length ≤ i →
      wpAny (model prg w) A (forIn ifs true fun e r => if r = true then do let ok ← isTrue e (compEnvC scope ((y, c) :: cl) C env) (eval e (compEnvC scope ((y, c) :: cl) C env)); pure (ForInStep.yield ok) else pure (ForInStep.yield r))
        (fun ok s₃ => if ok = true then wpAny (model prg w) A (eval elt (compEnvC scope ((y, c) :: cl) C env)) (fun x s₄ => TurnK A₀ base outer g₂ L m [(I, oI), (C, oC), (D, oD), (c, oc)] s (J (i + 1) (zs ++ [x])) s₄) E' s₃ else TurnK A₀ base outer g₂ L m [(I, oI), (C, oC), (D, oD), (c, oc)] s (J (i + 1) zs) s₃) E' s) (hRR : ∀ g₂ I C D h' tk gs m' zs k t1 t2 t3 led', KtsTurn (frs outer) h₀ g₂ → Below A₀ base outer g₂ → CompSt g₂ L m I C D t1 t2 t3 led' h' → (AllBare s.gens → AllBare gs) → J vs.length zs led' → zs.length ≤ vs.length → h'.Ns C m' → h'.get? D = some (W.listOf zs.toArray k) → g₂.get? C = none → g₂.get? D = none → L ≠ C → L ≠ D → C ≠ D → (C ≠ 266 ∧ C ≠ 280 ∧ C ≠ 159) →
      RR (.ref D) C (.ok .next) { s with heap := h', toks := tk, gens := gs }),
    wpAny (model prg w) A (pyIter (.ref l)) (fun it s₂ => wpAny (model prg w) A (newList []) (fun acc s₃ => wpAny (model prg w) A (newFunctionEnv scope env.globals cl [] env.qual none .none (some env)) (fun cenv s₄ =>
      codeAny (model prg w) A (.compStart (.ListComp elt [⟨.Name y py, iter, ifs, 0⟩] scope pos) 0 it acc { cenv with scope := relabel scope env }) (RR acc cenv.locals) s₄) E s₃) E s₂) E s := by
  have hon : HKon := trivial
  intro w A A₀ E s env outer base h₀ L m t1 t2 t3 led x0 y py rest elt iter ifs scope cl pos l vs kl RR J hnm hrest hky hks hh hA hfe B DD F N TK hm hlen J0 hJl turn hRR
  have hl := listL N (List.mem_append_right _ hm)
  have hls : @LT.lt Nat instLTNat l s.heap.objs.size := Heap.lt_size (N _ (List.mem_append_right _ hm)).1
  refine wpAny_pyIter_list hl ?_
  refine wpAny_newObj_type (new_cell hnm hrest ?_)
  obtain ⟨H4, I, D, C, c, eH, eI, eD, eC, ec, ID, DC, Cc, gI, gD, gC, gc, old⟩ := push4 s.heap { cls := .type "list_iterator", data := .fields #[.ref l, .int 0 0] } { cls := .type "list", data := .seq ([] : List Value).toArray } { cls := .type "dict", data := .dict #[] } { cls := .type "cell", data := .cell none } rfl rfl rfl rfl
  dsimp only
  rw [eH, eI, eD, eC, ec]
  have Iz : @LE.le Nat instLENat s.heap.objs.size I := Nat.le_of_eq eI
  have x : LKx h₀ L I D C c (tabs t1 t2 t3 ++ led) := ⟨F.above, Nat.lt_of_lt_of_le F.ns.lt Iz, ID, DC, Cc, fun p hp => Nat.lt_of_lt_of_le (Heap.lt_size (N p hp).1) Iz⟩
  have ltl : @LT.lt Nat instLTNat l I := Nat.lt_of_lt_of_le hls Iz
  have Wk := Walks.list (prog := prg) (w := w) hh I l (Nat.ne_of_lt ltl) vs.toArray
  rw [List.size_toArray] at Wk
  have hst₁ : H4.IsListIter I l 0 ∧ H4.IsList l vs.toArray := ⟨⟨_, gI, rfl, rfl⟩, hl.at fun o e => old _ _ e⟩
  have S₁ : CompSt h₀ L m I C D t1 t2 t3 led H4 := ⟨⟨F.ns.keeps old, fun b o e => old _ _ (F.keep b o e), F.above⟩, fun p hp => ⟨old _ _ (N p hp).1, (N p hp).2⟩, TK, fun p hp => (x.off p hp).1⟩
  have hn4 : H4.Ns C fun _ => none := ⟨_, #[], 0, gC, rfl, fun _ he => by simp at he, fun _ => rfl⟩
  have loop : codeAny (model prg w) A (.compLoop (.ListComp elt [⟨.Name y py, iter, ifs, 0⟩] scope pos) 0 (.ref I) (.ref D) (compEnvC scope ((y, c) :: cl) C env)) (RR (.ref D) C) { s with heap := H4 } := by
    refine loop_abs (fun i zs h _ gs => LKInv s.gens A₀ base outer h₀ L m I C D c l vs J i zs h gs) (n := vs.length) hlen ?turn1 (.mk (a := h₀) ⟨KtsTurn.refl, B⟩ id S₁ hst₁ J0 hn4 gD gc rfl fun p hp => (x.off p hp).2)
    intro i zs h tk gs ci hz hn
    obtain ⟨a, m', kz, u1, u2, u3, K, oc, v₀, ga, hg, S', hst', hJ, hn', hd', hc', hcd, hlc'⟩ := ci.inv
    clear ci
    have gn : ∀ b, h₀.get? b = none → a.get? b = none := fun b e => ga.1.none_ _ e
    by_cases hlt : i < vs.length
    · refine Wk.item i _ _ _ hlt hst' ?_
      intro v h₂ tk₂ hPv hst₂ hk₂
      have hv : vs[i]? = some v := List.getElem?_toArray.symm.trans hPv
      have k₂ : ∀ b o, b ≠ I → h.get? b = some o → h₂.get? b = some o := fun b o hb e => hk₂ b o (fun q => hb (List.mem_singleton.mp q)) e
      refine ⟨hlt, wpAny_of_eq rfl (wpAny_assign_Name (wpAny_storeName_cell (hks c C) (hky c C) (by simp [compEnvC]) ⟨oc, k₂ _ _ (Nat.ne_of_gt x.ic) hc', hcd⟩ ?_))⟩
      intro h₃ hv₃ hs₃
      obtain ⟨oc', hoc', hcd'⟩ := hv₃
      have k₃ : ∀ b o, b ≠ c → h₂.get? b = some o → h₃.get? b = some o := fun b o hb e => (hs₃.2 b hb).trans e
      have S₃ := x.step gn S' hlc' fun b o h1 _ _ h4 e => k₃ b o h4 (k₂ b o h1 e)
      have hst₃ : h₃.IsListIter I l (i + 1) ∧ h₃.IsList l vs.toArray := ⟨hst₂.1.at fun o e => k₃ _ o (Nat.ne_of_lt x.ic) e, hst₂.2.at fun o e => k₃ _ o (Nat.ne_of_lt (Nat.lt_trans ltl x.ic)) e⟩
      have hd₃ : h₃.get? D = some (W.listOf zs.toArray kz) := k₃ _ _ (Nat.ne_of_lt x.dc) (k₂ _ _ (Nat.ne_of_gt x.ID) hd')
      obtain ⟨oC, esC, epC, hCo, rC⟩ := (hn'.at' fun o e => k₂ _ o (Nat.ne_of_gt x.iC) e).at' fun o e => k₃ _ o (Nat.ne_of_lt x.Cc) e
      obtain ⟨oI, hIo, rI⟩ := hst₃.1
      have hown : ∀ q ∈ [(I, oI), (C, oC), (D, W.listOf zs.toArray kz), (c, oc')], ∀ vs nm tk, q.2.data = .fields vs → vs[1]? ≠ some (.str nm tk) :=
        List.forall_mem_cons.mpr ⟨fun vs nm tk e z => (by rw [← Data.fields.inj (rI.2.symm.trans e)] at z; cases z), List.forall_mem_cons.mpr ⟨fun vs nm tk e => (nomatch rC.1.symm.trans e), List.forall_mem_cons.mpr ⟨fun vs nm tk e => (nomatch e), List.forall_mem_cons.mpr ⟨fun vs nm tk e => (nomatch (show Data.cell (some v) = _ from hcd'.symm.trans e)), List.forall_mem_nil _⟩⟩⟩⟩
      have fin : ∀ zs' kz' h' gs' (b : Heap) v1 v2 v3 K', (KtsTurn (frs outer) h₀ b ∧ Below A₀ base outer b) → (AllBare gs → AllBare gs') → (Fr b L h' m ∧ News b L h' (tabs v1 v2 v3 ++ K') ∧ TabOk v1 v2 v3 K') → (∀ q ∈ [(I, oI), (C, oC), (D, W.listOf zs.toArray kz), (c, oc')], h'.get? q.1 = some q.2 ∧ ∀ p ∈ K', p.1 ≠ q.1) → J (i + 1) zs' K' → ∀ h'', (∀ b o, b ≠ D → h'.get? b = some o → h''.get? b = some o) → h''.get? D = some (W.listOf zs'.toArray kz') → LKInv s.gens A₀ base outer h₀ L m I C D c l vs J (i + 1) zs' h'' gs' := fun zs' kz' h' gs' b v1 v2 v3 K' gb bare ⟨F', N', T'⟩ hq j h'' k hd => by
        have qI := hq _ (.head _)
        have qC := hq _ (.tail _ (.head _))
        have qD := hq _ (.tail _ (.tail _ (.head _)))
        have qc := hq _ (.tail _ (.tail _ (.tail _ (.head _))))
        exact .mk (a := b) (m' := m') gb (fun q => bare (hg q)) (x.step (fun b' e => gb.1.none_ _ e) ⟨F', N', T', fun p hp => ⟨qI.2 p hp, qC.2 p hp, qD.2 p hp⟩⟩ qc.2 fun b o _ _ h3 _ e => k b o h3 e) ⟨⟨oI, k _ _ (Nat.ne_of_lt x.ID) qI.1, rI⟩, ⟨_, k _ _ (Nat.ne_of_lt (Nat.lt_trans ltl x.ID)) (N' _ (List.mem_append_right _ (hJl _ _ _ j))).1, rfl, _, rfl⟩⟩ j
          ⟨oC, esC, epC, k _ _ (Nat.ne_of_gt x.DC) qC.1, rC⟩ hd (k _ _ (Nat.ne_of_gt x.dc) qc.1) hcd' qc.2
      have N3 := x.own gn S₃.N hIo hCo hd₃ hoc'
      refine wpAny_mono (turn a I C D c oI oC _ oc' i v u1 u2 u3 K zs { s with heap := h₃, toks := tk₂, gens := gs } _ ga.1 ga.2 hv hcd' S₃.F N3 S₃.tok x.LI ID DC Cc (x.led _ (List.mem_append_left _ (.head _))) (x.led _ (List.mem_append_left _ (.tail _ (.head _)))) (x.led _ (List.mem_append_left _ (.tail _ (.tail _ (.head _)))))
        (fun p hp => List.forall_mem_cons.mpr ⟨(S₃.off p hp).1, List.forall_mem_cons.mpr ⟨(S₃.off p hp).2.1, List.forall_mem_cons.mpr ⟨(S₃.off p hp).2.2, List.forall_mem_cons.mpr ⟨hlc' p hp, List.forall_mem_nil _⟩⟩⟩⟩) hJ hz) ?okk fun _ _ e => e
      intro ok s₄ h₄
      cases ok with
      | false =>
        obtain ⟨_, _, _, rfl, bare, b, v1, v2, v3, K', gb, f, q, j⟩ := turnK_aft ga.1 h₄ hown
        exact .mk (fin zs kz _ _ b v1 v2 v3 K' gb bare f q j _ (fun _ _ _ e => e) (q _ (.tail _ (.tail _ (.head _)))).1)
      | true =>
        refine wpAny_mono h₄ ?_ fun _ _ e => e
        intro x s₅ q₅
        obtain ⟨_, _, _, rfl, bare, b, v1, v2, v3, K', gb, f, q, j⟩ := turnK_aft ga.1 q₅ hown
        exact .mk ⟨kz, (q _ (.tail _ (.tail _ (.head _)))).1, fun h' c' k d => fin _ _ _ _ b v1 v2 v3 K' gb bare f q j _ k d⟩
    · obtain rfl : vs.length = i := Nat.le_antisymm (Nat.le_of_not_lt hlt) hn
      refine Wk.done _ _ _ hst' ?_
      intro h₂ tk₂ hk₂
      have k₂ : ∀ b o, b ≠ I → h.get? b = some o → h₂.get? b = some o := fun b o hb e => hk₂ b o (fun q => hb (List.mem_singleton.mp q)) e
      exact hRR a I C D h₂ tk₂ gs m' zs kz u1 u2 u3 K ga.1 ga.2 (x.step gn S' hlc' fun b o h1 _ _ _ e => k₂ b o h1 e) hg hJ hz (hn'.at' fun o e => k₂ _ o (Nat.ne_of_gt x.iC) e) (k₂ _ _ (Nat.ne_of_gt x.ID) hd') (gn _ (x.nn (Nat.le_of_lt x.iC))) (gn _ (x.nn (Nat.le_of_lt x.ID))) (x.nL (Nat.le_of_lt x.iC)) (x.nL (Nat.le_of_lt x.ID)) (Nat.ne_of_gt x.DC) (x.tab (Nat.le_of_lt x.iC))
  exact codeAny_compStart_list loop (Wk.self 0 _ _ _ hst₁ loop)
end
section
open PySem.SeqAt
variable {prog : Program} {w : World} {A : Around} {E : Value → Shared → Prop} {s : Shared} {Q : Value → Shared → Prop}
theorem ne_val3 {D D' : Addr} {s0 s1 s2 t : Tok} (hl : s.heap.IsList D #[.str "value" s0, .str "value" s1, .str "value" s2]) (hb : s.heap.IsList D' #[.str "value" t, .str "value" t, .str "value" t]) (hu : A.units < cLine) (h : Q (.bool false) s) :
    wpAny (model prog w) A (compareOp .NotEq (.ref D) (.ref D')) Q E s :=
  RcNeAt.lists (e := fun _ => true) hl hb rfl hu (fun j h1 h2 => by
    have hj : j < 3 := h1
    match j, hj with
    | 0, _ => exact EqAt.str_str "value" s0 "value" t
    | 1, _ => exact EqAt.str_str "value" s1 "value" t
    | 2, _ => exact EqAt.str_str "value" s2 "value" t) prog w E Q h
end
end
-- CR0
section
inductive StopU : Prop
  | is
theorem kwCR00 : True := by
  (k_with "binaryOp Mult ref int" => (k_here; (with_reducible rename StopU => sthold); refine HoldW.out ?_))
  (k_with "compareOp NotEq ref ref" => (k_here; (with_reducible rename StopU => sthold); refine HoldW.out ?_))
  trivial
theorem len3 {α : Type} : ∀ {l : List α}, l.length = 3 → ∃ a b c, l = [a, b, c]
  | [a, b, c], _ => ⟨a, b, c, rfl⟩
theorem DataD.grp_of {K : Led} {k : Nat} {ea : Value} {d : List Addr} : ∀ {f : Fld}, DataD K k ea f d → f.wire = 3 → ∃ n gs, f = .grp n gs
  | .int .., hD, hw => absurd hw (by cases k <;> (unfold DataD at hD; exact hD.2.1))
  | .byt .., _, hw => absurd (show (2 : Int) = 3 from hw) (by decide)
  | .grp n gs, _, _ => ⟨n, gs, rfl⟩
set_option maxHeartbeats 4000000 in
theorem c_lclr : ∀ {w : World} {kn : Led} {k : Nat} {fs : List Fld} {lf : Addr} (hk : k ≤ 2) (hn1 : nK k + 110 ≤ 570) (hn2 : uK k + 3000 ≤ 7600) (h : FldsR kn k lf fs) (hl : fs.length ≤ 8),
   ConS w (.ref 396) [.ref lf] 690 8500 kn (fun _ x => x = .bool true) := by
  have hon : HKon := trivial
  intro w kn k fs lf hk hn1 hn2 h hl
  have hF := h
  obtain ⟨vs, ps, xs, nn, hm, hps, hx, he, hsay⟩ := h
  refine ConS.openG (hkO (no_implicit_lambda% ((?hopq : HTO _) _ _ _ _ _ _ _ _ _ _ _ _ _ _ _)))
  intros s dp un gd t1 t2 t3 base g outs loose mean mg mb Z
  refine ConSG.mk ?_
  intro RS ret hd hu
  have R := RS.toR
  have XB := RS.XB
  have TB := RS.TB
  have CB1 := RS.b1
  have CB2 := RS.b2
  have CB3 := RS.b3
  have DD := RS.D
  k_extra "M body"
  intro L h₁ hL F N B X T C1 C2 C3 TK l1 l2 l3 l4
  try dsimp only
  try k_fold
  have stop := StopT.is
  k_steps
  have hln : ps.length = fs.length := by have := hsay.length; simpa using this
  have hvl : vs.length = ps.length := hps.length
  refine HoldW.mk ?_
  k_extra "M pairs2"
  case hRR =>
    intro I C Dw h1 tk gs m' k1 u1 u2 u3 S hg hn hd' a b c d e f
    refine' post_assignV ?hloc ?hy ?hp S hn hd' a b c d e f ?_
    case hloc => exact rfl
    case hy => exact rfl
    case hp => exact rfl
    intro h2 tk2 F2 N2 TK2 off2
    replace N2 : News g L h2 ((266, tabObj u1) :: (280, tabObj u2) :: (159, tabObj u3) :: (Dw, W.listOf (ps.map Prod.snd).toArray k1) :: kn) := N2
    clear S hn hd' F N
    k_steps
    have hF1 : FldsR ((Dw, W.listOf (ps.map Prod.snd).toArray k1) :: kn) k lf fs := hF.mono fun p hp => .tail _ hp
    refine HoldW.mk ?_
    refine' use_con3 (c_lsetF hk hF1 hl) ?B ?F ?X ?Nq ?T ?C1 ?C2 ?C3 ?TK ?hO ?hA ?hf ?hke ?hh ?hd ?hu ?_
    k_extra "M std2"
    intro r' h' tk' gs' v1 v2 v3 K1 F3 N3 gr3 ne3 TK3 hg3 p'
    obtain ⟨a1, rfl, hS1⟩ := p'
    replace N3 : News g L h' ((266, tabObj v1) :: (280, tabObj v2) :: (159, tabObj v3) :: K1) := N3
    clear F2 N2
    k_steps
    refine HoldW.mk ?_
    refine' use_con3 (c_lsetF hk (hF1.mono gr3.1) hl) ?B ?F ?X ?Nq ?T ?C1 ?C2 ?C3 ?TK ?hO ?hA ?hf ?hke ?hh ?hd ?hu ?_
    k_extra "M std2"
    intro r' h' tk' gs2' w1 w2 w3 K2 F4 N4 gr4 ne4 TK4 hg4 p'
    obtain ⟨a2, rfl, hS2⟩ := p'
    replace N4 : News g L h' ((266, tabObj w1) :: (280, tabObj w2) :: (159, tabObj w3) :: K2) := N4
    clear F3 N3 TK3
    k_steps
    refine HoldW.mk ?_
    rename Fr _ _ _ _ => F5
    rename News _ _ _ _ => N5
    obtain ⟨_, ⟨du1, ls1, us1, Ds1, st1, rfl, al1⟩, nd1, fr1⟩ := hS1
    have hul := al1.length
    have st1' := st1.mono gr4.1
    have N5' : News g L _ (tabs w1 w2 w3 ++ K2) := News.pick N5 (by
      refine List.forall_mem_cons.mpr ⟨?_, List.forall_mem_cons.mpr ⟨?_, List.forall_mem_cons.mpr ⟨?_, fun p hp => ?_⟩⟩⟩
      all_goals first | k_mem | exact .tail _ (.tail _ (.tail _ (.tail _ hp))))
    clear N5
    refine' comp_G (RR := fun acc C => compPost (model prg _) _ _ _ _ acc C) st1'.top (by omega) B F5 X N5' T C1 C2 C3 TK4 rfl rfl ?hdp ?hun ?hcell rfl rfl ?hdb ?hRR
    case hdp => k_room
    case hun => k_units
    case hcell => decide
    case hdb => decide
    case hRR =>
      rintro I Cc D h5 tk5 gs5 m5 zs k5 K3 S hg5 gr5 hzl hrefs hn hd' a0 b0 c0 d0 e0 f0
      refine' post_assignV ?hloc ?hy ?hp S hn hd' a0 b0 c0 d0 e0 f0 ?_
      case hloc => exact rfl
      case hy => exact rfl
      case hp => exact rfl
      intro h6 tk6 F6 N6 TK6 off6
      replace N6 : News g L h6 ((266, tabObj w1) :: (280, tabObj w2) :: (159, tabObj w3) :: (D, W.listOf zs.toArray k5) :: K3) := N6
      have grD5 := Gr.consD TK6 off6
      clear S hn hd' F5 N5'
      k_steps
      refine HoldW.mk ?_
      rename Fr _ _ _ _ => F7
      rename News _ _ _ _ => N7
      have stK := st1'.mono fun p hp => List.mem_cons_of_mem (D, W.listOf zs.toArray k5) (gr5.1 p hp)
      have hrefsK := hrefs.mono fun p hp => List.mem_cons_of_mem (D, W.listOf zs.toArray k5) hp
      have alK := al1.imp fun _ _ _ x => FieldD.mono (fun p hp => List.mem_cons_of_mem (D, W.listOf zs.toArray k5) (gr5.1 p (gr4.1 p hp))) x
      refine' comp_L (RR := fun acc C => compPost (model prg _) _ _ _ _ acc C) (fun i v m₂ => m₂ "ref" = some v)
        (fun i ws led'' => led'' = (D, W.listOf zs.toArray k5) :: K3 ∧ ∀ x ∈ ws, ∃ (j : Nat) (f : Fld) (a : Addr), fs[j]? = some f ∧ us1[j]? = some (.ref a) ∧ FieldTop led'' a f.num 3 x ∧ f.wire = 3) rfl F7 N7 TK6 (.head _) (by omega) ?hcell rfl ⟨rfl, fun _ h => (by simp at h)⟩ ?hasg ?turn ?hRR2
      case hcell => decide
      case hasg =>
        rintro I C' D' i v v1 v2 v3 led' ws s1 m1 Q E' hv S hJ hn hCD hQ
        exact asg_name rfl rfl hn fun h' tk hn' hk => hQ h' tk _ hn' (by simp) hk
      case turn =>
        rintro I C' D' i v v1 v2 v3 led' ws s1 m1 E' hv S ⟨rfl, hJ⟩ hz hn hm1
        refine wpAny_tests_one ?_
        have S' := S
        obtain ⟨F8, N8, tk8, off8⟩ := S
        first | ((with_reducible rename HKon => hkm); (with_reducible refine' (_ : ShE s1 _) _ _ _ _ _ rfl); intros hh gg dd tt oo hq; subst hq) | obtain ⟨hh, gg, dd, tt, oo⟩ := s1
        dsimp only at hn F8 N8
        obtain ⟨r, rfl, hRef⟩ := hrefsK i v hv
        have hi := (List.getElem?_eq_some_iff.mp hv).1
        obtain ⟨x, hx'⟩ : ∃ x, us1[i]? = some x := ⟨_, List.getElem?_eq_getElem (by omega)⟩
        obtain ⟨f, d, hf, rx⟩ := alK.mem hx'
        obtain ⟨a, e, rfl, ft, hD⟩ := rx
        have hst := stK.top
        have hus : us1.length ≤ 100 := by omega
        have hhd : handedIn e = true := (DataD.plain hD).handed
        have hRef0 := hRef
        obtain ⟨dx, z1, z2, z3, z4, z5, z6, z7, z8⟩ := hRef0
        have stop := StopT.is
        clear F7 N7
        generalize hfw : f.wire = fw at ft
        by_cases h3 : fw = 3
        · k_steps
          refine turn_same S' (Same.trans (by assumption) (by assumption)) ⟨rfl, fun x hx => ?_⟩
          rcases List.mem_append.mp hx with hx | hx
          · exact hJ x hx
          · obtain rfl := List.mem_singleton.mp hx
            subst h3
            exact ⟨i, f, a, hf, hx', ft, hfw⟩
        · k_steps
          rename Same _ _ => sm1
          exact turn_same S' sm1 ⟨rfl, hJ⟩
      case hRR2 =>
        rintro I C' D2 h7 tk7 gs7 m7 ws k7 v1 v2 v3 led' S hg7 ⟨rfl, hJ⟩ hz hn hd7 a1' b1 c1 d1 e1 f1
        refine' post_assignV ?hloc ?hy ?hp S hn hd7 a1' b1 c1 d1 e1 f1 ?_
        case hloc => exact rfl
        case hy => exact rfl
        case hp => exact rfl
        intro h8 tk8 F8 N8 TK8 off8
        have grD2 := Gr.consD TK8 off8
        replace N8 : News g L h8 ((266, tabObj v1) :: (280, tabObj v2) :: (159, tabObj v3) :: (D2, W.listOf ws.toArray k7) :: (D, W.listOf zs.toArray k5) :: K3) := N8
        obtain ⟨K5, hK5⟩ : ∃ K5, (D2, W.listOf ws.toArray k7) :: (D, W.listOf zs.toArray k5) :: K3 = K5 := ⟨_, rfl⟩
        rw [hK5] at N8 TK8 grD2
        have g5 : ∀ p ∈ (D, W.listOf zs.toArray k5) :: K3, p ∈ K5 := grD2.1
        have st5 := stK.mono g5
        have refs5 := hrefsK.mono g5
        have al5 := alK.imp fun _ _ _ x => FieldD.mono g5 x
        have st5' := st5
        obtain ⟨y1, y2, y3, y4, j1, j2, j3⟩ := st5'
        have mD2 : (D2, W.listOf ws.toArray k7) ∈ K5 := by rw [← hK5]; exact .head _
        have mD : (D, W.listOf zs.toArray k5) ∈ K5 := by rw [← hK5]; exact .tail _ (.head _)
        clear S hn hd7 F7 N7
        k_steps
        refine HoldW.mk ?_
        refine' use_conU (c_clear k K5 a1 du1 ls1 us1 fs Ds1 st5 al5 nd1 (by omega)) ?B ?F ?X ?Nq ?T ?C1 ?C2 ?C3 ?TK .nil ?hA ?hf ?hke ?hh ?hd ?hu ?_
        (case hA => exact rfl); (case hf => exact rfl); (case hke => exact rfl); (case hh => exact rfl); (case F => k_asm); (case Nq => k_asm); (case B => k_asm); (case X => k_asm); (case T => k_asm); (case C1 => k_asm); (case C2 => k_asm); (case C3 => k_asm); (case TK => k_asm)
        (case hd => k_room); (case hu => k_units)
        intro r9 h9 tk9 gs9 v1' v2' v3' K6 ch F9 N9 x9 Nh9 TK9 hg9 p9
        obtain ⟨rfl, hch, ctop, cfs⟩ := p9
        have FK5 : FunL K5 := fun p hp q hq e => by have a := Nh9 p (List.mem_append_right _ hp); rw [e, Nh9 q (List.mem_append_right _ hq)] at a; exact (Option.some.inj a).symm
        have FK6 : FunL K6 := fun p hp q hq e => news_fun N9 (.tail _ (.tail _ (.tail _ hp))) (.tail _ (.tail _ (.tail _ hq))) e
        have cg : Chg K5 K6 ch := ⟨x9.still, fun c hc => (hch c hc).2, fun p hp => (x9.fresh p hp).imp id fun fr => by
          have ne : ∀ q ∈ tabs v1 v2 v3 ++ K5, p.1 ≠ q.1 := fun q hq e => by
            have := Nh9 q hq
            rw [← e, fr] at this; cases this
          exact ⟨ne (266, tabObj v1) (by simp), ne (280, tabObj v2) (by simp), ne (159, tabObj v3) (by simp), fun q hq => ne q (List.mem_append_right _ hq)⟩⟩
        have kp0 : Keeps K5 K6 [] := cg.keeps FK5 fun _ h => by simp at h
        have refs6 := refs5.keepV kp0
        have mD6 := kp0 _ mD (.inl nv_list)
        have mD26 := kp0 _ mD2 (.inl nv_list)
        have dom1 : ∀ e ∈ du1 :: ls1 :: Ds1, ∃ o, (e, o) ∈ K1 := by
          obtain ⟨_, _, _, _, z1, z2, z3⟩ := st1
          exact List.forall_mem_cons.mpr ⟨⟨_, z2⟩, List.forall_mem_cons.mpr ⟨⟨_, z3⟩, al1.dom (P := fun e => ∃ o, (e, o) ∈ K1) fun v f D ⟨a, e, p, q, r⟩ => DataD.dom r⟩⟩
        obtain ⟨Ds2, sd2, nd2, fr2⟩ := hS2
        have set6 : SetR K6 k a2 fs := ((sd2.mono fun p hp => g5 p (.tail _ (gr5.1 p hp))).keepV (cg.keeps FK5 fun d hd hc => let ⟨o, ho⟩ := dom1 d ((hch d hc).1); (fr2 d hd).2.2.2 _ ho rfl)).plain
        have gr6 : Gr ((Dw, W.listOf (ps.map Prod.snd).toArray k1) :: kn) K6 := x9.gr (gr3.trans (gr4.trans (gr5.trans (grD5.trans grD2)))) Nh9 fun p hp hc => (fr1 _ (hch _ hc).1).2.2.2 p hp rfl
        have row6 : RowR K6 k Dw fs := ⟨_, k1, gr6.1 _ (.head _), hsay.imp fun _ _ x => x.mono fun p hp => gr6.1 _ (.tail _ hp)⟩
        have inner6 : ∀ x ∈ ws, ∃ u, x = .ref u ∧ ClrTop K6 u := by
          intro x hx
          obtain ⟨j, f, a, hf, hus, ft, hw⟩ := hJ x hx
          obtain ⟨f', d, hf', a', e', ea, _, hD⟩ := al5.mem hus
          obtain rfl := Option.some.inj (hf.symm.trans hf')
          obtain ⟨n, gs, rfl⟩ := hD.grp_of hw
          obtain ⟨a2, u, du, e1, ft', ct, _⟩ := cfs.at hus hf n gs rfl
          obtain rfl := Value.ref.inj e1
          have := (((ft.mono g5).keepV kp0).same FK6 ft').2.2
          exact ⟨u, this, ct.top⟩
        have ctop6 := ctop.top
        have grB := (Gr.consD TK2 off2).trans gr6
        clear cfs hch hJ al5 st5 refs5 x9 Nh9 cg kp0 g5 mD mD2 alK stK hrefsK hrefs al1 st1 st1' fr1 fr2 sd2 ctop dom1 FK5 FK6 F8 N8 TK8 gr3 gr4 gr5 grD5 grD2 TK6 off6 off8 j1 j2 j3
        have D9 : DK (frs outs) g := DD
        k_steps
        refine HoldW.mk ?_
        refine' use_conS (c_gone (l := 0) (vs := []) (p := 0) (tp := 0) ctop6) ?B ?F ?Nq ?XB ?TB ?C1 ?C2 ?C3 ?D ?TK ?hO ?hA ?hf ?hke ?hh ?hd ?hu ?_
        k_extra "M stdS"
        intro r10 h10 tk10 gs10 x1 x2 x3 K7 ga KTa F10 N10 Ba Xa Ta C1a C2a C3a Da gr7 ne7 TK10 hg10 p10
        obtain ⟨t10, rfl⟩ := p10
        replace N10 : News ga L h10 ((266, tabObj x1) :: (280, tabObj x2) :: (159, tabObj x3) :: K7) := N10
        clear F9 N9 X T C1 C2 C3 B D9
        k_steps
        refine HoldW.mk ?_
        refine' use_conS (c_wordC (l := 0) (vs := []) (ctop6.mono gr7.1)) ?B ?F ?Nq ?XB ?TB ?C1 ?C2 ?C3 ?D ?TK ?hO ?hA ?hf ?hke ?hh ?hd ?hu ?_
        k_extra "M stdS"
        intro r11 h11 tk11 gs11 y1 y2 y3 K8 gb KTb F11 N11 Bb Xb Tb C1b C2b C3b Db gr8 ne8 TK11 hg11 p11
        obtain ⟨t11, rfl⟩ := p11
        replace N11 : News gb L h11 ((266, tabObj y1) :: (280, tabObj y2) :: (159, tabObj y3) :: K8) := N11
        clear F10 N10 Xa Ta C1a C2a C3a Ba Da
        k_steps
        refine HoldW.mk ?_
        rename Fr gb _ _ _ => F12
        rename News gb _ _ _ => N12
        refine' comp_LS (RR := fun acc C => compPost (model prg _) _ _ _ _ acc C) (fun i v m₂ => m₂ "one" = some v) (fun i zs' led'' => Gr K8 led'' ∧ zs' = []) rfl rfl rfl Bb Db F12 N12 TK11 (gr8.1 _ (gr7.1 _ mD26)) (by omega) ?hcell3 rfl ⟨Gr.refl _, rfl⟩ ?hasg3 ?turn3 ?hRR3
        case hcell3 => decide
        case hasg3 =>
          rintro g₃ I C D i v u1 u2 u3 led'' zs s1 m1 Q E' hv S hJ hn hCD hQ
          exact asg_name rfl rfl hn fun h' tk hn' hk => hQ h' tk _ hn' (by simp) hk
        case turn3 =>
          rintro g₃ I C' D' i v u1 u2 u3 led'' zs' s1 m1 E' KT3 B4 hv S nC nD ⟨gr4, rfl⟩ hz' hn hm1
          refine wpAny_tests_one ?_
          have S' := S
          obtain ⟨F5, N5, tk5, off5⟩ := S
          first | ((with_reducible rename HKon => hkm); (with_reducible refine' (_ : ShE s1 _) _ _ _ _ _ rfl); intros hh gg dd tt oo hq; subst hq) | obtain ⟨hh, gg, dd, tt, oo⟩ := s1
          dsimp only at hn F5 N5
          obtain ⟨x, rfl, hcx⟩ := inner6 v (List.mem_of_getElem? hv)
          clear F12 N12 Xb Tb C1b C2b C3b
          have X := XB.keeps B4.stays
          have T := TB.keeps B4.stays
          k_steps
          refine HoldW.mk ?_
          refine turn_conS (c_gone (l := 0) (vs := []) (p := 0) (tp := 0) (hcx.mono fun p hp => gr4.1 p (gr8.1 p (gr7.1 p hp)))) S' B4 XB TB CB1 CB2 CB3 ⟨Db.d.turn KT3⟩ rfl rfl rfl rfl ?hd2 ?hu2 (fun r h' tk' gs' a1 a2 a3 tl x hg p => ?_)
          case hd2 => k_room
          case hu2 => k_units
          obtain ⟨tz, rfl⟩ := p
          clear F5 N5
          k_steps
          exact ⟨h', _, gs', a1, a2, a3, tl, rfl, x, hg, gr4.trans (ExtS.gr S'.N x), by first | rfl | trivial⟩
        case hRR3 =>
          rintro g₃ I C' D3 h13 tk13 gs13 m13 zs13 k13 u1 u2 u3 K9 KTc Bc S hg13 ⟨gr9, rfl⟩ hz' hn hd13 q1 q2 q3 q4 q5 q6
          refine post_none S hn hd13 q1 q2 q3 q4 q5 q6 ?_
          intro h14 F14 N14 TK14 off14
          replace N14 : News g₃ L h14 ((266, tabObj u1) :: (280, tabObj u2) :: (159, tabObj u3) :: (D3, W.listOf ([] : List Value).toArray k13) :: K9) := N14
          have grD3 := Gr.consD TK14 off14
          clear F12 N12 S hn hd13 Xb Tb C1b C2b C3b Bb
          have X := XB.keeps Bc.stays
          have T := TB.keeps Bc.stays
          have C1 := CB1.keeps Bc.stays
          have C2 := CB2.keeps Bc.stays
          have C3 := CB3.keeps Bc.stays
          have Dc : DK (frs outs) g₃ := ⟨Db.d.turn KTc⟩
          k_steps
          refine HoldW.mk ?_
          rename Fr g₃ _ _ _ => F15
          rename News g₃ _ _ _ => N15
          have refs9 := refs6.mono fun p hp => gr9.1 p (gr8.1 p (gr7.1 p hp))
          have ctop9 := ctop6.mono fun p hp => gr9.1 p (gr8.1 p (gr7.1 p hp))
          have mD9 := gr9.1 _ (gr8.1 _ (gr7.1 _ mD6))
          have set9 := set6.mono fun p hp => gr9.1 p (gr8.1 p (gr7.1 p hp))
          have row9 := row6.mono fun p hp => gr9.1 p (gr8.1 p (gr7.1 p hp))
          have grC := ((grB.trans gr7).trans gr8).trans gr9
          have KTg := (KTa.trans KTb).trans KTc
          have N16 : News g₃ L _ (tabs u1 u2 u3 ++ ((D3, W.listOf ([] : List Value).toArray k13) :: K9)) := News.pick N15 (by
            refine List.forall_mem_cons.mpr ⟨?_, List.forall_mem_cons.mpr ⟨?_, List.forall_mem_cons.mpr ⟨?_, List.forall_mem_cons.mpr ⟨?_, fun p hp => ?_⟩⟩⟩⟩
            all_goals first | k_mem | exact .tail _ (.tail _ (.tail _ (.tail _ (.tail _ hp)))))
          obtain ⟨K10, hK10⟩ : ∃ K10, (D3, W.listOf ([] : List Value).toArray k13) :: K9 = K10 := ⟨_, rfl⟩
          rw [hK10] at N16 TK14 grD3
          clear N15 gr6 gr7 gr8 gr9 grB inner6 refs6 ctop6 mD6 mD26 set6 row6 KTa KTb KTc
          have refs10 := refs9.mono grD3.1
          have ctop10 := ctop9.mono grD3.1
          refine' comp_LK (RR := fun acc C => compPost (model prg _) _ _ _ _ acc C) (fun i zs' led'' => Gr K10 led'' ∧ zs' = []) rfl ?hrest ?hky ?hks rfl rfl rfl Bc Dc F15 N16 TK14 (grD3.1 _ mD9) (by omega) ⟨Gr.refl _, rfl⟩ (fun _ _ _ h => h.1.1 _ (grD3.1 _ mD9)) ?turn4 ?hRR4
          case hrest => decide
          case hky => intro _ _; exact rfl
          case hks => intro _ _; exact rfl
          case turn4 =>
            rintro g₄ I C D c oI oC oD oc i v w1 w2 w3 led'' zs'' s1 E' KT4 B4 hv hoc F5 N5 TK5 oLI oID oDC oCc o266 o280 o159 off5 ⟨gr10, rfl⟩ hz''
            refine wpAny_tests_one ?_
            first | ((with_reducible rename HKon => hkm); (with_reducible refine' (_ : ShE s1 _) _ _ _ _ _ rfl); intros hh gg dd tt oo hq; subst hq) | obtain ⟨hh, gg, dd, tt, oo⟩ := s1
            dsimp only at F5 N5
            replace N5 : News g₄ L hh ((I, oI) :: (C, oC) :: (D, oD) :: (c, oc) :: (266, tabObj w1) :: (280, tabObj w2) :: (159, tabObj w3) :: led'') := N5
            obtain ⟨r, rfl, hRef⟩ := refs10 i v hv
            clear F15 N16 X T C1 C2 C3
            have X := XB.keeps B4.stays
            have T := TB.keeps B4.stays
            have C1 := CB1.keeps B4.stays
            have C2 := CB2.keeps B4.stays
            have C3 := CB3.keeps B4.stays
            have D4 : DK (frs outs) g₄ := ⟨Dc.d.turn KT4⟩
            k_steps
            refine HoldW.mk ?_
            rename IsRange _ _ _ _ _ _ _ _ => R17
            rename News g₄ _ _ _ => N17
            rename Fr g₄ _ _ _ => F17
            dsimp only at R17
            have fk5 : ∀ q ∈ [(I, oI), (C, oC), (D, oD), (c, oc)], ∀ p ∈ led'', p.1 ≠ q.1 := fun q hq p hp => off5 p hp q hq
            have TK17 : TabOk w1 w2 w3 ([(I, oI), (C, oC), (D, oD), (c, oc)] ++ led'') := (((TK5.cons ⟨neN (by omega), neN (by omega), neN (by omega)⟩).cons ⟨neN (by omega), neN (by omega), neN (by omega)⟩).cons ⟨neN (by omega), neN (by omega), neN (by omega)⟩).cons ⟨neN (by omega), neN (by omega), neN (by omega)⟩
            have N18 : News g₄ L _ (tabs w1 w2 w3 ++ ([(I, oI), (C, oC), (D, oD), (c, oc)] ++ led'')) := News.pick N17 fun p hp => by
              simp only [List.mem_append, List.mem_cons, List.not_mem_nil, or_false] at hp ⊢
              grind
            clear N17 fk5
            refine' comp_RS (RR := fun acc C => compPost (model prg _) _ _ _ _ acc C) (n := 3) (fun i v m₂ => m₂ "which" = some v) (fun i zs led5 => Gr ([(I, oI), (C, oC), (D, oD), (c, oc)] ++ led'') led5 ∧ zs.length = i ∧ ∀ x ∈ zs, ∃ t, x = .str "value" t) rfl rfl rfl B4 D4 F17 N18 TK17 R17 (by omega) ?hcell5 rfl ⟨Gr.refl _, rfl, fun _ h => (by simp at h)⟩ ?hasg5 ?turn5 ?hRR5 ?hgo5
            case hcell5 => decide
            case hgo5 => intro _ _; rfl
            case hasg5 =>
              rintro g₃ I C D i v u1 u2 u3 led'' zs s1 m1 Q E' ⟨hi, t, rfl⟩ S hJ hn hCD hQ
              exact asg_name rfl rfl hn fun h' tk hn' hk => hQ h' tk _ hn' (by simp) hk
            case turn5 =>
              rintro g₅ I2 C5 D5 j v x1 x2 x3 led5 zs5 s5 m5 E5 KT5 B5 ⟨hj, tv, rfl⟩ S nC nD ⟨gr12, hzl5, hzs5⟩ hz5 hn hm5
              refine wpAny_tests_nil ?_
              simp only [if_true]
              have S' := S
              obtain ⟨F6, N6, tk6, off6⟩ := S
              first | ((with_reducible rename HKon => hkm); (with_reducible refine' (_ : ShE s5 _) _ _ _ _ _ rfl); intros hh5 gg5 dd5 tt5 oo5 hq; subst hq) | obtain ⟨hh5, gg5, dd5, tt5, oo5⟩ := s5
              dsimp only at hn F6 N6
              have mc : (c, oc) ∈ led5 := gr12.1 _ (by simp)
              have hR5 : RefAt led5 r a1 i := (hRef.mono gr10.1).mono fun p hp => gr12.1 p (List.mem_append_right _ hp)
              have hC5 : ClrTop led5 a1 := (ctop10.mono gr10.1).mono fun p hp => gr12.1 p (List.mem_append_right _ hp)
              have told : ConS w (.ref 391) [.ref r, .int j tv] 60 600 led5 (fun _ x => ∃ t, x = .str "value" t) := by
                rcases Nat.lt_or_ge j 2 with h | h
                · exact c_toldA hR5 hC5 (by omega)
                · exact c_toldB hR5 hC5 (by omega)
              clear F17 N18 X T C1 C2 C3
              have X := XB.keeps B5.stays
              have T := TB.keeps B5.stays
              k_steps
              refine HoldW.mk ?_
              refine turn_conS told S' B5 XB TB CB1 CB2 CB3 ⟨D4.d.turn KT5⟩ rfl rfl rfl rfl ?hd2 ?hu2 ?_
              case hd2 => k_room
              case hu2 => k_units
              intro r h' tk' gs' a1 a2 a3 tl x hg p
              obtain ⟨tz, rfl⟩ := p
              refine ⟨h', _, gs', a1, a2, a3, tl, rfl, x, hg, gr12.trans (ExtS.gr S'.N x), by simp [hzl5], ?_⟩
              intro y hy
              rcases List.mem_append.mp hy with hy | hy
              · exact hzs5 y hy
              · exact ⟨tz, List.mem_singleton.mp hy⟩
            case hRR5 =>
              rintro g₅ I2 C5 D5 h18 tk18 gs18 m18 zs5 k18 x1 x2 x3 led5 KT5 B5 S hg18 ⟨gr12, hzl5, hzs5⟩ hz5 hn hd18 q1 q2 q3 q4 q5 q6
              refine post_none S hn hd18 q1 q2 q3 q4 q5 q6 ?_
              intro h19 F19 N19 TK19 off19
              obtain ⟨b0, b1, b2, rfl⟩ := len3 hzl5
              obtain ⟨s0, rfl⟩ := hzs5 b0 (by simp)
              obtain ⟨s1, rfl⟩ := hzs5 b1 (by simp)
              obtain ⟨s2, rfl⟩ := hzs5 b2 (by simp)
              replace N19 : News g₅ L h19 ((266, tabObj x1) :: (280, tabObj x2) :: (159, tabObj x3) :: (D5, W.listOf #[.str "value" s0, .str "value" s1, .str "value" s2] k18) :: led5) := N19
              have grD5 := Gr.consD TK19 off19
              clear F17 N18 S hn hd18 X T C1 C2 C3 hzs5 hzl5
              have X := XB.keeps B5.stays
              have T := TB.keeps B5.stays
              have C1 := CB1.keeps B5.stays
              have C2 := CB2.keeps B5.stays
              have C3 := CB3.keeps B5.stays
              have D6 : DK (frs outs) g₅ := ⟨D4.d.turn KT5⟩
              have stopU := StopU.is
              k_steps
              refine HoldW.mk ?_
              rename Fr g₅ _ _ _ => F20
              rename News g₅ _ _ _ => N20
              refine KMa.mul (vs := [.str "value" _]) (ws := [.str "value" _, .str "value" _, .str "value" _]) F20 N20 ⟨_, (N20 _ (.head _)).1, rfl, _, rfl⟩ (by decide) (by decide) (by simp) rfl ?_
              intro D6' h21 F21 N21 l21
              clear F20 N20
              k_steps
              refine HoldW.mk ?_
              rename Fr g₅ _ _ _ => F22
              rename News g₅ _ _ _ => N22
              have mL1 := N22 (D5, W.listOf #[.str "value" s0, .str "value" s1, .str "value" s2] k18) (by k_mem)
              have mL2 := N22 (D6', _) (.head _)
              refine ne_val3 ⟨_, mL1.1, rfl, _, rfl⟩ ⟨_, mL2.1, rfl, _, rfl⟩ (by k_units) ?_
              k_steps
              have N23 : News g₅ L h21 (tabs x1 x2 x3 ++ ((D5, W.listOf #[.str "value" s0, .str "value" s1, .str "value" s2] k18) :: led5)) := News.pick N22 (by
                refine List.forall_mem_cons.mpr ⟨?_, List.forall_mem_cons.mpr ⟨?_, List.forall_mem_cons.mpr ⟨?_, List.forall_mem_cons.mpr ⟨?_, fun p hp => ?_⟩⟩⟩⟩
                all_goals first | k_mem | exact .tail _ (.tail _ (.tail _ (.tail _ (.tail _ (.tail _ hp))))))
              exact ⟨g₅, h21, _, gs18, x1, x2, x3, _, rfl, KT5, B5, hg18, F22, N23, TK19, fun q hq => .tail _ (gr12.1 q (List.mem_append_left _ hq)), gr10.trans (Gr.dels (gr12.trans grD5) off5), by first | rfl | trivial⟩
          case hRR4 =>
            rintro g₅ I C' D7 h24 tk24 gs24 m24 zs24 k24 w1 w2 w3 K11 KTd Bd S hg24 ⟨gr10, rfl⟩ hz'' hn hd24 q1 q2 q3 q4 q5 q6
            refine post_none S hn hd24 q1 q2 q3 q4 q5 q6 ?_
            intro h25 F25 N25 TK25 off25
            replace N25 : News g₅ L h25 ((266, tabObj w1) :: (280, tabObj w2) :: (159, tabObj w3) :: (D7, W.listOf ([] : List Value).toArray k24) :: K11) := N25
            have grD7 := Gr.consD TK25 off25
            clear F15 N16 X T C1 C2 C3 S hn hd24
            have X := XB.keeps Bd.stays
            have T := TB.keeps Bd.stays
            have C1 := CB1.keeps Bd.stays
            have C2 := CB2.keeps Bd.stays
            have C3 := CB3.keeps Bd.stays
            have Dd : DK (frs outs) g₅ := ⟨Dc.d.turn KTd⟩
            k_steps
            refine HoldW.mk ?_
            rename Fr g₅ _ _ _ => F26
            rename News g₅ _ _ _ => N26
            have mono26 : ∀ p ∈ K9, p ∈ (D7, W.listOf ([] : List Value).toArray k24) :: K11 := fun p hp => .tail _ (gr10.1 p (grD3.1 p hp))
            have N27 : News g₅ L _ (tabs w1 w2 w3 ++ ((D7, W.listOf ([] : List Value).toArray k24) :: K11)) := News.pick N26 (by
              refine List.forall_mem_cons.mpr ⟨?_, List.forall_mem_cons.mpr ⟨?_, List.forall_mem_cons.mpr ⟨?_, List.forall_mem_cons.mpr ⟨?_, fun p hp => ?_⟩⟩⟩⟩
              all_goals first | k_mem | exact .tail _ (.tail _ (.tail _ (.tail _ (.tail _ hp)))))
            clear N26
            refine' use_conS (c_ag k _ a2 Dw fs (set9.mono mono26) (row9.mono mono26) hl) ?B ?F ?Nq ?XB ?TB ?C1 ?C2 ?C3 ?D ?TK ?hO ?hA ?hf ?hke ?hh ?hd ?hu ?_
            (case hA => exact rfl); (case hf => exact rfl); (case hke => exact rfl); (case hh => exact rfl); (case F => k_asm); (case Nq => exact N27); (case B => k_asm); (case XB => assumption); (case TB => assumption); (case C1 => assumption); (case C2 => assumption); (case C3 => assumption); (case D => assumption); (case TK => exact TK25)
            case hO => exact Own.nil
            case hd => k_room
            case hu => k_units
            intro r28 h28 tk28 gs28 z1 z2 z3 K12 ge KTe F28 N28 Be Xe Te C1e C2e C3e De gr28 ne28 TK28 hg28 p28
            subst p28
            replace N28 : News ge L h28 ((266, tabObj z1) :: (280, tabObj z2) :: (159, tabObj z3) :: K12) := N28
            have grZ := ((grC.trans grD3).trans gr10).trans (grD7.trans gr28)
            have KTz := (KTg.trans KTd).trans KTe
            clear F26 N27 KTg KTd KTe X T C1 C2 C3 grC grD3 gr10 grD7 gr28 TK25
            k_steps
            all_goals (k_extra "M out")
            refine' ret _ _ _ _ _ _ _ ([] ++ _) ?X ?Y rfl
            case X => k_extra "M finS"
            case Y => exact fun z => hg28 (hg24 (hg13 (hg11 (hg10 (hg9 (hg7 (hg5 (hg4 (hg3 (hg z))))))))))
end
-- LP0
section
noncomputable def FldL (kn : Led) (k : Nat) (l : Addr) (zs : List Value) (n : Nat) (fs : List Fld) : Prop := (l, W.listOf zs.toArray n) ∈ kn ∧ All2 (FldAt kn k) zs fs
theorem FldL.mono {kn kn' : Led} {k : Nat} {l : Addr} {zs : List Value} {n : Nat} {fs : List Fld} (x : FldL kn k l zs n fs) (h : ∀ p ∈ kn, p ∈ kn') : FldL kn' k l zs n fs := ⟨h _ x.1, x.2.imp fun _ _ y => y.mono h⟩
theorem FldL.flds {kn : Led} {k : Nat} {l : Addr} {zs : List Value} {n : Nat} {fs : List Fld} (x : FldL kn k l zs n fs) : FldsR kn k l fs := by
  obtain ⟨ps, xs, h1, h2, h3, h4⟩ := fld_pairs x.2
  exact ⟨zs, ps, xs, n, x.1, h1, h2, h3, h4⟩
theorem All2.take {α β : Type} {R : α → β → Prop} {as : List α} {bs : List β} (x : All2 R as bs) : ∀ n : Nat, All2 R (as.take n) (bs.take n) := by
  induction x with
  | nil => intro n; simpa using All2.nil
  | cons r _ ih => intro n; cases n with
    | zero => exact .nil
    | succ n => exact .cons r (ih n)
theorem All2.drop {α β : Type} {R : α → β → Prop} {as : List α} {bs : List β} (x : All2 R as bs) : ∀ n : Nat, All2 R (as.drop n) (bs.drop n) := by
  induction x with
  | nil => intro n; simpa using All2.nil
  | cons r h ih => intro n; cases n with
    | zero => exact .cons r h
    | succ n => exact ih n
theorem All2.reverse {α β : Type} {R : α → β → Prop} {as : List α} {bs : List β} (x : All2 R as bs) : All2 R as.reverse bs.reverse := by
  induction x with
  | nil => exact .nil
  | cons r _ ih => rw [List.reverse_cons, List.reverse_cons]; exact ih.append (.cons r .nil)
theorem allEq_comm {e : Fld → Fld → Bool} (h : ∀ f g, e f g = e g f) : ∀ fs gs, allEq e fs gs = allEq e gs fs
  | [], [] => rfl
  | [], _ :: _ => rfl
  | _ :: _, [] => rfl
  | f :: fs, g :: gs => by simp only [allEq, h f g, allEq_comm h fs gs]
theorem datEq_comm {r : List Fld → List Fld → Bool} (h : ∀ f g, r f g = r g f) : ∀ f g, datEq r f g = datEq r g f
  | .int .., .int .. => by simp only [datEq]; exact Bool.beq_comm
  | .int .., .byt .. => rfl
  | .int .., .grp .. => rfl
  | .byt .., .int .. => rfl
  | .byt .., .byt .. => by simp only [datEq]; exact Bool.beq_comm
  | .byt .., .grp .. => rfl
  | .grp .., .int .. => rfl
  | .grp .., .byt .. => rfl
  | .grp .., .grp .. => h _ _
theorem eqF_comm : ∀ (k : Nat) (f g : Fld), eqF k f g = eqF k g f
  | 0, f, g => by
    simp only [eqF, datEq_comm (r := fun _ _ => false) (fun _ _ => rfl) f g, Bool.beq_comm (a := f.num), Bool.beq_comm (a := f.wire)]
  | k + 1, f, g => by
    simp only [eqF, datEq_comm (r := fun fs gs => allEq (eqF k) (sortF fs) (sortF gs)) (fun _ _ => allEq_comm (eqF_comm k) _ _) f g, Bool.beq_comm (a := f.num), Bool.beq_comm (a := f.wire)]
theorem eqS_comm (k : Nat) (fs gs : List Fld) : eqS k fs gs = eqS k gs fs := allEq_comm (eqF_comm k) _ _
theorem eqS_nil (k : Nat) (fs : List Fld) : eqS k [] fs = fs.isEmpty := by
  unfold eqS
  have e1 : sortF [] = [] := by
    have := sortF_length (fs := [])
    exact List.length_eq_zero_iff.mp this
  rw [e1]
  have e2 := sortF_length (fs := fs)
  cases fs with
  | nil => rw [e1]; rfl
  | cons f fs =>
    match h : sortF (f :: fs), e2 with
    | [], e2 => simp at e2
    | _ :: _, _ => rfl
theorem EncR.wfs {k : Nat} {fs : List Fld} {bss : List (List UInt8)} (h : All2 (EncR k) fs bss) : ∀ f ∈ fs, WfF k f := h.left fun _ _ x => x.wf
theorem FldsR.wf : ∀ {kn : Led} {k : Nat} {l : Addr} {fs : List Fld} (h : FldsR kn k l fs), ∀ f ∈ fs, WfF k f := by
  have hon : HKon := trivial
  intro kn k l fs h
  obtain ⟨_, _, _, _, _, _, _, d, _⟩ := h
  exact EncR.wfs d
theorem pick_drop (vs : List Value) (r : Nat) (_ : r ≤ 1000) : (slicePick vs.toArray (some (r : Int)) none none).toList = vs.drop r := by
  have e : sliceBounds (some (r : Int)) none none vs.toArray.size = (((min r vs.toArray.size : Nat) : Int), ((vs.toArray.size : Nat) : Int), 1) := by
    simp only [sliceBounds, Option.getD_none, show (1 : Int) > 0 by decide, if_true, if_neg (show ¬ ((r : Int) < 0) by omega)]
    congr 1
    omega
  rw [kmk_pick_nat _ e]
  show (vs.drop (min r vs.toArray.size)).take _ = _
  rw [List.size_toArray, kmk_drop_min]
  refine List.take_of_length_le ?_
  rw [List.length_drop]
  omega
theorem pick_take (vs : List Value) (r : Nat) (_ : r ≤ 1000) : (slicePick vs.toArray none (some (r : Int)) none).toList = vs.take r := by
  have e : sliceBounds none (some (r : Int)) none vs.toArray.size = (((0 : Nat) : Int), ((min r vs.toArray.size : Nat) : Int), 1) := by
    simp only [sliceBounds, Option.getD_none, show (1 : Int) > 0 by decide, if_true, if_neg (show ¬ ((r : Int) < 0) by omega)]
    congr 1
    congr 1
    omega
  rw [kmk_pick_nat _ e]
  show (vs.drop 0).take (min r vs.toArray.size - 0) = _
  rw [List.drop_zero, Nat.sub_zero, List.size_toArray, kmk_take_min]
theorem pick_last (vs : List Value) : (slicePick vs.toArray none (some (-1)) none).toList = vs.take (vs.length - 1) := by
  have e : sliceBounds none (some (-1)) none vs.toArray.size = (((0 : Nat) : Int), ((vs.length - 1 : Nat) : Int), 1) := by
    simp only [sliceBounds, Option.getD_none, show (1 : Int) > 0 by decide, if_true, if_pos (show (-1 : Int) < 0 by decide), List.size_toArray]
    congr 1
    congr 1
    omega
  rw [kmk_pick_nat _ e]
  show (vs.drop 0).take (vs.length - 1 - 0) = _
  rw [List.drop_zero, Nat.sub_zero]
end
-- LP1
section
section
variable {w : World} {A : Around} {E : Value → Shared → Prop} {s : Shared} {env : Env}
theorem go_list {target : Expr} {It l : Addr} {i : Nat} {v : Value} {o : Obj} {Q : Unit → Shared → Prop} (e : s.heap.get? It = some o) (h : LIt o l i) (hQ : Q () s) : wpAny (model prg w) A (letOwnedTupleGo target (.ref It) v) Q E s := by
  obtain ⟨hc, hd⟩ := h
  unfold letOwnedTupleGo
  split
  · cases v with
    | ref a =>
      refine wpAny_bind (wpAny_load e ?_)
      rw [hc, hd]
      exact wpAny_ite (by rw [if_neg (by simp)]; exact wpAny_pure hQ)
    | _ => exact wpAny_pure hQ
  · cases v with
    | ref a =>
      refine wpAny_bind (wpAny_load e ?_)
      rw [hc, hd]
      exact wpAny_ite (by rw [if_neg (by simp)]; exact wpAny_pure hQ)
    | _ => exact wpAny_pure hQ
  · exact wpAny_pure hQ
set_option maxHeartbeats 4000000 in
theorem for_LT : ∀ {w : World} {A : Around} {E : Value → Shared → Prop} {s : Shared} {env : Env} {target : Expr} {body : List Stmt} {l : Addr} {vs : List Value} {Q : Flow → Shared → Prop} (hh : A.handled = none) (hl : s.heap.IsList l vs.toArray) (I : Nat → Addr → Shared → Prop) (init : ∀ h' o, (∀ b o, s.heap.get? b = some o → h'.get? b = some o) → h'.get? s.heap.objs.size = some o → LIt o l 0 → I 0 s.heap.objs.size { s with heap := h' }) (hit : ∀ i It s', I i It s' → (∃ o, s'.heap.get? It = some o ∧ LIt o l i) ∧ s'.heap.IsList l vs.toArray) (turn : ∀ i It s' h₁ tk₁ v o E', vs[i]? = some v → I i It s' → h₁.get? It = some o → LIt o l (i + 1) → (∀ b o, b ≠ It → s'.heap.get? b = some o → h₁.get? b = some o) →
      wpAny (model prg w) A (assign target env v) (fun _ s₂ => wpAny (model prg w) A (execs body env) (fun f s₃ => match f with
        | .next | .cont => I (i + 1) It s₃
        | .brk => Q .next s₃
        | .ret v => Q (.ret v) s₃) E' s₂) E' { s' with heap := h₁, toks := tk₁ }) (done : ∀ It s' h₁ tk₁, I vs.length It s' → (∀ b o, b ≠ It → s'.heap.get? b = some o → h₁.get? b = some o) → Q .next { s' with heap := h₁, toks := tk₁ }),
    wpAny (model prg w) A (pyIter (.ref l)) (fun it s₂ => codeAny (model prg w) A (.forLoop target it body [] env) (fun r s' => match r with | .ok f => Q f s' | .error e => cameBackBy (model prg w) A env E e s') s₂) E s := by
  have hon : HKon := trivial
  intro w A E s env target body l vs Q hh hl I init hit turn done
  refine wpAny_pyIter_list hl ?_
  have k0 : ∀ b o, s.heap.get? b = some o → (s.heap.push { cls := .type "list_iterator", data := .fields #[.ref l, .int 0 0] }).get? b = some o := fun b o e => Heap.get?_push_of_some _ e
  have hls : l ≠ s.heap.objs.size := fun e => by
    obtain ⟨o, ho, _⟩ := hl
    rw [e, Heap.get?_none_of_le (Nat.le_refl _)] at ho; cases ho
  refine codeAny_forLoop_any (fun k s' => ∃ i, I i s.heap.objs.size s' ∧ i ≤ vs.length ∧ k = vs.length + 1 - i) ?_ (vs.length + 1) ⟨0, init _ _ k0 (Heap.get?_push_size _ rfl) ⟨rfl, rfl⟩, Nat.zero_le _, rfl⟩
  rintro k s' ⟨i, hI, hi, rfl⟩
  generalize hIt : s.heap.objs.size = It at *
  have W := Walks.list (prog := prg) (w := w) hh It l hls vs.toArray
  rw [List.size_toArray] at W
  by_cases hlt : i < vs.length
  · refine W.item i s' _ _ hlt (hit i It s' hI) ?_
    intro v h₁ tk₁ hv hst hk
    obtain ⟨⟨o, ho, hL⟩, _⟩ := hst
    dsimp only
    refine go_list ho hL ?_
    refine wpAny_mono (turn i It s' h₁ tk₁ v o _ (by simpa using hv) hI ho hL (fun b o hb e => hk b o (by simpa using hb) e)) (fun _ s₂ h₂ => wpAny_mono h₂ ?_ fun _ _ e => e) fun _ _ e => e
    intro f s₃ h₃
    cases f with
    | next => exact ⟨vs.length + 1 - (i + 1), by omega, i + 1, h₃, by omega, rfl⟩
    | cont => exact ⟨vs.length + 1 - (i + 1), by omega, i + 1, h₃, by omega, rfl⟩
    | brk => exact h₃
    | ret v => exact h₃
  · obtain rfl : i = vs.length := by omega
    refine W.done s' _ _ (hit vs.length It s' hI) fun h₁ tk₁ hk => wpAny_execs_nil ?_
    exact done It s' h₁ tk₁ hI fun b o hb e => hk b o (by simpa using hb) e
end
end
-- LQ0
section
noncomputable def LObj (o : Obj) : Prop := ∃ a n, o = W.listOf a n
theorem nl_inst {c d : Addr} : ¬ LObj (instObj c d) := fun ⟨_, _, e⟩ => by cases e
theorem nl_dict {es : List DictEntry} {n : Nat} : ¬ LObj (dictOf es n) := fun ⟨_, _, e⟩ => by have := congrArg Obj.data e; cases this
noncomputable def KeepsL (K K2 : Led) (D : List Addr) : Prop := ∀ p ∈ K, (¬ LObj p.2 ∨ p.1 ∈ D) → p ∈ K2
theorem KeepsL.less {K K2 : Led} {D D' : List Addr} (x : KeepsL K K2 D) (h : ∀ d ∈ D', d ∈ D) : KeepsL K K2 D' := fun p hp hd => x p hp (hd.imp id (h _))
theorem FieldTop.keepL : ∀ {K K2 : Led} {D : List Addr} (h : KeepsL K K2 D) {a : Addr} {n w : Int} {e : Value} (x : FieldTop K a n w e), FieldTop K2 a n w e := by
  have hon : HKon := trivial
  intro K K2 D h a n w e x
  obtain ⟨du, a, b, c, d, e, f, g, k, l, m, n⟩ := x
  first | exact exI10 ⟨h _ m (.inl nl_inst), h _ n (.inl nl_dict)⟩ | exact exI9 ⟨l, h _ m (.inl nl_inst), h _ n (.inl nl_dict)⟩ | exact exI8 ⟨k, l, h _ m (.inl nl_inst), h _ n (.inl nl_dict)⟩ | exact ⟨du, a, b, c, d, e, f, g, k, l, h _ m (.inl nl_inst), h _ n (.inl nl_dict)⟩
theorem SetTopD.keepL : ∀ {K K2 : Led} {D : List Addr} (h : KeepsL K K2 D) {u du l : Addr} {vs : List Value} (x : SetTopD K u du l vs) (hd : l ∈ D), SetTopD K2 u du l vs := by
  have hon : HKon := trivial
  intro K K2 D h u du l vs x hd
  obtain ⟨a, b, c, d, e, f, g⟩ := x
  first | exact exI4 ⟨h _ e (.inl nl_inst), h _ f (.inl nl_dict), h _ g (.inr hd)⟩ | exact exI3 ⟨d, h _ e (.inl nl_inst), h _ f (.inl nl_dict), h _ g (.inr hd)⟩ | exact exI2 ⟨c, d, h _ e (.inl nl_inst), h _ f (.inl nl_dict), h _ g (.inr hd)⟩ | exact ⟨a, b, c, d, h _ e (.inl nl_inst), h _ f (.inl nl_dict), h _ g (.inr hd)⟩
theorem DataD.keepL {K K2 : Led} : ∀ {k : Nat} {e : Value} {f : Fld} {D : List Addr}, KeepsL K K2 D → DataD K k e f D → DataD K2 k e f D
  | 0, _, .int .., _, _, x => by unfold DataD at *; exact x
  | 0, _, .byt .., _, _, x => by unfold DataD at *; exact x
  | 0, _, .grp .., _, _, x => by unfold DataD at *; exact x
  | k + 1, _, .int .., _, _, x => by unfold DataD at *; exact x
  | k + 1, _, .byt .., _, _, x => by unfold DataD at *; exact x
  | k + 1, _, .grp _ fs, _, h, x => by
    unfold DataD at *
    obtain ⟨a, u, du, l, vs, D', b, c, rfl, d⟩ := x
    exact ⟨a, u, du, l, vs, D', b, c.keepL h (.tail _ (.head _)), rfl, d.impM fun v f D hd ⟨a, e, p, q, r⟩ => ⟨a, e, p, q.keepL h, DataD.keepL (h.less fun z hz => .tail _ (.tail _ (hd z hz))) r⟩⟩
theorem FieldD.keepL : ∀ {K K2 : Led} {k : Nat} {v : Value} {f : Fld} {D : List Addr} (h : KeepsL K K2 D) (x : FieldD K k v f D), FieldD K2 k v f D := by
  have hon : HKon := trivial
  intro K K2 k v f D h x
  obtain ⟨a, e, p, q, r⟩ := x
  first | exact exI3 ⟨q.keepL h, r.keepL h⟩ | exact exI2 ⟨p, q.keepL h, r.keepL h⟩ | exact exI1 ⟨e, p, q.keepL h, r.keepL h⟩ | exact ⟨a, e, p, q.keepL h, r.keepL h⟩
theorem keepsL_of {kn kn2 : Led} {l : Addr} {a : Array Value} {n : Nat} {D : List Addr} (F : FunL kn) (hl : (l, W.listOf a n) ∈ kn) (still : ∀ p ∈ kn, p.1 ∉ [l] → p ∈ kn2) (hD : l ∉ D) : KeepsL kn kn2 D := fun p hp h => still p hp fun e => by
  have e := List.mem_singleton.mp e
  rcases h with h | h
  · exact h ⟨a, n, F p hp _ hl e⟩
  · exact hD (e ▸ h)
theorem set_ext {kn kn2 : Led} {k : Nat} {u du l u2 du2 l2 : Addr} {fs gs : List Fld} {vs ws : List Value} {D D2 : List Addr} (F : FunL kn) (x : SetTopD kn u du l vs) (al : All2D (FieldD kn k) vs fs D) (hD : l ∉ D)
    (y : SetTopD kn u2 du2 l2 ws) (al2 : All2D (FieldD kn k) ws gs D2) (hD2 : l ∉ l2 :: D2) (still : ∀ p ∈ kn, p.1 ∉ [l] → p ∈ kn2) (new : ∃ n, (l, W.listOf (vs ++ ws).toArray n) ∈ kn2) :
    SetR kn2 k u (fs ++ gs) ∧ SetR kn2 k u2 gs := by
  obtain ⟨h1, k1, n1, m1, a1, a2, a3⟩ := x
  have K1 := keepsL_of F a3 still hD
  have K2 := keepsL_of F a3 still hD2
  obtain ⟨n, hn⟩ := new
  have q1 : All2 (FieldR kn2 k) vs fs := (al.impM (R' := FieldD kn2 k) fun v f d hd r => r.keepL (K1.less hd)).two fun v f d ⟨a, e, p, q, r⟩ => ⟨a, e, p, q, r.plain⟩
  have q2 : All2 (FieldR kn2 k) ws gs := (al2.impM (R' := FieldD kn2 k) fun v f d hd r => r.keepL (K2.less fun z hz => .tail _ (hd z hz))).two fun v f d ⟨a, e, p, q, r⟩ => ⟨a, e, p, q, r.plain⟩
  exact ⟨⟨l, vs ++ ws, ⟨du, h1, k1, n1, n, K1 _ a1 (.inl nl_inst), K1 _ a2 (.inl nl_dict), hn⟩, q1.append q2⟩, l2, ws, (y.keepL K2 (.head _)).top, q2⟩
theorem funL_of {g h : Heap} {L : Addr} {own kn : Led} (N : News g L h (own ++ kn)) : FunL kn := fun p hp q hq e => by
  have a := (N p (List.mem_append_right _ hp)).1
  rw [e, (N q (List.mem_append_right _ hq)).1] at a
  exact (Option.some.inj a).symm
theorem normF_wf : ∀ (k : Nat) (f : Fld), WfF k f → WfF k (normF k f)
  | 0, f, h => by cases f <;> exact h
  | k + 1, .int .., h => h
  | k + 1, .byt .., h => h
  | k + 1, .grp n fs, h => by
    unfold WfF at h
    show WfF (k + 1) (.grp n ((sortF fs).map (normF k)))
    unfold WfF
    refine ⟨by rw [List.length_map, sortF_length]; exact h.1, fun g hg => ?_⟩
    obtain ⟨g', hg', rfl⟩ := List.mem_map.mp hg
    exact normF_wf k g' (h.2 g' (sortF_mem g' hg'))
theorem normS_wf {k : Nat} {fs : List Fld} (h : ∀ f ∈ fs, WfF k f) : ∀ f ∈ normS k fs, WfF k f := fun g hg => by
  obtain ⟨g', hg', rfl⟩ := List.mem_map.mp hg
  exact normF_wf k g' (h g' (sortF_mem g' hg'))
theorem row_eqS {prog : Program} {w : World} {A : Around} {E : Value → Shared → Prop} {s : Shared} {kn : Led} {k : Nat} {l l' : Addr} {fs gs : List Fld} {Q : Value → Shared → Prop} (N : ∀ p ∈ kn, s.heap.get? p.1 = some p.2) (x : RowR kn k l (normS k fs)) (y : RowR kn k l' (normS k gs)) (wf : ∀ f ∈ fs, WfF k f) (wg : ∀ f ∈ gs, WfF k f) (hu : A.units + 100 < cLine) (hk : k ≤ 10)
    (h : Q (.bool (eqS k fs gs)) s) : wpAny (model prog w) A (compareOp .Eq (.ref l) (.ref l')) Q E s :=
  row_eq N x y (normS_wf wf) (normS_wf wg) hu hk (by rw [eqS_norm]; exact h)
open PySem.SeqAt in
theorem row_nil {prog : Program} {w : World} {A : Around} {E : Value → Shared → Prop} {s : Shared} {kn : Led} {k : Nat} {l l' : Addr} {fs : List Fld} {n : Nat} {Q : Value → Shared → Prop} (N : ∀ p ∈ kn, s.heap.get? p.1 = some p.2) (x : RowR kn k l fs) (y : s.heap.get? l' = some (W.listOf #[] n)) (hu : A.units < cLine)
    (h : Q (.bool fs.isEmpty) s) : wpAny (model prog w) A (compareOp .Eq (.ref l) (.ref l')) Q E s := by
  obtain ⟨vs, nn, hm, hall⟩ := x
  have e1 := hall.length
  have il : s.heap.IsList l vs.toArray := ⟨_, N _ hm, rfl, _, rfl⟩
  have il' : s.heap.IsList l' #[] := ⟨_, y, rfl, _, rfl⟩
  cases fs with
  | nil =>
    obtain rfl : vs = [] := List.length_eq_zero_iff.mp e1
    exact eq_listAt (e := fun _ => true) il il' rfl hu (fun j h1 h2 => absurd h1 (Nat.not_lt_zero j)) h
  | cons f fs =>
    refine eq_list_lengthsAt il il' ?_ hu h
    simp only [List.length_cons] at e1
    simp [e1]
theorem row_eqB {prog : Program} {w : World} {A : Around} {E : Value → Shared → Prop} {s : Shared} {kn : Led} {k : Nat} {l l' : Addr} {fs gs : List Fld} {b : Bool} {Q : Value → Shared → Prop} (hb : eqS k fs gs = b) (N : ∀ p ∈ kn, s.heap.get? p.1 = some p.2) (x : RowR kn k l (normS k fs)) (y : RowR kn k l' (normS k gs)) (wf : ∀ f ∈ fs, WfF k f) (wg : ∀ f ∈ gs, WfF k f) (hu : A.units + 100 < cLine) (hk : k ≤ 10)
    (h : Q (.bool b) s) : wpAny (model prog w) A (compareOp .Eq (.ref l) (.ref l')) Q E s :=
  row_eqS N x y wf wg hu hk (by rw [hb]; exact h)
theorem c_seqB {w : World} {kn : Led} {u u2 : Addr} {fs gs : List Fld} {b : Bool} (hb : eqS 2 fs gs = b) (h1 : SetR kn 2 u fs) (h2 : SetR kn 2 u2 gs) (l1 : fs.length ≤ 60) (l2 : gs.length ≤ 60) (w1 : ∀ f ∈ fs, WfF 2 f) (w2 : ∀ f ∈ gs, WfF 2 f) :
    Con w (.ref 164) [.ref u, .ref u2] 360 3600 kn (fun _ r => r = .bool b) := by
  subst hb
  exact c_seq 2 kn u u2 fs gs h1 h2 l1 l2 w1 w2
theorem SetR.inst {kn : Led} {k : Nat} {u : Addr} {fs : List Fld} (x : SetR kn k u fs) : ∃ du h kk l n, (u, instObj 174 du) ∈ kn ∧ (du, dictOf [⟨h, .str "_values" kk, .ref l⟩] n) ∈ kn :=
  let ⟨l, _, ⟨du, h, kk, n, _, a, b, _⟩, _⟩ := x; ⟨du, h, kk, l, n, a, b⟩
theorem row_nilB {prog : Program} {w : World} {A : Around} {E : Value → Shared → Prop} {s : Shared} {kn : Led} {k : Nat} {l l' : Addr} {fs : List Fld} {n : Nat} {b : Bool} {Q : Value → Shared → Prop} (hb : fs.isEmpty = b) (N : ∀ p ∈ kn, s.heap.get? p.1 = some p.2) (x : RowR kn k l fs) (y : s.heap.get? l' = some (W.listOf #[] n)) (hu : A.units < cLine)
    (h : Q (.bool b) s) : wpAny (model prog w) A (compareOp .Eq (.ref l) (.ref l')) Q E s :=
  row_nil N x y hu (by rw [hb]; exact h)
theorem allLt_up {a b : Nat} : ∀ {l : List (Addr × Obj)}, AllLt a l → a < b → AllLt b l
  | [], _, _ => trivial
  | (_, _) :: _, ⟨h, t⟩, q => ⟨Nat.lt_trans h q, allLt_up t q⟩
theorem NewL.up {a b : Nat} {K : Led} (x : NewL a K) (h : a < b) : NewL b K := ⟨Nat.lt_trans x.1 h, Nat.lt_trans x.2.1 h, Nat.lt_trans x.2.2.1 h, allLt_up x.2.2.2 h⟩
theorem set_ext0 {k0 kn kn2 : Led} {k : Nat} {x d l : Addr} {fs : List Fld} {vs : List Value} (F : FunL kn) (t : SetTopD kn x d l []) (gr : ∀ p ∈ k0, p ∈ kn) (nl : NewL l k0) (al : All2 (FieldR k0 k) vs fs) (still : ∀ p ∈ kn, p.1 ∉ [l] → p ∈ kn2)
    (new : ∃ n, (l, W.listOf ([] ++ vs).toArray n) ∈ kn2) : SetR kn2 k x fs ∧ ∀ p ∈ k0, p ∈ kn2 := by
  have keep : ∀ p ∈ k0, p ∈ kn2 := fun p hp => still p (gr p hp) fun e => AllLt.ne nl.2.2.2 p hp (List.mem_singleton.mp e)
  obtain ⟨h1, k1, n1, m1, a1, a2, a3⟩ := t
  have K1 := keepsL_of (D := []) F a3 still (fun h => by simp at h)
  obtain ⟨n, hn⟩ := new
  exact ⟨⟨l, vs, ⟨d, h1, k1, n1, n, K1 _ a1 (.inl nl_inst), K1 _ a2 (.inl nl_dict), hn⟩, al.imp fun _ _ y => y.mono keep⟩, keep⟩
end
-- LT
section
theorem fld_rows {kn : Led} {k : Nat} {l : Addr} {zs : List Value} {fs : List Fld} {n : Nat} (hm : (l, W.listOf zs.toArray n) ∈ kn) (h : All2 (FldAt kn k) zs fs) : FldsR kn k l fs := by
  obtain ⟨ps, xs, h1, h2, h3, h4⟩ := fld_pairs h
  exact ⟨zs, ps, xs, n, hm, h1, h2, h3, h4⟩
theorem ints_at {vs : List Value} {ns : List Int} (h : IntsAre vs ns) : ∀ {i : Nat} {v : Value}, vs[i]? = some v → ∃ n t, v = .int n t := by
  induction h with
  | nil => intro i v h; simp at h
  | cons n t _ ih =>
    intro i v h
    cases i with
    | zero => simp at h; exact ⟨n, t, h.symm⟩
    | succ i => exact ih (by simpa using h)
theorem tok0 : TabOk #[] #[] #[] [] := ⟨.inl rfl, .inl rfl, .inl rfl, fun _ h => by simp at h⟩
theorem kwLT0 : True := by
  (k_with "call ref" => (k_here; (with_reducible rename StopT => sthold); k_dflt (show wpAny _ _ (call (Value.ref 341) [Value.int _ _, Value.int _ _]) _ _ _); refine HoldW.out ?_))
  (k_with "call ref" => (k_here; (with_reducible rename StopT => sthold); k_dflt (show wpAny _ _ (call (Value.ref 353) [Value.ref _]) _ _ _); refine HoldW.out ?_))
  (k_with "call ref" => (k_here; (with_reducible rename StopT => sthold); k_dflt (show wpAny _ _ (call (Value.ref 157) [Value.ref _, _]) _ _ _); refine HoldW.out ?_))
  (k_with "call ref" => (k_here; (with_reducible rename StopT => sthold); k_dflt (show wpAny _ _ (call (Value.ref 396) [Value.ref _]) _ _ _); refine HoldW.out ?_))
  trivial
inductive StopV : Prop
  | is
theorem kwLT1 : True := by
  (k_with "call builtin:len" => (k_here; (with_reducible rename StopV => sthold); refine HoldW.out ?_))
  (k_with "call builtin:abs" => (k_here; (with_reducible rename StopV => sthold); refine HoldW.out ?_))
  (k_with "binaryOp Mod int int" => (k_here; (with_reducible rename StopV => sthold); refine HoldW.out ?_))
  (k_with "subscriptTail Name Slice ref ref" => (k_here; (with_reducible rename StopV => sthold); refine HoldW.out ?_))
  (k_with "binaryOp Add ref ref" => (k_here; (with_reducible rename StopV => sthold); refine HoldW.out ?_))
  (k_with "eval IfExp" => (k_here; (with_reducible rename StopV => sthold); refine HoldW.out ?_))
  (k_with "compareOp Eq ref ref" => (k_here; (with_reducible rename StopT => sthold); refine HoldW.out ?_))
  (k_with "compareOp Eq ref" => (k_here; (with_reducible rename StopT => sthold); (with_reducible show wpAny _ _ (compareOp CmpOp.Eq (Value.ref _) Value.none) _ _ _); refine HoldW.out ?_))
  (k_with "M! k_in" => with_reducible assumption)
  trivial
noncomputable def LeftP (s : Shared) (v : Value) (s' : Shared) : Prop := ∃ n t tk, v = .int n t ∧ 0 ≤ n ∧ s' = { s with toks := tk }
theorem kwLT2 : True := by
  (k_with "exec For Tuple List cons nil" => (k_here; k_dflt (refine' For_hold ?_ ?hszLT13; (case hszLT13 => (intro _; exact rfl)))))
  trivial
theorem own_all {g h : Heap} {L : Addr} {t1 t2 t3 : Array Value} {own K : Led} (N : News g L h (own ++ (tabs t1 t2 t3 ++ K))) (TK : TabOk t1 t2 t3 K) (hn : ∀ p ∈ own, NewL p.1 K) : News g L h (tabs t1 t2 t3 ++ (own ++ K)) ∧ TabOk t1 t2 t3 (own ++ K) ∧ Gr K (own ++ K) := by
  refine ⟨fun p hp => N p ?_, TK.mono (fun p hp => List.mem_append_right _ hp) fun p hp => ?_, fun p hp => List.mem_append_right _ hp, fun p hp => ?_⟩
  · simp only [List.mem_append] at hp ⊢
    grind
  · rcases List.mem_append.mp hp with hp | hp
    · have h := hn p hp
      exact .inr ⟨Nat.ne_of_gt h.1, Nat.ne_of_gt h.2.1, Nat.ne_of_gt h.2.2.1⟩
    · exact .inl hp
  · rcases List.mem_append.mp hp with hp | hp
    · have h := hn p hp
      exact .inr ⟨Nat.ne_of_gt h.1, Nat.ne_of_gt h.2.1, Nat.ne_of_gt h.2.2.1, fun q hq => (AllLt.ne h.2.2.2 q hq).symm⟩
    · exact .inl hp
noncomputable def ItemOk (K : Led) (v : Value) : Prop := ∃ T rows due gs, v = .ref T ∧ (T, tupO #[.ref rows, .ref due]) ∈ K ∧ FldsR K 2 rows gs ∧ RowR K 2 due gs ∧ gs.length ≤ 8
theorem ItemOk.mono : ∀ {K K' : Led} {v : Value} (x : ItemOk K v) (h : ∀ p ∈ K, p ∈ K'), ItemOk K' v := by
  have hon : HKon := trivial
  intro K K' v x h
  obtain ⟨T, a, b, gs, e, m, f, r, l⟩ := x
  first | exact exI5 ⟨h _ m, f.mono h, r.mono h, l⟩ | exact exI4 ⟨e, h _ m, f.mono h, r.mono h, l⟩ | exact exI3 ⟨gs, e, h _ m, f.mono h, r.mono h, l⟩ | exact ⟨T, a, b, gs, e, h _ m, f.mono h, r.mono h, l⟩
theorem ItemOk.mk {K : Led} {T rows due : Addr} {gs : List Fld} (m : (T, tupO #[.ref rows, .ref due]) ∈ K) (f : FldsR K 2 rows gs) (r : RowR K 2 due gs) (l : gs.length ≤ 8) : ItemOk K (.ref T) := ⟨T, rows, due, gs, rfl, m, f, r, l⟩
theorem len_turn {fs : List Fld} (r : Nat) (h : fs.length ≤ 4) : (fs.drop r ++ fs.take r).length ≤ 8 := by rw [List.length_append, List.length_drop, List.length_take]; omega
theorem len_take {fs : List Fld} (r : Nat) (h : fs.length ≤ 4) : (fs.take r).length ≤ 8 := by rw [List.length_take]; omega
theorem len_rev {fs : List Fld} (h : fs.length ≤ 4) : fs.reverse.length ≤ 8 := by rw [List.length_reverse]; omega
theorem len_48 {fs : List Fld} (h : fs.length ≤ 4) : fs.length ≤ 8 := by omega
theorem own_ex {g h : Heap} {L : Addr} {t1 t2 t3 : Array Value} {own K : Led} (N : News g L h (own ++ (tabs t1 t2 t3 ++ K))) (TK : TabOk t1 t2 t3 K) (hn : ∀ p ∈ own, NewL p.1 K) : ∃ K', News g L h (tabs t1 t2 t3 ++ K') ∧ TabOk t1 t2 t3 K' ∧ Gr K K' ∧ ∀ p ∈ own, p ∈ K' :=
  let ⟨a, b, c⟩ := own_all N TK hn; ⟨_, a, b, c, fun _ h => List.mem_append_left _ h⟩
theorem emp_set {g h : Heap} {L l x d : Addr} {hh : Int} {kk : Tok} {n : Nat} {t1 t2 t3 : Array Value} {K rest : Led} (N : News g L h ((l, W.listOf #[] 0) :: (x, instObj 174 d) :: (d, dictOf [⟨hh, .str "_values" kk, .ref l⟩] n) :: (rest ++ (tabs t1 t2 t3 ++ K)))) (TK : TabOk t1 t2 t3 K) (hr : ∀ p ∈ rest, NewL p.1 K) (nd : NewL d K) (h2 : d < x) (h3 : x < l) :
    ∃ K', News g L h ((266, tabObj t1) :: (280, tabObj t2) :: (159, tabObj t3) :: K') ∧ TabOk t1 t2 t3 K' ∧ Gr K K' ∧ SetTopD K' x d l [] ∧ NewL l K := by
  obtain ⟨K', a, b, c, m⟩ := own_ex (own := (l, W.listOf #[] 0) :: (x, instObj 174 d) :: (d, dictOf [⟨hh, .str "_values" kk, .ref l⟩] n) :: rest) N TK (List.forall_mem_cons.mpr ⟨(nd.up h2).up h3, List.forall_mem_cons.mpr ⟨nd.up h2, List.forall_mem_cons.mpr ⟨nd, hr⟩⟩⟩)
  exact ⟨K', a, b, c, ⟨hh, kk, n, 0, m _ (.tail _ (.head _)), m _ (.tail _ (.tail _ (.head _))), m _ (.head _)⟩, (nd.up h2).up h3⟩
theorem set_empty {K : Led} {k : Nat} {x d l : Addr} (s : SetTopD K x d l []) : SetR K k x [] := ⟨l, [], s.top, .nil⟩
theorem add_rows {prog : Program} {w : World} {A : Around} {E : Value → Shared → Prop} {s : Shared} {g : Heap} {L l l' : Addr} {m : Str → Option Value} {t1 t2 t3 : Array Value} {K : Led} {k : Nat} {fs gs : List Fld} {Q : Value → Shared → Prop}
    (F : Fr g L s.heap m) (N : News g L s.heap ((266, tabObj t1) :: (280, tabObj t2) :: (159, tabObj t3) :: K)) (TK : TabOk t1 t2 t3 K) (x : RowR K k l fs) (y : RowR K k l' gs) (hf : fs.length ≤ 4) (hg : gs.length ≤ 4)
    (h : ∀ D h' K', Fr g L h' m → News g L h' ((266, tabObj t1) :: (280, tabObj t2) :: (159, tabObj t3) :: K') → TabOk t1 t2 t3 K' → Gr K K' → RowR K' k D (fs ++ gs) → Q (.ref D) { s with heap := h' }) : wpAny (model prog w) A (binaryOp .Add (.ref l) (.ref l')) Q E s := by
  obtain ⟨va, na, ma, sa⟩ := x
  obtain ⟨vb, nb, mb, sb⟩ := y
  have e1 := sa.length
  have e2 := sb.length
  have at_ : ∀ p ∈ K, s.heap.get? p.1 = some p.2 := fun p hp => (N p (.tail _ (.tail _ (.tail _ hp)))).1
  refine add_lists F N ⟨_, at_ _ ma, rfl, _, rfl⟩ ⟨_, at_ _ mb, rfl, _, rfl⟩ (fun h' F' N' => ?_) (by rw [sizeLine_eq]; omega)
  have nl : NewL s.heap.objs.size K := ⟨Heap.lt_size (N (266, tabObj t1) (by simp)).1, Heap.lt_size (N (280, tabObj t2) (by simp)).1, Heap.lt_size (N (159, tabObj t3) (by simp)).1, allLt_of fun p hp => Heap.lt_size (at_ p hp)⟩
  exact h _ _ ((s.heap.objs.size, W.listOf (va ++ vb).toArray 0) :: K) F' (News.pick N' (by
    intro p hp
    simp only [List.mem_cons] at hp ⊢
    rcases hp with h | h | h | h | h
    · exact .inr (.inl h)
    · exact .inr (.inr (.inl h))
    · exact .inr (.inr (.inr (.inl h)))
    · exact .inl h
    · exact .inr (.inr (.inr (.inr h))))) (TK.consN nl) (Gr.cons nl) ⟨_, 0, .head _, (sa.append sb).imp fun _ _ z => z.mono fun p hp => .tail _ hp⟩
structure EndP (cw : ClaimW) (cl : Str → Option Addr) (mean : ExcName → Option Value) (args : List WData) (s₁ : Shared) (tabs : List (Addr × Addr)) (r : Result) (s' : Shared) : Prop where
  good : GoodW cw cl mean args { s₁ with heap := ghostOf s₁.heap tabs } r { s' with gens := #[] }
  bare : AllBare s'.gens
  grown : GrownAll tabs s'.heap
theorem EndP.back {cw : ClaimW} {cl : Str → Option Addr} {mean : ExcName → Option Value} {args : List WData} {s₁ s' : Shared} {tabs : List (Addr × Addr)} {r : Result} (hT : TabsAt tabs s₁.heap) (hr : ∀ a x, cw.raises a x = false) (x : EndP cw cl mean args s₁ tabs r s') : GoodWG cw cl mean args s₁ r s' := by
  obtain ⟨⟨hc, hk, hos, _⟩, hb, hg⟩ := x
  have isT : ∀ b o, b ∈ tabs.map (·.2) → s₁.heap.get? b = some o → (isCodeTable s₁.heap b ∧ o = tabObj #[]) ∧ ∃ ps, s'.heap.get? b = some (tabObj ps) := by
    intro b o hm e
    obtain ⟨q, hq, rfl⟩ := List.mem_map.mp hm
    obtain ⟨c1, c2⟩ := hT q hq
    have e3 : o = tabObj #[] := Option.some.inj (e.symm.trans c2)
    exact ⟨⟨(c1.tab c2).isCodeTable, e3⟩, hg.get q hq⟩
  have old : ∀ b o, b ∉ tabs.map (·.2) → s₁.heap.get? b = some o → s'.heap.get? b = some o := fun b o hm e => hk b o (ghost_ne e hm)
  refine ⟨?_, ⟨?_, ?_⟩, hos, hb⟩
  · rcases hc with ⟨v, d, as, e1, e2, e3, e4, e5⟩ | ⟨_, _, x, _, _, _, e4, _⟩
    · refine .inl ⟨v, d, as, e1, e2, e3, e4, fun hu => ⟨(e5 hu).1, fun a ha => ?_⟩⟩
      have e6 := (e5 hu).2 a ha
      cases e7 : s₁.heap.get? a with
      | none => rfl
      | some o =>
        exfalso
        by_cases hm : a ∈ tabs.map (·.2)
        · obtain ⟨_, _, e8⟩ := isT a o hm e7
          exact readsW_apart e8 rfl e3 ha
        · have e8 : (ghostOf s₁.heap tabs).get? a = some o := ghost_ne e7 hm
          rw [show (ghostOf s₁.heap tabs).get? a = none from e6] at e8
          cases e8
    · rw [hr] at e4; cases e4
  · intro b o e
    by_cases hm : b ∈ tabs.map (·.2)
    · obtain ⟨⟨e1, e2⟩, ps, e3⟩ := isT b o hm e
      subst e2
      refine .inr (.inl ⟨e1, rfl, #[], ps, rfl, ?_⟩)
      rw [Array.empty_append]
      exact e3
    · exact .inl (old b o hm e)
  · intro b o e
    by_cases hm : b ∈ tabs.map (·.2)
    · exact let ⟨_, e3⟩ := (isT b o hm e).2; ⟨_, e3⟩
    · exact ⟨o, old b o hm e⟩
theorem end_post {M : Model} {A : Around} {cd : Code} {s s₁ : Shared} {cw : ClaimW} {cl : Str → Option Addr} {mean : ExcName → Option Value} {args : List WData} {tabs : List (Addr × Addr)} (hT : TabsAt tabs s₁.heap) (hr : ∀ a x, cw.raises a x = false)
    (h : codeAny M A cd (EndP cw cl mean args s₁ tabs) s) : codeAny M A cd (GoodWG cw cl mean args s₁) s := codeAny_mono h fun _ _ x => x.back hT hr
theorem kwLT3 : True := by
  (k_with "M! kn_posts" => refine end_post (by assumption) (fun _ _ => rfl) ?_)
  trivial
noncomputable def locL (a b c d e f : Value) (m0 : Str → Option Value) : Str → Option Value := fun y => if y = "first" then some a else if y = "second" then some b else if y = "one" then some c else if y = "two" then some d else if y = "found" then some e else if y = "other" then some f else m0 y
theorem Fr.locL {g h : Heap} {L : Addr} {m : Str → Option Value} {a b c d e f : Value} (F : Fr g L h m) (h1 : m "first" = some a) (h2 : m "second" = some b) (h3 : m "one" = some c) (h4 : m "two" = some d) (h5 : m "found" = some e) (h6 : m "other" = some f) : Fr g L h (locL a b c d e f m) := by
  have q : m = Mine.locL a b c d e f m := by
    funext y
    unfold Mine.locL
    split
    · rename_i h; rw [h, h1]
    split
    · rename_i h; rw [h, h2]
    split
    · rename_i h; rw [h, h3]
    split
    · rename_i h; rw [h, h4]
    split
    · rename_i h; rw [h, h5]
    split
    · rename_i h; rw [h, h6]
    rfl
  exact (congrArg (Fr g L h) q).mp F
noncomputable def ForI (g : Heap) (L : Addr) (K14 : Led) (l : Addr) (a b c d e f : Value) (s₀ : Shared) (i : Nat) (It : Addr) (s₁ : Shared) : Prop :=
  ∃ h' tk gs t1 t2 t3 K m0 oI, s₁ = { s₀ with heap := h', toks := tk, gens := gs } ∧ Fr g L h' (locL a b c d e f m0) ∧ News g L h' ((It, oI) :: (266, tabObj t1) :: (280, tabObj t2) :: (159, tabObj t3) :: K) ∧ LIt oI l i ∧ TabOk t1 t2 t3 K ∧ Gr K14 K ∧ (∀ p ∈ K, p.1 ≠ It) ∧ @LT.lt Nat instLTNat 280 It ∧ (AllBare s₀.gens → AllBare gs)
instance : Nonempty PyData := ⟨.none⟩
instance : Nonempty PySem.W.WData := ⟨.none⟩
theorem whole.tw4934077235998201596 : True := trivial
theorem whole.tw6711224856247384401 : True := trivial
theorem whole.tw3909395182359919685 : True := trivial
theorem whole.tw11423436602419212718 : True := trivial
theorem whole.tw10301362462094837657 : True := trivial
theorem whole.tw5938623499991607928 : True := trivial
theorem whole.tw7689902935678670512 : True := trivial
theorem whole.tw9685896690342822935 : True := trivial
theorem whole.tw13829708278779851847 : True := trivial
theorem whole.tw843396670912023852 : True := trivial
theorem whole.tw1692622564874605650 : True := trivial
theorem whole.tw8602141644225615130 : True := trivial
theorem whole.tw15539963934695697727 : True := trivial
theorem whole.tw7280849871689594849 : True := trivial
theorem whole.tw4479364801722962140 : True := trivial
theorem whole.tw17980908128825299112 : True := trivial
theorem whole.tw2665807779830099079 : True := trivial
theorem whole.tw8493574271416215733 : True := trivial
theorem whole.tw14381574177426341226 : True := trivial
theorem whole.tw10838650209671834137 : True := trivial
theorem whole.tw5297632933804744799 : True := trivial
theorem whole.tw14877643965249282964 : True := trivial
theorem whole.tw1640677438868554593 : True := trivial
theorem whole.tw3125283655325999989 : True := trivial
theorem whole.tw17664581287587344134 : True := trivial
theorem whole.tw14390007995909808975 : True := trivial
theorem whole.tw9707250908836423824 : True := trivial
theorem whole.tw431044224361937856 : True := trivial
theorem whole.tw7466904020207815869 : True := trivial
theorem whole.tw12698311456782994138 : True := trivial
theorem whole.tw3280129329062278201 : True := trivial
theorem whole.tw7977878525754885090 : True := trivial
theorem whole.tw7564407027854533171 : True := trivial
theorem whole.tw9170513070990267023 : True := trivial
theorem whole.tw1114806542021703131 : True := trivial
theorem whole.tw3099485228618234346 : True := trivial
theorem whole.tw675793542917168019 : True := trivial
theorem whole.tw5462770333876777704 : True := trivial
theorem whole.tw3166543957339863982 : True := trivial
theorem whole.tw16304597587823193687 : True := trivial
theorem whole.tw16026843855606243410 : True := trivial
theorem whole.tw3162365515331879682 : True := trivial
theorem whole.tw16151222146762293071 : True := trivial
theorem whole.tw6891315699540082446 : True := trivial
theorem whole.tw6095937858554715304 : True := trivial
theorem whole.tw5094477242258801851 : True := trivial
theorem whole.tw9787344453429475573 : True := trivial
theorem whole.tw468616527566963386 : True := trivial
theorem whole.tw6290923202673413122 : True := trivial
theorem whole.tw17529894129228449367 : True := trivial
theorem whole.tw10654317064775040509 : True := trivial
theorem whole.tw3270133029678145397 : True := trivial
theorem whole.tw1897105925431849711 : True := trivial
theorem whole.tw46433443316919834 : True := trivial
theorem whole.tw17169624498616045403 : True := trivial
theorem whole.tw4918820536221260690 : True := trivial
theorem whole.tw10000958634945066235 : True := trivial
theorem whole.tw14890280090424698046 : True := trivial
theorem whole.tw9654072969724333583 : True := trivial
theorem whole.tw6612613915786651340 : True := trivial
theorem whole.tw15001587830400145190 : True := trivial
theorem whole.tw6472696656209681604 : True := trivial
theorem whole.tw2013318861076662011 : True := trivial
theorem whole.tw11476502588441444683 : True := trivial
theorem whole.tw6872907005359335961 : True := trivial
theorem whole.tw9951143050096045611 : True := trivial
theorem whole.tw8983667203327932493 : True := trivial
theorem whole.tw6823266097380344784 : True := trivial
theorem whole.tw203428145850139289 : True := trivial
theorem whole.tw7187317218736086229 : True := trivial
theorem whole.tw6774775609766916077 : True := trivial
theorem whole.tw9046693723037758376 : True := trivial
theorem whole.tw4909349585908861296 : True := trivial
theorem whole.tw1329479340354266572 : True := trivial
theorem whole.tw9121730484126507938 : True := trivial
theorem whole.tw4689585835679557668 : True := trivial
theorem whole.tw9189751539129569556 : True := trivial
theorem whole.tw5171116725156735389 : True := trivial
theorem whole.tw7073311072910153293 : True := trivial
theorem whole.tw1469139166737108290 : True := trivial
theorem whole.tw2081632904089052959 : True := trivial
theorem whole.tw12742087137024979937 : True := trivial
theorem whole.tw18162983195158539490 : True := trivial
theorem whole.tw13000713063990318526 : True := trivial
theorem whole.tw14628220171574447489 : True := trivial
theorem whole.tw9725988738643398560 : True := trivial
theorem whole.tw8572516506043022915 : True := trivial
theorem whole.tw16602463555851602346 : True := trivial
theorem whole.tw13478315594510353802 : True := trivial
theorem whole.tw6734874506966982255 : True := trivial
theorem whole.tw16588625043399567139 : True := trivial
theorem whole.tw5081031077709457048 : True := trivial
theorem whole.tw1765076044715932963 : True := trivial
theorem whole.tw11690859581915506653 : True := trivial
theorem whole.tw7600777123763113705 : True := trivial
theorem whole.tw3802398583823018356 : True := trivial
theorem whole.tw3935972832432928633 : True := trivial
theorem whole.tw17843127513448600897 : True := trivial
theorem whole.tw17991299263585117788 : True := trivial
theorem whole.tw1219099391390118749 : True := trivial
theorem whole.tw788599112383681209 : True := trivial
theorem whole.tw5433660331597885046 : True := trivial
theorem whole.tw17179786008130999086 : True := trivial
theorem whole.tw10887019763833697050 : True := trivial
theorem whole.tw4107823604484434990 : True := trivial
theorem whole.tw7452821578398259720 : True := trivial
theorem whole.tw9722750020625992282 : True := trivial
theorem whole.tw4447922135398794285 : True := trivial
theorem whole.tw13962616709173656972 : True := trivial
theorem whole.tw2536362301702204066 : True := trivial
theorem whole.tw7248877203947682478 : True := trivial
theorem whole.tw12442016628978143412 : True := trivial
theorem whole.tw14756447051001558117 : True := trivial
theorem whole.tw5542149417468696053 : True := trivial
theorem whole.tw6933715213461094250 : True := trivial
theorem whole.tw113900542113845248 : True := trivial
theorem whole.tw6097748072631727781 : True := trivial
theorem whole.tw13142167418276237254 : True := trivial
theorem whole.tw9625973628771424018 : True := trivial
theorem whole.tw17221409760620009834 : True := trivial
theorem whole.tw4672207989499910625 : True := trivial
theorem whole.tw14413254473602961201 : True := trivial
theorem whole.tw4180466227808675834 : True := trivial
theorem whole.tw16442795661328238356 : True := trivial
theorem whole.tw2777902329107566167 : True := trivial
theorem whole.tw12077107353733055826 : True := trivial
theorem whole.tw15206955865107345967 : True := trivial
theorem whole.tw11841974853317911985 : True := trivial
theorem whole.tw937209997651275582 : True := trivial
theorem whole.tw8101450032967502455 : True := trivial
theorem whole.tw6714927969197098277 : True := trivial
theorem whole.tw5833760311655045577 : True := trivial
theorem whole.tw10354518954362131899 : True := trivial
theorem whole.tw14776171463994254414 : True := trivial
theorem whole.tw6065093676875020208 : True := trivial
theorem whole.tw8699793337390238261 : True := trivial
theorem whole.tw14031613983174702221 : True := trivial
theorem whole.tw10805158454514937742 : True := trivial
theorem whole.tw2649048575011448004 : True := trivial
theorem whole.tw12920395458479335663 : True := trivial
theorem whole.tw9081442686682602634 : True := trivial
theorem whole.tw17475311184863085016 : True := trivial
theorem whole.tw10344827342348678470 : True := trivial
theorem whole.tw10339747121181971505 : True := trivial
theorem whole.tw5532809562029925614 : True := trivial
theorem whole.tw43722865635132848 : True := trivial
theorem whole.tw254780913952180833 : True := trivial
theorem whole.tw11409993775148365219 : True := trivial
theorem whole.tw4338333698743118245 : True := trivial
theorem whole.tw10488504414272976643 : True := trivial
theorem whole.tw14192229110069238088 : True := trivial
theorem whole.tw10007520593648235073 : True := trivial
theorem whole.tw4357746044423742650 : True := trivial
theorem whole.tw13730376311393935369 : True := trivial
theorem whole.tw15105012252411618398 : True := trivial
theorem whole.tw14138553856905868755 : True := trivial
theorem whole.tw15652777202477211125 : True := trivial
theorem whole.tw13675596732203519343 : True := trivial
theorem whole.tw2083198920140632441 : True := trivial
theorem whole.tw9521756469634577901 : True := trivial
theorem whole.tw9212966250080664162 : True := trivial
theorem whole.tw2168223474955763204 : True := trivial
theorem whole.tw2021854409746315462 : True := trivial
theorem whole.tw13749801708979339770 : True := trivial
theorem whole.tw6416634858453334624 : True := trivial
theorem whole.tw5001923725869043736 : True := trivial
theorem whole.tw16845944245580146995 : True := trivial
theorem whole.tw17659150536888882668 : True := trivial
theorem whole.tw285988719286631819 : True := trivial
theorem whole.tw14407849266092530191 : True := trivial
theorem whole.tw9024608533772062355 : True := trivial
theorem whole.tw13285438998962464343 : True := trivial
theorem whole.tw7525632177321363660 : True := trivial
theorem whole.tw397210227534267232 : True := trivial
theorem whole.tw2349701861695252166 : True := trivial
theorem whole.tw5477020428343274486 : True := trivial
theorem whole.tw15462414832971340256 : True := trivial
theorem whole.tw1306508703518735070 : True := trivial
theorem whole.tw12384220206497402333 : True := trivial
theorem whole.tw17092094596097150618 : True := trivial
theorem whole.tw7645621925510333512 : True := trivial
theorem whole.tw9235561108164731721 : True := trivial
theorem whole.tw15274856360797078626 : True := trivial
theorem whole.tw13974613887430780637 : True := trivial
theorem whole.tw16668768811381343612 : True := trivial
theorem whole.tw16267754396051451697 : True := trivial
theorem whole.tw6150244297128479101 : True := trivial
theorem whole.tw6396017553259284124 : True := trivial
theorem whole.tw13989200534822022692 : True := trivial
theorem whole.tw9416693575131194153 : True := trivial
theorem whole.tw17224144730536298444 : True := trivial
theorem whole.tw5438831827131416888 : True := trivial
theorem whole.tw11966515284280811977 : True := trivial
theorem whole.tw1902754551582867561 : True := trivial
theorem whole.tw12219512705738599021 : True := trivial
theorem whole.tw5189780602208921310 : True := trivial
theorem whole.tw437534634077163847 : True := trivial
theorem whole.tw7276013540153241084 : True := trivial
theorem whole.tw13463558215457259582 : True := trivial
theorem whole.tw9464417701048127947 : True := trivial
theorem whole.tw7499365098147365621 : True := trivial
theorem whole.tw10590843552420965350 : True := trivial
theorem whole.tw7856580471358416282 : True := trivial
theorem whole.tw10472183733418339316 : True := trivial
theorem whole.tw620233503781600244 : True := trivial
theorem whole.tw11952309323241053379 : True := trivial
theorem whole.tw10461253832287612282 : True := trivial
theorem whole.tw15015764479258077956 : True := trivial
theorem whole.tw7910221479046277610 : True := trivial
theorem whole.tw12066178620653064874 : True := trivial
theorem whole.tw9200330197067421115 : True := trivial
theorem whole.tw13468923340822585488 : True := trivial
theorem whole.tw12117460353608821864 : True := trivial
theorem whole.tw13329942582686594379 : True := trivial
theorem whole.tw4603890583814415204 : True := trivial
theorem whole.tw842793390314483620 : True := trivial
theorem whole.tw8184708281838074206 : True := trivial
theorem whole.tw12012580348766612465 : True := trivial
theorem whole.tw12967805889597932581 : True := trivial
theorem whole.tw6266228650988000492 : True := trivial
theorem whole.tw11836910150536664915 : True := trivial
theorem whole.tw11791088910183784695 : True := trivial
theorem whole.tw2912573282932879776 : True := trivial
theorem whole.tw2290268214366725154 : True := trivial
theorem whole.tw18442864903681385927 : True := trivial
theorem whole.tw10499325594661192776 : True := trivial
theorem whole.tw16316554137538487329 : True := trivial
theorem whole.tw12179455670472476543 : True := trivial
theorem whole.tw14302830165969023719 : True := trivial
theorem whole.tw5649241889958590350 : True := trivial
theorem whole.tw5879479702872096659 : True := trivial
theorem whole.tw17819583843959417973 : True := trivial
theorem whole.tw7545654013535254480 : True := trivial
theorem whole.tw10616696396452150886 : True := trivial
theorem whole.tw3306209509626126654 : True := trivial
theorem whole.tw15695161780090201225 : True := trivial
theorem whole.tw17881794589497109145 : True := trivial
theorem whole.tw13760198194640045919 : True := trivial
theorem whole.tw3479739002732855021 : True := trivial
theorem whole.tw7868544009499267292 : True := trivial
theorem whole.tw12499812526503966003 : True := trivial
theorem whole.tw15189915617685484396 : True := trivial
theorem whole.tw9733464779038806419 : True := trivial
theorem whole.tw536816803628104207 : True := trivial
theorem whole.tw17781206938751360472 : True := trivial
theorem whole.tw5405151241437436114 : True := trivial
theorem whole.tw7588574119468234827 : True := trivial
theorem whole.tw8444963059077079450 : True := trivial
theorem whole.tw14572474884633517431 : True := trivial
theorem whole.tw9838295914634562783 : True := trivial
theorem whole.tw17454085226186693669 : True := trivial
theorem whole.tw13334927893685096626 : True := trivial
theorem whole.tw9406530864695525851 : True := trivial
theorem whole.tw14875044017630859624 : True := trivial
theorem whole.tw11678933692714762019 : True := trivial
theorem whole.tw15564212434770411261 : True := trivial
theorem whole.tw1488662743745869538 : True := trivial
theorem whole.tw10335108021726791369 : True := trivial
theorem whole.tw10002100669626812175 : True := trivial
theorem whole.tw3085902745639715626 : True := trivial
theorem whole.tw9851385603074314742 : True := trivial
theorem whole.tw9988426361468213469 : True := trivial
theorem whole.tw6496092161831514541 : True := trivial
theorem whole.tw3947618128840659280 : True := trivial
theorem whole.tw369943808078234791 : True := trivial
theorem whole.tw8341004590406740810 : True := trivial
theorem whole.tw16741440440132755172 : True := trivial
theorem whole.tw14398828562116658018 : True := trivial
theorem whole.tw2959683903145980101 : True := trivial
theorem whole.tw17333791097184162534 : True := trivial
theorem whole.tw1934810232205804993 : True := trivial
theorem whole.tw4725433933799282014 : True := trivial
theorem whole.tw12852820008105578649 : True := trivial
theorem whole.tw9501391760213346845 : True := trivial
theorem whole.tw13110515450571257733 : True := trivial
theorem whole.tw13061340530893119238 : True := trivial
theorem whole.tw7545590854473540767 : True := trivial
theorem whole.tw11792362355297244138 : True := trivial
theorem whole.tw11187447588885237514 : True := trivial
theorem whole.tw6648197116569056673 : True := trivial
theorem whole.tw13991031861668002904 : True := trivial
theorem whole.tw1469495571348798126 : True := trivial
theorem whole.tw13835169320686990480 : True := trivial
theorem whole.tw14492196311604417308 : True := trivial
theorem whole.tw6049599900894316688 : True := trivial
theorem whole.tw12092817750456807627 : True := trivial
theorem whole.tw10832908153356258463 : True := trivial
theorem whole.tw14621228733418778453 : True := trivial
theorem whole.tw6511981131934872814 : True := trivial
theorem whole.tw1182916100746360932 : True := trivial
theorem whole.tw8799044985600393684 : True := trivial
theorem whole.tw3860174431591174066 : True := trivial
theorem whole.tw16745824039161050089 : True := trivial
theorem whole.tw12850242359631670003 : True := trivial
theorem whole.tw7185185305316088854 : True := trivial
theorem whole.tw17195952149560314771 : True := trivial
theorem whole.tw17992364426957274132 : True := trivial
theorem whole.tw15835130817642446534 : True := trivial
theorem whole.tw15716183405302250479 : True := trivial
theorem whole.tw1587768003098754325 : True := trivial
theorem whole.tw6772379921613518395 : True := trivial
theorem whole.tw590541238101311183 : True := trivial
theorem whole.tw17700112632457955127 : True := trivial
theorem whole.tw10602399703277881627 : True := trivial
theorem whole.tw8615399842404961663 : True := trivial
theorem whole.tw4772658413541480157 : True := trivial
theorem whole.tw6866068747796929802 : True := trivial
theorem whole.tw16576061068926947915 : True := trivial
theorem whole.tw4487652198498899664 : True := trivial
theorem whole.tw17463027529269885953 : True := trivial
theorem whole.tw5201323674647411954 : True := trivial
theorem whole.tw14592908492388784131 : True := trivial
theorem whole.tw161333873384909080 : True := trivial
theorem whole.tw17789319016849944305 : True := trivial
theorem whole.tw1633898876240874773 : True := trivial
theorem whole.tw16731332320388202666 : True := trivial
theorem whole.tw12562849145585476731 : True := trivial
theorem whole.tw12761472262123182041 : True := trivial
theorem whole.tw12808456870637180559 : True := trivial
theorem whole.tw16529046165737248422 : True := trivial
theorem whole.tw2989192609971925910 : True := trivial
theorem whole.tw14395644662136614805 : True := trivial
theorem whole.tw3390907139478361160 : True := trivial
theorem whole.tw17948893368442150300 : True := trivial
theorem whole.tw14857529406646634625 : True := trivial
theorem whole.tw16564990636065421569 : True := trivial
theorem whole.tw14661705875561194100 : True := trivial
theorem whole.tw3127163415804763599 : True := trivial
theorem whole.tw16986268789631483586 : True := trivial
theorem whole.tw6888942637506950926 : True := trivial
theorem whole.tw13155097880312403346 : True := trivial
theorem whole.tw8289003193492261950 : True := trivial
theorem whole.tw8181180424491326830 : True := trivial
theorem whole.tw7056001396292377188 : True := trivial
theorem whole.tw3150075250938504248 : True := trivial
theorem whole.tw17841917278309519415 : True := trivial
theorem whole.tw10467399731503315703 : True := trivial
theorem whole.tw17075553230084287909 : True := trivial
theorem whole.tw12819711660926091780 : True := trivial
theorem whole.tw12381228794656768651 : True := trivial
theorem whole.tw12098860561503762481 : True := trivial
theorem whole.tw6453619897266653623 : True := trivial
theorem whole.tw5233578499609466721 : True := trivial
theorem whole.tw18174217711786252908 : True := trivial
theorem whole.tw6377287985247879410 : True := trivial
theorem whole.tw1393339623888494026 : True := trivial
theorem whole.tw8894826161267586577 : True := trivial
theorem whole.tw13213058742666125385 : True := trivial
theorem whole.tw9446046918361872579 : True := trivial
theorem whole.tw12976933641374925533 : True := trivial
theorem whole.tw4163455835068889971 : True := trivial
theorem whole.tw7101197657001211085 : True := trivial
theorem whole.tw7078629122812257199 : True := trivial
theorem whole.tw11357175057958205107 : True := trivial
theorem whole.tw3798757254938238448 : True := trivial
theorem whole.tw715978364194892080 : True := trivial
theorem whole.tw137721658169608169 : True := trivial
theorem whole.tw8258574867067344367 : True := trivial
theorem whole.tw10379991877525085312 : True := trivial
theorem whole.tw3687826684616867901 : True := trivial
theorem whole.tw10332575325313852403 : True := trivial
theorem whole.tw9347626172496877827 : True := trivial
theorem whole.tw17037309529492816295 : True := trivial
theorem whole.tw11401351377558187561 : True := trivial
theorem whole.tw6205245999957686276 : True := trivial
theorem whole.tw7509650053966640704 : True := trivial
theorem whole.tw16467933323881711526 : True := trivial
theorem whole.tw1021466310418864216 : True := trivial
theorem whole.tw1363506702145506021 : True := trivial
theorem whole.tw2608646628457097981 : True := trivial
theorem whole.tw11018331769982298155 : True := trivial
theorem whole.tw17128258169734466478 : True := trivial
theorem whole.tw8398797258006769423 : True := trivial
theorem whole.tw16595449952281916149 : True := trivial
theorem whole.tw9315315907157715723 : True := trivial
theorem whole.tw6084657873442493111 : True := trivial
theorem whole.tw13156973312945586846 : True := trivial
theorem whole.tw3395460030480962145 : True := trivial
theorem whole.tw10727248033764811480 : True := trivial
set_option Elab.async true in
set_option maxRecDepth 100000 in
set_option maxHeartbeats 16000000 in
theorem whole : PySem.Challenge.rw_au0020_01.Holds := by
  (o_law; o_head (kmHook hd.heap_1_39 [2, 3, 22, 24, 25, 27, 28, 29, 31, 32, 34, 35, 36, 38, 39, 41, 42, 43, 44, 45, 46, 47, 57, 59, 60, 62, 63, 64, 66, 67, 69, 70, 71, 73, 74, 76, 77, 78, 79, 81, 82, 84, 85, 86, 87, 89, 90, 92, 93, 94, 95, 96, 97, 98, 99, 109, 111, 112, 114, 115, 116, 118, 119, 121, 122, 123, 125, 126, 128, 129, 130, 132, 133, 135, 136, 137, 139, 140, 142, 143, 144, 146, 147, 149, 150, 151, 153, 154, 156, 157, 158, 160, 161, 163, 164, 165, 167, 168, 170, 171, 172, 173, 174, 175, 176, 179, 186, 187, 188, 189, 192, 199, 200, 201, 204, 211, 212, 213, 216, 223, 224, 225, 226, 229, 231, 232, 234, 235, 236, 238, 239, 241, 242, 243, 245, 246, 248, 249, 250, 252, 253, 255, 256, 257, 258, 260, 261, 263, 264, 265, 267, 268, 270, 271, 272, 274, 275, 277, 278, 279, 281, 282, 284, 285, 286, 288, 289, 291, 292, 293, 295, 296, 298, 299, 300, 302, 303, 305, 306, 307, 309, 310, 312, 313, 314, 315, 317, 318, 320, 321, 322, 323, 325, 326, 328, 329, 330, 332, 333, 335, 336, 337, 340, 341, 342, 344, 345, 347, 348, 349, 352, 353, 354, 357, 358, 359, 361, 362, 364, 365, 366, 369, 370, 371, 373, 374, 376, 377, 378, 380, 381, 383, 384, 385, 387, 388, 390, 391, 392, 395, 396, 397, 400, 401] (fun _ => by kernel_rfl) [266, 280, 159]); (case hw => w_witness2))
  have hon : HKon := trivial
  k_go0
  all_goals (try k_fold)
  rename Fr _ _ _ _ => F
  rename News _ _ _ _ => N
  rename Frag.In _ _ => X
  rename Top _ _ _ _ _ _ => T
  rename Below _ _ _ _ => B
  rename Well _ _ _ _ => w1
  rename Reads _ _ _ _ => r0
  rename ReadsAll _ _ _ _ => ra
  rename ReadsAllW _ _ _ _ _ _ => raw
  rename Dflts _ _ _ _ _ _ => hDf
  rename IntsAre _ _ => hI
  rename _ ∧ _ => l0
  rename World => w
  rename List Value => vals
  rename List Int => ns
  rename Shared => s1
  clear w1 r0 ra raw hDf
  rename Heap => hx
  revert hx
  intro hx F N
  have hb0 : HoldW (AllBare s1.gens) := ⟨.of_eq (by assumption)⟩
  obtain ⟨g, hg⟩ : ∃ g, ghostOf s1.heap [(270, 266), (284, 280), (163, 159)] = g := ⟨_, rfl⟩
  simp only [hg] at F N X T B lifted
  have C1 : CodeHd g 270 266 := by rw [← hg]; assumption
  have C2 : CodeHd g 284 280 := by rw [← hg]; assumption
  have C3 : CodeHd g 163 159 := by rw [← hg]; assumption
  have D0 : DK (frs []) g := ⟨fun b hb => by simp at hb⟩
  have stop := StopT.is
  obtain ⟨L, hL⟩ : ∃ L, s1.heap.objs.size = L := ⟨_, rfl⟩
  simp only [hL] at *
  k_steps
  refine HoldW.mk ?_
  rename IntsAre _ (List.take _ _) => hI1
  rename Fr _ _ _ _ => F1
  rename News _ _ _ _ => N1
  rename_i D1 ws1 h1 hC1 hLn1 l1
  have len1 : ws1.length ≤ 4 := by rw [hI1.length, hC1]; exact Nat.le_trans (Nat.min_le_left _ _) (Nat.sub_le_sub_right (Nat.min_le_left 5 _) 1)
  have nl1 : NewL D1 [] := ⟨l1.1, l1.2.1, l1.2.2, trivial⟩
  have TK1 := tok0.consN (p := (D1, W.listOf ws1.toArray 0)) nl1
  have N1' : News g L h1 (tabs #[] #[] #[] ++ [(D1, W.listOf ws1.toArray 0)]) := News.pick N1 (by simp only [List.mem_append, List.mem_cons, List.not_mem_nil, or_false]; grind)
  clear N1 hC1 hLn1
  refine' comp_L (RR := fun acc C => compPost (model prg _) _ _ _ _ acc C) (fun i v m₂ => m₂ "cell" = some v) (fun i zs led' => ∃ fs, All2 (FldAt led' 2) zs fs ∧ fs.length = i) rfl F1 N1' TK1 (.head _) (by omega) ?hcell rfl ⟨[], .nil, rfl⟩ ?hasg ?turn ?hRR
  case hcell => decide
  case hasg =>
    rintro I C D i v u1 u2 u3 led' zs s1 m1 Q E' hv S hJ hn hCD hQ
    exact asg_name rfl rfl hn fun h' tk hn' hk => hQ h' tk _ hn' (by simp) hk
  case turn =>
    rintro I C D i v u1 u2 u3 led' zs s1 m1 E' hv S ⟨fs, hfs, hfl⟩ hz hn hm1
    refine wpAny_tests_nil ?_
    simp only [if_true]
    have S' := S
    obtain ⟨F5, N5, tk5, off5⟩ := S
    first | ((with_reducible rename HKon => hkm); (with_reducible refine' (_ : ShE s1 _) _ _ _ _ _ rfl); intros hh gg dd tt oo hq; subst hq) | obtain ⟨hh, gg, dd, tt, oo⟩ := s1
    dsimp only at hn F5 N5
    obtain ⟨n, t, rfl⟩ := ints_at hI1 hv
    clear F1 N1'
    k_steps
    refine HoldW.mk ?_
    refine turn_con (c_field 2 (by omega) led' _ _ _ (by omega)) S' B X T C1 C2 C3 rfl rfl rfl rfl ?hd ?hu ?hJ
    case hd => k_room
    case hu => k_units
    case hJ =>
      intro tl r gr5 hr
      obtain ⟨t, bs, tb, v, f, e1, e2, e3, e4⟩ := hr
      exact ⟨fs ++ [f], (hfs.imp fun _ _ x => x.mono gr5.1).snoc ⟨t, bs, tb, v, e1, e2, e3, e4⟩, by simp [hfl]⟩
  case hRR =>
    rintro I C Df h2 tk2 gs2 m2 zs1 k2 u1 u2 u3 K2 S hg2 ⟨fs1, hfs1, hfl1⟩ hz1 hn hd' a0 b0 c0 d0 e0 f0
    refine' post_assignV ?hloc ?hy ?hp S hn hd' a0 b0 c0 d0 e0 f0 ?_
    case hloc => exact rfl
    case hy => exact rfl
    case hp => exact rfl
    intro h3 tk3 F3 N3 TK3 off3
    replace N3 : News g L h3 ((266, tabObj u1) :: (280, tabObj u2) :: (159, tabObj u3) :: (Df, W.listOf zs1.toArray k2) :: K2) := N3
    have fld1 : FldL ((Df, W.listOf zs1.toArray k2) :: K2) 2 Df zs1 k2 fs1 := ⟨.head _, hfs1.imp fun _ _ x => x.mono fun p hp => .tail _ hp⟩
    clear S hn hd' F1 N1' TK1
    k_steps
    refine HoldW.mk ?_
    rename IntsAre _ (List.take _ _) => hI4
    rename Fr _ _ _ _ => F4
    rename News _ _ _ _ => N4
    rename_i D4 ws4 h4 hC4 hLn4 l4
    have len4 : ws4.length ≤ 4 := by rw [hI4.length, hC4]; exact Nat.le_trans (Nat.min_le_left _ _) (Nat.sub_le_sub_right (Nat.min_le_left 9 _) 5)
    have TK4 := TK3.consN (p := (D4, W.listOf ws4.toArray 0)) ⟨by omega, by omega, by omega, by omega, l4.2.2.2.2⟩
    have N4' : News g L h4 (tabs u1 u2 u3 ++ ((D4, W.listOf ws4.toArray 0) :: (Df, W.listOf zs1.toArray k2) :: K2)) := News.pick N4 (by
      refine List.forall_mem_cons.mpr ⟨?_, List.forall_mem_cons.mpr ⟨?_, List.forall_mem_cons.mpr ⟨?_, List.forall_mem_cons.mpr ⟨?_, List.forall_mem_cons.mpr ⟨?_, fun p hp => ?_⟩⟩⟩⟩⟩
      all_goals k_mem)
    clear N4 hC4 hLn4
    have fldA : FldL ((D4, W.listOf ws4.toArray 0) :: (Df, W.listOf zs1.toArray k2) :: K2) 2 Df zs1 k2 fs1 := fld1.mono fun p hp => .tail _ hp
    refine' comp_L (RR := fun acc C => compPost (model prg _) _ _ _ _ acc C) (fun i v m₂ => m₂ "cell" = some v) (fun i zs led' => FldL led' 2 Df zs1 k2 fs1 ∧ ∃ fs, All2 (FldAt led' 2) zs fs ∧ fs.length = i) rfl F4 N4' TK4 (.head _) (by omega) ?hcell rfl ⟨fldA, [], .nil, rfl⟩ ?hasg ?turn ?hRR
    case hcell => decide
    case hasg =>
      rintro I C D i v u1 u2 u3 led' zs s1 m1 Q E' hv S hJ hn hCD hQ
      exact asg_name rfl rfl hn fun h' tk hn' hk => hQ h' tk _ hn' (by simp) hk
    case turn =>
      rintro I C D i v u1 u2 u3 led' zs s1 m1 E' hv S ⟨hfd, fs, hfs, hfl⟩ hz hn hm1
      refine wpAny_tests_nil ?_
      simp only [if_true]
      have S' := S
      obtain ⟨F5, N5, tk5, off5⟩ := S
      first | ((with_reducible rename HKon => hkm); (with_reducible refine' (_ : ShE s1 _) _ _ _ _ _ rfl); intros hh gg dd tt oo hq; subst hq) | obtain ⟨hh, gg, dd, tt, oo⟩ := s1
      dsimp only at hn F5 N5
      obtain ⟨n, t, rfl⟩ := ints_at hI4 hv
      clear F4 N4'
      k_steps
      refine HoldW.mk ?_
      refine turn_con (c_field 2 (by omega) led' _ _ _ (by omega)) S' B X T C1 C2 C3 rfl rfl rfl rfl ?hd ?hu ?hJ
      case hd => k_room
      case hu => k_units
      case hJ =>
        intro tl r gr5 hr
        obtain ⟨t, bs, tb, v, f, e1, e2, e3, e4⟩ := hr
        exact ⟨hfd.mono gr5.1, fs ++ [f], (hfs.imp fun _ _ x => x.mono gr5.1).snoc ⟨t, bs, tb, v, e1, e2, e3, e4⟩, by simp [hfl]⟩
    case hRR =>
      rintro I C Ds h5 tk5 gs5 m5 zs2 k5 v1 v2 v3 K5 S hg5 ⟨hfd5, fs2, hfs2, hfl2⟩ hz2 hn hd' a0' b0' c0' d0' e0' f0'
      refine' post_assignV ?hloc ?hy ?hp S hn hd' a0' b0' c0' d0' e0' f0' ?_
      case hloc => exact rfl
      case hy => exact rfl
      case hp => exact rfl
      intro h6 tk6 F6 N6 TK6 off6
      replace N6 : News g L h6 ((266, tabObj v1) :: (280, tabObj v2) :: (159, tabObj v3) :: (Ds, W.listOf zs2.toArray k5) :: K5) := N6
      have fld6 : FldL ((Ds, W.listOf zs2.toArray k5) :: K5) 2 Df zs1 k2 fs1 := hfd5.mono fun p hp => .tail _ hp
      have fld6' : FldsR ((Ds, W.listOf zs2.toArray k5) :: K5) 2 Ds fs2 := fld_rows (.head _) (hfs2.imp fun _ _ x => x.mono fun p hp => .tail _ hp)
      have lf1 : fs1.length ≤ 4 := by omega
      have lf2 : fs2.length ≤ 4 := by omega
      clear S hn hd' F4 N4' TK4 fld1 hfs1 hfs2 hfd5 fldA hI1 hI4 off3 a0 b0 c0 d0 e0 f0 a0' b0' c0' d0' e0' f0' TK3 nl1 l4 hfl1 hfl2 hz1 hz2
      obtain ⟨K6, hK6⟩ : ∃ K6, (Ds, W.listOf zs2.toArray k5) :: K5 = K6 := ⟨_, rfl⟩
      rw [hK6] at N6 TK6 fld6 fld6'
      have fL := fld6
      have fA := fL.flds
      replace fld6 := fA
      have fB := fld6'
      obtain ⟨xa, pa, ya, na, ma, hpa, qa, ea, sa⟩ := fld6
      obtain ⟨xb, pb, yb, nb, mb', hpb, qb, eb, sb⟩ := fld6'
      have la : xa.length ≤ 4 := by have := hpa.length; have := sa.length; simp at this; omega
      have lb : xb.length ≤ 4 := by have := hpb.length; have := sb.length; simp at this; omega
      k_steps
      refine HoldW.mk ?_
      k_extra "M pairs2"
      case hRR =>
        intro I C Do h7 tk7 gs7 m7 k7 w1 w2 w3 S hg7 hn hd' a b c d e f
        refine post_none S hn hd' a b c d e f ?_
        intro h8 F8 N8 TK8 off8
        replace N8 : News g L h8 ((266, tabObj w1) :: (280, tabObj w2) :: (159, tabObj w3) :: (Do, W.listOf (pa.map Prod.snd).toArray k7) :: K6) := N8
        have hpb8 : PairsR ((Do, W.listOf (pa.map Prod.snd).toArray k7) :: K6) xb pb := hpb.mono fun p hp => .tail _ hp
        clear S hn hd' F6 N6
        k_steps
        refine HoldW.mk ?_
        k_extra "M pairs2"
        case hRR =>
          intro I C Dt h9 tk9 gs9 m9 k9 w1 w2 w3 S hg9 hn hd' a b c d e f
          refine post_none S hn hd' a b c d e f ?_
          intro h10 F10 N10 TK10 off10
          replace N10 : News g L h10 ((266, tabObj w1) :: (280, tabObj w2) :: (159, tabObj w3) :: (Dt, W.listOf (pb.map Prod.snd).toArray k9) :: (Do, W.listOf (pa.map Prod.snd).toArray k7) :: K6) := N10
          have rowA : RowR ((Dt, W.listOf (pb.map Prod.snd).toArray k9) :: (Do, W.listOf (pa.map Prod.snd).toArray k7) :: K6) 2 Do fs1 := ⟨_, k7, .tail _ (.head _), sa.imp fun _ _ x => x.mono fun p hp => .tail _ (.tail _ hp)⟩
          have rowB : RowR ((Dt, W.listOf (pb.map Prod.snd).toArray k9) :: (Do, W.listOf (pa.map Prod.snd).toArray k7) :: K6) 2 Dt fs2 := ⟨_, k9, .head _, sb.imp fun _ _ x => x.mono fun p hp => .tail _ (.tail _ hp)⟩
          have fL2 := fL.mono fun p hp => List.mem_cons_of_mem (Dt, W.listOf (pb.map Prod.snd).toArray k9) (List.mem_cons_of_mem (Do, W.listOf (pa.map Prod.snd).toArray k7) hp)
          have fA2 := fA.mono fun p hp => List.mem_cons_of_mem (Dt, W.listOf (pb.map Prod.snd).toArray k9) (List.mem_cons_of_mem (Do, W.listOf (pa.map Prod.snd).toArray k7) hp)
          have fB2 := fB.mono fun p hp => List.mem_cons_of_mem (Dt, W.listOf (pb.map Prod.snd).toArray k9) (List.mem_cons_of_mem (Do, W.listOf (pa.map Prod.snd).toArray k7) hp)
          clear S hn hd' F8 N8 TK8 hpb8 sa sb ma mb' hpa hpb fA fB fL off8 off10
          obtain ⟨K7, hK7⟩ : ∃ K7, (Dt, W.listOf (pb.map Prod.snd).toArray k9) :: (Do, W.listOf (pa.map Prod.snd).toArray k7) :: K6 = K7 := ⟨_, rfl⟩
          rw [hK7] at N10 TK10 rowA rowB fA2 fB2 fL2
          clear hK7 hK6
          k_steps
          refine HoldW.mk ?_
          rename Fr _ _ _ _ => F11
          rename News _ _ _ _ => N11
          have N11' : News g L _ (tabs w1 w2 w3 ++ K7) := News.pick N11 (by
            refine List.forall_mem_cons.mpr ⟨?_, List.forall_mem_cons.mpr ⟨?_, List.forall_mem_cons.mpr ⟨?_, fun p hp => ?_⟩⟩⟩
            all_goals first | k_mem | exact .tail _ (.tail _ (.tail _ (.tail _ hp))))
          clear N11
          refine' use_con3 (c_lsetF (by omega) fA2 (by omega)) ?B ?F ?X ?Nq ?T ?C1 ?C2 ?C3 ?TK ?hO ?hA ?hf ?hke ?hh ?hd ?hu ?_
          (case hA => exact rfl); (case hf => exact rfl); (case hke => exact rfl); (case hh => exact rfl); (case F => k_asm); (case Nq => exact N11'); (case B => k_asm); (case X => k_asm); (case T => k_asm); (case C1 => k_asm); (case C2 => k_asm); (case C3 => k_asm); (case TK => exact TK10); (case hO => exact Own.nil); (case hd => (rw [show nK 2 = 460 from rfl]; k_room)); (case hu => (rw [show uK 2 = 4600 from rfl]; k_units))
          intro r' h' tk' gs' x1 x2 x3 K8 F12 N12 gr12 ne12 TK12 hg12 p'
          obtain ⟨aF, rfl, hSF⟩ := p'
          replace N12 : News g L h' ((266, tabObj x1) :: (280, tabObj x2) :: (159, tabObj x3) :: K8) := N12
          clear F11 N11' TK10
          k_steps
          refine HoldW.mk ?_
          refine' use_con3 (c_lsetF (by omega) (fB2.mono gr12.1) (by omega)) ?B ?F ?X ?Nq ?T ?C1 ?C2 ?C3 ?TK ?hO ?hA ?hf ?hke ?hh ?hd ?hu ?_
          (case hA => exact rfl); (case hf => exact rfl); (case hke => exact rfl); (case hh => exact rfl); (case F => k_asm); (case Nq => k_asm); (case B => k_asm); (case X => k_asm); (case T => k_asm); (case C1 => k_asm); (case C2 => k_asm); (case C3 => k_asm); (case TK => exact TK12); (case hO => exact Own.nil); (case hd => (rw [show nK 2 = 460 from rfl]; k_room)); (case hu => (rw [show uK 2 = 4600 from rfl]; k_units))
          intro r' h13 tk13 gs13 y1 y2 y3 K9 F13 N13 gr13 ne13 TK13 hg13 p'
          obtain ⟨aO, rfl, hSO⟩ := p'
          replace N13 : News g L h13 ((266, tabObj y1) :: (280, tabObj y2) :: (159, tabObj y3) :: K9) := N13
          clear F12 N12 TK12
          have setF : SetR K9 2 aF fs1 := hSF.plain.mono gr13.1
          have setO : SetR K9 2 aO fs2 := hSO.plain
          have rowA9 := (rowA.mono gr12.1).mono gr13.1
          have rowB9 := (rowB.mono gr12.1).mono gr13.1
          k_steps
          refine HoldW.mk ?_
          rename Fr _ _ _ _ => F14
          rename News _ _ _ _ => N14
          have N14' : News g L _ (tabs y1 y2 y3 ++ K9) := News.pick N14 (by
            refine List.forall_mem_cons.mpr ⟨?_, List.forall_mem_cons.mpr ⟨?_, List.forall_mem_cons.mpr ⟨?_, fun p hp => ?_⟩⟩⟩
            all_goals first | k_mem | exact .tail _ (.tail _ (.tail _ (.tail _ hp))))
          clear N14
          refine' use_conS (c_ag 2 _ aF Do fs1 setF rowA9 (by omega)) ?B ?F ?Nq ?XB ?TB ?C1 ?C2 ?C3 ?D ?TK ?hO ?hA ?hf ?hke ?hh ?hd ?hu ?_
          (case hA => exact rfl); (case hf => exact rfl); (case hke => exact rfl); (case hh => exact rfl); (case F => k_asm); (case Nq => exact N14'); (case B => k_asm); (case XB => exact X); (case TB => exact T); (case C1 => exact C1); (case C2 => exact C2); (case C3 => exact C3); (case D => exact D0); (case TK => exact TK13); (case hO => exact Own.nil); (case hd => k_room); (case hu => k_units)
          intro r15 h15 tk15 gs15 x1 x2 x3 K10 g1 KT1 F15 N15 B1 X1 T1 C11 C21 C31 D1' gr15 ne15 TK15 hg15 p15
          subst p15
          replace N15 : News g1 L h15 ((266, tabObj x1) :: (280, tabObj x2) :: (159, tabObj x3) :: K10) := N15
          have XB := X
          have TB := T
          have CB1 := C1
          have CB2 := C2
          have CB3 := C3
          have BB := B
          clear F14 N14' TK13 X T C1 C2 C3 B
          k_steps
          refine HoldW.mk ?_
          refine' use_conS (c_ag 2 _ aO Dt fs2 (setO.mono gr15.1) (rowB9.mono gr15.1) (by omega)) ?B ?F ?Nq ?XB ?TB ?C1 ?C2 ?C3 ?D ?TK ?hO ?hA ?hf ?hke ?hh ?hd ?hu ?_
          (case hA => exact rfl); (case hf => exact rfl); (case hke => exact rfl); (case hh => exact rfl); (case F => exact F15); (case Nq => exact N15); (case B => exact B1); (case XB => exact XB); (case TB => exact TB); (case C1 => exact CB1); (case C2 => exact CB2); (case C3 => exact CB3); (case D => exact D1'); (case TK => exact TK15); (case hO => exact Own.nil); (case hd => k_room); (case hu => k_units)
          intro r16 h16 tk16 gs16 w1 w2 w3 K11 g2 KT2 F16 N16 B2 X T C1 C2 C3 D2' gr16 ne16 TK16 hg16 p16
          subst p16
          replace N16 : News g2 L h16 ((266, tabObj w1) :: (280, tabObj w2) :: (159, tabObj w3) :: K11) := N16
          clear F15 N15 TK15 X1 T1 C11 C21 C31 B1
          have lift2 := Heap.IsList.at lifted fun o e => B2.stays _ _ e
          have stopV := StopV.is
          k_steps
          refine HoldW.mk ?_
          refine wpAny_mono (Q := LeftP { heap := h16, gens := gs16, drawn := s1.drawn, toks := 0, os := s1.os }) ?ev ?rest fun _ _ e => e
          case ev =>
            repeat (rename StopV => sv; clear sv)
            by_cases hz : ns.length = 0
            · k_steps
              exact ⟨_, _, _, rfl, by omega, rfl⟩
            · k_steps
              exact ⟨_, _, _, rfl, by omega, rfl⟩
          case rest =>
            intro v s' hv
            obtain ⟨left, tl, tk17, rfl, hleft, rfl⟩ := hv
            obtain ⟨r, hr⟩ : ∃ r : Nat, left.fmod 4 = (r : Int) := ⟨(left.fmod 4).toNat, by have := Int.fmod_nonneg_of_pos left (b := 4) (by omega); omega⟩
            have hr4 : r < 4 := by have := Int.fmod_lt_of_pos left (b := 4) (by omega); omega
            dsimp only
            have qm : left.fmod 4 = (r : Int) ∧ (4 : Int) ≠ 0 := ⟨hr, by decide⟩
            have fL11 : FldL K11 2 Df zs1 k2 fs1 := (((fL2.mono gr12.1).mono gr13.1).mono gr15.1).mono gr16.1
            have mF11 := fL11.1
            have hz1 : zs1.length = fs1.length := fL11.2.length
            k_steps
            refine HoldW.mk (mod_e qm ?_)
            k_steps
            refine HoldW.mk ?_
            refine' kmk_slice_lit (lo := some (r : Int)) (hi := none) (zs := zs1.drop r) ?F ?Nq ?l (.int _ _) .none (pick_drop zs1 r (by omega)) ?_ ?s ?t ?z
            case s => with_unfolding_all rfl
            case t => intro _; with_unfolding_all rfl
            case F => k_asm
            case Nq => k_asm
            case l => exact listL (by k_asm) (by k_mem)
            case z => rw [sizeLine_eq]; simp; omega
            intro Da h' F18 N18 l18
            k_lt l18
            k_steps
            refine HoldW.mk (mod_e qm ?_)
            k_steps
            refine HoldW.mk ?_
            refine' kmk_slice_lit (lo := none) (hi := some (r : Int)) (zs := zs1.take r) ?F ?Nq ?l .none (.int _ _) (pick_take zs1 r (by omega)) ?_ ?s ?t ?z
            case s => with_unfolding_all rfl
            case t => intro _; with_unfolding_all rfl
            case F => k_asm
            case Nq => k_asm
            case l => exact listL (by k_asm) (by k_mem)
            case z => rw [sizeLine_eq]; simp; omega
            intro Db h19 F19 N19 l19
            k_lt l19
            k_steps
            refine HoldW.mk ?_
            refine' add_lists (vs := zs1.drop r) (ws := zs1.take r) (hsz := ?zA) ?FA ?NA ?lA ?lB ?_
            case FA => k_asm
            case NA => k_asm
            case lA => exact listL (by k_asm) (by k_mem)
            case lB => exact listL (by k_asm) (by k_mem)
            case zA => rw [sizeLine_eq, List.length_drop, List.length_take]; omega
            intro h20 F20 N20
            have q1 := Heap.lt_size (N19 (266, tabObj w1) (by simp)).1
            have q2 := Heap.lt_size (N19 (280, tabObj w2) (by simp)).1
            have q3 := Heap.lt_size (N19 (159, tabObj w3) (by simp)).1
            have q4 : AllLt h19.objs.size K11 := allLt_of fun p hp => Heap.lt_size (N19 p (.tail _ (.tail _ (.tail _ (.tail _ (.tail _ hp)))))).1
            dsimp only at q1 q2 q3 N20 F20
            obtain ⟨Dr, hDr⟩ : ∃ Dr, h19.objs.size = Dr := ⟨_, rfl⟩
            simp only [hDr] at q1 q2 q3 q4 N20 ⊢
            have hln1 : zs1.length ≤ 4 := by omega
            have TK20 : TabOk w1 w2 w3 ((Dr, W.listOf (zs1.drop r ++ zs1.take r).toArray 0) :: K11) := TK16.consN ⟨q1, q2, q3, q4⟩
            have gr20 : Gr K11 ((Dr, W.listOf (zs1.drop r ++ zs1.take r).toArray 0) :: K11) := Gr.cons ⟨q1, q2, q3, q4⟩
            have tL20 : FldL ((Dr, W.listOf (zs1.drop r ++ zs1.take r).toArray 0) :: K11) 2 Dr (zs1.drop r ++ zs1.take r) 0 (fs1.drop r ++ fs1.take r) := ⟨.head _, ((fL11.2.drop r).append (fL11.2.take r)).imp fun _ _ y => y.mono gr20.1⟩
            have N21 : News g2 L h20 ((266, tabObj w1) :: (280, tabObj w2) :: (159, tabObj w3) :: (Dr, W.listOf (zs1.drop r ++ zs1.take r).toArray 0) :: K11) := News.pick N20 (by
              refine List.forall_mem_cons.mpr ⟨?_, List.forall_mem_cons.mpr ⟨?_, List.forall_mem_cons.mpr ⟨?_, List.forall_mem_cons.mpr ⟨?_, fun p hp => ?_⟩⟩⟩⟩
              all_goals first | k_mem | exact .tail _ (.tail _ (.tail _ (.tail _ (.tail _ (.tail _ hp))))) | exact .head _)
            obtain ⟨K12, hK12⟩ : ∃ K12, (Dr, W.listOf (zs1.drop r ++ zs1.take r).toArray 0) :: K11 = K12 := ⟨_, rfl⟩
            rw [hK12] at TK20 gr20 tL20 N21
            clear N20 N19 F19 q1 q2 q3 q4 TK16
            obtain ⟨xt, pt, yt, nt, mt, hpt, qt, et, st⟩ := tL20.flds
            have lt8 : xt.length ≤ 8 := by
              have h1 := hpt.length
              have h2 := st.length
              simp at h2
              omega
            k_steps
            refine HoldW.mk ?_
            k_extra "M pairs2"
            case hRR =>
              intro I C Du h22 tk22 gs22 m22 k22 x1 x2 x3 S hg22 hn hd' a b c d e f
              refine' post_assignV ?hloc ?hy ?hp S hn hd' a b c d e f ?_
              case hloc => exact rfl
              case hy => exact rfl
              case hp => exact rfl
              intro h23 tk23 F23 N23 TK23 off23
              replace N23 : News g2 L h23 ((266, tabObj x1) :: (280, tabObj x2) :: (159, tabObj x3) :: (Du, W.listOf (pt.map Prod.snd).toArray k22) :: K12) := N23
              have rowU : RowR ((Du, W.listOf (pt.map Prod.snd).toArray k22) :: K12) 2 Du (fs1.drop r ++ fs1.take r) := ⟨_, k22, .head _, st.imp fun _ _ x => x.mono fun p hp => .tail _ hp⟩
              have gr23 := gr20.trans (Gr.consD TK23 off23)
              have tL23 := tL20.mono fun p hp => List.mem_cons_of_mem (Du, W.listOf (pt.map Prod.snd).toArray k22) hp
              clear S hn hd' TK20 tL20 mt hpt st off23
              have fL23 : FldL ((Du, W.listOf (pt.map Prod.snd).toArray k22) :: K12) 2 Df zs1 k2 fs1 := fL11.mono gr23.1
              have mF23 := fL23.1
              obtain ⟨va, na2, mA23, sA23⟩ := (((rowA9.mono gr15.1).mono gr16.1).mono gr23.1)
              have hva : va.length = fs1.length := sA23.length
              obtain ⟨K13, hK13⟩ : ∃ K13, (Du, W.listOf (pt.map Prod.snd).toArray k22) :: K12 = K13 := ⟨_, rfl⟩
              rw [hK13] at N23 TK23 gr23 tL23 fL23 mF23 mA23 sA23 rowU
              clear hK13 hK12
              k_steps
              refine HoldW.mk ?_
              refine' kmk_slice_lit (lo := none) (hi := some (-1)) (zs := zs1.take (zs1.length - 1)) ?F ?Nq ?l .none (.int _ _) (pick_last zs1) ?_ ?s ?t ?z
              case s => with_unfolding_all rfl
              case t => intro _; with_unfolding_all rfl
              case F => k_asm
              case Nq => k_asm
              case l => exact listL (by k_asm) (by k_mem)
              case z => rw [sizeLine_eq]; simp; omega
              intro Dc1 h' F24 N24 l24
              k_lt l24
              k_steps
              refine HoldW.mk ?_
              refine' kmk_slice_lit (lo := none) (hi := some (-1)) (zs := va.take (va.length - 1)) ?F ?Nq ?l .none (.int _ _) (pick_last va) ?_ ?s ?t ?z
              case s => with_unfolding_all rfl
              case t => intro _; with_unfolding_all rfl
              case F => k_asm
              case Nq => k_asm
              case l => exact listL (by k_asm) (by k_mem)
              case z => rw [sizeLine_eq]; simp; omega
              intro Dc2 h' F25 N25 l25
              k_lt l25
              k_steps
              refine HoldW.mk ?_
              refine' krv_lit (zs := zs1.reverse) ?F ?Nq ?l (.int _ _) ?er ?_ ?s ?t ?z
              case s => with_unfolding_all rfl
              case t => intro _; with_unfolding_all rfl
              case F => k_asm
              case Nq => k_asm
              case l => exact listL (vs := zs1) (by k_asm) (by k_mem)
              case er => simp
              case z => rw [sizeLine_eq]; simp; omega
              intro Dc3 h' F26 N26 l26
              k_lt l26
              k_steps
              refine HoldW.mk ?_
              refine' krv_lit (zs := va.reverse) ?F ?Nq ?l (.int _ _) ?er ?_ ?s ?t ?z
              case s => with_unfolding_all rfl
              case t => intro _; with_unfolding_all rfl
              case F => k_asm
              case Nq => k_asm
              case l => exact listL (vs := va) (by k_asm) (by k_mem)
              case er => simp
              case z => rw [sizeLine_eq]; simp; omega
              intro Dc4 h' F27 N27 l27
              k_lt l27
              k_steps
              refine HoldW.mk ?_
              rename_i T1 a1 m1 T2 a2 m2 a3 a4 T3 a5 m3 T4 a6 m4 a7 T5 a8 m5 LL a9 F28 N28 m6
              have fB23 : FldsR K13 2 Ds fs2 := ((((fB2.mono gr12.1).mono gr13.1).mono gr15.1).mono gr16.1).mono gr23.1
              have rB23 : RowR K13 2 Dt fs2 := ((rowB9.mono gr15.1).mono gr16.1).mono gr23.1
              obtain ⟨K14, N29, TK29, gr29, mem29⟩ := own_ex (own := [_, _, _, _, _, _, _, _, _, _]) N28 TK23 (List.forall_mem_cons.mpr ⟨m6.2.2.2.2.2.2.2.2.2, (List.forall_mem_cons.mpr ⟨m5.2.2.2.2.2.2.2.2, (List.forall_mem_cons.mpr ⟨l27.2.2.2.2.2.2.2, (List.forall_mem_cons.mpr ⟨l26.2.2.2.2.2.2, (List.forall_mem_cons.mpr ⟨m4.2.2.2.2.2, (List.forall_mem_cons.mpr ⟨m3.2.2.2.2, (List.forall_mem_cons.mpr ⟨l25.2.2.2, (List.forall_mem_cons.mpr ⟨l24.2.2, (List.forall_mem_cons.mpr ⟨m2.2, (List.forall_mem_cons.mpr ⟨m1, (fun _ h => by simp at h)⟩)⟩)⟩)⟩)⟩)⟩)⟩)⟩)⟩)⟩)
              clear m1 m2 m3 m4 m5 m6 l24 l25 l26 l27
              simp only [List.forall_mem_cons] at mem29
              obtain ⟨mLL, mT5, mc4, mc3, mT4, mT3, mc2, mc1, mT2, mT1, _⟩ := mem29
              have i1 : ItemOk K14 (.ref T1) := ItemOk.mk mT1 (fB23.mono gr29.1) (rB23.mono gr29.1) (len_48 lf2)
              have i2 : ItemOk K14 (.ref T2) := ItemOk.mk mT2 (tL23.mono gr29.1).flds (rowU.mono gr29.1) (len_turn r lf1)
              have i4 : ItemOk K14 (.ref T4) := ItemOk.mk mT4 (fL23.mono gr29.1).flds ⟨va, na2, gr29.1 _ mA23, sA23.imp fun _ _ y => y.mono gr29.1⟩ (len_48 lf1)
              have f5 : FldL K14 2 Dc3 zs1.reverse 0 fs1.reverse := ⟨mc3, fL23.2.reverse.imp fun _ _ y => y.mono gr29.1⟩
              have i5 : ItemOk K14 (.ref T5) := ItemOk.mk mT5 f5.flds ⟨va.reverse, 0, mc4, sA23.reverse.imp fun _ _ y => y.mono gr29.1⟩ (len_rev lf1)
              have f3 : FldL K14 2 Dc1 (zs1.take (zs1.length - 1)) 0 (fs1.take (zs1.length - 1)) := ⟨mc1, (fL23.2.take _).imp fun _ _ y => y.mono gr29.1⟩
              rw [hva, ← hz1] at mc2
              have i3 : ItemOk K14 (.ref T3) := ItemOk.mk mT3 f3.flds ⟨va.take (zs1.length - 1), 0, mc2, (sA23.take _).imp fun _ _ y => y.mono gr29.1⟩ (len_take _ lf1)
              clear hI fB23 rB23 tL23 rowU fL23 mA23 sA23 mF23 fL11 mF11 f5 f3 mT5 mc4 mc3 mT4 mT3 mc2 mc1 mT2 mT1 N28
              refine for_LT rfl (listL (vs := [.ref T1, .ref T2, .ref T3, .ref T4, .ref T5]) N29 (List.mem_append_right _ mLL)) (ForI g2 L K14 LL (.ref Df) (.ref Ds) (.ref Do) (.ref Dt) (.ref aF) (.ref aO) { heap := a9, gens := gs22, drawn := s1.drawn, toks := 0, os := s1.os }) ?init ?hit ?turn ?done
              case init =>
                intro h' oI k' e hL'
                have hIg : g2.get? _ = none := Heap.get?_none_of_le (Nat.le_trans F28.above (Nat.le_of_lt F28.ns.lt))
                refine ⟨h', _, _, x1, x2, x3, K14, _, oI, rfl, Mine.Fr.locL (F28.keeps k') rfl rfl rfl rfl rfl rfl, fun p hp => ?_, hL', TK29, Gr.refl _, fun p hp => Nat.ne_of_lt (Heap.lt_size (N29 p (List.mem_append_right _ hp)).1), Heap.lt_size (N29 (280, tabObj x2) (by simp)).1, id⟩
                rcases List.mem_cons.mp hp with rfl | hp
                · exact ⟨e, Nat.ne_of_gt F28.ns.lt, hIg⟩
                · exact ⟨k' _ _ (N29 p hp).1, (N29 p hp).2⟩
              case hit =>
                intro i It s' hI
                obtain ⟨h', tk, gs, t1, t2, t3, K, m0, oI, rfl, F3, N3, hL3, TK3, gr3, off3, hIt, hg3⟩ := hI
                exact ⟨⟨oI, (N3 _ (.head _)).1, hL3⟩, ⟨_, (N3 _ (.tail _ (.tail _ (.tail _ (.tail _ (gr3.1 _ mLL)))))).1, rfl, _, rfl⟩⟩
              case turn =>
                rintro i It s' h2 tk2 v oI' E' hv ⟨h', tk, gs, t1', t2', t3', K, m0, oI, rfl, F3, N3, hL3, TK3, gr3, off3, hIt, hg3⟩ e2 hL2 k2
                obtain ⟨F4, N4⟩ := it_step F3 N3 e2 k2 (fun p hp => by
                  rcases List.mem_cons.mp hp with rfl | hp
                  · exact Nat.ne_of_lt (Nat.lt_trans (by decide : (266 : Nat) < 280) hIt)
                  rcases List.mem_cons.mp hp with rfl | hp
                  · exact Nat.ne_of_lt hIt
                  rcases List.mem_cons.mp hp with rfl | hp
                  · exact Nat.ne_of_lt (Nat.lt_trans (by decide : (159 : Nat) < 280) hIt)
                  · exact off3 p hp)
                have hio : ItemOk K14 v := by
                  have := List.mem_of_getElem? hv
                  simp only [List.mem_cons, List.not_mem_nil, or_false] at this
                  rcases this with rfl | rfl | rfl | rfl | rfl <;> assumption
                obtain ⟨TT, rows, due, gs', rfl, mTT, fR, rD, lg8⟩ := hio.mono gr3.1
                clear F28 F3 N3 N29
                k_steps
                refine HoldW.mk ?_
                rename Fr g2 _ _ _ => F5
                rename News g2 _ _ _ => N5
                refine' use_con3 (c_lsetF (by decide) fR lg8) ?B ?F ?X ?Nq ?T ?C1 ?C2 ?C3 ?TK ?hO ?hA ?hf ?hke ?hh ?hd ?hu ?_
                (case hA => exact rfl); (case hf => exact rfl); (case hke => exact rfl); (case hh => exact rfl); (case F => exact F5); (case Nq => exact N5); (case B => k_asm); (case X => exact X); (case T => exact T); (case C1 => exact C1); (case C2 => exact C2); (case C3 => exact C3); (case TK => exact TK3); (case hO => exact own_cons hIt Own.nil); (case hd => (rw [show nK 2 = 460 from rfl]; k_room)); (case hu => (rw [show uK 2 = 4600 from rfl]; k_units))
                intro r' h6 tk6' gs6 y1 y2 y3 K15 F6 N6 gr6 ne6 TK6' hg6 p'
                obtain ⟨aG, rfl, hSG⟩ := p'
                replace N6 : News g2 L h6 ((It, oI') :: (266, tabObj y1) :: (280, tabObj y2) :: (159, tabObj y3) :: K15) := N6
                have off6' : ∀ p ∈ K15, p.1 ≠ It := fun p hp => (ne6 p hp).elim (off3 p) fun h => h _ (.head _)
                clear F5 N5
                k_steps
                have rowA15 : RowR K15 2 Do fs1 := (((((rowA9.mono gr15.1).mono gr16.1).mono gr23.1).mono gr29.1).mono gr3.1).mono gr6.1
                have rD15 := rD.mono gr6.1
                have wfA : ∀ f ∈ fs1, WfF 2 f := fA2.wf
                have wfG : ∀ f ∈ gs', WfF 2 f := fR.wf
                have lA60 : fs1.length ≤ 60 := Nat.le_trans lf1 (by decide)
                have lG60 : gs'.length ≤ 60 := Nat.le_trans lg8 (by decide)
                refine HoldW.mk ?_
                rename Fr g2 _ _ _ => F7
                rename News g2 _ _ _ => N7
                refine' use_con3 (c_lsort 2 (by decide) K15 Do fs1 rowA15 lA60) ?B ?F ?X ?Nq ?T ?C1 ?C2 ?C3 ?TK ?hO ?hA ?hf ?hke ?hh ?hd ?hu ?_
                (case hA => exact rfl); (case hf => exact rfl); (case hke => exact rfl); (case hh => exact rfl); (case F => exact F7); (case Nq => exact N7); (case B => k_asm); (case X => exact X); (case T => exact T); (case C1 => exact C1); (case C2 => exact C2); (case C3 => exact C3); (case TK => exact TK6'); (case hO => exact own_cons hIt Own.nil); (case hd => k_room); (case hu => k_units)
                intro r8 h8 tk8 gs8 z1 z2 z3 K16 F8 N8 gr8 ne8 TK8 hg8 p8
                obtain ⟨l1', rfl, rS1⟩ := p8
                replace N8 : News g2 L h8 ((It, oI') :: (266, tabObj z1) :: (280, tabObj z2) :: (159, tabObj z3) :: K16) := N8
                have off8 : ∀ p ∈ K16, p.1 ≠ It := fun p hp => (ne8 p hp).elim (off6' p) fun h => h _ (.head _)
                clear F7 N7
                k_steps
                refine HoldW.mk ?_
                rename Fr g2 _ _ _ => F9
                rename News g2 _ _ _ => N9
                refine' use_con3 (c_lsort 2 (by decide) K16 due gs' (rD15.mono gr8.1) lG60) ?B ?F ?X ?Nq ?T ?C1 ?C2 ?C3 ?TK ?hO ?hA ?hf ?hke ?hh ?hd ?hu ?_
                (case hA => exact rfl); (case hf => exact rfl); (case hke => exact rfl); (case hh => exact rfl); (case F => exact F9); (case Nq => exact N9); (case B => k_asm); (case X => exact X); (case T => exact T); (case C1 => exact C1); (case C2 => exact C2); (case C3 => exact C3); (case TK => exact TK8); (case hO => exact own_cons hIt Own.nil); (case hd => k_room); (case hu => k_units)
                intro r10 h10 tk10 gs10 x1' x2' x3' K17 F10 N10 gr10 ne10 TK10 hg10 p10
                obtain ⟨l2', rfl, rS2⟩ := p10
                replace N10 : News g2 L h10 ((It, oI') :: (266, tabObj x1') :: (280, tabObj x2') :: (159, tabObj x3') :: K17) := N10
                have off10 : ∀ p ∈ K17, p.1 ≠ It := fun p hp => (ne10 p hp).elim (off8 p) fun h => h _ (.head _)
                clear F9 N9
                k_steps
                refine HoldW.mk ?_
                have NH : ∀ p ∈ K17, h10.get? p.1 = some p.2 := fun p hp => (N10 p (.tail _ (.tail _ (.tail _ (.tail _ hp))))).1
                obtain ⟨b, hb⟩ : ∃ b, eqS 2 fs1 gs' = b := ⟨_, rfl⟩
                refine row_eqB hb NH (rS1.mono gr10.1) rS2 wfA wfG (by k_units) (by decide) ?_
                have gr17 : Gr K9 K17 := (((((((gr15.trans gr16).trans gr23).trans gr29).trans gr3).trans gr6).trans gr8).trans gr10)
                have setF17 : SetR K17 2 aF fs1 := setF.mono gr17.1
                have setG17 : SetR K17 2 aG gs' := (hSG.plain.mono gr8.1).mono gr10.1
                have hb2 : eqS 2 gs' fs1 = b := (eqS_comm 2 gs' fs1).trans hb
                k_steps
                refine HoldW.mk ?_
                obtain ⟨duF, q1F, q2F, q3F, q4F, iF, jF⟩ := setF17.inst
                obtain ⟨duG, q1G, q2G, q3G, q4G, iG, jG⟩ := setG17.inst
                refine cmp_ofEq ?_
                refine' cmp_K ?k1 ?k2 ?k3 ?k4 ?k5 ?k6 ?k7 ?k8 ?_
                (case k1 => k_units); (case k2 => k_asm); (case k3 => exact X); (case k4 => k_inst); (case k5 => k_typeOf); (case k6 => k_is); (case k7 => k_is); (case k8 => k_is)
                rename Fr g2 _ _ _ => F11
                rename News g2 _ _ _ => N11
                refine' use_con3 (c_seqB hb setF17 setG17 lA60 lG60 wfA wfG) ?B ?F ?X ?Nq ?T ?C1 ?C2 ?C3 ?TK ?hO ?hA ?hf ?hke ?hh ?hd ?hu ?_
                (case hA => exact rfl); (case hf => exact rfl); (case hke => exact rfl); (case hh => exact rfl); (case F => exact F11); (case Nq => exact N11); (case B => k_asm); (case X => exact X); (case T => exact T); (case C1 => exact C1); (case C2 => exact C2); (case C3 => exact C3); (case TK => exact TK10); (case hO => exact own_cons hIt Own.nil); (case hd => k_room); (case hu => k_units)
                intro r12 h12 tk12 gs12 y1' y2' y3' K18 F12 N12 gr12' ne12 TK12' hg12' p12
                subst p12
                replace N12 : News g2 L h12 ((It, oI') :: (266, tabObj y1') :: (280, tabObj y2') :: (159, tabObj y3') :: K18) := N12
                have off12 : ∀ p ∈ K18, p.1 ≠ It := fun p hp => (ne12 p hp).elim (off10 p) fun h => h _ (.head _)
                clear F11 N11
                show PySem.W.CmpBack _ (Value.bool _) _
                unfold PySem.W.CmpBack
                dsimp only
                k_steps
                · exfalso
                  rename ((_ == true) != _) = true => ha
                  cases b <;> simp at ha
                refine HoldW.mk ?_
                refine cmp_ofEq ?_
                have iF' := gr12'.1 _ iF
                have jF' := gr12'.1 _ jF
                have iG' := gr12'.1 _ iG
                have jG' := gr12'.1 _ jG
                refine' cmp_K ?k1 ?k2 ?k3 ?k4 ?k5 ?k6 ?k7 ?k8 ?_
                (case k1 => k_units); (case k2 => k_asm); (case k3 => exact X); (case k4 => k_inst); (case k5 => k_typeOf); (case k6 => k_is); (case k7 => k_is); (case k8 => k_is)
                rename Fr g2 _ _ _ => F13
                rename News g2 _ _ _ => N13'
                refine' use_con3 (c_seqB hb2 (setG17.mono gr12'.1) (setF17.mono gr12'.1) lG60 lA60 wfG wfA) ?B ?F ?X ?Nq ?T ?C1 ?C2 ?C3 ?TK ?hO ?hA ?hf ?hke ?hh ?hd ?hu ?_
                (case hA => exact rfl); (case hf => exact rfl); (case hke => exact rfl); (case hh => exact rfl); (case F => exact F13); (case Nq => exact N13'); (case B => k_asm); (case X => exact X); (case T => exact T); (case C1 => exact C1); (case C2 => exact C2); (case C3 => exact C3); (case TK => exact TK12'); (case hO => exact own_cons hIt Own.nil); (case hd => k_room); (case hu => k_units)
                intro r14 h14 tk14 gs14 z1' z2' z3' K19 F14 N14 gr14 ne14 TK14 hg14 p14
                subst p14
                replace N14 : News g2 L h14 ((It, oI') :: (266, tabObj z1') :: (280, tabObj z2') :: (159, tabObj z3') :: K19) := N14
                have off14 : ∀ p ∈ K19, p.1 ≠ It := fun p hp => (ne14 p hp).elim (off12 p) fun h => h _ (.head _)
                clear F13 N13'
                show PySem.W.CmpBack _ (Value.bool _) _
                unfold PySem.W.CmpBack
                dsimp only
                k_steps
                exact ⟨h14, tk14, gs14, z1', z2', z3', K19, _, oI', rfl, Mine.Fr.locL F14 rfl rfl rfl rfl rfl rfl, N14, hL2, TK14, gr3.trans (gr6.trans (gr8.trans (gr10.trans (gr12'.trans gr14)))), off14, hIt, fun h => hg14 (hg12' (hg10 (hg8 (hg6 (hg3 h)))))⟩
              case done =>
                rintro It s' h2 tk2 ⟨h', tk, gs, t1', t2', t3', K, m0, oI, rfl, F3, N3, hL3, TK3, gr3, off3, hIt, hg3⟩ k2
                obtain ⟨F4, N4⟩ := it_end F3 N3 k2 (fun p hp => by
                  rcases List.mem_cons.mp hp with rfl | hp
                  · exact Nat.ne_of_lt (Nat.lt_trans (by decide : (266 : Nat) < 280) hIt)
                  rcases List.mem_cons.mp hp with rfl | hp
                  · exact Nat.ne_of_lt hIt
                  rcases List.mem_cons.mp hp with rfl | hp
                  · exact Nat.ne_of_lt (Nat.lt_trans (by decide : (159 : Nat) < 280) hIt)
                  · exact off3 p hp)
                have gr20 : Gr K9 K := ((((gr15.trans gr16).trans gr23).trans gr29).trans gr3)
                have gr7 : Gr K7 K := (gr12.trans gr13).trans gr20
                have wfA : ∀ f ∈ fs1, WfF 2 f := fA2.wf
                have wfB : ∀ f ∈ fs2, WfF 2 f := fB2.wf
                have hlA : HoldW (fs1.length ≤ 60) := ⟨Nat.le_trans lf1 (by decide)⟩
                have hlB : HoldW (fs2.length ≤ 60) := ⟨Nat.le_trans lf2 (by decide)⟩
                have hl4A : HoldW (fs1.length ≤ 4) := ⟨lf1⟩
                have hl4B : HoldW (fs2.length ≤ 4) := ⟨lf2⟩
                have hlow : HoldW (266 < L ∧ 280 < L ∧ 159 < L) := ⟨l0⟩
                have setF20 : SetR K 2 aF fs1 := setF.mono gr20.1
                have setO20 : SetR K 2 aO fs2 := setO.mono gr20.1
                obtain ⟨b1, hb1⟩ : ∃ b, fs1.isEmpty = b := ⟨_, rfl⟩
                obtain ⟨b2, hb2⟩ : ∃ b, fs2.isEmpty = b := ⟨_, rfl⟩
                clear F28 F3 N3 N29 i1 i2 i3 i4 i5 mLL TK29
                have rowA20 : RowR K 2 Do fs1 := rowA.mono gr7.1
                have rowB20 : RowR K 2 Dt fs2 := rowB.mono gr7.1
                clear hIt off3 hL3
                repeat (rename @LT.lt Nat _ _ _ ∧ _ => z; clear z)
                repeat (rename @LT.lt Nat _ _ _ => z; clear z)
                repeat (rename @LE.le Nat _ _ _ => z; clear z)
                repeat (rename @Eq Nat _ _ => z; clear z)
                repeat (rename @Eq Int _ _ => z; clear z)
                have lA60 : fs1.length ≤ 60 := HoldW.out hlA
                have lB60 : fs2.length ≤ 60 := HoldW.out hlB
                k_steps
                refine HoldW.mk ?_
                obtain ⟨duF, q1F, q2F, q3F, q4F, iF, jF⟩ := setF20.inst
                refine cmp_ofEq ?_
                refine' cmp_K ?k1 ?k2 ?k3 ?k4 ?k5 ?k6 ?k7 ?k8 ?_
                (case k1 => k_units); (case k2 => k_asm); (case k3 => exact X); (case k4 => k_inst); (case k5 => k_typeOf); (case k6 => k_is); (case k7 => k_is); (case k8 => k_is)
                rename Fr g2 _ _ _ => F5
                rename News g2 _ _ _ => N5
                refine' use_con3 (c_eqNone setF20 lA60) ?B ?F ?X ?Nq ?T ?C1 ?C2 ?C3 ?TK ?hO ?hA ?hf ?hke ?hh ?hd ?hu ?_
                (case hA => exact rfl); (case hf => exact rfl); (case hke => exact rfl); (case hh => exact rfl); (case F => exact F5); (case Nq => exact N5); (case B => k_asm); (case X => exact X); (case T => exact T); (case C1 => exact C1); (case C2 => exact C2); (case C3 => exact C3); (case TK => exact TK3); (case hO => exact Own.nil); (case hd => k_room); (case hu => k_units)
                intro r21 h21 tk21 gs21 x1' x2' x3' K21 F21 N21 gr21 ne21 TK21 hg21 p21
                rw [hb1] at p21
                subst p21
                replace N21 : News g2 L h21 ((266, tabObj x1') :: (280, tabObj x2') :: (159, tabObj x3') :: K21) := N21
                clear F5 N5
                show PySem.W.CmpBack _ (Value.bool _) _
                unfold PySem.W.CmpBack
                dsimp only
                k_steps
                refine HoldW.mk ?_
                rename_i le1 hx22 F22 N22 nl22
                have NH22 : ∀ p ∈ K21, hx22.get? p.1 = some p.2 := fun p hp => (N22 p (.tail _ (.tail _ (.tail _ (.tail _ hp))))).1
                have rowA21 : RowR K21 2 Do fs1 := (rowA.mono gr7.1).mono gr21.1
                have rowB21 : RowR K21 2 Dt fs2 := (rowB.mono gr7.1).mono gr21.1
                have XH22 : (hd.heap_1_39 w.params).In hx22 := X.keeps F22.keep
                refine row_nilB hb1 NH22 rowA21 (N22 _ (.head _)).1 (by k_units) ?_
                k_steps
                · exfalso
                  rename ((_ == true) != _) = true => ha
                  cases b1 <;> simp at ha
                refine HoldW.mk ?_
                rename_i l1a l2a gA LA hA FGA BA XA TA tkA lA hB l1b hC FB NB kF kN Tc kX
                obtain ⟨K24, N24, TK24, gr24, top24, _⟩ := emp_set (rest := [_]) kN TK21 (List.forall_mem_cons.mpr ⟨⟨nl22.1, nl22.2.1, nl22.2.2.1, nl22.2.2.2⟩, fun _ h => by simp at h⟩) ⟨l1a.2.1, l1a.2.2.1, l1a.2.2.2.1, l1a.2.2.2.2⟩ l2a l1b.1
                have setE24 : SetR K24 2 _ [] := set_empty top24
                have setO24 : SetR K24 2 aO fs2 := (setO20.mono gr21.1).mono gr24.1
                have hb24 : eqS 2 [] fs2 = b2 := (eqS_nil 2 fs2).trans hb2
                (try clear NB); (try clear FB); (try clear FGA); (try clear BA); (try clear XA); (try clear TA); (try clear Tc); (try clear kX); (try clear N22); (try clear F22); (try clear NH22)
                obtain ⟨duE, q1E, q2E, q3E, q4E, iE, jE⟩ := setE24.inst
                obtain ⟨duO, q1O, q2O, q3O, q4O, iO, jO⟩ := setO24.inst
                refine cmp_ofEq ?_
                clear kN
                refine' cmp_K ?k1 ?k2 ?k3 ?k4 ?k5 ?k6 ?k7 ?k8 ?_
                (case k1 => k_units); (case k2 => exact kF); (case k3 => exact X); (case k4 => k_inst); (case k5 => k_typeOf); (case k6 => k_is); (case k7 => k_is); (case k8 => k_is)
                refine' use_con3 (c_seqB hb24 setE24 setO24 (Nat.zero_le _) lB60 (fun _ h => by simp at h) wfB) ?B ?F ?X ?Nq ?T ?C1 ?C2 ?C3 ?TK ?hO ?hA ?hf ?hke ?hh ?hd ?hu ?_
                (case hA => exact rfl); (case hf => exact rfl); (case hke => exact rfl); (case hh => exact rfl); (case F => exact kF); (case Nq => exact N24); (case B => k_asm); (case X => exact X); (case T => exact T); (case C1 => exact C1); (case C2 => exact C2); (case C3 => exact C3); (case TK => exact TK24); (case hO => exact Own.nil); (case hd => k_room); (case hu => k_units)
                intro r25 h25 tk25 gs25 x1' x2' x3' K25 F25 N25 gr25 ne25 TK25 hg25 p25
                subst p25
                replace N25 : News g2 L h25 ((266, tabObj x1') :: (280, tabObj x2') :: (159, tabObj x3') :: K25) := N25
                (try clear kF); (try clear N24); (try clear N21)
                show PySem.W.CmpBack _ (Value.bool _) _
                unfold PySem.W.CmpBack
                dsimp only
                k_steps
                refine HoldW.mk ?_
                rename_i le2 hx26 F26 N26 nl26
                have gr25' : Gr K K25 := (gr21.trans gr24).trans gr25
                have NH26 : ∀ p ∈ K25, hx26.get? p.1 = some p.2 := fun p hp => (N26 p (.tail _ (.tail _ (.tail _ (.tail _ hp))))).1
                refine row_nilB hb2 NH26 (rowB20.mono gr25'.1) (N26 _ (.head _)).1 (by k_units) ?_
                k_steps
                · exfalso
                  rename ((_ == true) != _) = true => ha
                  cases b2 <;> simp at ha
                refine HoldW.mk ?_
                have N27 : News g2 L hx26 ((266, tabObj x1') :: (280, tabObj x2') :: (159, tabObj x3') :: K25) := fun p hp => N26 p (.tail _ hp)
                have Fun25 : FunL K25 := funL_of (own := tabs x1' x2' x3') N27
                obtain ⟨DF, dF, ndF, frF⟩ := hSF
                obtain ⟨du1, lF, vF, DF', stF, rfl, alF⟩ := dF
                obtain ⟨DO, dO, ndO, frO⟩ := hSO
                obtain ⟨du2, lO, vO, DO', stO, rfl, alO⟩ := dO
                have g825 : ∀ p ∈ K8, p ∈ K25 := fun p hp => gr25'.1 p (gr20.1 p (gr13.1 p hp))
                have g925 : ∀ p ∈ K9, p ∈ K25 := fun p hp => gr25'.1 p (gr20.1 p hp)
                have g725 : ∀ p ∈ K7, p ∈ K25 := fun p hp => gr25'.1 p (gr7.1 p hp)
                have stF25 := stF.mono g825
                have stO25 := stO.mono g925
                have alF25 := alF.imp (S := FieldD K25 2) fun _ _ _ y => y.mono g825
                have alO25 := alO.imp (S := FieldD K25 2) fun _ _ _ y => y.mono g925
                obtain ⟨_, _, _, nF, _, _, mlF⟩ := stF
                have hOF : ∀ d ∈ du2 :: lO :: DO', d ≠ lF := fun d hd => (frO d hd).2.2.2 _ mlF
                have hF7 : FrA K7 lF := frF lF (.tail _ (.head _))
                have nD : lF ∉ DF' := (List.nodup_cons.mp (List.nodup_cons.mp ndF).2).1
                have nD2 : lF ∉ lO :: DO' := fun h => hOF lF (.tail _ h) rfl
                have lvF : vF.length ≤ 100 := by rw [alF.length]; exact Nat.le_trans hl4A.out (by decide)
                have lvO : vO.length ≤ 100 := by rw [alO.length]; exact Nat.le_trans hl4B.out (by decide)
                (try clear N26); (try clear NH26)
                refine' use_conU (c_ext stF25 stO25.top (Ne.symm (hOF lO (.tail _ (.head _)))) lvF lvO) ?B ?F ?X ?Nq ?T ?C1 ?C2 ?C3 ?TK ?hO ?hA ?hf ?hke ?hh ?hd ?hu ?_
                (case hA => exact rfl); (case hf => exact rfl); (case hke => exact rfl); (case hh => exact rfl); (case F => exact F26); (case Nq => exact N27); (case B => k_asm); (case X => exact X); (case T => exact T); (case C1 => exact C1); (case C2 => exact C2); (case C3 => exact C3); (case TK => exact TK25); (case hO => exact OwnU.nil); (case hd => k_room); (case hu => k_units)
                intro r28 h28 tk28 gs28 y1 y2 y3 K28 ch28 F28 N28 ext28 _ TK28 hg28 p28
                obtain ⟨rfl, rfl, nl28⟩ := p28
                replace N28 : News g2 L h28 ((266, tabObj y1) :: (280, tabObj y2) :: (159, tabObj y3) :: K28) := N28
                obtain ⟨setF28, setO28⟩ := set_ext Fun25 stF25 alF25 nD stO25 alO25 nD2 ext28.still nl28
                have g728 : ∀ p ∈ K7, p ∈ K28 := fun p hp => ext28.still p (g725 p hp) fun e => hF7.2.2.2 p hp (List.mem_singleton.mp e).symm
                have rowA28 : RowR K28 2 Do fs1 := rowA.mono g728
                have rowB28 : RowR K28 2 Dt fs2 := rowB.mono g728
                have fA28 : FldsR K28 2 Df fs1 := fA2.mono g728
                have fB28 : FldsR K28 2 Ds fs2 := fB2.mono g728
                clear ext28 F26 N27
                obtain ⟨duF3, q1F3, q2F3, q3F3, q4F3, iF28, jF28⟩ := setF28.inst
                obtain ⟨duO3, q1O3, q2O3, q3O3, q4O3, iO28, jO28⟩ := setO28.inst
                k_steps
                refine HoldW.mk ?_
                rename Fr g2 _ _ _ => F29
                rename News g2 _ _ _ => N29
                refine' use_con3 (c_extN (u := aF)) ?B ?F ?X ?Nq ?T ?C1 ?C2 ?C3 ?TK ?hO ?hA ?hf ?hke ?hh ?hd ?hu ?_
                (case hA => exact rfl); (case hf => exact rfl); (case hke => exact rfl); (case hh => exact rfl); (case F => exact F29); (case Nq => exact N29); (case B => k_asm); (case X => exact X); (case T => exact T); (case C1 => exact C1); (case C2 => exact C2); (case C3 => exact C3); (case TK => exact TK28); (case hO => exact Own.nil); (case hd => k_room); (case hu => k_units)
                intro r30 h30 tk30 gs30 z1 z2 z3 K30 F30 N30 gr30 ne30 TK30 hg30 p30
                subst p30
                replace N30 : News g2 L h30 ((266, tabObj z1) :: (280, tabObj z2) :: (159, tabObj z3) :: K30) := N30
                clear F29 N29
                k_steps
                refine HoldW.mk ?_
                rename Fr g2 _ _ _ => F31
                rename News g2 _ _ _ => N31
                refine add_rows F31 N31 TK30 (rowA28.mono gr30.1) (rowB28.mono gr30.1) hl4A.out hl4B.out ?_
                intro Dab h32 K32 F32 N32 TK32 gr32 rAB
                clear F31 N31
                have lAB : (fs1 ++ fs2).length ≤ 8 := by rw [List.length_append]; exact Nat.add_le_add hl4A.out hl4B.out
                have gr32' : Gr K28 K32 := gr30.trans gr32
                k_steps
                refine HoldW.mk ?_
                rename Fr g2 _ _ _ => F33
                rename News g2 _ _ _ => N33
                refine' use_conS (c_ag 2 _ aF Dab (fs1 ++ fs2) (setF28.mono gr32'.1) rAB lAB) ?B ?F ?Nq ?XB ?TB ?C1 ?C2 ?C3 ?D ?TK ?hO ?hA ?hf ?hke ?hh ?hd ?hu ?_
                (case hA => exact rfl); (case hf => exact rfl); (case hke => exact rfl); (case hh => exact rfl); (case F => exact F33); (case Nq => exact N33); (case B => exact B2); (case XB => exact XB); (case TB => exact TB); (case C1 => exact CB1); (case C2 => exact CB2); (case C3 => exact CB3); (case D => exact D2'); (case TK => exact TK32); (case hO => exact Own.nil); (case hd => k_room); (case hu => k_units)
                intro r34 h34 tk34 gs34 x1 x2 x3 K34 g3 KT3 F34 N34 B3 X3 T3 C13 C23 C33 D3' gr34 ne34 TK34 hg34 p34
                subst p34
                replace N34 : News g3 L h34 ((266, tabObj x1) :: (280, tabObj x2) :: (159, tabObj x3) :: K34) := N34
                clear F33 N33 X T C1 C2 C3 B2
                k_steps
                refine HoldW.mk ?_
                refine' use_conS (c_ag 2 _ aO Dt (fs2) ((setO28.mono gr32'.1).mono gr34.1) ((rowB28.mono gr32'.1).mono gr34.1) (len_48 hl4B.out)) ?B ?F ?Nq ?XB ?TB ?C1 ?C2 ?C3 ?D ?TK ?hO ?hA ?hf ?hke ?hh ?hd ?hu ?_
                (case hA => exact rfl); (case hf => exact rfl); (case hke => exact rfl); (case hh => exact rfl); (case F => exact F34); (case Nq => exact N34); (case B => exact B3); (case XB => exact XB); (case TB => exact TB); (case C1 => exact CB1); (case C2 => exact CB2); (case C3 => exact CB3); (case D => exact D3'); (case TK => exact TK34); (case hO => exact Own.nil); (case hd => k_room); (case hu => k_units)
                intro r35 h35 tk35 gs35 w1 w2 w3 K35 g4 KT4 F35 N35 B4 X T C1 C2 C3 D4' gr35 ne35 TK35 hg35 p35
                subst p35
                replace N35 : News g4 L h35 ((266, tabObj w1) :: (280, tabObj w2) :: (159, tabObj w3) :: K35) := N35
                clear F34 N34 X3 T3 C13 C23 C33 B3
                have XH35 : (hd.heap_1_39 w.params).In h35 := X.keeps F35.keep
                k_steps
                refine HoldW.mk ?_
                rename_i l1a l2a gA LA hA BA XA TA tkA lA hB l1b hC FB NB tkB Tc kX hE FE NE
                obtain ⟨K36, N36, TK36, gr36, top36, nlE⟩ := emp_set (rest := []) NE TK35 (fun _ h => by simp at h) ⟨l1a.1, l1a.2.1, l1a.2.2.1, l1a.2.2.2⟩ l2a l1b.1
                have gr35' : Gr K28 K35 := (gr32'.trans gr34).trans gr35
                have setF35 : SetR K35 2 aF (fs1 ++ fs2) := setF28.mono gr35'.1
                obtain ⟨lF2, vF2, stF2, alF2⟩ := setF35
                have stF2' := stF2.mono gr36.1
                have Fun36 : FunL K36 := funL_of (own := tabs w1 w2 w3) N36
                have lv2 : vF2.length ≤ 100 := by rw [alF2.length]; exact Nat.le_trans lAB (by decide)
                have neE : _ ≠ lF2 := fun e => by obtain ⟨_, _, _, _, _, _, _, mF2⟩ := stF2; exact AllLt.ne nlE.2.2.2 _ mF2 e.symm
                (try clear NB); (try clear FB); (try clear BA); (try clear XA); (try clear TA); (try clear Tc); (try clear kX); (try clear NE)
                obtain ⟨duE5, q1E5, q2E5, q3E5, iE5, jE5, kE5⟩ := id top36
                refine' use_conU (c_ext top36 stF2' neE (Nat.zero_le _) lv2) ?B ?F ?X ?Nq ?T ?C1 ?C2 ?C3 ?TK ?hO ?hA ?hf ?hke ?hh ?hd ?hu ?_
                (case hA => exact rfl); (case hf => exact rfl); (case hke => exact rfl); (case hh => exact rfl); (case F => exact FE); (case Nq => exact N36); (case B => exact B4); (case X => exact X); (case T => exact T); (case C1 => exact C1); (case C2 => exact C2); (case C3 => exact C3); (case TK => exact TK36); (case hO => exact OwnU.nil); (case hd => k_room); (case hu => k_units)
                intro r37 h37 tk37 gs37 y1 y2 y3 K37 ch37 F37 N37 ext37 _ TK37 hg37 p37
                obtain ⟨rfl, rfl, nl37⟩ := p37
                replace N37 : News g4 L h37 ((266, tabObj y1) :: (280, tabObj y2) :: (159, tabObj y3) :: K37) := N37
                obtain ⟨setE37, keep37⟩ := set_ext0 Fun36 top36 gr36.1 nlE alF2 ext37.still nl37
                have k28 : ∀ p ∈ K28, p ∈ K37 := fun p hp => keep37 p (gr35'.1 p hp)
                have setF37 : SetR K37 2 aF (fs1 ++ fs2) := setF28.mono k28
                have rowA37 : RowR K37 2 Do fs1 := rowA28.mono k28
                have rowB37 : RowR K37 2 Dt fs2 := rowB28.mono k28
                have fA37 : FldsR K37 2 Df fs1 := fA28.mono k28
                have fB37 : FldsR K37 2 Ds fs2 := fB28.mono k28
                clear ext37 FE N36 iE5 jE5 kE5
                k_steps
                refine HoldW.mk ?_
                rename Fr g4 _ _ _ => F38
                rename News g4 _ _ _ => N38
                refine add_rows F38 N38 TK37 rowA37 rowB37 hl4A.out hl4B.out ?_
                intro Dcd h39 K39 F39 N39 TK39 gr39 rCD
                clear F38 N38
                k_steps
                refine HoldW.mk ?_
                rename Fr g4 _ _ _ => F40
                rename News g4 _ _ _ => N40
                refine' use_conS (c_ag 2 _ _ Dcd (fs1 ++ fs2) (setE37.mono gr39.1) rCD lAB) ?B ?F ?Nq ?XB ?TB ?C1 ?C2 ?C3 ?D ?TK ?hO ?hA ?hf ?hke ?hh ?hd ?hu ?_
                (case hA => exact rfl); (case hf => exact rfl); (case hke => exact rfl); (case hh => exact rfl); (case F => exact F40); (case Nq => exact N40); (case B => exact B4); (case XB => exact XB); (case TB => exact TB); (case C1 => exact CB1); (case C2 => exact CB2); (case C3 => exact CB3); (case D => exact D4'); (case TK => exact TK39); (case hO => exact Own.nil); (case hd => k_room); (case hu => k_units)
                intro r41 h41 tk41 gs41 x1 x2 x3 K41 g5 KT5 F41 N41 B5 X5 T5 C15 C25 C35 D5' gr41 ne41 TK41 hg41 p41
                subst p41
                replace N41 : News g5 L h41 ((266, tabObj x1) :: (280, tabObj x2) :: (159, tabObj x3) :: K41) := N41
                clear F40 N40 X T C1 C2 C3 B4
                have gr41' : Gr K37 K41 := gr39.trans gr41
                have setE41 := setE37.mono gr41'.1
                have setF41 := setF37.mono gr41'.1
                obtain ⟨duE6, q1E6, q2E6, q3E6, q4E6, iE6, jE6⟩ := setE41.inst
                obtain ⟨duF6, q1F6, q2F6, q3F6, q4F6, iF6, jF6⟩ := setF41.inst
                have wfAB : ∀ f ∈ fs1 ++ fs2, WfF 2 f := fun f hf => (List.mem_append.mp hf).elim (wfA f) (wfB f)
                have hbAB : eqS 2 (fs1 ++ fs2) (fs1 ++ fs2) = true := eqS_refl wfAB
                have lAB60 : (fs1 ++ fs2).length ≤ 60 := Nat.le_trans lAB (by decide)
                k_steps
                refine HoldW.mk ?_
                refine cmp_ofEq ?_
                refine' cmp_K ?k1 ?k2 ?k3 ?k4 ?k5 ?k6 ?k7 ?k8 ?_
                (case k1 => k_units); (case k2 => k_asm); (case k3 => exact X5); (case k4 => k_inst); (case k5 => k_typeOf); (case k6 => k_is); (case k7 => k_is); (case k8 => k_is)
                rename Fr g5 _ _ _ => F42
                rename News g5 _ _ _ => N42
                refine' use_con3 (c_seqB hbAB setE41 setF41 lAB60 lAB60 wfAB wfAB) ?B ?F ?X ?Nq ?T ?C1 ?C2 ?C3 ?TK ?hO ?hA ?hf ?hke ?hh ?hd ?hu ?_
                (case hA => exact rfl); (case hf => exact rfl); (case hke => exact rfl); (case hh => exact rfl); (case F => exact F42); (case Nq => exact N42); (case B => exact B5); (case X => exact X5); (case T => exact T5); (case C1 => exact C15); (case C2 => exact C25); (case C3 => exact C35); (case TK => exact TK41); (case hO => exact Own.nil); (case hd => k_room); (case hu => k_units)
                intro r43 h43 tk43 gs43 z1 z2 z3 K43 F43 N43 gr43 ne43 TK43 hg43 p43
                subst p43
                replace N43 : News g5 L h43 ((266, tabObj z1) :: (280, tabObj z2) :: (159, tabObj z3) :: K43) := N43
                clear F42 N42
                show PySem.W.CmpBack _ (Value.bool _) _
                unfold PySem.W.CmpBack
                dsimp only
                k_steps
                refine HoldW.mk ?_
                refine' use_conS (c_lclr (k := 2) (fs := fs1) (by decide) (by decide) (by decide) (fA37.mono (gr41'.trans gr43).1) (len_48 hl4A.out)) ?B ?F ?Nq ?XB ?TB ?C1 ?C2 ?C3 ?D ?TK ?hO ?hA ?hf ?hke ?hh ?hd ?hu ?_
                (case hA => exact rfl); (case hf => exact rfl); (case hke => exact rfl); (case hh => exact rfl); (case F => exact F43); (case Nq => exact N43); (case B => exact B5); (case XB => exact XB); (case TB => exact TB); (case C1 => exact CB1); (case C2 => exact CB2); (case C3 => exact CB3); (case D => exact D5'); (case TK => exact TK43); (case hO => exact Own.nil); (case hd => k_room); (case hu => k_units)
                intro r44 h44 tk44 gs44 x1 x2 x3 K44 g6 KT6 F44 N44 B6 X T C1 C2 C3 D6' gr44 ne44 TK44 hg44 p44
                subst p44
                replace N44 : News g6 L h44 ((266, tabObj x1) :: (280, tabObj x2) :: (159, tabObj x3) :: K44) := N44
                clear F43 N43 X5 T5 C15 C25 C35 B5
                k_steps
                refine HoldW.mk ?_
                refine' use_conS (c_lclr (k := 2) (fs := fs2) (by decide) (by decide) (by decide) ((fB37.mono (gr41'.trans gr43).1).mono gr44.1) (len_48 hl4B.out)) ?B ?F ?Nq ?XB ?TB ?C1 ?C2 ?C3 ?D ?TK ?hO ?hA ?hf ?hke ?hh ?hd ?hu ?_
                (case hA => exact rfl); (case hf => exact rfl); (case hke => exact rfl); (case hh => exact rfl); (case F => exact F44); (case Nq => exact N44); (case B => exact B6); (case XB => exact XB); (case TB => exact TB); (case C1 => exact CB1); (case C2 => exact CB2); (case C3 => exact CB3); (case D => exact D6'); (case TK => exact TK44); (case hO => exact Own.nil); (case hd => k_room); (case hu => k_units)
                intro r45 h45 tk45 gs45 y1 y2 y3 K45 g7 KT7 F45 N45 B7 X7 T7 C17 C27 C37 D7' gr45 ne45 TK45 hg45 p45
                subst p45
                replace N45 : News g7 L h45 ((266, tabObj y1) :: (280, tabObj y2) :: (159, tabObj y3) :: K45) := N45
                clear F44 N44 X T C1 C2 C3 B6
                k_steps
                refine ⟨?good, hg45 (hg44 (hg43 (hg41 (hg37 (hg35 (hg34 (hg30 (hg28 (hg25 (hg21 (hg3 (hg22 (hg16 (hg15 (hg13 (hg12 (hg9 (hg7 (hg5 (hg2 hb0.out)))))))))))))))))))), ⟨_, (N45 (266, tabObj y1) (.head _)).1⟩, ⟨_, (N45 (280, tabObj y2) (.tail _ (.head _))).1⟩, ⟨_, (N45 (159, tabObj y3) (.tail _ (.tail _ (.head _)))).1⟩, trivial⟩
                case good =>
                  refine ⟨.inl ⟨.bool true, .bool true, [], rfl, fun _ => rfl, .bool _, ?post, fun _ => ⟨.nil, fun _ h => nomatch h⟩⟩, fun b o e => F45.keep b o (B7.stays b o (by rw [← hg]; exact e)), rfl, rfl⟩
                  case post => first | rfl | with_unfolding_all rfl | decide | (simp; done)
end
end Mine
theorem PySem.Challenge.cw_au0020_01_holds : PySem.Challenge.rw_au0020_01.Holds :=
  Mine.whole
