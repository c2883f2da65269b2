import PyProof.Rows.All
import Wide.All
import OpenK.AllK
import Wide.FinOn
import Lean
import PySem.Challenge.RW_rk0009_01
open PySem PySem.W PyProof.Rows PySem.Calls PySem.Spec
set_option linter.all false
set_option Elab.async false
set_option maxRecDepth 100000
namespace Mine.Internal
set_option tactic.hygienic false
theorem e0a2 {p0 p1:Prop} {C:Prop} (h:p0/\p1) (k:p0->p1->C):C:=k  h.1 h.2
theorem e0a3 {p0 p1 p2:Prop} {C:Prop} (h:p0/\p1/\p2) (k:p0->p1->p2->C):C:=k  h.1 h.2.1 h.2.2
theorem e0a4 {p0 p1 p2 p3:Prop} {C:Prop} (h:p0/\p1/\p2/\p3) (k:p0->p1->p2->p3->C):C:=k  h.1 h.2.1 h.2.2.1 h.2.2.2
theorem e0a5 {p0 p1 p2 p3 p4:Prop} {C:Prop} (h:p0/\p1/\p2/\p3/\p4) (k:p0->p1->p2->p3->p4->C):C:=k  h.1 h.2.1 h.2.2.1 h.2.2.2.1 h.2.2.2.2
theorem e0a6 {p0 p1 p2 p3 p4 p5:Prop} {C:Prop} (h:p0/\p1/\p2/\p3/\p4/\p5) (k:p0->p1->p2->p3->p4->p5->C):C:=k  h.1 h.2.1 h.2.2.1 h.2.2.2.1 h.2.2.2.2.1 h.2.2.2.2.2
theorem e0a7 {p0 p1 p2 p3 p4 p5 p6:Prop} {C:Prop} (h:p0/\p1/\p2/\p3/\p4/\p5/\p6) (k:p0->p1->p2->p3->p4->p5->p6->C):C:=k  h.1 h.2.1 h.2.2.1 h.2.2.2.1 h.2.2.2.2.1 h.2.2.2.2.2.1 h.2.2.2.2.2.2
theorem e0a8 {p0 p1 p2 p3 p4 p5 p6 p7:Prop} {C:Prop} (h:p0/\p1/\p2/\p3/\p4/\p5/\p6/\p7) (k:p0->p1->p2->p3->p4->p5->p6->p7->C):C:=k  h.1 h.2.1 h.2.2.1 h.2.2.2.1 h.2.2.2.2.1 h.2.2.2.2.2.1 h.2.2.2.2.2.2.1 h.2.2.2.2.2.2.2
theorem e0a10 {p0 p1 p2 p3 p4 p5 p6 p7 p8 p9:Prop} {C:Prop} (h:p0/\p1/\p2/\p3/\p4/\p5/\p6/\p7/\p8/\p9) (k:p0->p1->p2->p3->p4->p5->p6->p7->p8->p9->C):C:=k  h.1 h.2.1 h.2.2.1 h.2.2.2.1 h.2.2.2.2.1 h.2.2.2.2.2.1 h.2.2.2.2.2.2.1 h.2.2.2.2.2.2.2.1 h.2.2.2.2.2.2.2.2.1 h.2.2.2.2.2.2.2.2.2
theorem e1a1 {α0:Sort _} {p0:α0->Prop} {C:Prop} (h:∃ a0,p0 a0) (k:∀ a0,p0 a0->C):C:=h.elim fun a0 h=>k a0 h
theorem e1a2 {α0:Sort _} {p0 p1:α0->Prop} {C:Prop} (h:∃ a0,p0 a0/\p1 a0) (k:∀ a0,p0 a0->p1 a0->C):C:=h.elim fun a0 h=>k a0 h.1 h.2
theorem e1a3 {α0:Sort _} {p0 p1 p2:α0->Prop} {C:Prop} (h:∃ a0,p0 a0/\p1 a0/\p2 a0) (k:∀ a0,p0 a0->p1 a0->p2 a0->C):C:=h.elim fun a0 h=>k a0 h.1 h.2.1 h.2.2
theorem e1a4 {α0:Sort _} {p0 p1 p2 p3:α0->Prop} {C:Prop} (h:∃ a0,p0 a0/\p1 a0/\p2 a0/\p3 a0) (k:∀ a0,p0 a0->p1 a0->p2 a0->p3 a0->C):C:=h.elim fun a0 h=>k a0 h.1 h.2.1 h.2.2.1 h.2.2.2
theorem e1a5 {α0:Sort _} {p0 p1 p2 p3 p4:α0->Prop} {C:Prop} (h:∃ a0,p0 a0/\p1 a0/\p2 a0/\p3 a0/\p4 a0) (k:∀ a0,p0 a0->p1 a0->p2 a0->p3 a0->p4 a0->C):C:=h.elim fun a0 h=>k a0 h.1 h.2.1 h.2.2.1 h.2.2.2.1 h.2.2.2.2
theorem e1a9 {α0:Sort _} {p0 p1 p2 p3 p4 p5 p6 p7 p8:α0->Prop} {C:Prop} (h:∃ a0,p0 a0/\p1 a0/\p2 a0/\p3 a0/\p4 a0/\p5 a0/\p6 a0/\p7 a0/\p8 a0) (k:∀ a0,p0 a0->p1 a0->p2 a0->p3 a0->p4 a0->p5 a0->p6 a0->p7 a0->p8 a0->C):C:=h.elim fun a0 h=>k a0 h.1 h.2.1 h.2.2.1 h.2.2.2.1 h.2.2.2.2.1 h.2.2.2.2.2.1 h.2.2.2.2.2.2.1 h.2.2.2.2.2.2.2.1 h.2.2.2.2.2.2.2.2
theorem e2a1 {α0 α1:Sort _} {p0:α0->α1->Prop} {C:Prop} (h:∃ a0 a1,p0 a0 a1) (k:∀ a0 a1,p0 a0 a1->C):C:=h.elim fun a0 h=>h.elim fun a1 h=>k a0 a1 h
theorem e2a2 {α0 α1:Sort _} {p0 p1:α0->α1->Prop} {C:Prop} (h:∃ a0 a1,p0 a0 a1/\p1 a0 a1) (k:∀ a0 a1,p0 a0 a1->p1 a0 a1->C):C:=h.elim fun a0 h=>h.elim fun a1 h=>k a0 a1 h.1 h.2
theorem e2a3 {α0 α1:Sort _} {p0 p1 p2:α0->α1->Prop} {C:Prop} (h:∃ a0 a1,p0 a0 a1/\p1 a0 a1/\p2 a0 a1) (k:∀ a0 a1,p0 a0 a1->p1 a0 a1->p2 a0 a1->C):C:=h.elim fun a0 h=>h.elim fun a1 h=>k a0 a1 h.1 h.2.1 h.2.2
theorem e2a4 {α0 α1:Sort _} {p0 p1 p2 p3:α0->α1->Prop} {C:Prop} (h:∃ a0 a1,p0 a0 a1/\p1 a0 a1/\p2 a0 a1/\p3 a0 a1) (k:∀ a0 a1,p0 a0 a1->p1 a0 a1->p2 a0 a1->p3 a0 a1->C):C:=h.elim fun a0 h=>h.elim fun a1 h=>k a0 a1 h.1 h.2.1 h.2.2.1 h.2.2.2
theorem e2a5 {α0 α1:Sort _} {p0 p1 p2 p3 p4:α0->α1->Prop} {C:Prop} (h:∃ a0 a1,p0 a0 a1/\p1 a0 a1/\p2 a0 a1/\p3 a0 a1/\p4 a0 a1) (k:∀ a0 a1,p0 a0 a1->p1 a0 a1->p2 a0 a1->p3 a0 a1->p4 a0 a1->C):C:=h.elim fun a0 h=>h.elim fun a1 h=>k a0 a1 h.1 h.2.1 h.2.2.1 h.2.2.2.1 h.2.2.2.2
theorem e2a6 {α0 α1:Sort _} {p0 p1 p2 p3 p4 p5:α0->α1->Prop} {C:Prop} (h:∃ a0 a1,p0 a0 a1/\p1 a0 a1/\p2 a0 a1/\p3 a0 a1/\p4 a0 a1/\p5 a0 a1) (k:∀ a0 a1,p0 a0 a1->p1 a0 a1->p2 a0 a1->p3 a0 a1->p4 a0 a1->p5 a0 a1->C):C:=h.elim fun a0 h=>h.elim fun a1 h=>k a0 a1 h.1 h.2.1 h.2.2.1 h.2.2.2.1 h.2.2.2.2.1 h.2.2.2.2.2
theorem e2a8 {α0 α1:Sort _} {p0 p1 p2 p3 p4 p5 p6 p7:α0->α1->Prop} {C:Prop} (h:∃ a0 a1,p0 a0 a1/\p1 a0 a1/\p2 a0 a1/\p3 a0 a1/\p4 a0 a1/\p5 a0 a1/\p6 a0 a1/\p7 a0 a1) (k:∀ a0 a1,p0 a0 a1->p1 a0 a1->p2 a0 a1->p3 a0 a1->p4 a0 a1->p5 a0 a1->p6 a0 a1->p7 a0 a1->C):C:=h.elim fun a0 h=>h.elim fun a1 h=>k a0 a1 h.1 h.2.1 h.2.2.1 h.2.2.2.1 h.2.2.2.2.1 h.2.2.2.2.2.1 h.2.2.2.2.2.2.1 h.2.2.2.2.2.2.2
theorem e3a1 {α0 α1 α2:Sort _} {p0:α0->α1->α2->Prop} {C:Prop} (h:∃ a0 a1 a2,p0 a0 a1 a2) (k:∀ a0 a1 a2,p0 a0 a1 a2->C):C:=h.elim fun a0 h=>h.elim fun a1 h=>h.elim fun a2 h=>k a0 a1 a2 h
theorem e3a2 {α0 α1 α2:Sort _} {p0 p1:α0->α1->α2->Prop} {C:Prop} (h:∃ a0 a1 a2,p0 a0 a1 a2/\p1 a0 a1 a2) (k:∀ a0 a1 a2,p0 a0 a1 a2->p1 a0 a1 a2->C):C:=h.elim fun a0 h=>h.elim fun a1 h=>h.elim fun a2 h=>k a0 a1 a2 h.1 h.2
theorem e3a3 {α0 α1 α2:Sort _} {p0 p1 p2:α0->α1->α2->Prop} {C:Prop} (h:∃ a0 a1 a2,p0 a0 a1 a2/\p1 a0 a1 a2/\p2 a0 a1 a2) (k:∀ a0 a1 a2,p0 a0 a1 a2->p1 a0 a1 a2->p2 a0 a1 a2->C):C:=h.elim fun a0 h=>h.elim fun a1 h=>h.elim fun a2 h=>k a0 a1 a2 h.1 h.2.1 h.2.2
theorem e3a4 {α0 α1 α2:Sort _} {p0 p1 p2 p3:α0->α1->α2->Prop} {C:Prop} (h:∃ a0 a1 a2,p0 a0 a1 a2/\p1 a0 a1 a2/\p2 a0 a1 a2/\p3 a0 a1 a2) (k:∀ a0 a1 a2,p0 a0 a1 a2->p1 a0 a1 a2->p2 a0 a1 a2->p3 a0 a1 a2->C):C:=h.elim fun a0 h=>h.elim fun a1 h=>h.elim fun a2 h=>k a0 a1 a2 h.1 h.2.1 h.2.2.1 h.2.2.2
theorem e3a5 {α0 α1 α2:Sort _} {p0 p1 p2 p3 p4:α0->α1->α2->Prop} {C:Prop} (h:∃ a0 a1 a2,p0 a0 a1 a2/\p1 a0 a1 a2/\p2 a0 a1 a2/\p3 a0 a1 a2/\p4 a0 a1 a2) (k:∀ a0 a1 a2,p0 a0 a1 a2->p1 a0 a1 a2->p2 a0 a1 a2->p3 a0 a1 a2->p4 a0 a1 a2->C):C:=h.elim fun a0 h=>h.elim fun a1 h=>h.elim fun a2 h=>k a0 a1 a2 h.1 h.2.1 h.2.2.1 h.2.2.2.1 h.2.2.2.2
theorem e3a6 {α0 α1 α2:Sort _} {p0 p1 p2 p3 p4 p5:α0->α1->α2->Prop} {C:Prop} (h:∃ a0 a1 a2,p0 a0 a1 a2/\p1 a0 a1 a2/\p2 a0 a1 a2/\p3 a0 a1 a2/\p4 a0 a1 a2/\p5 a0 a1 a2) (k:∀ a0 a1 a2,p0 a0 a1 a2->p1 a0 a1 a2->p2 a0 a1 a2->p3 a0 a1 a2->p4 a0 a1 a2->p5 a0 a1 a2->C):C:=h.elim fun a0 h=>h.elim fun a1 h=>h.elim fun a2 h=>k a0 a1 a2 h.1 h.2.1 h.2.2.1 h.2.2.2.1 h.2.2.2.2.1 h.2.2.2.2.2
theorem e4a2 {α0 α1 α2 α3:Sort _} {p0 p1:α0->α1->α2->α3->Prop} {C:Prop} (h:∃ a0 a1 a2 a3,p0 a0 a1 a2 a3/\p1 a0 a1 a2 a3) (k:∀ a0 a1 a2 a3,p0 a0 a1 a2 a3->p1 a0 a1 a2 a3->C):C:=h.elim fun a0 h=>h.elim fun a1 h=>h.elim fun a2 h=>h.elim fun a3 h=>k a0 a1 a2 a3 h.1 h.2
theorem e4a5 {α0 α1 α2 α3:Sort _} {p0 p1 p2 p3 p4:α0->α1->α2->α3->Prop} {C:Prop} (h:∃ a0 a1 a2 a3,p0 a0 a1 a2 a3/\p1 a0 a1 a2 a3/\p2 a0 a1 a2 a3/\p3 a0 a1 a2 a3/\p4 a0 a1 a2 a3) (k:∀ a0 a1 a2 a3,p0 a0 a1 a2 a3->p1 a0 a1 a2 a3->p2 a0 a1 a2 a3->p3 a0 a1 a2 a3->p4 a0 a1 a2 a3->C):C:=h.elim fun a0 h=>h.elim fun a1 h=>h.elim fun a2 h=>h.elim fun a3 h=>k a0 a1 a2 a3 h.1 h.2.1 h.2.2.1 h.2.2.2.1 h.2.2.2.2
theorem e5a2 {α0 α1 α2 α3 α4:Sort _} {p0 p1:α0->α1->α2->α3->α4->Prop} {C:Prop} (h:∃ a0 a1 a2 a3 a4,p0 a0 a1 a2 a3 a4/\p1 a0 a1 a2 a3 a4) (k:∀ a0 a1 a2 a3 a4,p0 a0 a1 a2 a3 a4->p1 a0 a1 a2 a3 a4->C):C:=h.elim fun a0 h=>h.elim fun a1 h=>h.elim fun a2 h=>h.elim fun a3 h=>h.elim fun a4 h=>k a0 a1 a2 a3 a4 h.1 h.2
theorem e5a3 {α0 α1 α2 α3 α4:Sort _} {p0 p1 p2:α0->α1->α2->α3->α4->Prop} {C:Prop} (h:∃ a0 a1 a2 a3 a4,p0 a0 a1 a2 a3 a4/\p1 a0 a1 a2 a3 a4/\p2 a0 a1 a2 a3 a4) (k:∀ a0 a1 a2 a3 a4,p0 a0 a1 a2 a3 a4->p1 a0 a1 a2 a3 a4->p2 a0 a1 a2 a3 a4->C):C:=h.elim fun a0 h=>h.elim fun a1 h=>h.elim fun a2 h=>h.elim fun a3 h=>h.elim fun a4 h=>k a0 a1 a2 a3 a4 h.1 h.2.1 h.2.2
theorem e5a4 {α0 α1 α2 α3 α4:Sort _} {p0 p1 p2 p3:α0->α1->α2->α3->α4->Prop} {C:Prop} (h:∃ a0 a1 a2 a3 a4,p0 a0 a1 a2 a3 a4/\p1 a0 a1 a2 a3 a4/\p2 a0 a1 a2 a3 a4/\p3 a0 a1 a2 a3 a4) (k:∀ a0 a1 a2 a3 a4,p0 a0 a1 a2 a3 a4->p1 a0 a1 a2 a3 a4->p2 a0 a1 a2 a3 a4->p3 a0 a1 a2 a3 a4->C):C:=h.elim fun a0 h=>h.elim fun a1 h=>h.elim fun a2 h=>h.elim fun a3 h=>h.elim fun a4 h=>k a0 a1 a2 a3 a4 h.1 h.2.1 h.2.2.1 h.2.2.2
theorem e5a5 {α0 α1 α2 α3 α4:Sort _} {p0 p1 p2 p3 p4:α0->α1->α2->α3->α4->Prop} {C:Prop} (h:∃ a0 a1 a2 a3 a4,p0 a0 a1 a2 a3 a4/\p1 a0 a1 a2 a3 a4/\p2 a0 a1 a2 a3 a4/\p3 a0 a1 a2 a3 a4/\p4 a0 a1 a2 a3 a4) (k:∀ a0 a1 a2 a3 a4,p0 a0 a1 a2 a3 a4->p1 a0 a1 a2 a3 a4->p2 a0 a1 a2 a3 a4->p3 a0 a1 a2 a3 a4->p4 a0 a1 a2 a3 a4->C):C:=h.elim fun a0 h=>h.elim fun a1 h=>h.elim fun a2 h=>h.elim fun a3 h=>h.elim fun a4 h=>k a0 a1 a2 a3 a4 h.1 h.2.1 h.2.2.1 h.2.2.2.1 h.2.2.2.2
theorem e5a6 {α0 α1 α2 α3 α4:Sort _} {p0 p1 p2 p3 p4 p5:α0->α1->α2->α3->α4->Prop} {C:Prop} (h:∃ a0 a1 a2 a3 a4,p0 a0 a1 a2 a3 a4/\p1 a0 a1 a2 a3 a4/\p2 a0 a1 a2 a3 a4/\p3 a0 a1 a2 a3 a4/\p4 a0 a1 a2 a3 a4/\p5 a0 a1 a2 a3 a4) (k:∀ a0 a1 a2 a3 a4,p0 a0 a1 a2 a3 a4->p1 a0 a1 a2 a3 a4->p2 a0 a1 a2 a3 a4->p3 a0 a1 a2 a3 a4->p4 a0 a1 a2 a3 a4->p5 a0 a1 a2 a3 a4->C):C:=h.elim fun a0 h=>h.elim fun a1 h=>h.elim fun a2 h=>h.elim fun a3 h=>h.elim fun a4 h=>k a0 a1 a2 a3 a4 h.1 h.2.1 h.2.2.1 h.2.2.2.1 h.2.2.2.2.1 h.2.2.2.2.2
theorem e5a8 {α0 α1 α2 α3 α4:Sort _} {p0 p1 p2 p3 p4 p5 p6 p7:α0->α1->α2->α3->α4->Prop} {C:Prop} (h:∃ a0 a1 a2 a3 a4,p0 a0 a1 a2 a3 a4/\p1 a0 a1 a2 a3 a4/\p2 a0 a1 a2 a3 a4/\p3 a0 a1 a2 a3 a4/\p4 a0 a1 a2 a3 a4/\p5 a0 a1 a2 a3 a4/\p6 a0 a1 a2 a3 a4/\p7 a0 a1 a2 a3 a4) (k:∀ a0 a1 a2 a3 a4,p0 a0 a1 a2 a3 a4->p1 a0 a1 a2 a3 a4->p2 a0 a1 a2 a3 a4->p3 a0 a1 a2 a3 a4->p4 a0 a1 a2 a3 a4->p5 a0 a1 a2 a3 a4->p6 a0 a1 a2 a3 a4->p7 a0 a1 a2 a3 a4->C):C:=h.elim fun a0 h=>h.elim fun a1 h=>h.elim fun a2 h=>h.elim fun a3 h=>h.elim fun a4 h=>k a0 a1 a2 a3 a4 h.1 h.2.1 h.2.2.1 h.2.2.2.1 h.2.2.2.2.1 h.2.2.2.2.2.1 h.2.2.2.2.2.2.1 h.2.2.2.2.2.2.2
theorem e7a3 {α0 α1 α2 α3 α4 α5 α6:Sort _} {p0 p1 p2:α0->α1->α2->α3->α4->α5->α6->Prop} {C:Prop} (h:∃ a0 a1 a2 a3 a4 a5 a6,p0 a0 a1 a2 a3 a4 a5 a6/\p1 a0 a1 a2 a3 a4 a5 a6/\p2 a0 a1 a2 a3 a4 a5 a6) (k:∀ a0 a1 a2 a3 a4 a5 a6,p0 a0 a1 a2 a3 a4 a5 a6->p1 a0 a1 a2 a3 a4 a5 a6->p2 a0 a1 a2 a3 a4 a5 a6->C):C:=h.elim fun a0 h=>h.elim fun a1 h=>h.elim fun a2 h=>h.elim fun a3 h=>h.elim fun a4 h=>h.elim fun a5 h=>h.elim fun a6 h=>k a0 a1 a2 a3 a4 a5 a6 h.1 h.2.1 h.2.2
theorem e7a4 {α0 α1 α2 α3 α4 α5 α6:Sort _} {p0 p1 p2 p3:α0->α1->α2->α3->α4->α5->α6->Prop} {C:Prop} (h:∃ a0 a1 a2 a3 a4 a5 a6,p0 a0 a1 a2 a3 a4 a5 a6/\p1 a0 a1 a2 a3 a4 a5 a6/\p2 a0 a1 a2 a3 a4 a5 a6/\p3 a0 a1 a2 a3 a4 a5 a6) (k:∀ a0 a1 a2 a3 a4 a5 a6,p0 a0 a1 a2 a3 a4 a5 a6->p1 a0 a1 a2 a3 a4 a5 a6->p2 a0 a1 a2 a3 a4 a5 a6->p3 a0 a1 a2 a3 a4 a5 a6->C):C:=h.elim fun a0 h=>h.elim fun a1 h=>h.elim fun a2 h=>h.elim fun a3 h=>h.elim fun a4 h=>h.elim fun a5 h=>h.elim fun a6 h=>k a0 a1 a2 a3 a4 a5 a6 h.1 h.2.1 h.2.2.1 h.2.2.2
theorem e8a4 {α0 α1 α2 α3 α4 α5 α6 α7:Sort _} {p0 p1 p2 p3:α0->α1->α2->α3->α4->α5->α6->α7->Prop} {C:Prop} (h:∃ a0 a1 a2 a3 a4 a5 a6 a7,p0 a0 a1 a2 a3 a4 a5 a6 a7/\p1 a0 a1 a2 a3 a4 a5 a6 a7/\p2 a0 a1 a2 a3 a4 a5 a6 a7/\p3 a0 a1 a2 a3 a4 a5 a6 a7) (k:∀ a0 a1 a2 a3 a4 a5 a6 a7,p0 a0 a1 a2 a3 a4 a5 a6 a7->p1 a0 a1 a2 a3 a4 a5 a6 a7->p2 a0 a1 a2 a3 a4 a5 a6 a7->p3 a0 a1 a2 a3 a4 a5 a6 a7->C):C:=h.elim fun a0 h=>h.elim fun a1 h=>h.elim fun a2 h=>h.elim fun a3 h=>h.elim fun a4 h=>h.elim fun a5 h=>h.elim fun a6 h=>h.elim fun a7 h=>k a0 a1 a2 a3 a4 a5 a6 a7 h.1 h.2.1 h.2.2.1 h.2.2.2
theorem e8a1 {α0 α1 α2 α3 α4 α5 α6 α7:Sort _} {p0:α0->α1->α2->α3->α4->α5->α6->α7->Prop} {C:Prop} (h:∃ a0 a1 a2 a3 a4 a5 a6 a7,p0 a0 a1 a2 a3 a4 a5 a6 a7) (k:∀ a0 a1 a2 a3 a4 a5 a6 a7,p0 a0 a1 a2 a3 a4 a5 a6 a7->C):C:=h.elim fun a0 h=>h.elim fun a1 h=>h.elim fun a2 h=>h.elim fun a3 h=>h.elim fun a4 h=>h.elim fun a5 h=>h.elim fun a6 h=>h.elim fun a7 h=>k a0 a1 a2 a3 a4 a5 a6 a7 h
theorem e7a2 {α0 α1 α2 α3 α4 α5 α6:Sort _} {p0 p1:α0->α1->α2->α3->α4->α5->α6->Prop} {C:Prop} (h:∃ a0 a1 a2 a3 a4 a5 a6,p0 a0 a1 a2 a3 a4 a5 a6/\p1 a0 a1 a2 a3 a4 a5 a6) (k:∀ a0 a1 a2 a3 a4 a5 a6,p0 a0 a1 a2 a3 a4 a5 a6->p1 a0 a1 a2 a3 a4 a5 a6->C):C:=h.elim fun a0 h=>h.elim fun a1 h=>h.elim fun a2 h=>h.elim fun a3 h=>h.elim fun a4 h=>h.elim fun a5 h=>h.elim fun a6 h=>k a0 a1 a2 a3 a4 a5 a6 h.1 h.2
theorem e6a3 {α0 α1 α2 α3 α4 α5:Sort _} {p0 p1 p2:α0->α1->α2->α3->α4->α5->Prop} {C:Prop} (h:∃ a0 a1 a2 a3 a4 a5,p0 a0 a1 a2 a3 a4 a5/\p1 a0 a1 a2 a3 a4 a5/\p2 a0 a1 a2 a3 a4 a5) (k:∀ a0 a1 a2 a3 a4 a5,p0 a0 a1 a2 a3 a4 a5->p1 a0 a1 a2 a3 a4 a5->p2 a0 a1 a2 a3 a4 a5->C):C:=h.elim fun a0 h=>h.elim fun a1 h=>h.elim fun a2 h=>h.elim fun a3 h=>h.elim fun a4 h=>h.elim fun a5 h=>k a0 a1 a2 a3 a4 a5 h.1 h.2.1 h.2.2
theorem e2a7 {α0 α1:Sort _} {p0 p1 p2 p3 p4 p5 p6:α0->α1->Prop} {C:Prop} (h:∃ a0 a1,p0 a0 a1/\p1 a0 a1/\p2 a0 a1/\p3 a0 a1/\p4 a0 a1/\p5 a0 a1/\p6 a0 a1) (k:∀ a0 a1,p0 a0 a1->p1 a0 a1->p2 a0 a1->p3 a0 a1->p4 a0 a1->p5 a0 a1->p6 a0 a1->C):C:=h.elim fun a0 h=>h.elim fun a1 h=>k a0 a1 h.1 h.2.1 h.2.2.1 h.2.2.2.1 h.2.2.2.2.1 h.2.2.2.2.2.1 h.2.2.2.2.2.2
theorem e1a8 {α0:Sort _} {p0 p1 p2 p3 p4 p5 p6 p7:α0->Prop} {C:Prop} (h:∃ a0,p0 a0/\p1 a0/\p2 a0/\p3 a0/\p4 a0/\p5 a0/\p6 a0/\p7 a0) (k:∀ a0,p0 a0->p1 a0->p2 a0->p3 a0->p4 a0->p5 a0->p6 a0->p7 a0->C):C:=h.elim fun a0 h=>k a0 h.1 h.2.1 h.2.2.1 h.2.2.2.1 h.2.2.2.2.1 h.2.2.2.2.2.1 h.2.2.2.2.2.2.1 h.2.2.2.2.2.2.2
theorem e0a9 {p0 p1 p2 p3 p4 p5 p6 p7 p8:Prop} {C:Prop} (h:p0/\p1/\p2/\p3/\p4/\p5/\p6/\p7/\p8) (k:p0->p1->p2->p3->p4->p5->p6->p7->p8->C):C:=k  h.1 h.2.1 h.2.2.1 h.2.2.2.1 h.2.2.2.2.1 h.2.2.2.2.2.1 h.2.2.2.2.2.2.1 h.2.2.2.2.2.2.2.1 h.2.2.2.2.2.2.2.2
theorem rm1 {d a b c:Nat} (h:d+b<c) (e:Nat.ble a b=true):d+a<c:=Nat.lt_of_le_of_lt (Nat.add_le_add_left (Nat.le_of_ble_eq_true e) d) h
theorem rm2 {u a k b c:Nat} (h:u+b<c) (e:Nat.ble (k+a) b=true):u+k+a<c:=by rw [Nat.add_assoc];exact rm1 h e
theorem rm3 {x d y a b c:Nat} (h:d+b<c) (l:x≤d+y) (e:Nat.ble (y+a) b=true):x+a<c:=Nat.lt_of_le_of_lt (Nat.add_le_add_right l a) (rm2 h e)
theorem rm4 {d b c r:Nat} (h:d+b<c) (e:Nat.ble c r=true):d<r:=Nat.lt_of_lt_of_le (Nat.lt_of_le_of_lt (Nat.le_add_right d b) h) (Nat.le_of_ble_eq_true e)
theorem lt_ne_all {d x:Addr} {l:List (Addr×Obj)} (h:∀ p∈l,p.1<d) (hx : @LE.le Nat _ d x):∀ p∈l,p.1≠x:=fun p hp=>Nat.ne_of_lt (Nat.lt_of_lt_of_le (h p hp) hx)
theorem qa {a c C:Nat} (h:a≤OfNat.ofNat c) (e:Nat.ble c C=true):a≤OfNat.ofNat C:=Nat.le_trans h (Nat.le_of_ble_eq_true e)
theorem qb {a b c C:Nat} (h:a+b≤OfNat.ofNat c) (e:Nat.ble c C=true):a≤OfNat.ofNat C:=qa (Nat.le_trans (Nat.le_add_right _ _) h) e
theorem qc {a b c C:Nat} (h:b+a≤OfNat.ofNat c) (e:Nat.ble c C=true):a≤OfNat.ofNat C:=qa (Nat.le_trans (Nat.le_add_left _ _) h) e
theorem qd {a b c d C:Nat} (h:a≤OfNat.ofNat c) (g:b≤OfNat.ofNat d) (e:Nat.ble (c+d) C=true):a+b≤OfNat.ofNat C:=Nat.le_trans (Nat.add_le_add h g) (Nat.le_of_ble_eq_true e)
theorem qe {a k c C:Nat} (h:a≤OfNat.ofNat c) (e:Nat.ble (c+k) C=true):a+OfNat.ofNat k≤OfNat.ofNat C:=Nat.le_trans (Nat.add_le_add_right h k) (Nat.le_of_ble_eq_true e)
theorem qf {a c C:Nat} (h:a<OfNat.ofNat c) (e:Nat.ble c C=true):a<OfNat.ofNat C:=Nat.lt_of_lt_of_le h (Nat.le_of_ble_eq_true e)
theorem qg {a c C:Nat} {P:Prop} (h:a≤OfNat.ofNat c/\P) (e:Nat.ble c C=true):a≤OfNat.ofNat C:=qa h.1 e
theorem qh {a c C:Nat} {P Q:Prop} (h:P/\a≤OfNat.ofNat c/\Q) (e:Nat.ble c C=true):a≤OfNat.ofNat C:=qa h.2.1 e
theorem qi {a b k c C:Nat} (h:a=b+OfNat.ofNat k) (g:b≤OfNat.ofNat c) (e:Nat.ble (c+k) C=true):a≤OfNat.ofNat C:=h▸qe g e
theorem qj {a c C:Nat} (h:a=OfNat.ofNat c) (e:Nat.ble c C=true):a≤OfNat.ofNat C:=qa (Nat.le_of_eq h) e
theorem qk9 {n:Nat} {k:Int} (e:decide (0≤k)=true):0≤(n:Int)+k:=Int.add_nonneg (Int.natCast_nonneg n) (of_decide_eq_true e)
theorem ql {n c:Nat} {K:Int} (h:n≤OfNat.ofNat c) (e:decide ((c:Int)<K)=true):(n:Int)<K:=Int.lt_of_le_of_lt (Int.ofNat_le.mpr h) (of_decide_eq_true e)
theorem qm {n c:Nat} {K:Int} (h:n≤OfNat.ofNat c) (e:decide ((c:Int)<K)=true) : ¬ K≤(n:Int):=Int.not_le.mpr (ql h e)
theorem qn {n:Nat} {K:Int} (e:decide (K≤0)=true):K≤(n:Int):=Int.le_trans (of_decide_eq_true e) (Int.natCast_nonneg n)
theorem qo {a c K:Int} (h:a≤c) (e:decide (c≤K)=true):a≤K:=Int.le_trans h (of_decide_eq_true e)
theorem qp {k i:Nat} (h:k<i+1) (g : ¬ k<i):k=i:=Nat.le_antisymm (Nat.le_of_lt_succ h) (Nat.le_of_not_lt g)
theorem qq {k i:Nat} (h:k≤i) (g : ¬ k<i):k=i:=Nat.le_antisymm h (Nat.le_of_not_lt g)
theorem qr {a c k C:Nat} (h:a≤OfNat.ofNat c) (e:Nat.ble (c+k) C=true):OfNat.ofNat k+a≤OfNat.ofNat C:=Nat.add_comm a k▸qe h e
theorem fc {α:Type} {P:α->Prop} {a:α} {l:List α} (h:P a) (g:∀ q∈l,P q):∀ q∈a::l,P q:=List.forall_mem_cons.mpr ⟨h,g⟩
theorem rot3 {α:Type} {a b c:α} {r:List α} {q:α} (h:q∈a::b::c::r):q∈b::c::a::r:=(fc (P:=(·∈b::c::a::r)) (.tail _ (.tail _ (.head _))) (fc (P:=(·∈b::c::a::r)) (.head _) (fc (P:=(·∈b::c::a::r)) (.tail _ (.head _)) (fun q hq=>(.tail _ (.tail _ (.tail _ hq))))))) q h
theorem mv4 {α:Type} {a b c d:α} {r:List α} {q:α} (h:q∈a::b::c::d::r):q∈d::a::b::c::r:=(fc (P:=(·∈d::a::b::c::r)) (.tail _ (.head _)) (fc (P:=(·∈d::a::b::c::r)) (.tail _ (.tail _ (.head _))) (fc (P:=(·∈d::a::b::c::r)) (.tail _ (.tail _ (.tail _ (.head _)))) (fc (P:=(·∈d::a::b::c::r)) (.head _) (fun q hq=>(.tail _ (.tail _ (.tail _ (.tail _ hq))))))))) q h
theorem mv4r {α:Type} {a b c d:α} {r:List α} {q:α} (h:q∈d::a::b::c::r):q∈a::b::c::d::r:=(fc (P:=(·∈a::b::c::d::r)) (.tail _ (.tail _ (.tail _ (.head _)))) (fc (P:=(·∈a::b::c::d::r)) (.head _) (fc (P:=(·∈a::b::c::d::r)) (.tail _ (.head _)) (fc (P:=(·∈a::b::c::d::r)) (.tail _ (.tail _ (.head _))) (fun q hq=>(.tail _ (.tail _ (.tail _ (.tail _ hq))))))))) q h
theorem mv5 {α:Type} {a b c d e:α} {r:List α} {q:α} (h:q∈a::b::c::d::e::r):q∈d::e::a::b::c::r:=(fc (P:=(·∈d::e::a::b::c::r)) (.tail _ (.tail _ (.head _))) (fc (P:=(·∈d::e::a::b::c::r)) (.tail _ (.tail _ (.tail _ (.head _)))) (fc (P:=(·∈d::e::a::b::c::r)) (.tail _ (.tail _ (.tail _ (.tail _ (.head _))))) (fc (P:=(·∈d::e::a::b::c::r)) (.head _) (fc (P:=(·∈d::e::a::b::c::r)) (.tail _ (.head _)) (fun q hq=>(.tail _ (.tail _ (.tail _ (.tail _ (.tail _ hq))))))))))) q h
theorem m10 {α:Type} {b x0 x1 x2 x3 x4 x5 x6 x7 x8 x9:α} {C:Prop} (h:b∈x0::x1::x2::x3::x4::x5::x6::x7::x8::x9::[]) (h0:b=x0->C) (h1:b=x1->C) (h2:b=x2->C) (h3:b=x3->C) (h4:b=x4->C) (h5:b=x5->C) (h6:b=x6->C) (h7:b=x7->C) (h8:b=x8->C) (h9:b=x9->C):C:=(List.mem_cons.mp h).elim h0 fun h=>(List.mem_cons.mp h).elim h1 fun h=>(List.mem_cons.mp h).elim h2 fun h=>(List.mem_cons.mp h).elim h3 fun h=>(List.mem_cons.mp h).elim h4 fun h=>(List.mem_cons.mp h).elim h5 fun h=>(List.mem_cons.mp h).elim h6 fun h=>(List.mem_cons.mp h).elim h7 fun h=>(List.mem_cons.mp h).elim h8 fun h=>(List.mem_cons.mp h).elim h9 fun h=>nomatch h
theorem m7r {α:Type} {b x0 x1 x2 x3 x4 x5 x6:α} {r:List α} {C:Prop} (h:b∈x0::x1::x2::x3::x4::x5::x6::r) (h0:b=x0->C) (h1:b=x1->C) (h2:b=x2->C) (h3:b=x3->C) (h4:b=x4->C) (h5:b=x5->C) (h6:b=x6->C) (hr:b∈r->C):C:=(List.mem_cons.mp h).elim h0 fun h=>(List.mem_cons.mp h).elim h1 fun h=>(List.mem_cons.mp h).elim h2 fun h=>(List.mem_cons.mp h).elim h3 fun h=>(List.mem_cons.mp h).elim h4 fun h=>(List.mem_cons.mp h).elim h5 fun h=>(List.mem_cons.mp h).elim h6 fun h=>hr h
theorem nm7 {α:Type} {b x0 x1 x2 x3 x4 x5 x6:α} (h:b∉[x0,x1,x2,x3,x4,x5,x6]) : ¬ b=x0/\¬ b=x1/\¬ b=x2/\¬ b=x3/\¬ b=x4/\¬ b=x5/\¬ b=x6:=by
 simpa only [List.mem_cons,List.mem_nil_iff,or_false,not_or] using h
theorem rl_is:recursionLimit=1000:=rfl
theorem al1 {x0:Addr} {o0:Obj} {r:List (Addr×Obj)} {d:Addr} {C:Prop} (h:∀ p∈(x0,o0)::r,p.1<d) (k : @LT.lt Nat _ x0 d->(∀ p∈r,p.1<d)->C):C:=k (h _ (.head _)) (fun p hp=>h p (.tail _ hp))
theorem al2 {x0 x1:Addr} {o0 o1:Obj} {r:List (Addr×Obj)} {d:Addr} {C:Prop} (h:∀ p∈(x0,o0)::(x1,o1)::r,p.1<d) (k : @LT.lt Nat _ x0 d->@LT.lt Nat _ x1 d->(∀ p∈r,p.1<d)->C):C:=k (h _ (.head _)) (h _ (.tail _ (.head _))) (fun p hp=>h p (.tail _ (.tail _ hp)))
theorem al3 {x0 x1 x2:Addr} {o0 o1 o2:Obj} {r:List (Addr×Obj)} {d:Addr} {C:Prop} (h:∀ p∈(x0,o0)::(x1,o1)::(x2,o2)::r,p.1<d) (k : @LT.lt Nat _ x0 d->@LT.lt Nat _ x1 d->@LT.lt Nat _ x2 d->(∀ p∈r,p.1<d)->C):C:=k (h _ (.head _)) (h _ (.tail _ (.head _))) (h _ (.tail _ (.tail _ (.head _)))) (fun p hp=>h p (.tail _ (.tail _ (.tail _ hp))))
theorem al4 {x0 x1 x2 x3:Addr} {o0 o1 o2 o3:Obj} {r:List (Addr×Obj)} {d:Addr} {C:Prop} (h:∀ p∈(x0,o0)::(x1,o1)::(x2,o2)::(x3,o3)::r,p.1<d) (k : @LT.lt Nat _ x0 d->@LT.lt Nat _ x1 d->@LT.lt Nat _ x2 d->@LT.lt Nat _ x3 d->(∀ p∈r,p.1<d)->C):C:=k (h _ (.head _)) (h _ (.tail _ (.head _))) (h _ (.tail _ (.tail _ (.head _)))) (h _ (.tail _ (.tail _ (.tail _ (.head _))))) (fun p hp=>h p (.tail _ (.tail _ (.tail _ (.tail _ hp)))))
theorem al5 {x0 x1 x2 x3 x4:Addr} {o0 o1 o2 o3 o4:Obj} {r:List (Addr×Obj)} {d:Addr} {C:Prop} (h:∀ p∈(x0,o0)::(x1,o1)::(x2,o2)::(x3,o3)::(x4,o4)::r,p.1<d) (k : @LT.lt Nat _ x0 d->@LT.lt Nat _ x1 d->@LT.lt Nat _ x2 d->@LT.lt Nat _ x3 d->@LT.lt Nat _ x4 d->(∀ p∈r,p.1<d)->C):C:=k (h _ (.head _)) (h _ (.tail _ (.head _))) (h _ (.tail _ (.tail _ (.head _)))) (h _ (.tail _ (.tail _ (.tail _ (.head _))))) (h _ (.tail _ (.tail _ (.tail _ (.tail _ (.head _)))))) (fun p hp=>h p (.tail _ (.tail _ (.tail _ (.tail _ (.tail _ hp))))))
theorem al6 {x0 x1 x2 x3 x4 x5:Addr} {o0 o1 o2 o3 o4 o5:Obj} {r:List (Addr×Obj)} {d:Addr} {C:Prop} (h:∀ p∈(x0,o0)::(x1,o1)::(x2,o2)::(x3,o3)::(x4,o4)::(x5,o5)::r,p.1<d) (k : @LT.lt Nat _ x0 d->@LT.lt Nat _ x1 d->@LT.lt Nat _ x2 d->@LT.lt Nat _ x3 d->@LT.lt Nat _ x4 d->@LT.lt Nat _ x5 d->(∀ p∈r,p.1<d)->C):C:=k (h _ (.head _)) (h _ (.tail _ (.head _))) (h _ (.tail _ (.tail _ (.head _)))) (h _ (.tail _ (.tail _ (.tail _ (.head _))))) (h _ (.tail _ (.tail _ (.tail _ (.tail _ (.head _)))))) (h _ (.tail _ (.tail _ (.tail _ (.tail _ (.tail _ (.head _))))))) (fun p hp=>h p (.tail _ (.tail _ (.tail _ (.tail _ (.tail _ (.tail _ hp)))))))
theorem al7 {x0 x1 x2 x3 x4 x5 x6:Addr} {o0 o1 o2 o3 o4 o5 o6:Obj} {r:List (Addr×Obj)} {d:Addr} {C:Prop} (h:∀ p∈(x0,o0)::(x1,o1)::(x2,o2)::(x3,o3)::(x4,o4)::(x5,o5)::(x6,o6)::r,p.1<d) (k : @LT.lt Nat _ x0 d->@LT.lt Nat _ x1 d->@LT.lt Nat _ x2 d->@LT.lt Nat _ x3 d->@LT.lt Nat _ x4 d->@LT.lt Nat _ x5 d->@LT.lt Nat _ x6 d->(∀ p∈r,p.1<d)->C):C:=k (h _ (.head _)) (h _ (.tail _ (.head _))) (h _ (.tail _ (.tail _ (.head _)))) (h _ (.tail _ (.tail _ (.tail _ (.head _))))) (h _ (.tail _ (.tail _ (.tail _ (.tail _ (.head _)))))) (h _ (.tail _ (.tail _ (.tail _ (.tail _ (.tail _ (.head _))))))) (h _ (.tail _ (.tail _ (.tail _ (.tail _ (.tail _ (.tail _ (.head _)))))))) (fun p hp=>h p (.tail _ (.tail _ (.tail _ (.tail _ (.tail _ (.tail _ (.tail _ hp))))))))
theorem al9 {x0 x1 x2 x3 x4 x5 x6 x7 x8:Addr} {o0 o1 o2 o3 o4 o5 o6 o7 o8:Obj} {r:List (Addr×Obj)} {d:Addr} {C:Prop} (h:∀ p∈(x0,o0)::(x1,o1)::(x2,o2)::(x3,o3)::(x4,o4)::(x5,o5)::(x6,o6)::(x7,o7)::(x8,o8)::r,p.1<d) (k : @LT.lt Nat _ x0 d->@LT.lt Nat _ x1 d->@LT.lt Nat _ x2 d->@LT.lt Nat _ x3 d->@LT.lt Nat _ x4 d->@LT.lt Nat _ x5 d->@LT.lt Nat _ x6 d->@LT.lt Nat _ x7 d->@LT.lt Nat _ x8 d->(∀ p∈r,p.1<d)->C):C:=k (h _ (.head _)) (h _ (.tail _ (.head _))) (h _ (.tail _ (.tail _ (.head _)))) (h _ (.tail _ (.tail _ (.tail _ (.head _))))) (h _ (.tail _ (.tail _ (.tail _ (.tail _ (.head _)))))) (h _ (.tail _ (.tail _ (.tail _ (.tail _ (.tail _ (.head _))))))) (h _ (.tail _ (.tail _ (.tail _ (.tail _ (.tail _ (.tail _ (.head _)))))))) (h _ (.tail _ (.tail _ (.tail _ (.tail _ (.tail _ (.tail _ (.tail _ (.head _))))))))) (h _ (.tail _ (.tail _ (.tail _ (.tail _ (.tail _ (.tail _ (.tail _ (.tail _ (.head _)))))))))) (fun p hp=>h p (.tail _ (.tail _ (.tail _ (.tail _ (.tail _ (.tail _ (.tail _ (.tail _ (.tail _ hp))))))))))
theorem al11 {x0 x1 x2 x3 x4 x5 x6 x7 x8 x9 x10:Addr} {o0 o1 o2 o3 o4 o5 o6 o7 o8 o9 o10:Obj} {r:List (Addr×Obj)} {d:Addr} {C:Prop} (h:∀ p∈(x0,o0)::(x1,o1)::(x2,o2)::(x3,o3)::(x4,o4)::(x5,o5)::(x6,o6)::(x7,o7)::(x8,o8)::(x9,o9)::(x10,o10)::r,p.1<d) (k : @LT.lt Nat _ x0 d->@LT.lt Nat _ x1 d->@LT.lt Nat _ x2 d->@LT.lt Nat _ x3 d->@LT.lt Nat _ x4 d->@LT.lt Nat _ x5 d->@LT.lt Nat _ x6 d->@LT.lt Nat _ x7 d->@LT.lt Nat _ x8 d->@LT.lt Nat _ x9 d->@LT.lt Nat _ x10 d->(∀ p∈r,p.1<d)->C):C:=k (h _ (.head _)) (h _ (.tail _ (.head _))) (h _ (.tail _ (.tail _ (.head _)))) (h _ (.tail _ (.tail _ (.tail _ (.head _))))) (h _ (.tail _ (.tail _ (.tail _ (.tail _ (.head _)))))) (h _ (.tail _ (.tail _ (.tail _ (.tail _ (.tail _ (.head _))))))) (h _ (.tail _ (.tail _ (.tail _ (.tail _ (.tail _ (.tail _ (.head _)))))))) (h _ (.tail _ (.tail _ (.tail _ (.tail _ (.tail _ (.tail _ (.tail _ (.head _))))))))) (h _ (.tail _ (.tail _ (.tail _ (.tail _ (.tail _ (.tail _ (.tail _ (.tail _ (.head _)))))))))) (h _ (.tail _ (.tail _ (.tail _ (.tail _ (.tail _ (.tail _ (.tail _ (.tail _ (.tail _ (.head _))))))))))) (h _ (.tail _ (.tail _ (.tail _ (.tail _ (.tail _ (.tail _ (.tail _ (.tail _ (.tail _ (.tail _ (.head _)))))))))))) (fun p hp=>h p (.tail _ (.tail _ (.tail _ (.tail _ (.tail _ (.tail _ (.tail _ (.tail _ (.tail _ (.tail _ (.tail _ hp))))))))))))
theorem al12 {x0 x1 x2 x3 x4 x5 x6 x7 x8 x9 x10 x11:Addr} {o0 o1 o2 o3 o4 o5 o6 o7 o8 o9 o10 o11:Obj} {r:List (Addr×Obj)} {d:Addr} {C:Prop} (h:∀ p∈(x0,o0)::(x1,o1)::(x2,o2)::(x3,o3)::(x4,o4)::(x5,o5)::(x6,o6)::(x7,o7)::(x8,o8)::(x9,o9)::(x10,o10)::(x11,o11)::r,p.1<d) (k : @LT.lt Nat _ x0 d->@LT.lt Nat _ x1 d->@LT.lt Nat _ x2 d->@LT.lt Nat _ x3 d->@LT.lt Nat _ x4 d->@LT.lt Nat _ x5 d->@LT.lt Nat _ x6 d->@LT.lt Nat _ x7 d->@LT.lt Nat _ x8 d->@LT.lt Nat _ x9 d->@LT.lt Nat _ x10 d->@LT.lt Nat _ x11 d->(∀ p∈r,p.1<d)->C):C:=k (h _ (.head _)) (h _ (.tail _ (.head _))) (h _ (.tail _ (.tail _ (.head _)))) (h _ (.tail _ (.tail _ (.tail _ (.head _))))) (h _ (.tail _ (.tail _ (.tail _ (.tail _ (.head _)))))) (h _ (.tail _ (.tail _ (.tail _ (.tail _ (.tail _ (.head _))))))) (h _ (.tail _ (.tail _ (.tail _ (.tail _ (.tail _ (.tail _ (.head _)))))))) (h _ (.tail _ (.tail _ (.tail _ (.tail _ (.tail _ (.tail _ (.tail _ (.head _))))))))) (h _ (.tail _ (.tail _ (.tail _ (.tail _ (.tail _ (.tail _ (.tail _ (.tail _ (.head _)))))))))) (h _ (.tail _ (.tail _ (.tail _ (.tail _ (.tail _ (.tail _ (.tail _ (.tail _ (.tail _ (.head _))))))))))) (h _ (.tail _ (.tail _ (.tail _ (.tail _ (.tail _ (.tail _ (.tail _ (.tail _ (.tail _ (.tail _ (.head _)))))))))))) (h _ (.tail _ (.tail _ (.tail _ (.tail _ (.tail _ (.tail _ (.tail _ (.tail _ (.tail _ (.tail _ (.tail _ (.head _))))))))))))) (fun p hp=>h p (.tail _ (.tail _ (.tail _ (.tail _ (.tail _ (.tail _ (.tail _ (.tail _ (.tail _ (.tail _ (.tail _ (.tail _ hp)))))))))))))
theorem al14 {x0 x1 x2 x3 x4 x5 x6 x7 x8 x9 x10 x11 x12 x13:Addr} {o0 o1 o2 o3 o4 o5 o6 o7 o8 o9 o10 o11 o12 o13:Obj} {r:List (Addr×Obj)} {d:Addr} {C:Prop} (h:∀ p∈(x0,o0)::(x1,o1)::(x2,o2)::(x3,o3)::(x4,o4)::(x5,o5)::(x6,o6)::(x7,o7)::(x8,o8)::(x9,o9)::(x10,o10)::(x11,o11)::(x12,o12)::(x13,o13)::r,p.1<d) (k : @LT.lt Nat _ x0 d->@LT.lt Nat _ x1 d->@LT.lt Nat _ x2 d->@LT.lt Nat _ x3 d->@LT.lt Nat _ x4 d->@LT.lt Nat _ x5 d->@LT.lt Nat _ x6 d->@LT.lt Nat _ x7 d->@LT.lt Nat _ x8 d->@LT.lt Nat _ x9 d->@LT.lt Nat _ x10 d->@LT.lt Nat _ x11 d->@LT.lt Nat _ x12 d->@LT.lt Nat _ x13 d->(∀ p∈r,p.1<d)->C):C:=k (h _ (.head _)) (h _ (.tail _ (.head _))) (h _ (.tail _ (.tail _ (.head _)))) (h _ (.tail _ (.tail _ (.tail _ (.head _))))) (h _ (.tail _ (.tail _ (.tail _ (.tail _ (.head _)))))) (h _ (.tail _ (.tail _ (.tail _ (.tail _ (.tail _ (.head _))))))) (h _ (.tail _ (.tail _ (.tail _ (.tail _ (.tail _ (.tail _ (.head _)))))))) (h _ (.tail _ (.tail _ (.tail _ (.tail _ (.tail _ (.tail _ (.tail _ (.head _))))))))) (h _ (.tail _ (.tail _ (.tail _ (.tail _ (.tail _ (.tail _ (.tail _ (.tail _ (.head _)))))))))) (h _ (.tail _ (.tail _ (.tail _ (.tail _ (.tail _ (.tail _ (.tail _ (.tail _ (.tail _ (.head _))))))))))) (h _ (.tail _ (.tail _ (.tail _ (.tail _ (.tail _ (.tail _ (.tail _ (.tail _ (.tail _ (.tail _ (.head _)))))))))))) (h _ (.tail _ (.tail _ (.tail _ (.tail _ (.tail _ (.tail _ (.tail _ (.tail _ (.tail _ (.tail _ (.tail _ (.head _))))))))))))) (h _ (.tail _ (.tail _ (.tail _ (.tail _ (.tail _ (.tail _ (.tail _ (.tail _ (.tail _ (.tail _ (.tail _ (.tail _ (.head _)))))))))))))) (h _ (.tail _ (.tail _ (.tail _ (.tail _ (.tail _ (.tail _ (.tail _ (.tail _ (.tail _ (.tail _ (.tail _ (.tail _ (.tail _ (.head _))))))))))))))) (fun p hp=>h p (.tail _ (.tail _ (.tail _ (.tail _ (.tail _ (.tail _ (.tail _ (.tail _ (.tail _ (.tail _ (.tail _ (.tail _ (.tail _ (.tail _ hp)))))))))))))))
theorem execs_consT {M:Model} {A:Around} {st:Stmt} {rest:List Stmt} {v:Env} {Q:Flow->Shared->Prop} {E:Value->Shared->Prop} {h:Heap} {g:Array GenState} {d:Drawn} {t:Nat} {o:OsState}
  (H:∀ tk,wpAny M A (exec st v) (@Flow.rec (fun _=>Shared->Prop) (wpAny M A (execs rest v) Q E) (Q .brk) (Q .cont) (fun x=>Q (.ret x))) E ⟨h,g,d,tk,o⟩):wpAny M A (execs (st::rest) v) Q E ⟨h,g,d,t,o⟩:=by
 have e:(@Flow.rec (fun _=>Shared->Prop) (wpAny M A (execs rest v) Q E) (Q .brk) (Q .cont) (fun x=>Q (.ret x)))=(fun f s'=>match f with | .next=>wpAny M A (execs rest v) Q E s' | f=>Q f s'):=by
  funext f s'
  cases f <;> rfl
 exact wpAny_execs_cons (e▸H t)
noncomputable def stp:Stmt->List Expr×List Stmt×List (Arguments×Scope)×List ExceptHandler
 | .Assign _ e _=>([e],[],[],[])
 | .For t i b _ _=>([t,i],b,[],[])
 | .Try b h _ _ _=>([],b,[],h)
 | .While _ b _ _=>([],b,[],[])
 | .Return (some e) _=>([e],[],[],[])
 | .FunctionDef _ a b _ _ _ sc _ _ _=>([],b,[(a,sc)],[])
 | .If t _ _ _=>([t],[],[],[])
 | .Expr e _=>([e],[],[],[])
 | _=>([],[],[],[])
noncomputable def xpp:Expr->List Expr×List Comprehension×List Scope
 | .ListComp e gs sc _=>([e],gs,[sc])
 | .Compare l _ cs _=>(l::cs,[],[])
 | .Yield (some e) _=>([e],[],[])
 | _=>([],[],[])
noncomputable def xlc (e:Expr):Option (Expr×Scope):=match xpp e with
 | (a::_,_,sc::_)=>some (a,sc)
 | _=>none
noncomputable def sdf (x:Stmt):Option (Arguments×List Stmt×Scope):=match stp x with
 | (_,b,(a,sc)::_,_)=>some (a,b,sc)
 | _=>none
noncomputable def tl:List Stmt->Option (List Stmt)
 | _::r=>some r
 | []=>none
noncomputable def bod (x:Stmt):Option (List Stmt):=match (stp x).2.1 with
 | a::l=>some (a::l)
 | []=>none
set_option genInjectivity false in
set_option genSizeOf false in
structure LexA where
 (lx dx tb pb ct co it:Addr)
 (h1 h2 h3 h4 h5:Int)
 (t1 t2 t3 t4 t5:Tok)
 dn:Nat
set_option genInjectivity false in
set_option genSizeOf false in
structure LexS where
 (tb pb ct:List Value)
 io:Obj
 (tn pn cn:Nat)
set_option genInjectivity false in
set_option genSizeOf false in
structure Cel where
 (c dc lc ld:Addr)
 x:Str
 (h1 h2:Int)
 (t1 t2 tx u1 u2 u3 u4:Tok)
 (row col:Int)
set_option genInjectivity false in
set_option genSizeOf false in
structure TokA where
 LG:Addr
 sc:Scope
 (p1 p2 p3 yp ep wp1:Pos)
 ex:Expr
 asg:List Stmt
 b:List Stmt
set_option genInjectivity false in
set_option genSizeOf false in
structure FrZ where
 w:World
 p:Program
 loose:List Str
 mean:ExcName->Option Value
 mg:Str->Option Value
 mb:Str->Option Value
 dp:Nat
 un:Nat
 gd:Option (List Code)
 cn:Str
 cs:Scope
 ca:Addr
 ccd:Value
 cll:List (Str×Addr)
 outer:List Env
 A₀:Around
 base:Heap
 h₀:Heap
 L:Addr
 m:Str->Option Value
 s:Shared
 E:Value->Shared->Prop
 fA:Nat->(Addr)
 fN:Nat->(Nat)
 fL:Nat->(List (Addr×Obj))
 fS:Nat->(Str)
 fT:Nat->(Tok)
 fB:Nat->(List Stmt)
 fO:Nat->(Obj)
 fV:Nat->(Value)
 fC:Nat->(List Cel)
 fs:Nat->(Scope)
 fp:Nat->(Pos)
 fQ:Nat->(Value->Shared->Prop)
 fm:Nat->(Stmt)
 fv:Nat->(List Value)
 fI:Nat->(Int)
 fW:Nat->(Array Value)
 fa:Nat->(LexA)
 fg:Nat->(Arguments)
 fF:Nat->(Flow->Shared->Prop)
 fx:Nat->(LexS)
 fh:Nat->(Heap)
 fR:Nat->(Around)
 fe:Nat->(Expr)
 fc:Nat->(Cel)
 fE:Nat->(Env)
 fM:Nat->(Str->Option Value)
 fZ:Nat->(Shared)
 fl:Nat->(List Nat)
 fo:Nat->(Option Value)
 fd:Nat->(List (Str×Str×Nat))
 fk:Nat->(Nat->List Cel)
 ft:Nat->(List (Str×Value))
 fr:Nat->(Result->Shared->Prop)
 fu:Nat->(Unit->Shared->Prop)
 fD:Nat->(List DictEntry)
 fi:Nat->(List (Int×Int))
 fX:Nat->(List Expr)
 fj:Nat->(List Int)
 fK:Nat->(TokA)
 fb:Nat->(List (Str×List Cel))
 fy:Nat->(List Str)
 fP:Nat->(Program)
 fG:Nat->(Option (List Code))
noncomputable def frZ:FrZ:=⟨aWorld 1,default,[],fun _=>none,fun _=>none,fun _=>none,0,0,none, "",default,0,.none,[],[],{},{},{},0,fun _=>none,(start (default:Program)).1,fun _ _=>True,fun _=>0,fun _=>0,fun _=>[],fun _=>default,fun _=>0,fun _=>[],fun _=>default,fun _=>default,fun _=>[],fun _=>default,fun _=>default,fun _=>fun _ _=>True,fun _=>default,fun _=>[],fun _=>0,fun _=>#[],fun _=>⟨0,0,0,0,0,0,0,0,0,0,0,0,0,0,0,0,0,0⟩,fun _=>default,fun _=>fun _ _=>True,fun _=>⟨[],[],[],default,0,0,0⟩,fun _=>{},fun _=>{},fun _=>default,fun _=>⟨0,0,0,0,default,0,0,0,0,0,0,0,0,0,0,0⟩,fun _=>default,fun _=>fun _=>none,fun _=>(start (default:Program)).1,fun _=>[],fun _=>none,fun _=>[],fun _=>fun _=>[],fun _=>[],fun _=>fun _ _=>True,fun _=>fun _ _=>True,fun _=>[],fun _=>[],fun _=>[],fun _=>[],fun _=>⟨0,default,default,default,default,default,default,default,default,[],[]⟩,fun _=>[],fun _=>[],fun _=>default,fun _=>none⟩
noncomputable def pickZ (P:FrZ->Prop):FrZ:=@Classical.epsilon FrZ ⟨frZ⟩ (fun x=>¬ P x)
theorem pickedZ {P:FrZ->Prop} {X:FrZ} (e:X=pickZ P) (h:P X) (x:FrZ):P x:=Classical.byContradiction fun hn=>@Classical.epsilon_spec FrZ (fun x=>¬ P x) ⟨x,hn⟩ (show P (pickZ P) from e▸h)
noncomputable def frC (w:World) (p:Program) (loose:List Str) (mean:ExcName->Option Value) (mg:Str->Option Value) (mb:Str->Option Value) (dp:Nat) (un:Nat) (gd:Option (List Code)) (cn:Str) (cs:Scope) (ca:Addr) (ccd:Value) (cll:List (Str×Addr)) (outer:List Env) (A₀:Around) (base:Heap) (h₀:Heap) (L:Addr) (m:Str->Option Value) (s:Shared) (E:Value->Shared->Prop):FrZ:={ frZ with w:=w,p:=p,loose:=loose,mean:=mean,mg:=mg,mb:=mb,dp:=dp,un:=un,gd:=gd,cn:=cn,cs:=cs,ca:=ca,ccd:=ccd,cll:=cll,outer:=outer,A₀:=A₀,base:=base,h₀:=h₀,L:=L,m:=m,s:=s,E:=E }
noncomputable def gL {α:Type} (f:Nat->α) (l:List α):Nat->α:=fun n=>l.getD n (f 0)
noncomputable def sfA (x:FrZ) (l:List (Addr)):FrZ:={ x with fA:=gL x.fA l }
noncomputable def sfN (x:FrZ) (l:List (Nat)):FrZ:={ x with fN:=gL x.fN l }
noncomputable def sfL (x:FrZ) (l:List (List (Addr×Obj))):FrZ:={ x with fL:=gL x.fL l }
noncomputable def sfS (x:FrZ) (l:List (Str)):FrZ:={ x with fS:=gL x.fS l }
noncomputable def sfT (x:FrZ) (l:List (Tok)):FrZ:={ x with fT:=gL x.fT l }
noncomputable def sfB (x:FrZ) (l:List (List Stmt)):FrZ:={ x with fB:=gL x.fB l }
noncomputable def sfO (x:FrZ) (l:List (Obj)):FrZ:={ x with fO:=gL x.fO l }
noncomputable def sfV (x:FrZ) (l:List (Value)):FrZ:={ x with fV:=gL x.fV l }
noncomputable def sfC (x:FrZ) (l:List (List Cel)):FrZ:={ x with fC:=gL x.fC l }
noncomputable def sfs (x:FrZ) (l:List (Scope)):FrZ:={ x with fs:=gL x.fs l }
noncomputable def sfp (x:FrZ) (l:List (Pos)):FrZ:={ x with fp:=gL x.fp l }
noncomputable def sfQ (x:FrZ) (l:List (Value->Shared->Prop)):FrZ:={ x with fQ:=gL x.fQ l }
noncomputable def sfm (x:FrZ) (l:List (Stmt)):FrZ:={ x with fm:=gL x.fm l }
noncomputable def sfv (x:FrZ) (l:List (List Value)):FrZ:={ x with fv:=gL x.fv l }
noncomputable def sfI (x:FrZ) (l:List (Int)):FrZ:={ x with fI:=gL x.fI l }
noncomputable def sfW (x:FrZ) (l:List (Array Value)):FrZ:={ x with fW:=gL x.fW l }
noncomputable def sfa (x:FrZ) (l:List (LexA)):FrZ:={ x with fa:=gL x.fa l }
noncomputable def sfg (x:FrZ) (l:List (Arguments)):FrZ:={ x with fg:=gL x.fg l }
noncomputable def sfF (x:FrZ) (l:List (Flow->Shared->Prop)):FrZ:={ x with fF:=gL x.fF l }
noncomputable def sfx (x:FrZ) (l:List (LexS)):FrZ:={ x with fx:=gL x.fx l }
noncomputable def sfh (x:FrZ) (l:List (Heap)):FrZ:={ x with fh:=gL x.fh l }
noncomputable def sfR (x:FrZ) (l:List (Around)):FrZ:={ x with fR:=gL x.fR l }
noncomputable def sfe (x:FrZ) (l:List (Expr)):FrZ:={ x with fe:=gL x.fe l }
noncomputable def sfc (x:FrZ) (l:List (Cel)):FrZ:={ x with fc:=gL x.fc l }
noncomputable def sfE (x:FrZ) (l:List (Env)):FrZ:={ x with fE:=gL x.fE l }
noncomputable def sfM (x:FrZ) (l:List (Str->Option Value)):FrZ:={ x with fM:=gL x.fM l }
noncomputable def sfZ (x:FrZ) (l:List (Shared)):FrZ:={ x with fZ:=gL x.fZ l }
noncomputable def sfl (x:FrZ) (l:List (List Nat)):FrZ:={ x with fl:=gL x.fl l }
noncomputable def sfo (x:FrZ) (l:List (Option Value)):FrZ:={ x with fo:=gL x.fo l }
noncomputable def sfd (x:FrZ) (l:List (List (Str×Str×Nat))):FrZ:={ x with fd:=gL x.fd l }
noncomputable def sfk (x:FrZ) (l:List (Nat->List Cel)):FrZ:={ x with fk:=gL x.fk l }
noncomputable def sft (x:FrZ) (l:List (List (Str×Value))):FrZ:={ x with ft:=gL x.ft l }
noncomputable def sfr (x:FrZ) (l:List (Result->Shared->Prop)):FrZ:={ x with fr:=gL x.fr l }
noncomputable def sfu (x:FrZ) (l:List (Unit->Shared->Prop)):FrZ:={ x with fu:=gL x.fu l }
noncomputable def sfD (x:FrZ) (l:List (List DictEntry)):FrZ:={ x with fD:=gL x.fD l }
noncomputable def sfi (x:FrZ) (l:List (List (Int×Int))):FrZ:={ x with fi:=gL x.fi l }
noncomputable def sfX (x:FrZ) (l:List (List Expr)):FrZ:={ x with fX:=gL x.fX l }
noncomputable def sfj (x:FrZ) (l:List (List Int)):FrZ:={ x with fj:=gL x.fj l }
noncomputable def sfK (x:FrZ) (l:List (TokA)):FrZ:={ x with fK:=gL x.fK l }
noncomputable def sfb (x:FrZ) (l:List (List (Str×List Cel))):FrZ:={ x with fb:=gL x.fb l }
noncomputable def sfy (x:FrZ) (l:List (List Str)):FrZ:={ x with fy:=gL x.fy l }
noncomputable def sfP (x:FrZ) (l:List (Program)):FrZ:={ x with fP:=gL x.fP l }
noncomputable def sfG (x:FrZ) (l:List (Option (List Code))):FrZ:={ x with fG:=gL x.fG l }
theorem seg0_top {tb:String->Option Builtin} {p:Program} {w:World} {n₀:Nat} {ann:Option Value} (n:Nat):∀ (s:Shared) (t:Thread) {f:Flow} {s':Shared} {c:Code} {q:Pos},segRun tb p w n₀ ann 0 n s t=some (f,s',c,q)->topRun tb p w n₀ ann n s t=some s':=by
 induction n with
 | zero=>intro s t f s' c q h;cases h
 | succ n ih =>
  intro s t f s' c q h
  unfold segRun at h
  unfold topRun
  have key:(∃ x,endAt 0 t=some x/\through t=true)\/(endAt 0 t=none/\through t=false):=by
   obtain ⟨cur,code,pos,stack⟩:=t
   cases stack with
   | nil =>
    cases cur with
    | pure x =>
     cases x with
     | done f=>exact .inl ⟨_,rfl,rfl⟩
     | again c=>exact .inr ⟨rfl,rfl⟩
    | _=>exact .inr ⟨rfl,rfl⟩
   | cons a l=>exact .inr ⟨by cases cur with
    | pure x=>cases x <;> rfl
    | _=>rfl,rfl⟩
  rcases key with ⟨x,he,ht⟩ | ⟨he,ht⟩
  ·rw [he] at h
   cases h
   rw [ht]
  ·rw [he] at h
   rw [ht]
   dsimp only at h ⊢
   cases hk:stepOk n₀ ann t with
   | false=>rw [hk] at h;cases h
   | true =>
    rw [hk] at h
    dsimp only at h ⊢
    cases hs:step (denote tb) p w s t with
    | halt o s₂=>rw [hs] at h;cases h
    | go s₂ t₂=>rw [hs] at h;exact ih s₂ t₂ h
noncomputable def lookKept (p:Program) (H:Heap) (s:Shared):Bool:=staticsOk (importedModules p.main.body) H s.heap&&namesBound p s.heap&&gensDone s&&laidKept H s.heap
theorem nrl_app (lk:Look) (a b:List Stmt):noRoadLSs lk (a++b)=(noRoadLSs lk a&&noRoadLSs lk b):=by
 induction a with
 | nil=>rfl
 | cons s r ih =>
  show (noRoadLS lk s&&noRoadLSs lk (r++b))=((noRoadLS lk s&&noRoadLSs lk r)&&noRoadLSs lk b)
  rw [ih,Bool.and_assoc]
theorem nrl_cut {lk:Look} {l:List Stmt} (n:Nat) (h:noRoadLSs lk (l.take n)=true) (g:noRoadLSs lk (l.drop n)=true):noRoadLSs lk l=true:=by
 rw [<- List.take_append_drop n l,nrl_app,h,g];rfl
noncomputable abbrev pgK:Program:=PySem.Challenge.rw_rk0009_01.row.prog
theorem lk_is:({ strict:=!(importedModules pgK.main.body).all cThrough.contains,foot:=none,bare:=(["vars", "dir", "locals"] : List Str).filter (readsOut pgK pgK.main.body) } : Look)={ strict:=false,foot:=none,bare:=[] }:=by kernel_rfl
theorem nl1:noRoadLSs { strict:=false,foot:=none,bare:=[] } (pgK.main.body.take 12)=true:=by kernel_rfl
theorem nl2:noRoadLSs { strict:=false,foot:=none,bare:=[] } ((pgK.main.body.drop 12).take 6)=true:=by kernel_rfl
theorem nl3:noRoadLSs { strict:=false,foot:=none,bare:=[] } ((pgK.main.body.drop 12).drop 6)=true:=by kernel_rfl
set_option maxHeartbeats 4000000 in
theorem sd1:looksOpen pgK=true:=by
 delta looksOpen
 rw [lk_is,nrl_cut 12 nl1 (nrl_cut 6 nl2 nl3)]
 repeat' (with_reducible refine look_both ?_ ?_)
 all_goals (first | with_reducible rfl | decide +kernel)
set_option maxHeartbeats 4000000 in
theorem sd2:PySem.Challenge.rw_rk0009_01.row.wellSaid=true:=by
 delta OpenRow.wellSaid OpenRow.partSaid
 rw [show looksOpen PySem.Challenge.rw_rk0009_01.row.prog=true from sd1]
 repeat' (with_reducible refine look_both ?_ ?_)
 all_goals decide +kernel
set_option maxHeartbeats 4000000 in
theorem sd3:PySem.Challenge.rw_rk0009_01.wellSaid=true:=by
 delta OpenLaw.wellSaid
 rw [sd2]
 repeat' (with_reducible refine look_both ?_ ?_)
 all_goals decide +kernel
noncomputable def gT (S:SharedT) (a:Addr):Option Obj:=match Nat.blt a S.n with
 | true=>match S.tree.get a with
  | some o=>alive o
  | none=>S.abs.heap.get? a
 | false=>S.abs.heap.get? a
set_option tactic.hygienic true in
theorem gT_is (S:SharedT):S.abs.heap.get?=gT S:=by
 funext a
 unfold gT
 split
 ·rename_i e
  split
  ·rename_i o g
   exact abs_get (Nat.blt_eq.mp e) g
  ·rfl
 ·rfl
theorem left_run {p q:Program} {loose:List Str} {Xt:Shared->Bool} {α:Type} {Yf:Shared->α} {Ya:World->α} {N:Nat} {H₀:Params->Heap} {gs₀:Array GenState} {d₀:Drawn} {k₀:Nat} {m₀:Nat} {ann:Option Value} (M:Nat)
  {T₀:Params->BT} {life:Life}
  (open_:∀ w:World,(fencedOpening treeTable p w N).map (fun s=>(s.heap,s.gens,s.drawn,s.toks))=some (H₀ w.params,gs₀,d₀,k₀))
  (size:∀ w:World,((H₀ w.params).isNs mainGlobals&&gs₀.size==0,(H₀ w.params).objs.size,(H₀ w.params).nsMap mainGlobals "__annotations__")=(true,m₀,ann))
  (tree:∀ P,absHeap (T₀ P) m₀ life=H₀ P) (le:Nat.ble M N=true)
  {β γ:Type} {FA:Shared->β} {FB:Shared->γ} {ga:β} {gb:γ} {YT:SharedT->α}
  (hA:∀ (w:World) (os:OsState),(segRunT treeTable p w m₀ ann 0 M ⟨T₀ w.params,m₀,life,gs₀,d₀,k₀,os⟩ (topStub p)).map (fun r=>(lookKept p (H₀ w.params) r.2.1.abs,FA r.2.1.abs))=some (true,ga))
  (hB:∀ (w:World) (os:OsState),(segRunT treeTable p w m₀ ann 0 M ⟨T₀ w.params,m₀,life,gs₀,d₀,k₀,os⟩ (topStub p)).map (fun r=>FB r.2.1.abs)=some gb)
  (hs:∀ s,FA s=ga->FB s=gb->openSeen q loose (importedModules p.main.body) Xt true s=openGood q loose)
  (hy:∀ S:SharedT,Yf S.abs=YT S)
  (hC:∀ (w:World) (os:OsState),(segRunT treeTable p w m₀ ann 0 M ⟨T₀ w.params,m₀,life,gs₀,d₀,k₀,os⟩ (topStub p)).map (fun r=>YT r.2.1)=some (Ya w)):LeftO p q loose Xt Yf Ya N:=fun w=>by
 obtain ⟨⟨hh,gs,d,k,os⟩,e,e'⟩:=Option.map_eq_some_iff.mp (open_ w)
 obtain ⟨rfl,rfl,rfl,rfl⟩:hh=H₀ w.params/\gs=gs₀/\d=d₀/\k=k₀:=by simpa using e'
 obtain ⟨z1,z2,z3⟩:_/\_/\_:=by simpa only [Prod.mk.injEq] using size w
 obtain ⟨⟨f,S,c,q'⟩,er,el⟩:=Option.map_eq_some_iff.mp (hA w os)
 have l1:=(Prod.mk.inj el).1
 have xB:=hB w os
 have xC:=hC w os
 rw [er] at xB xC
 have l2:=hs _ (Prod.mk.inj el).2 (Option.some.inj xB)
 have l3:=(hy S).trans (Option.some.inj xC)
 have r0:=seg0_top _ _ _ (segRun_of er)
 have ea:SharedT.abs ⟨T₀ w.params,m₀,life,gs,d,k,os⟩=⟨H₀ w.params,gs,d,k,os⟩:=by unfold SharedT.abs;rw [tree]
 rw [ea] at r0
 have r:=topRun_mono (N - M) _ _ _ _ r0
 rw [show M+(N - M)=N by have:=Nat.le_of_ble_eq_true le;omega] at r
 have t:topFrom treeTable p w N ⟨H₀ w.params,gs,d,k,os⟩=some S.abs:=by
  unfold topFrom
  dsimp only
  rw [z1,z2,z3,r]
  show (match lookKept p (H₀ w.params) S.abs with | true=>_ | false=>_)=_
  rw [l1]
 unfold openEnds
 rw [e]
 show (topFrom treeTable p w N _).map _=_
 rw [t]
 exact congrArg some (Prod.ext l2 l3)
noncomputable def treeOf (h:Heap):BT:=(h.objs.toList.foldl (fun (x:BT×Nat) o=>(x.1.ins x.2 o,x.2+1)) (BT.nil,0)).1
noncomputable def viewK:Program:=PySem.W.view PySem.Challenge.rw_rk0009_01.row.toRowW.prog [0,2,3,5,7,9,10,12,14,16,17,18,20,21,22,23,24,25,26,27,28,29,30,31]
noncomputable abbrev looseK:List Str:=[Str.ofString "Token",Str.ofString "SourceLocation",Str.ofString "CToken",Str.ofString "CompilerError",Str.ofString "CLexer"]
theorem left_open:∀ w:World,(fencedOpening treeTable PySem.Challenge.rw_rk0009_01.row.toRowW.prog w 7704).map (fun s=>(s.heap,s.gens,s.drawn,s.toks))=some (boot_heap w.params,Array.mk [],boot_drawn,boot_toks) :=
 boot_open (by kernel_rfl) (by rfl) (by intro s;kernel_rfl)
theorem left_size:∀ w:World,((boot_heap w.params).isNs mainGlobals&&(Array.mk [] : Array GenState).size==0,(boot_heap w.params).objs.size,(boot_heap w.params).nsMap mainGlobals "__annotations__")=(true,11,some (.ref 6)):=by intro w;kernel_rfl
theorem left_tree:∀ P,absHeap (treeOf (boot_heap P)) 11 {}=boot_heap P:=by intro P;kernel_rfl
noncomputable abbrev asK:List Addr:=[2,3,15,17,18,20,21,29,30,32,33,35,36,37,39,40,42,43,44,46,47,48,49,50,60,61,62,64,65,67,68,69,71,72,74,75,76,78,79,80,81,82,83,84,87,90,95,96,98,99,101,102,103,105,106,108,109,110,112,113,115,116,117,118,120,121,123,124,125,126,127,128,129,132,139,140,142,143,145,146,147,149,150,152,153,154,155,156,157,167,169,170,172,173,174,176,177,179,180,181,182,183,184,185,195,197,198,200,201,202,204,205,207,208,209,210,212,213,215,216,217,219,220,222,223,224,226,227,229,230,231,233,234,236,237,238,240,241,243,244,245,247,248,250,251,252,254,255,257,258,259,261,262,264,265,266,268,269,271,272,273,274,275,276,277,280,283,288,289,291,292,294,295,296,298,299,301,302,303,305,306,308,309,310,311,313,314,316,317,318,320,321,323,324,325,327,328,330,331,332,334,335,337,338,339,341,342,344,345,346,348,349,351,352,353,355,356,358,359,360,362,363,365,366,367,369,370,372,373,374,376,377,379,380,381,383,384,386,387,388,389,390,400,402,403,405,406,407,409,410,412,413,414,416,417,419,420,421,423,424,426,427,428,430,431,433,434,435,437,438,440,441,442,444,445,447,448,449,451,452,454,455,456,457,458,459,460,463,465,466,468,469,470,472,473,475,476,477,479,480,482,483,484,486,487,489,490,491,493,494,496,497,498,500,501,503,504,505,507,508,510,511,512,514,515,517,518,519,521,522,524,525,526,528,529,531,532,533,535,536,538,539,540,542,543,545,546,547,550,551,552,555,556]
noncomputable abbrev xtK:Shared->Bool:=fun s=>xlAt viewK [] s&&recOk (RowW.records (OpenRow.toRowW PySem.Challenge.rw_rk0009_01.row)) s
noncomputable def runK (w:World) (os:OsState):=segRunT treeTable PySem.Challenge.rw_rk0009_01.row.toRowW.prog w 11 (some (.ref 6)) 0 3816 ⟨treeOf (boot_heap w.params),11,{},Array.mk [],boot_drawn,boot_toks,os⟩ (topStub PySem.Challenge.rw_rk0009_01.row.toRowW.prog)
noncomputable def faK (s:Shared):=(seen ((recsOf viewK).map (·.name)) (ownsOf viewK) [] { s with gens:=#[] },s.heap.bltView,
 s.heap.keysOk (looseW viewK looseK) ((recsOf viewK).map (·.name)) ((litsOf viewK).map (·.1)) ((clssOf viewK (looseW viewK looseK)).map (·.name))&&s.heap.accountedOkI (importedModules PySem.Challenge.rw_rk0009_01.row.toRowW.prog.main.body)&&s.heap.isNs mainGlobals&&s.heap.isNs builtinsNs&&tablesOk viewK s.heap&&xtK s&&s.gens.size==0)
noncomputable def fbK (s:Shared):=(tabsOk viewK s,pinSeenD viewK (drecsOf viewK) s,plainSeenE viewK (looseW viewK looseK) s,plainSeenD viewK looseK s,wideSeen viewK s,clsSeenW viewK looseK s)
theorem run_a (w:World) (os:OsState):(runK w os).map (fun r=>(lookKept PySem.Challenge.rw_rk0009_01.row.toRowW.prog (boot_heap w.params) r.2.1.abs,faK r.2.1.abs))=some (true,expectedOf viewK,bltViewBooted,true):=by
 delta runK
 rw [Fast.te10110043849684766642,Fast.te14364793385576792824]
 kernel_rfl
theorem run_b (w:World) (os:OsState):(runK w os).map (fun r=>fbK r.2.1.abs)=some (true,pinGoodD (drecsOf viewK),plainGoodE viewK (looseW viewK looseK),plainGoodD viewK looseK,wideGood viewK,clsGoodW viewK looseK):=by
 delta runK
 rw [Fast.te10110043849684766642,Fast.te14364793385576792824]
 kernel_rfl
theorem run_s (s:Shared) (h:faK s=(expectedOf viewK,bltViewBooted,true)) (g:fbK s=(true,pinGoodD (drecsOf viewK),plainGoodE viewK (looseW viewK looseK),plainGoodD viewK looseK,wideGood viewK,clsGoodW viewK looseK)):openSeen viewK looseK (importedModules PySem.Challenge.rw_rk0009_01.row.toRowW.prog.main.body) xtK true s=openGood viewK looseK :=
 Prod.ext (congrArg (·.1) h) (Prod.ext (congrArg (·.2.1) h) (Prod.ext (congrArg (·.2.2) h) g))
local macro_rules | `(tactic| o_law)=>`(tactic| k_extra "o_law")
local macro_rules | `(tactic| o_head $_)=>`(tactic| k_extra "o_head")
example:True:=by (k_with "o_law" => refine holds_law sd3 fun said=>?_);(k_with "o_head" => (refine PySem.W.holds_open (q:=Internal.viewK) (loose:=Internal.looseK) (Xt:=fun s=>xlAt Internal.viewK [] s&&recOk (RowW.records (OpenRow.toRowW PySem.Challenge.rw_rk0009_01.row)) s) (XP:=XL Internal.viewK []) (Yf:=Hook.obs (kmHook Internal.hd.heap_1 Internal.asK (fun _=>by kernel_rfl) [225,548])) (Ya:=Hook.val (kmHook Internal.hd.heap_1 Internal.asK (fun _=>by kernel_rfl) [225,548])) (YP:=Hook.says (kmHook Internal.hd.heap_1 Internal.asK (fun _=>by kernel_rfl) [225,548])) (N:=7704) ?hl (Hook.of (kmHook Internal.hd.heap_1 Internal.asK (fun _=>by kernel_rfl) [225,548])) (Hook.keeps (kmHook Internal.hd.heap_1 Internal.asK (fun _=>by kernel_rfl) [225,548])) (fun s e=>xl_of s (Bool.and_eq_true_iff.mp e).1) XL.keeps (by rfl) (by rfl) (by rfl) (fun s e=>recFacts_of (Bool.and_eq_true_iff.mp e).2) (by rfl) (by first | assumption | exact sd2) (by decide +kernel) ⟨rfl,rfl,rfl,rfl,rfl,by decide +kernel⟩ ?hw ?hc;(case hl=>(refine left_run 3816 left_open left_size left_tree (by rfl) run_a run_b run_s (YT:=fun S=>(Internal.asK.map (gT S),[225,548].map (gT S))) (fun S=>congrArg (fun f=>(Internal.asK.map f,[225,548].map f)) (gT_is S)) ?_;intro w os;rw [Fast.te10110043849684766642,Fast.te14364793385576792824];kernel_rfl))));trivial
set_option maxHeartbeats 8000000 in
open_top hd for PySem.Challenge.rw_rk0009_01
example:(PySem.Challenge.rw_rk0009_01=PySem.Challenge.rw_rk0009_01)->(hd.heap_1=hd.heap_1)->True:=by k_fill;intros;trivial
local macro_rules | `(tactic| k_all)=>`(tactic| k_extra "k_all")
local macro_rules | `(tactic| k_mem)=>`(tactic| k_extra "k_mem")
local macro_rules | `(tactic| ks_enter)=>`(tactic| k_extra "ks_enter")
local macro_rules | `(tactic| kn_enter)=>`(tactic| k_extra "kn_enter")
local macro_rules | `(tactic| k_lt $h)=>`(tactic| (revert $h:ident;k_extra "k_lt";intro $h:ident))
local macro_rules | `(tactic| k_room)=>`(tactic| k_extra "k_room")
local macro_rules | `(tactic| ktr_enter)=>`(tactic| k_extra "ktr_enter")
local macro_rules | `(tactic| k_enter)=>`(tactic| ktr_enter)
local macro_rules | `(tactic| walk_at $s:str)=>`(tactic| k_extra $s)
local macro_rules | `(tactic| omega)=>`(tactic| k_extra "omega")
example:True:=by (k_with "k_all" => (exact lt_ne_all (by assumption) (by omega)));(k_with "k_room" => (((try simp only [depth_mark,depth_under_make,depth_under_kw,depth_in1,depth_deeper,depth_caller]);(try dsimp only [ktrTop]);(have hrl:=rl_is);omega)));(k_with "ktr_enter" => ((refine' code_def ?Y0 ?Y1 ?Y2 ?Y3 ?Y4 ?Y5 ?Y6 ?Y7 ?Y8 ?Y9 ?Y10 ?Y11 ?Y12 ?_ ?Y13 ?Y14 ?Y15 ?Y16;(case Y5=>exact rfl);(case Y6=>exact rfl);(case Y7=>first | exact rfl | assumption);(case Y0=>k_asm);(case Y1=>k_asm);(case Y2=>k_asm);(case Y3=>k_asm);(case Y4=>k_asm);(case Y8=>k_is);(case Y9=>k_is);(case Y10=>k_room);(case Y11=>first | exact BindsTo.of_eq (binds:=[]) rfl | exact BindsTo.of_eq (binds:=[(_,_)]) rfl | exact BindsTo.of_eq (binds:=[(_,_),(_,_)]) rfl | exact BindsTo.of_eq (binds:=[(_,_),(_,_),(_,_)]) rfl | exact BindsTo.of_eq (binds:=[(_,_),(_,_),(_,_),(_,_)]) rfl | exact BindsTo.of_eq (binds:=[(_,_),(_,_),(_,_),(_,_),(_,_)]) rfl | exact BindsTo.of_eq rfl | exact binds_K (by k_in) rfl (by k_is) rfl rfl rfl | fail "enter: no rule for these arguments");(case Y16=>decide);(case Y12=>exact locs rfl);(case Y13=>exact rfl);(case Y14=>exact rfl);(case Y15=>exact rfl);k_whole;intro Y17 Y18 Y19 Y20 Y21 Y22 Y23 Y24 Y25;(try dsimp only);(try k_fold))));(k_with "omega" => (first | with_reducible assumption | exact Nat.ne_of_lt (by with_reducible assumption) | exact Nat.ne_of_gt (by with_reducible assumption) | exact Nat.le_of_lt (by with_reducible assumption) | with_reducible exact Int.natCast_nonneg _ | with_reducible exact Int.ofNat_le.mpr (by with_reducible assumption) | with_reducible exact Int.ofNat_lt.mpr (by with_reducible assumption) | ((with_reducible refine qk9 ?_);rfl) | ((with_reducible refine qn ?_);rfl) | exact rm1 (by with_reducible assumption) rfl | exact rm2 (by with_reducible assumption) rfl | exact rm3 (by with_reducible assumption) (by with_reducible assumption) rfl | exact rm4 (by with_reducible assumption) rfl | ((with_reducible refine qa (by with_reducible assumption) ?_);rfl) | ((with_reducible refine qf (by with_reducible assumption) ?_);rfl) | ((with_reducible refine qb (by with_reducible assumption) ?_);rfl) | ((with_reducible refine qc (by with_reducible assumption) ?_);rfl) | ((with_reducible refine qj (by with_reducible assumption) ?_);rfl) | ((with_reducible refine qg (by with_reducible assumption) ?_);rfl) | ((with_reducible refine qh (by with_reducible assumption) ?_);rfl) | ((with_reducible refine qe (by with_reducible assumption) ?_);rfl) | ((with_reducible refine qr (by with_reducible assumption) ?_);rfl) | ((with_reducible refine ql (by with_reducible assumption) ?_);rfl) | ((with_reducible refine qm (by with_reducible assumption) ?_);rfl) | ((with_reducible refine qo (by with_reducible assumption) ?_);rfl) | ((with_reducible refine qi (by with_reducible assumption) (by with_reducible assumption) ?_);rfl) | ((with_reducible refine qd (by with_reducible assumption) (by with_reducible assumption) ?_);rfl) | with_reducible exact qp (by with_reducible assumption) (by with_reducible assumption) | with_reducible exact qq (by with_reducible assumption) (by with_reducible assumption) | with_reducible exact Int.not_lt.mp (by with_reducible assumption) | with_reducible exact Nat.le_succ_of_le (by with_reducible assumption) | with_reducible exact Nat.lt_succ_of_lt (by with_reducible assumption) | with_reducible exact Nat.lt_asymm (by with_reducible assumption) (by with_reducible assumption) | with_reducible exact Nat.succ_le_succ (by with_reducible assumption) | exact Nat.lt_trans (by with_reducible assumption) (by with_reducible assumption) | exact Nat.ne_of_lt (Nat.lt_trans (by with_reducible assumption) (by with_reducible assumption)) | exact Nat.ne_of_gt (Nat.lt_trans (by with_reducible assumption) (by with_reducible assumption)) | exact Nat.le_of_lt (Nat.lt_trans (by with_reducible assumption) (by with_reducible assumption)) | exact Nat.lt_trans (by with_reducible assumption) (Nat.lt_trans (by with_reducible assumption) (by with_reducible assumption)) | exact Nat.ne_of_lt (Nat.lt_trans (by with_reducible assumption) (Nat.lt_trans (by with_reducible assumption) (by with_reducible assumption))) | exact Nat.ne_of_gt (Nat.lt_trans (by with_reducible assumption) (Nat.lt_trans (by with_reducible assumption) (by with_reducible assumption))) | exact Nat.le_of_lt (Nat.lt_trans (by with_reducible assumption) (Nat.lt_trans (by with_reducible assumption) (by with_reducible assumption))) | exact Nat.lt_trans (by with_reducible assumption) (Nat.lt_trans (by with_reducible assumption) (Nat.lt_trans (by with_reducible assumption) (by with_reducible assumption))) | exact Nat.ne_of_lt (Nat.lt_trans (by with_reducible assumption) (Nat.lt_trans (by with_reducible assumption) (Nat.lt_trans (by with_reducible assumption) (by with_reducible assumption)))) | exact Nat.ne_of_gt (Nat.lt_trans (by with_reducible assumption) (Nat.lt_trans (by with_reducible assumption) (Nat.lt_trans (by with_reducible assumption) (by with_reducible assumption)))) | exact Nat.le_of_lt (Nat.lt_trans (by with_reducible assumption) (Nat.lt_trans (by with_reducible assumption) (Nat.lt_trans (by with_reducible assumption) (by with_reducible assumption)))) | exact Nat.lt_trans (by with_reducible assumption) (Nat.lt_trans (by with_reducible assumption) (Nat.lt_trans (by with_reducible assumption) (Nat.lt_trans (by with_reducible assumption) (by with_reducible assumption)))) | exact Nat.ne_of_lt (Nat.lt_trans (by with_reducible assumption) (Nat.lt_trans (by with_reducible assumption) (Nat.lt_trans (by with_reducible assumption) (Nat.lt_trans (by with_reducible assumption) (by with_reducible assumption))))) | exact Nat.ne_of_gt (Nat.lt_trans (by with_reducible assumption) (Nat.lt_trans (by with_reducible assumption) (Nat.lt_trans (by with_reducible assumption) (Nat.lt_trans (by with_reducible assumption) (by with_reducible assumption))))) | exact Nat.le_of_lt (Nat.lt_trans (by with_reducible assumption) (Nat.lt_trans (by with_reducible assumption) (Nat.lt_trans (by with_reducible assumption) (Nat.lt_trans (by with_reducible assumption) (by with_reducible assumption))))) | (refine Nat.lt_of_not_le fun hN=>?_;lia -abstractProof) | (refine Nat.le_of_not_lt fun hN=>?_;lia -abstractProof) | lia -abstractProof | omega (splitDisjunctions:=true)));(k_with "execs cons" => ((k_here;(with_reducible refine execs_consT ?_);intro Y0;(try dsimp only))));(k_with "k_lt" => (first | (refine fun zh=>al14 zh ?_;clear zh;intro Y0 Y1 Y2 Y3 Y4 Y5 Y6 Y7 Y8 Y9 Y10 Y11 Y12 Y13) | (refine fun zh=>al12 zh ?_;clear zh;intro Y0 Y1 Y2 Y3 Y4 Y5 Y6 Y7 Y8 Y9 Y10 Y11) | (refine fun zh=>al11 zh ?_;clear zh;intro Y0 Y1 Y2 Y3 Y4 Y5 Y6 Y7 Y8 Y9 Y10) | (refine fun zh=>al9 zh ?_;clear zh;intro Y0 Y1 Y2 Y3 Y4 Y5 Y6 Y7 Y8) | (refine fun zh=>al7 zh ?_;clear zh;intro Y0 Y1 Y2 Y3 Y4 Y5 Y6) | (refine fun zh=>al6 zh ?_;clear zh;intro Y0 Y1 Y2 Y3 Y4 Y5) | (refine fun zh=>al5 zh ?_;clear zh;intro Y0 Y1 Y2 Y3 Y4) | (refine fun zh=>al4 zh ?_;clear zh;intro Y0 Y1 Y2 Y3) | (refine fun zh=>al3 zh ?_;clear zh;intro Y0 Y1 Y2) | (refine fun zh=>al2 zh ?_;clear zh;intro Y0 Y1) | (refine fun zh=>al1 zh ?_;clear zh;intro Y0) | (refine fun zh=>?_;replace zh:=ltN zh;revert zh)));trivial
open PySem.Challenge
variable {w:World} {p:Program} {loose:List Str} {mean:ExcName->Option Value} {mg:Str->Option Value} {mb:Str->Option Value} {dp:Nat} {un:Nat} {gd:Option (List Code)} {cn:Str} {cs:Scope} {ca:Addr} {ccd:Value} {cll:List (Str×Addr)} {outer:List Env} {A₀:Around} {base:Heap} {h₀:Heap} {L:Addr} {m:Str->Option Value} {s:Shared}
theorem NgM01.gM01:True:=trivial
example:True:=by w_top off;trivial
section
open NgM01
noncomputable abbrev lexDict (a:LexA):List DictEntry:=[⟨a.h1,.str "token_buffer" a.t1,.ref a.tb⟩,⟨a.h2,.str "pushed_back" a.t2,.ref a.pb⟩,⟨a.h3,.str "current_text" a.t3,.ref a.ct⟩,⟨a.h4,.str "coptions" a.t4,.ref a.co⟩,⟨a.h5,.str "characters" a.t5,.ref a.it⟩]
noncomputable abbrev lexLed (a:LexA) (st:LexS) (rest:List (Addr×Obj)):List (Addr×Obj) :=
 (a.lx,instObj 390 a.dx)::(a.dx,dictOf (lexDict a) a.dn)::(a.tb,listOf st.tb.toArray st.tn)::(a.pb,listOf st.pb.toArray st.pn)::(a.ct,listOf st.ct.toArray st.cn)::(a.it,st.io)::rest
noncomputable def LexD (a:LexA) (rest:List (Addr×Obj)):Prop:=(a.lx::a.dx::a.tb::a.pb::a.ct::a.it::rest.map (·.1)).Nodup
theorem nd_ne {x:Addr} {l:List (Addr×Obj)} (h:x∉l.map (·.1)):∀ p∈l,p.1≠x:=fun p hp e=>h (List.mem_map.mpr ⟨p,hp,e⟩)
theorem lexD_pb {a:LexA} {st:LexS} {rest:List (Addr×Obj)} {o o':Obj} (D:LexD a rest):Upd a.pb o o' ((a.lx,instObj 390 a.dx)::(a.dx,dictOf (lexDict a) a.dn)::(a.tb,listOf st.tb.toArray st.tn)::(a.pb,o)::(a.ct,listOf st.ct.toArray st.cn)::(a.it,st.io)::rest)
 ((a.lx,instObj 390 a.dx)::(a.dx,dictOf (lexDict a) a.dn)::(a.tb,listOf st.tb.toArray st.tn)::(a.pb,o')::(a.ct,listOf st.ct.toArray st.cn)::(a.it,st.io)::rest):=by
 have D1:=List.nodup_cons.mp D
 have D2:=List.nodup_cons.mp D1.2
 have D3:=List.nodup_cons.mp D2.2
 have D4:=List.nodup_cons.mp D3.2
 exact (.tail (fun e=>D1.1 (e▸(.tail _ (.tail _ (.head _))))) (.tail (fun e=>D2.1 (e▸(.tail _ (.head _)))) (.tail (fun e=>D3.1 (e▸(.head _))) (.head (nd_ne D4.1)))))
theorem lexD_ct {a:LexA} {st:LexS} {rest:List (Addr×Obj)} {o o':Obj} (D:LexD a rest):Upd a.ct o o' ((a.lx,instObj 390 a.dx)::(a.dx,dictOf (lexDict a) a.dn)::(a.tb,listOf st.tb.toArray st.tn)::(a.pb,listOf st.pb.toArray st.pn)::(a.ct,o)::(a.it,st.io)::rest)
 ((a.lx,instObj 390 a.dx)::(a.dx,dictOf (lexDict a) a.dn)::(a.tb,listOf st.tb.toArray st.tn)::(a.pb,listOf st.pb.toArray st.pn)::(a.ct,o')::(a.it,st.io)::rest):=by
 have D1:=List.nodup_cons.mp D
 have D2:=List.nodup_cons.mp D1.2
 have D3:=List.nodup_cons.mp D2.2
 have D4:=List.nodup_cons.mp D3.2
 have D5:=List.nodup_cons.mp D4.2
 exact (.tail (fun e=>D1.1 (e▸(.tail _ (.tail _ (.tail _ (.head _)))))) (.tail (fun e=>D2.1 (e▸(.tail _ (.tail _ (.head _))))) (.tail (fun e=>D3.1 (e▸(.tail _ (.head _)))) (.tail (fun e=>D4.1 (e▸(.head _))) (.head (nd_ne D5.1))))))
theorem lexD_tb {a:LexA} {st:LexS} {rest:List (Addr×Obj)} {o o':Obj} (D:LexD a rest):Upd a.tb o o' ((a.lx,instObj 390 a.dx)::(a.dx,dictOf (lexDict a) a.dn)::(a.tb,o)::(a.pb,listOf st.pb.toArray st.pn)::(a.ct,listOf st.ct.toArray st.cn)::(a.it,st.io)::rest)
 ((a.lx,instObj 390 a.dx)::(a.dx,dictOf (lexDict a) a.dn)::(a.tb,o')::(a.pb,listOf st.pb.toArray st.pn)::(a.ct,listOf st.ct.toArray st.cn)::(a.it,st.io)::rest):=by
 have D1:=List.nodup_cons.mp D
 have D2:=List.nodup_cons.mp D1.2
 have D3:=List.nodup_cons.mp D2.2
 exact (.tail (fun e=>D1.1 (e▸(.tail _ (.head _)))) (.tail (fun e=>D2.1 (e▸(.head _))) (.head (nd_ne D3.1))))
theorem lexD_it {a:LexA} {st:LexS} {rest:List (Addr×Obj)} (D:LexD a rest):UpdF a.it st.io (lexLed a st rest) (fun o'=>lexLed a { st with io:=o' } rest):=by
 have D1:=List.nodup_cons.mp D
 have D2:=List.nodup_cons.mp D1.2
 have D3:=List.nodup_cons.mp D2.2
 have D4:=List.nodup_cons.mp D3.2
 have D5:=List.nodup_cons.mp D4.2
 have D6:=List.nodup_cons.mp D5.2
 exact (.tail (fun e=>D1.1 (e▸(.tail _ (.tail _ (.tail _ (.tail _ (.head _))))))) (.tail (fun e=>D2.1 (e▸(.tail _ (.tail _ (.tail _ (.head _)))))) (.tail (fun e=>D3.1 (e▸(.tail _ (.tail _ (.head _))))) (.tail (fun e=>D4.1 (e▸(.tail _ (.head _)))) (.tail (fun e=>D5.1 (e▸(.head _))) (.head (nd_ne D6.1)))))))
section
variable {prog:Program} {A:Around} {E:Value->Shared->Prop} {h:Heap} {a:LexA} {st:LexS} {rest:List (Addr×Obj)}
theorem lx_truth {D:Addr} {its:List Value} {n:Nat} {news:List (Addr×Obj)} {Q:Bool->Shared->Prop} (N:News h₀ L s.heap news) (hm:(D,listOf its.toArray n)∈news) (hz:its.length≤1000000)
  (h:∀ tk,Q (!its.isEmpty) { s with toks:=tk }):wpAny (model prog w) A (truthy (.ref D)) Q E s :=
 wpAny_truthy_list (items:=its.toArray) ⟨_,(N _ hm).1,rfl,_,rfl⟩ (by simp only [List.size_toArray];omega) (by simp only [List.isEmpty_toArray];exact h _)
theorem lx_pop0 {c:Value} {r:List Value} {u:Tok} {Q:Value->Shared->Prop} (D:LexD a rest) (F:Fr h₀ L s.heap m) (N:News h₀ L s.heap (lexLed a st rest)) (e:st.pb=c::r) (hz:st.pb.length≤1000000)
  (h:∀ h' k,Fr h₀ L h' m->News h₀ L h' (lexLed a { st with pb:=r,pn:=k } rest)->Q c { s with heap:=h' }):wpAny (model prog w) A (call (.builtin "list.pop") [.ref a.pb,.int 0 u]) Q E s:=by
 refine kl_popAt (its:=st.pb.toArray) (n:=st.pn) (k:=0) (p:=[]) (q:=r) (y:=c) F N (by rfl) (by rw [e];simp [seqIndex?]) (by rw [e];rfl) (lexD_pb D) (by rw [sizeLine_eq];simp;omega) fun h' F' N'=>?_
 exact h h' _ F' N'
theorem lx_append {c:Value} {Q:Value->Shared->Prop} (D:LexD a rest) (F:Fr h₀ L s.heap m) (N:News h₀ L s.heap (lexLed a st rest)) (hz:st.ct.length≤1000000)
  (h:∀ h' k,Fr h₀ L h' m->News h₀ L h' (lexLed a { st with ct:=st.ct++[c],cn:=k } rest)->Q .none { s with heap:=h' }):wpAny (model prog w) A (call (.builtin "list.append") [.ref a.ct,c]) Q E s:=by
 refine append_K (its:=st.ct.toArray) (n:=st.cn) F N (lexD_ct D) (fun h' F' N'=>?_) (by rw [sizeLine_eq];simp;omega)
 rw [List.push_toArray] at N'
 exact h h' _ F' N'
noncomputable def IoAt (o:Obj) (cl:Addr) (i:Nat):Prop:=o.cls=.type "list_iterator" /\ o.data=.fields #[.ref cl,.int i 0]
noncomputable def IoEnd (o:Obj):Prop:=o.cls=.type "list_iterator" /\ ∃ i:Nat,o.data=.fields #[.none,.int i 0]
theorem entry_nx:entryFor table "next" = some Builtin.«next»:=entryFor_of_fast (by kernel_rfl)
theorem args_nx (a b:Value):argsOk "next" ⟨[a,b],[]⟩:=by unfold argsOk;kernel_rfl
theorem stop_none {α:Type} {s:Shared} {A:Around} {Q:Shared->Prop} (hh:A.handled=none)
  (hQ:∀ h',(∀ b o,s.heap.get? b=some o->h'.get? b=some o)->Q { s with heap:=h' }) :
  wpAny (model prog w) A (Builtin.SmallTypes.stopIteration:Sem α) (fun _ _=>False) (fun e s'=>s'.TypeIs e "StopIteration" /\ Q s') s:=by
 unfold Builtin.SmallTypes.stopIteration
 refine wpAny_bind ?_
 simp only [newExc,newTuple]
 refine wpAny_bind (wpAny_newObj_type ?_ (by size_fits))
 refine wpAny_bind (m:=firstArgMember _ _) (wpAny_of_eq (a:=Value.none) (by first | rfl | (simp only [firstArgMember];rfl)) ?_)
 refine wpAny_newObj_type ?_ (by size_fits)
 simp only [raiseNew]
 refine wpAny_bind (wpAny_handled ?_)
 rw [hh]
 refine wpAny_bind (wpAny_pure (wpAny_throw ?_))
 exact ⟨⟨_,Heap.get?_push_size _ rfl,rfl⟩,hQ _ fun b o e=>Heap.get?_push_of_some _ (Heap.get?_push_of_some _ e)⟩
theorem pyNext_done {it:Addr} {o:Obj} {s:Shared} {A:Around} {Q:Option Value->Shared->Prop} (hh:A.handled=none) (ho:s.heap.get? it=some o) (hi:IoEnd o)
  (hQ:∀ h',(∀ b o,s.heap.get? b=some o->h'.get? b=some o)->Q none { s with heap:=h' }):wpAny (model prog w) A (pyNext (.ref it)) Q E s:=by
 obtain ⟨hc,i,hd⟩:=hi
 have hT:s.TypeIs (.ref it) "list_iterator" := (show ∃ o,s.heap.get? it=some o/\o.cls=.type "list_iterator" from ⟨_,ho,hc⟩)
 unfold pyNext
 refine wpAny_bind (wpAny_attempt (wpAny_callSpecial?_slot (name:=Str.ofString "__next__") hT slot_listiter_next
  (wpAny_call_entry slot_listiter_next hT entry_listiter_next ?_ (args_listiter_next _))))
 show wpAny _ _ (field (.ref it) 0 >>= _) _ _ s
 refine wpAny_bind (wpAny_field ho hd (x:=.none) rfl ?_)
 show wpAny _ _ (if (Value.none==Value.none)=true then _ else _) _ _ s
 rw [if_pos (show (Value.none==Value.none)=true from rfl)]
 refine wpAny_bind (wpAny_rule (wpAny_bind (wpAny_mono (stop_none (A:=A.in1) (Q:=Q none) hh hQ) (fun _ _ x=>False.elim x) fun e s' x=>?_)))
 exact wpAny_bind (wpAny_isInstance (T := "StopIteration") (b:=true) x.1 isSubtype_stop (wpAny_pure x.2))
theorem pyNext_end {it cl:Addr} {o ol:Obj} {i nl:Nat} {items:Array Value} {s:Shared} {A:Around} {Q:Option Value->Shared->Prop} (hh:A.handled=none) (ho:s.heap.get? it=some o) (hi:IoAt o cl i)
  (hol:s.heap.get? cl=some ol) (hdl:ol.data=.seq items nl) (hx:items[i]?=none)
  (hQ:∀ h' o',h'.get? it=some o'->IoEnd o'->(∀ b o,b≠it->s.heap.get? b=some o->h'.get? b=some o)->Q none { s with heap:=h' }):wpAny (model prog w) A (pyNext (.ref it)) Q E s:=by
 refine e0a2 hi fun hc hd=>?_;clear hi
 have hT:s.TypeIs (.ref it) "list_iterator" := (show ∃ o,s.heap.get? it=some o/\o.cls=.type "list_iterator" from ⟨_,ho,hc⟩)
 unfold pyNext
 refine wpAny_bind (wpAny_attempt (wpAny_callSpecial?_slot (name:=Str.ofString "__next__") hT slot_listiter_next
  (wpAny_call_entry slot_listiter_next hT entry_listiter_next ?_ (args_listiter_next _))))
 show wpAny _ _ (field (.ref it) 0 >>= _) _ _ s
 refine wpAny_bind (wpAny_field ho hd (x:=.ref cl) rfl ?_)
 show wpAny _ _ (if (Value.ref cl==Value.none)=true then _ else _) _ _ s
 rw [if_neg (show ¬ ((Value.ref cl==Value.none)=true) from Bool.false_ne_true)]
 show wpAny _ _ (field (.ref it) 1 >>= _) _ _ s
 refine wpAny_bind (wpAny_field ho hd (x:=.int i 0) rfl ?_)
 show wpAny _ _ (seqItems? (.ref cl) >>= _) _ _ s
 refine wpAny_bind (wpAny_seqItems hol hdl ?_)
 simp only [Int.toNat_natCast,hx]
 refine wpAny_bind (wpAny_rule (wpAny_bind (wpAny_setField ho hd (by simp) ?_)))
 refine wpAny_mono (stop_none (A:=A.in1) (Q:=Q none) hh fun h' k=>?_) (fun _ _ x=>False.elim x) fun e s' x=>?_
 ·refine hQ h' _ (k _ _ (Heap.get?_update_self _ ho (Obj.isFreed_of_fields (Obj.data_mapFields hd _)))) ⟨(Obj.cls_mapFields ..).trans hc,i,by rw [Obj.data_mapFields hd];simp⟩ fun b o' hb e=>k _ _ ?_
  exact (Heap.get?_update_other _ _ (Ne.symm hb)).trans e
 ·exact wpAny_bind (wpAny_isInstance (T := "StopIteration") (b:=true) x.1 isSubtype_stop (wpAny_pure x.2))
theorem next_open {it:Addr} {d:Value} {s:Shared} {A:Around} {Q:Value->Shared->Prop} (hT:s.TypeIs (.ref it) "list_iterator")
  (h:wpAny (model prog w) A.in1 (pyNext (.ref it)) (fun r s'=>Q (r.getD d) s') E s):wpAny (model prog w) A (call (.builtin "next") [.ref it,d]) Q E s:=by
 refine call_function_entry (by decide +kernel) (by decide +kernel) entry_nx (args_nx _ _) ?_
 unfold Builtin.«next»
 refine wpAny_bind (m:=someArgs "next" 1 2 _) (wpAny_of_eq (a:=[Value.ref it,d]) (by first | rfl | kernel_rfl!) ?_)
 dsimp only
 refine wpAny_bind (wpAny_specialOf (name:=Str.ofString "__next__") hT slot_listiter_next.lookup ?_)
 refine wpAny_ite_split (fun hab=>absurd hab (by decide)) (fun _=>?_)
 exact wpAny_bind (wpAny_mono h (fun r s' hr=>wpAny_pure ⟨_,rfl,hr⟩) fun _ _ e=>e)
theorem news_ext {D:Addr} {o o':Obj} {pre post:List (Addr×Obj)} {h h':Heap} (N:News h₀ L h (pre++(D,o)::post)) (p1:∀ p∈pre,p.1≠D) (p2:∀ p∈post,p.1≠D)
  (ho:h'.get? D=some o') (k:∀ b o,b≠D->h.get? b=some o->h'.get? b=some o):News h₀ L h' (pre++(D,o')::post):=by
 intro p hp
 rcases List.mem_append.mp hp with hp | hp
 ·have z:=N p (List.mem_append_left _ hp)
  exact ⟨k _ _ (p1 p hp) z.1,z.2⟩
 ·rcases List.mem_cons.mp hp with rfl | hp
  ·exact ⟨ho,(N (D,o) (List.mem_append_right _ (.head _))).2⟩
  ·have z:=N p (List.mem_append_right _ (.tail _ hp))
   exact ⟨k _ _ (p2 p hp) z.1,z.2⟩
theorem fr_ext {D:Addr} {h h':Heap} (F:Fr h₀ L h m) (hL:D≠L) (hn:h₀.get? D=none) (k:∀ b o,b≠D->h.get? b=some o->h'.get? b=some o):Fr h₀ L h' m:=by
 refine e3a2 F.ns fun oL a1 a2 hoL a3=>?_
 refine ⟨⟨oL,a1,a2,k _ _ hL.symm hoL,a3⟩,fun b x e=>k _ _ ?_ (F.keep b x e),F.above⟩
 rintro rfl
 rw [hn] at e
 cases e
theorem lx_next_item {x d:Value} {cl:Addr} {i ep:Nat} {chars:List Value} {A:Around} {Q:Value->Shared->Prop} (D:LexD a rest) (F:Fr h₀ L s.heap m) (N:News h₀ L s.heap (lexLed a st rest)) (e:IoAt st.io cl i)
  (hc:(cl,listOf chars.toArray ep)∈rest) (hx:chars[i]?=some x)
  (h:∀ h' o',IoAt o' cl (i+1)->Fr h₀ L h' m->News h₀ L h' (lexLed a { st with io:=o' } rest)->Q x { s with heap:=h' }):wpAny (model prog w) A (call (.builtin "next") [.ref a.it,d]) Q E s:=by
 refine e2a4 ((lexD_it (st:=st) D).split) fun pre post hl hg p1 p2=>?_
 have hm:=N (a.it,st.io) (by rw [hl];exact List.mem_append_right _ (.head _))
 have hcm:=(N (cl,listOf chars.toArray ep) (List.mem_append_right [_,_,_,_,_,_] hc)).1
 refine next_open ⟨_,hm.1,e.1⟩ ?_
 refine wpAny_pyNext_list_item (l:=cl) (i:=i) (items:=chars.toArray) ⟨_,hm.1,e.1,e.2⟩ ⟨_,hcm,rfl,ep,rfl⟩ (by simpa using hx) fun h' hit hs=>?_
 refine e1a3 hit fun o ho hoc hod=>?_;clear hit
 refine h h' o ⟨hoc,hod⟩ (F.change hs hm.2.1 hm.2.2) ?_
 rw [hg]
 rw [hl] at N
 exact news_ext N p1 p2 ho fun b ob hb q=>(hs.2 b hb).trans q
theorem lx_next_end {d:Value} {cl:Addr} {i ep:Nat} {chars:List Value} {A:Around} {Q:Value->Shared->Prop} (hh:A.handled=none) (D:LexD a rest) (F:Fr h₀ L s.heap m) (N:News h₀ L s.heap (lexLed a st rest)) (e:IoAt st.io cl i)
  (hc:(cl,listOf chars.toArray ep)∈rest) (hx:chars[i]?=none)
  (h:∀ h' o',IoEnd o'->Fr h₀ L h' m->News h₀ L h' (lexLed a { st with io:=o' } rest)->Q d { s with heap:=h' }):wpAny (model prog w) A (call (.builtin "next") [.ref a.it,d]) Q E s:=by
 refine e2a4 ((lexD_it (st:=st) D).split) fun pre post hl hg p1 p2=>?_
 have hm:=N (a.it,st.io) (by rw [hl];exact List.mem_append_right _ (.head _))
 have hcm:=(N (cl,listOf chars.toArray ep) (List.mem_append_right [_,_,_,_,_,_] hc)).1
 refine next_open ⟨_,hm.1,e.1⟩ ?_
 refine pyNext_end (A:=A.in1) hh hm.1 e hcm rfl (by simpa using hx) fun h' o' ho' hi k=>?_
 refine h h' o' hi (fr_ext F hm.2.1 hm.2.2 k) ?_
 rw [hg]
 rw [hl] at N
 exact news_ext N p1 p2 ho' k
theorem lx_next_done {d:Value} {A:Around} {Q:Value->Shared->Prop} (hh:A.handled=none) (F:Fr h₀ L s.heap m) (N:News h₀ L s.heap (lexLed a st rest)) (e:IoEnd st.io)
  (h:∀ h',Fr h₀ L h' m->News h₀ L h' (lexLed a st rest)->Q d { s with heap:=h' }):wpAny (model prog w) A (call (.builtin "next") [.ref a.it,d]) Q E s:=by
 have hm:=N (a.it,st.io) (.tail _ (.tail _ (.tail _ (.tail _ (.tail _ (.head _))))))
 refine next_open ⟨_,hm.1,e.1⟩ ?_
 exact pyNext_done (A:=A.in1) hh hm.1 e fun h' k=>h h' (F.keeps k) (N.grown k)
theorem lx_truth_cons {D:Addr} {c:Value} {its:List Value} {n:Nat} {news:List (Addr×Obj)} {Q:Bool->Shared->Prop} (N:News h₀ L s.heap news) (hm:(D,listOf (c::its).toArray n)∈news) (hz:(c::its).length≤1000000)
  (h:∀ tk,Q true { s with toks:=tk }):wpAny (model prog w) A (truthy (.ref D)) Q E s:=lx_truth N hm hz h
theorem lx_truth_nil {D:Addr} {n:Nat} {news:List (Addr×Obj)} {Q:Bool->Shared->Prop} (N:News h₀ L s.heap news) (hm:(D,listOf ([] : List Value).toArray n)∈news)
  (h:∀ tk,Q false { s with toks:=tk }):wpAny (model prog w) A (truthy (.ref D)) Q E s:=lx_truth (its:=[]) N hm (by decide) h
theorem lx_popLast {c:Value} {r:List Value} {u:Tok} {Q:Value->Shared->Prop} (D:LexD a rest) (F:Fr h₀ L s.heap m) (N:News h₀ L s.heap (lexLed a st rest)) (e:st.ct=r++[c]) (hz:st.ct.length≤1000000)
  (h:∀ h' k,Fr h₀ L h' m->News h₀ L h' (lexLed a { st with ct:=r,cn:=k } rest)->Q c { s with heap:=h' }):wpAny (model prog w) A (call (.builtin "list.pop") [.ref a.ct,.int (-1) u]) Q E s:=by
 have hcut:∀ (r:List Value) (c:Value),kl_cut (r++[c]) r.length=some (r,c,[]):=by
  intro r c
  induction r with
  | nil=>rfl
  | cons x r ih=>simp only [List.cons_append,List.length_cons,kl_cut,ih]
 refine kl_popAt (its:=st.ct.toArray) (n:=st.cn) (k:=r.length) (p:=r) (q:=[]) (y:=c) F N (by rfl) (by rw [e];simp [seqIndex?];omega) (by rw [e];exact hcut r c) (by rw [List.append_nil];exact lexD_ct D) (by rw [sizeLine_eq];simp;omega) fun h' F' N'=>?_
 exact h h' _ F' N'
theorem lx_insert0 {c:Value} {u:Tok} {Q:Value->Shared->Prop} (D:LexD a rest) (F:Fr h₀ L s.heap m) (N:News h₀ L s.heap (lexLed a st rest)) (hz:st.pb.length≤1000000)
  (h:∀ h' k,Fr h₀ L h' m->News h₀ L h' (lexLed a { st with pb:=c::st.pb,pn:=k } rest)->Q .none { s with heap:=h' }):wpAny (model prog w) A (call (.builtin "list.insert") [.ref a.pb,.int 0 u,c]) Q E s:=by
 refine kl_insert (its:=st.pb.toArray) (n:=st.pn) (l:=c::st.pb) F N (by rfl) (by simp [kl_ins]) (lexD_pb D) (by rw [sizeLine_eq];simp;omega) fun h' F' N'=>?_
 exact h h' _ F' N'
end
noncomputable abbrev Cel.ref (x:Cel):Value:=.ref x.c
noncomputable abbrev celDict (x:Cel):List DictEntry:=[⟨x.h1,.str "char" x.t1,.str x.x x.tx⟩,⟨x.h2,.str "loc" x.t2,.ref x.lc⟩]
noncomputable abbrev locObj (x:Cel):Obj:={ cls:=.ref 79,dict:=some x.ld,slots:=#[some (.int x.col x.u1),some (.str "t.c" x.u2),some (.int 1 x.u3),some (.int x.row x.u4),some .none] }
noncomputable def CelIn (rest:List (Addr×Obj)) (x:Cel):Prop:=(x.c,instObj 183 x.dc)∈rest/\(x.dc,dictOf (celDict x) 2)∈rest/\(x.lc,locObj x)∈rest/\(x.ld,dictOf [] 0)∈rest
noncomputable def StrOf (chars:List Cel) (cl:Addr) (st:LexS) (str:List Cel):Prop :=
 ∃ p q,str=p++q/\st.pb=p.map Cel.ref/\((∃ i,IoAt st.io cl i/\chars.drop i=q)\/(IoEnd st.io/\q=[]))
theorem StrOf.pb_le {chars:List Cel} {cl:Addr} {st:LexS} {str:List Cel} (S:StrOf chars cl st str):st.pb.length≤str.length:=by
 refine e2a3 S fun p q h1 h2 _=>?_;clear S
 rw [h1,h2,List.length_map,List.length_append]
 omega
structure LexR (a:LexA) (chars:List Cel) (cl:Addr) (rest:List (Addr×Obj)):Prop where
 D:LexD a rest
 cl:∃ ep,(cl,listOf (chars.map Cel.ref).toArray ep)∈rest
 cel:∀ x∈chars,CelIn rest x
 sz:chars.length≤1000
example:True:=by (k_with "M01" => (fail_if_success (fail_if_success (have:=gM01))));(k_with "k_mem" => k_extra "M01";assumption);(k_with "truthy ref" => k_extra "M01";(k_here;k_dflt (first | (refine' lx_truth_cons ?Y0 ?Y1 ?Y2 ?_;(case Y0=>k_asm);(case Y1=>k_mem);(case Y2=>first | assumption | omega);k_whole;intro Y3) | (refine' lx_truth_nil ?Y0 ?Y1 ?_;(case Y0=>k_asm);(case Y1=>k_mem);k_whole;intro Y3))));(k_with "call builtin:list.pop" => k_extra "M01";(k_here;k_dflt (refine' lx_popLast ?Y0 ?Y1 ?Y2 ?Y3 ?Y4 ?_;(case Y0=>assumption);(case Y1=>k_asm);(case Y2=>k_asm);(case Y3=>first | assumption | rfl);(case Y4=>(first | assumption | omega | exact Nat.le_trans (StrOf.pb_le (by assumption)) (by (try simp only [List.length_cons]);omega) | (simp only [*,List.length_append,List.length_cons,List.length_nil,List.length_map];omega)));k_whole;intro Y5 Y6 Y7 Y8)));(k_with "call builtin:list.insert" => k_extra "M01";(k_here;k_dflt (refine' lx_insert0 ?Y0 ?Y1 ?Y2 ?Y3 ?_;(case Y0=>assumption);(case Y1=>k_asm);(case Y2=>k_asm);(case Y3=>(first | assumption | omega | exact Nat.le_trans (StrOf.pb_le (by assumption)) (by (try simp only [List.length_cons]);omega) | (simp only [*,List.length_append,List.length_cons,List.length_nil,List.length_map];omega)));k_whole;intro Y4 Y5 Y6 Y7)));(k_with "call builtin:list.pop" => k_extra "M01";(k_here;k_dflt (refine' lx_pop0 ?Y0 ?Y1 ?Y2 ?Y3 ?Y4 ?_;(case Y0=>assumption);(case Y1=>k_asm);(case Y2=>k_asm);(case Y3=>rfl);(case Y4=>first | assumption | omega);k_whole;intro Y5 Y6 Y7 Y8)));(k_with "call builtin:list.append" => k_extra "M01";(k_here;k_dflt (refine' lx_append ?Y0 ?Y1 ?Y2 ?Y3 ?_;(case Y0=>assumption);(case Y1=>k_asm);(case Y2=>k_asm);(case Y3=>first | assumption | omega);k_whole;intro Y4 Y5 Y6 Y7)));trivial
structure Cx (k:Nat) (w:World) (p:Program) (loose:List Str) (mean:ExcName->Option Value) (mg mb:Str->Option Value) (dp un:Nat) (cs:Scope) (outer:List Env) (A₀:Around) (base h₀:Heap) (L:Addr) (m:Str->Option Value) (s:Shared):Prop where
 B:Below A₀ base outer h₀
 F:Fr h₀ L s.heap m
 X:(hd.heap_1 w.params).In h₀
 T:Top p loose mean mg mb h₀
 hk:cs.kind=.function
 hdp:dp+k<900
 hun:un+8 * k<9000
end
theorem NgM01b.gM01b:True:=trivial
example:True:=by w_top off;trivial
section
open NgM01 NgM01b
structure MethOk (w:World) (nm:Str) (f:Addr):Prop where
 h1:plainGet (hd.heap_1 w.params) 390 nm=true
 h2:findIn (hd.heap_1 w.params) (.ref 390) nm=some (some (.ref f))
 h3:isFn (hd.heap_1 w.params) (.ref f)=true
 h4:keepIn (hd.heap_1 w.params) (.ref f)=true
 h5:∀ a,getL nm (lexDict a)=some none
theorem accept_ok (w:World):MethOk w "accept" 244:=⟨by k_is,by k_is,by k_is,by k_is,fun _=>rfl⟩
theorem nextc_ok (w:World):MethOk w "next_char" 216:=⟨by k_is,by k_is,by k_is,by k_is,fun _=>rfl⟩
theorem backc_ok (w:World):MethOk w "backup_char" 223:=⟨by k_is,by k_is,by k_is,by k_is,fun _=>rfl⟩
theorem error_ok (w:World):MethOk w "error" 265:=⟨by k_is,by k_is,by k_is,by k_is,fun _=>rfl⟩
section
variable {A:Around} {a:LexA} {st:LexS} {rest:List (Addr×Obj)} {Q E:Value->Shared->Prop} {x nm:Str} {f:Addr} {p1 p2 p3:Pos}
theorem meth {e:Expr} {args:List Expr} (ok:MethOk w nm f) (F:Fr h₀ L s.heap m) (X:(hd.heap_1 w.params).In h₀) (N:News h₀ L s.heap (lexLed a st rest)) (hm:m x=some (.ref a.lx)) (hk:cs.kind=.function)
  (hl:(envX cn cs L ca ccd cll).kindOf x=some .local) (hdb:(x==Str.ofString "__debug__")=false) (h6:starEach (e::args) (envX cn cs L ca ccd cll)=(false,eval e (envX cn cs L ca ccd cll))::starEach args (envX cn cs L ca ccd cll)) (h7:((backTo p3 (starEach args (envX cn cs L ca ccd cll))).any fun x=>x.1)=false)
  {pl:Sem Bool} (he:eval (.Call (.Attribute (.Name x p1) nm p2) (e::args) [] p3) (envX cn cs L ca ccd cll)=do
   let ov <- eval (.Name x p1) (envX cn cs L ca ccd cll)
   standAt p2.atName
   let (f,first) <- holding [ov] (getMethod ov nm pl)
   callWith p3 f first (backTo p3 (starEach (e::args) (envX cn cs L ca ccd cll))) [])
  (h:wpAny (model pw_rk0009_01 w) A (spliced (backTo p3 (starEach (e::args) (envX cn cs L ca ccd cll)))) (fun vs s₁=>(hd.heap_1 w.params).In s₁.heap/\wpAny (model pw_rk0009_01 w) A (call (.ref f) (.ref a.lx::vs)) Q E s₁) E s) :
  wpAny (model pw_rk0009_01 w) A (eval (.Call (.Attribute (.Name x p1) nm p2) (e::args) [] p3) (envX cn cs L ca ccd cll)) Q E s :=
 MethodCall_ (nameX_L F hm (method_inst F X (InstAt.of_news N (.head _) (.tail _ (.head _))) ok.h1 ok.h2 ok.h3 (ok.h5 a) (callWith_K (X.keeps F.keep) ok.h4 h h6 h7)) hk hl hdb) he
theorem meth0 (ok:MethOk w nm f) (F:Fr h₀ L s.heap m) (X:(hd.heap_1 w.params).In h₀) (N:News h₀ L s.heap (lexLed a st rest)) (hm:m x=some (.ref a.lx)) (hk:cs.kind=.function)
  (hl:(envX cn cs L ca ccd cll).kindOf x=some .local) (hdb:(x==Str.ofString "__debug__")=false)
  {pl:Sem Bool} (he:eval (.Call (.Attribute (.Name x p1) nm p2) [] [] p3) (envX cn cs L ca ccd cll)=do
   let ov <- eval (.Name x p1) (envX cn cs L ca ccd cll)
   standAt p2.atName
   let (f,first) <- holding [ov] (getMethod ov nm pl)
   callWith p3 f first (backTo p3 (starEach [] (envX cn cs L ca ccd cll))) [])
  (h:wpAny (model pw_rk0009_01 w) A (call (.ref f) [.ref a.lx]) Q E s) :
  wpAny (model pw_rk0009_01 w) A (eval (.Call (.Attribute (.Name x p1) nm p2) [] [] p3) (envX cn cs L ca ccd cll)) Q E s :=
 MethodCall_ (nameX_L F hm (method_inst F X (InstAt.of_news N (.head _) (.tail _ (.head _))) ok.h1 ok.h2 ok.h3 (ok.h5 a) (callWith_K0 (X.keeps F.keep) ok.h4 h)) hk hl hdb) he
end
example:True:=by (k_with "eval Call Attribute" => (fail_if_success (fail_if_success (have:=gM01b)));(k_here;k_dflt (first | ((with_reducible show wpAny _ _ (eval (Expr.Call (Expr.Attribute (Expr.Name _ _) _ _) [] [] _) _) _ _ _);refine' meth0 ?Y0 ?Y1 ?Y2 ?Y3 ?Y4 ?Y5 ?Y6 ?Y7 ?Y8 ?_;(case Y0=>with_reducible first | exact accept_ok _ | exact nextc_ok _ | exact backc_ok _ | exact error_ok _);(case Y3=>k_asm);(case Y1=>k_asm);(case Y2=>k_asm);(case Y4=>exact rfl);(case Y5=>first | exact rfl | assumption);(case Y6=>exact rfl);(case Y7=>exact rfl);(case Y8=>exact rfl);k_whole) | ((with_reducible show wpAny _ _ (eval (Expr.Call (Expr.Attribute (Expr.Name _ _) _ _) (_::_) [] _) _) _ _ _);refine' meth ?Y0 ?Y1 ?Y2 ?Y3 ?Y4 ?Y5 ?Y6 ?Y7 ?Y9 ?Y10 ?Y8 ?_;(case Y0=>with_reducible first | exact accept_ok _ | exact nextc_ok _ | exact backc_ok _ | exact error_ok _);(case Y3=>k_asm);(case Y1=>k_asm);(case Y2=>k_asm);(case Y4=>exact rfl);(case Y5=>first | exact rfl | assumption);(case Y6=>exact rfl);(case Y7=>exact rfl);(case Y8=>exact rfl);(case Y9=>exact rfl);(case Y10=>exact rfl);k_whole))));trivial
end
theorem NgM02.gM02:True:=trivial
example:True:=by w_top off;trivial
section
open NgM01 NgM01b NgM02
example:True:=by (k_with "call builtin:next" => (fail_if_success (fail_if_success (have:=gM02)));(k_here;k_dflt (first | (refine' lx_next_item ?Y0 ?Y1 ?Y2 ?Y3 ?Y4 ?Y5 ?_;(case Y0=>assumption);(case Y1=>k_asm);(case Y2=>k_asm);(case Y3=>assumption);(case Y4=>assumption);(case Y5=>assumption);k_whole;intro Y7 Y8 Y9 Y10 Y11) | (refine' lx_next_end ?Y6 ?Y0 ?Y1 ?Y2 ?Y3 ?Y4 ?Y5 ?_;(case Y6=>exact rfl);(case Y0=>assumption);(case Y1=>k_asm);(case Y2=>k_asm);(case Y3=>assumption);(case Y4=>assumption);(case Y5=>assumption);k_whole;intro Y7 Y8 Y9 Y10 Y11) | (refine' lx_next_done ?Y6 ?Y1 ?Y2 ?Y3 ?_;(case Y6=>exact rfl);(case Y1=>k_asm);(case Y2=>k_asm);(case Y3=>assumption);k_whole;intro Y7 Y10 Y11))));trivial
section
variable {a:LexA} {chars:List Cel} {cl:Addr} {st:LexS} {rest:List (Addr×Obj)} {Q E:Value->Shared->Prop}
theorem StrOf.split {x:Cel} {r:List Cel} (S:StrOf chars cl st (x::r)) :
  (∃ p q,r=p++q/\st.pb=x.ref::p.map Cel.ref/\((∃ i,IoAt st.io cl i/\chars.drop i=q)\/(IoEnd st.io/\q=[]))) \/
  (st.pb=[]/\∃ i,IoAt st.io cl i/\chars[i]?=some x/\chars.drop (i+1)=r):=by
 refine e2a3 S fun p q h1 h2 h3=>?_;clear S
 cases p with
 | cons y p =>
  simp only [List.cons_append,List.cons.injEq] at h1
  refine e0a2 h1 ?_;clear h1;intro Q1;obtain rfl:=Q1;intro h1
  exact .inl ⟨p,q,h1,h2,h3⟩
 | nil =>
  simp only [List.nil_append] at h1
  subst h1
  rcases h3 with ⟨i,h3,h4⟩ | ⟨_,h4⟩
  ·refine .inr ⟨h2,i,h3,?_,?_⟩
   ·have:=congrArg (·[0]?) h4
    simpa using this
   ·have:=congrArg List.tail h4
    simpa using this
  ·cases h4
noncomputable abbrev LexRet (a:LexA) (chars:List Cel) (cl:Addr) (rest:List (Addr×Obj)) (h₀:Heap) (L:Addr) (m:Str->Option Value) (s:Shared) (Q:Value->Shared->Prop) (r:List Cel) (ct tb:List Value) (v:Value):Prop :=
 ∀ st' h' tk',StrOf chars cl st' r->st'.ct=ct->st'.tb=tb->Fr h₀ L h' m->News h₀ L h' (lexLed a st' rest)->Q v { s with heap:=h',toks:=tk' }
noncomputable def Z22P:FrZ->Prop:=fun V=>∀ (st:LexS) (C:Cx 10 V.w V.p V.loose V.mean V.mg V.mb V.dp V.un V.cs V.outer V.A₀ V.base V.h₀ V.L V.m V.s) (R:LexR (V.fa 0) (V.fC 0) (V.fA 0) (V.fL 0)) (hx:CelIn (V.fL 0) (V.fc 0)) (hr:(V.fC 1).length≤1000) (S:StrOf (V.fC 0) (V.fA 0) st ((V.fc 0)::(V.fC 1))) (N:News V.h₀ V.L V.s.heap (lexLed (V.fa 0) st (V.fL 0))) (hz:st.ct.length≤1000) (ret:LexRet (V.fa 0) (V.fC 0) (V.fA 0) (V.fL 0) V.h₀ V.L V.m V.s (V.fQ 0) (V.fC 1) (st.ct++[(V.fc 0).ref]) st.tb (V.fc 0).ref),wpAny (model pw_rk0009_01 V.w) (ktrTop V.dp V.un V.gd V.cn V.cs V.L V.ca V.ccd V.cll V.outer) (call (.ref 216) [.ref (V.fa 0).lx]) (V.fQ 0) V.E V.s
@[irreducible] noncomputable def Z22:FrZ:=pickZ Z22P
set_option maxHeartbeats 4000000 in
theorem Z22c:Z22P Z22:=by
 intro st C R hx hr S N hz ret
 obtain ⟨B,F,X,T,hk,hdp,hun⟩:=C
 obtain ⟨D,⟨ep,hcl⟩,_,hsz⟩:=R
 refine e0a4 hx fun hx1 hx2 _ _=>?_;clear hx
 obtain ⟨tb,pb,ct,io,tn,pn,cnn⟩:=st
 have hz2:ct.length≤1000000:=Nat.le_trans hz (by decide)
 rcases S.split with ⟨pp,q,h1,h2,h3⟩ | ⟨h2,i,h3,h4,h5⟩
 ·dsimp only at h2 h3 N ret
  subst h2
  have hz1:((Z22.fc 0).ref::pp.map Cel.ref).length≤1000000:=by
   have:=congrArg List.length h1
   simp only [List.length_append] at this
   simp only [List.length_cons,List.length_map]
   omega
  refine wpAny_call ?_
  k_dflt ktr_enter
  k_steps
  all_goals exact ret ⟨_,_,_,_,_,_,_⟩ _ _ ⟨pp,q,h1,rfl,h3⟩ rfl rfl (by k_asm) (by k_asm)
 ·dsimp only at h2 h3 N ret
  subst h2
  have h4:((Z22.fC 0).map Cel.ref)[i]?=some (Z22.fc 0).ref:=by rw [List.getElem?_map,h4];rfl
  refine wpAny_call ?_
  k_dflt ktr_enter
  k_steps
  all_goals exact ret ⟨_,_,_,_,_,_,_⟩ _ _ ⟨[],(Z22.fC 1),rfl,rfl,.inl ⟨i+1,by assumption,h5⟩⟩ rfl rfl (by k_asm) (by k_asm)
theorem next_some_pos {x:Cel} {r:List Cel} (C:Cx 10 w p loose mean mg mb dp un cs outer A₀ base h₀ L m s) (R:LexR a chars cl rest) (hx:CelIn rest x) (hr:r.length≤1000) (S:StrOf chars cl st (x::r)) (N:News h₀ L s.heap (lexLed a st rest)) (hz:st.ct.length≤1000)
  (ret:LexRet a chars cl rest h₀ L m s Q r (st.ct++[x.ref]) st.tb x.ref) :
  wpAny (model pw_rk0009_01 w) (ktrTop dp un gd cn cs L ca ccd cll outer) (call (.ref 216) [.ref a.lx]) Q E s:=pickedZ (by with_unfolding_all rfl) Z22c (sfc (sfQ (sfL (sfA (sfC (sfa (frC w p loose mean mg mb dp un gd cn cs ca ccd cll outer A₀ base h₀ L m s E) [a]) [chars,r]) [cl]) [rest]) [Q]) [x]) st C R hx hr S N hz ret
theorem StrOf.nil (S:StrOf chars cl st []):st.pb=[]/\((∃ i,IoAt st.io cl i/\chars[i]?=none)\/IoEnd st.io):=by
 refine e2a3 S fun p q h1 h2 h3=>?_;clear S
 refine e0a2 (List.append_eq_nil_iff.mp h1.symm) fun Q2=>?_;obtain rfl:=Q2;intro Q3;obtain rfl:=Q3
 refine ⟨h2,?_⟩
 rcases h3 with ⟨i,h3,h4⟩ | ⟨h3,_⟩
 ·exact .inl ⟨i,h3,List.getElem?_eq_none (List.drop_eq_nil_iff.mp h4)⟩
 ·exact .inr h3
theorem StrOf.push {x:Cel} {r:List Cel} {k:Nat} {ct:List Value} {c:Nat} (S:StrOf chars cl st r):StrOf chars cl ⟨st.tb,x.ref::st.pb,ct,st.io,st.tn,k,c⟩ (x::r):=by
 refine e2a3 S fun p q h1 h2 h3=>?_;clear S
 exact ⟨x::p,q,by rw [h1];rfl,by rw [h2];rfl,h3⟩
noncomputable def Z23P:FrZ->Prop:=fun V=>∀ (st:LexS) (C:Cx 10 V.w V.p V.loose V.mean V.mg V.mb V.dp V.un V.cs V.outer V.A₀ V.base V.h₀ V.L V.m V.s) (R:LexR (V.fa 0) (V.fC 0) (V.fA 0) (V.fL 0)) (S:StrOf (V.fC 0) (V.fA 0) st []) (N:News V.h₀ V.L V.s.heap (lexLed (V.fa 0) st (V.fL 0))) (ret:LexRet (V.fa 0) (V.fC 0) (V.fA 0) (V.fL 0) V.h₀ V.L V.m V.s (V.fQ 0) [] st.ct st.tb .none),wpAny (model pw_rk0009_01 V.w) (ktrTop V.dp V.un V.gd V.cn V.cs V.L V.ca V.ccd V.cll V.outer) (call (.ref 216) [.ref (V.fa 0).lx]) (V.fQ 0) V.E V.s
@[irreducible] noncomputable def Z23:FrZ:=pickZ Z23P
set_option maxHeartbeats 4000000 in
theorem Z23c:Z23P Z23:=by
 intro st C R S N ret
 obtain ⟨B,F,X,T,hk,hdp,hun⟩:=C
 obtain ⟨D,⟨ep,hcl⟩,_,hsz⟩:=R
 obtain ⟨tb,pb,ct,io,tn,pn,cnn⟩:=st
 refine e0a2 S.nil fun h2 h3=>?_
 dsimp only at h2 h3 N ret
 subst h2
 rcases h3 with ⟨i,h3,h4⟩ | h3
 ·have h4:((Z23.fC 0).map Cel.ref)[i]?=none:=by rw [List.getElem?_map,h4];rfl
  refine wpAny_call ?_
  k_dflt ktr_enter
  k_steps
  all_goals exact ret ⟨_,_,_,_,_,_,_⟩ _ _ ⟨[],[],rfl,rfl,.inr ⟨by assumption,rfl⟩⟩ rfl rfl (by k_asm) (by k_asm)
 ·refine wpAny_call ?_
  k_dflt ktr_enter
  k_steps
  all_goals exact ret ⟨_,_,_,_,_,_,_⟩ _ _ ⟨[],[],rfl,rfl,.inr ⟨h3,rfl⟩⟩ rfl rfl (by k_asm) (by k_asm)
theorem next_none (C:Cx 10 w p loose mean mg mb dp un cs outer A₀ base h₀ L m s) (R:LexR a chars cl rest) (S:StrOf chars cl st []) (N:News h₀ L s.heap (lexLed a st rest))
  (ret:LexRet a chars cl rest h₀ L m s Q [] st.ct st.tb .none) :
  wpAny (model pw_rk0009_01 w) (ktrTop dp un gd cn cs L ca ccd cll outer) (call (.ref 216) [.ref a.lx]) Q E s:=pickedZ (by with_unfolding_all rfl) Z23c (sfQ (sfL (sfA (sfC (sfa (frC w p loose mean mg mb dp un gd cn cs ca ccd cll outer A₀ base h₀ L m s E) [a]) [chars]) [cl]) [rest]) [Q]) st C R S N ret
end
end
theorem NgM03.gM03:True:=trivial
example:True:=by w_top off;trivial
section
open NgM01 NgM01b NgM02 NgM03
example:True:=by (k_with "M03" => (fail_if_success (fail_if_success (have:=gM03))));(k_with "call ref" => k_extra "M03";(k_here;k_dflt (refine' next_some_pos ?Y0 ?Y1 ?Y2 ?Y3 ?Y4 ?Y5 ?Y6 ?_;(case Y0=>exact ⟨by k_asm,by k_asm,by k_asm,by k_asm,by first | exact rfl | assumption,by (dsimp only [ktrTop,Around.deeper];omega),by (dsimp only [ktrTop,Around.deeper];omega)⟩);(case Y1=>assumption);(case Y5=>k_asm);(case Y4=>assumption);(case Y2=>assumption);(case Y3=>omega);(case Y6=>omega);k_whole;intro Y7 Y8 Y9 Y10 Y11 Y12 Y13 Y14)));(k_with "call ref" => k_extra "M03";(k_here;k_dflt (refine' next_none ?Y0 ?Y1 ?Y2 ?Y3 ?_;(case Y0=>exact ⟨by k_asm,by k_asm,by k_asm,by k_asm,by first | exact rfl | assumption,by (dsimp only [ktrTop,Around.deeper];omega),by (dsimp only [ktrTop,Around.deeper];omega)⟩);(case Y1=>assumption);(case Y3=>k_asm);(case Y2=>assumption);k_whole;intro Y4 Y5 Y6 Y7 Y8 Y9 Y10 Y11)));trivial
section
variable {a:LexA} {chars:List Cel} {cl:Addr} {st:LexS} {rest:List (Addr×Obj)} {Q E:Value->Shared->Prop}
noncomputable def inS (v x:Str):Bool:=!(Builtin.Str.occurrences v x 0 v.length 1).isEmpty
noncomputable def accB (v:Str):List Cel->Bool
 | x::_=>inS v x.x
 | []=>false
noncomputable def accS (v:Str) (str:List Cel):List Cel:=if accB v str then str.tail else str
noncomputable def accT (v:Str) (str:List Cel):List Value:=if accB v str then (str.take 1).map Cel.ref else []
noncomputable def Z39P:FrZ->Prop:=fun V=>∀ (str:List Cel) (C:Cx 20 V.w V.p V.loose V.mean V.mg V.mb V.dp V.un V.cs V.outer V.A₀ V.base V.h₀ V.L V.m V.s) (R:LexR (V.fa 0) (V.fC 0) (V.fA 0) (V.fL 0)) (hx:∀ x∈str,CelIn (V.fL 0) x) (hr:str.length≤1000) (S:StrOf (V.fC 0) (V.fA 0) (V.fx 0) str) (N:News V.h₀ V.L V.s.heap (lexLed (V.fa 0) (V.fx 0) (V.fL 0))) (hz:(V.fx 0).ct.length≤900) (ret:LexRet (V.fa 0) (V.fC 0) (V.fA 0) (V.fL 0) V.h₀ V.L V.m V.s (V.fQ 0) (accS (V.fS 0) str) ((V.fx 0).ct++accT (V.fS 0) str) (V.fx 0).tb (.bool (accB (V.fS 0) str))),wpAny (model pw_rk0009_01 V.w) (ktrTop V.dp V.un V.gd V.cn V.cs V.L V.ca V.ccd V.cll V.outer) (call (.ref 244) [.ref (V.fa 0).lx,.str (V.fS 0) (V.fT 0)]) (V.fQ 0) V.E V.s
@[irreducible] noncomputable def Z39:FrZ:=pickZ Z39P
set_option maxHeartbeats 4000000 in
theorem Z39c:Z39P Z39:=by
 intro str C R hx hr S N hz ret
 obtain ⟨B,F,X,T,hk,hdp,hun⟩:=C
 have D:=R.D
 cases str with
 | nil =>
  have ret:LexRet (Z39.fa 0) (Z39.fC 0) (Z39.fA 0) (Z39.fL 0) Z39.h₀ Z39.L Z39.m Z39.s (Z39.fQ 0) [] (Z39.fx 0).ct (Z39.fx 0).tb (.bool false):=by simpa [accS,accT,accB] using ret
  refine wpAny_call ?_
  k_dflt ktr_enter
  k_steps
  all_goals exact ret _ _ _ (by assumption) (by assumption) (by assumption) (by k_asm) (by k_asm)
 | cons x r =>
  have hx0:=hx x (.head _)
  refine e0a4 (id hx0) fun hx1 hx2 _ _=>?_
  have hr:r.length+1≤1000:=hr
  have ret1:inS (Z39.fS 0) x.x=true->LexRet (Z39.fa 0) (Z39.fC 0) (Z39.fA 0) (Z39.fL 0) Z39.h₀ Z39.L Z39.m Z39.s (Z39.fQ 0) r ((Z39.fx 0).ct++[x.ref]) (Z39.fx 0).tb (.bool true):=fun e=>by simpa [accS,accT,accB,e] using ret
  have ret0:inS (Z39.fS 0) x.x=false->LexRet (Z39.fa 0) (Z39.fC 0) (Z39.fA 0) (Z39.fL 0) Z39.h₀ Z39.L Z39.m Z39.s (Z39.fQ 0) (x::r) (Z39.fx 0).ct (Z39.fx 0).tb (.bool false):=fun e=>by simpa [accS,accT,accB,e] using ret
  refine wpAny_call ?_
  k_dflt ktr_enter
  k_steps
  all_goals first
   | exact ret1 (by unfold inS;simp only [*,Bool.not_false]) _ _ _ (by assumption) (by assumption) (by assumption) (by k_asm) (by k_asm)
   | exact ret0 (by unfold inS;simp only [*,Bool.not_true]) _ _ _ (StrOf.push (by assumption)) rfl (by assumption) (by k_asm) (by k_asm)
theorem accept_c {str:List Cel} {v:Str} {tv:Tok} (C:Cx 20 w p loose mean mg mb dp un cs outer A₀ base h₀ L m s) (R:LexR a chars cl rest) (hx:∀ x∈str,CelIn rest x) (hr:str.length≤1000) (S:StrOf chars cl st str) (N:News h₀ L s.heap (lexLed a st rest)) (hz:st.ct.length≤900)
  (ret:LexRet a chars cl rest h₀ L m s Q (accS v str) (st.ct++accT v str) st.tb (.bool (accB v str))) :
  wpAny (model pw_rk0009_01 w) (ktrTop dp un gd cn cs L ca ccd cll outer) (call (.ref 244) [.ref a.lx,.str v tv]) Q E s:=pickedZ (by with_unfolding_all rfl) Z39c (sfT (sfS (sfQ (sfL (sfx (sfA (sfC (sfa (frC w p loose mean mg mb dp un gd cn cs ca ccd cll outer A₀ base h₀ L m s E) [a]) [chars]) [cl]) [st]) [rest]) [Q]) [v]) [tv]) str C R hx hr S N hz ret
end
end
example:True:=by w_top off;trivial
section
open NgM01 NgM01b NgM02 NgM03
noncomputable abbrev excObj (t:Addr):Obj:={ cls:=.ref 156,data:=.fields #[.ref t,.none,.none,.none,.bool false,.none] }
section
variable {A:Around} {E:Value->Shared->Prop} {h:Heap} {g:Array GenState} {d:Drawn} {t:Nat} {os:OsState}
theorem exc_cls (X:(hd.heap_1 w.params).In h):∃ q bs hdct sn sub ab col dd k0 k1 k2 k3 k5,h.get? 156=some (excClassObj (Str.ofString "CompilerError") q 156 155 bs [.type "Exception",.type "BaseException",.type "object"] hdct sn sub ab col dd k0 k1 k2 k3 k5 "Exception.__new__") :=
 ⟨_,_,_,_,_,_,_,_,_,_,_,_,_,X 156 _ (by k_is)⟩
noncomputable def Z64P:FrZ->Prop:=fun V=>∀ (g:Array GenState) (d:Drawn) (os:OsState) (X:(hd.heap_1 V.w.params).In (V.fh 0)) (hrest:(V.fv 0).length≤sizeLine) (hq:codeAny (model pw_rk0009_01 V.w) ((V.fR 0).under (.builtin "type.__call__" ⟨.ref 156::(V.fv 0),[]⟩)) (.call (.ref 146) ⟨.ref ((V.fh 0).objs.size+1)::(V.fv 0),[]⟩)
   (InitBack ((V.fh 0).objs.size+1) fun r s'=>match r with | .ok (.ret v)=>(V.fQ 0) v s' | .ok _=>False | .error e=>V.E e s')
   ⟨((V.fh 0).push { cls:=.type "tuple",data:=.seq (V.fv 0).toArray }).push (excObj (V.fh 0).objs.size),g,d,(V.fN 0),os⟩),wpAny (model pw_rk0009_01 V.w) (V.fR 0) (call (.ref 156) (V.fv 0)) (V.fQ 0) V.E ⟨(V.fh 0),g,d,(V.fN 0),os⟩
@[irreducible] noncomputable def Z64:FrZ:=pickZ Z64P
set_option maxHeartbeats 4000000 in
theorem Z64c:Z64P Z64:=by
 intro g d os X hrest hq
 have F:=PySem.F.excBase_Exception
 obtain ⟨q,bs,hdct,sn,sub,ab,col,dd,k0,k1,k2,k3,k5,hC⟩:=exc_cls X
 have f1:=tc_lookup
 have f2:=tc_bind (.ref 156)
 have hT:(⟨(Z64.fh 0),g,d,(Z64.fN 0),os⟩:Shared).TypeIs (.ref 156) "type" := ⟨_,hC,rfl⟩
 refine wpAny_call (codeAny_of_tree ?_)
 show wpAny _ _ (callAny (.ref 156) _) _ _ _
 repeat (any_goals (first | assumption | with_reducible refine wpAny_loadPart_at hC ?_ | wp_step))
 refine ⟨rfl,?_⟩
 refine codeAny_call_builtin_at (Code.quiet_builtin _ (by decide +kernel)) entry_typeCall (wpAny_check_type_call_sub hC ?_)
 repeat (first | with_reducible refine wpAny_loadPart_at hC ?_ | with_reducible refine wpAny_madeBy_exc hC ?_ | wp_step)
 refine codeAny_call_builtin_code (Code.quiet_builtin _ F.quiet) (wpAny_check_new_sub F hC ?_)
 refine codeAny_exc_new_sub F hC ?_ hrest
 show wpAny _ _ _ _ _ _
 have k:∀ b o,(Z64.fh 0).get? b=some o->(((Z64.fh 0).push { cls:=.type "tuple",data:=.seq (Z64.fv 0).toArray }).push (excObj (Z64.fh 0).objs.size)).get? b=some o:=fun b o e=>Heap.get?_push_of_some _ (Heap.get?_push_of_some _ e)
 have hC₁:=k _ _ hC
 have hget:(((Z64.fh 0).push { cls:=.type "tuple",data:=.seq (Z64.fv 0).toArray }).push (excObj (Z64.fh 0).objs.size)).get? ((Z64.fh 0).objs.size+1)=some (excObj (Z64.fh 0).objs.size):=by heap_get
 have hcC:(Value.ref 156::[Value.type "Exception",.type "BaseException",.type "object"]).contains (.ref 156)=true:=by simp
 unfold isInstance
 repeat (first | with_reducible refine wpAny_loadPart_at hget ?_ | (with_reducible refine wpAny_isSubtype_exc hC₁ ?_;rw [hcC]) | wp_step)
 show wpAny _ _ (isSubtype (.ref 156) (.ref 156)) _ _ _
 refine wpAny_isSubtype_exc hC₁ ?_
 rw [hcC]
 simp only [Bool.not_true,Bool.false_eq_true,if_false]
 have X':=X.keeps k
 have I:InstAt (((Z64.fh 0).push { cls:=.type "tuple",data:=.seq (Z64.fv 0).toArray }).push (excObj (Z64.fh 0).objs.size)) ((Z64.fh 0).objs.size+1) (excObj (Z64.fh 0).objs.size) 156 none:=⟨hget,rfl,rfl,trivial⟩
 refine wpAny_bind (wpAny_holding (special_fn (s:=⟨((Z64.fh 0).push { cls:=.type "tuple",data:=.seq (Z64.fv 0).toArray }).push (excObj (Z64.fh 0).objs.size),g,d,(Z64.fN 0),os⟩) X' I (f:=146) (by k_is) (by k_is) ?_))
 refine wpAny_call (codeAny_mono hq fun r s' hr=>?_)
 rcases r with e | (v | _ | _ | _)
 ·exact hr
 ·exact hr.elim
 ·exact hr.elim
 ·exact hr.elim
 ·refine e0a2 hr ?_;clear hr;intro Q4;obtain rfl:=Q4;intro hr
  exact wpAny_pure hr
theorem exc_call {rest:List Value} {Q:Value->Shared->Prop} (X:(hd.heap_1 w.params).In h) (hrest:rest.length≤sizeLine)
  (hq:codeAny (model pw_rk0009_01 w) (A.under (.builtin "type.__call__" ⟨.ref 156::rest,[]⟩)) (.call (.ref 146) ⟨.ref (h.objs.size+1)::rest,[]⟩)
   (InitBack (h.objs.size+1) fun r s'=>match r with | .ok (.ret v)=>Q v s' | .ok _=>False | .error e=>E e s')
   ⟨(h.push { cls:=.type "tuple",data:=.seq rest.toArray }).push (excObj h.objs.size),g,d,t,os⟩) :
  wpAny (model pw_rk0009_01 w) A (call (.ref 156) rest) Q E ⟨h,g,d,t,os⟩:=pickedZ (by with_unfolding_all rfl) Z64c (sfQ (sfv (sfN (sfh (sfR (frC w Z64.p Z64.loose Z64.mean Z64.mg Z64.mb Z64.dp Z64.un Z64.gd Z64.cn Z64.cs Z64.ca Z64.ccd Z64.cll Z64.outer Z64.A₀ Z64.base Z64.h₀ Z64.L Z64.m Z64.s E) [A]) [h]) [t]) [rest]) [Q]) g d os X hrest hq
end
end
example:True:=by w_top off;trivial
section
open NgM01 NgM01b NgM02 NgM03
theorem putL_len (name:Str) (hsh:Int) (key v:Value):∀ es:List DictEntry,(putL name hsh key v es).length≤es.length+1
 | []=>Nat.le_refl _
 | x::r=>by
  have ih:=putL_len name hsh key v r
  unfold putL
  split <;> simp only [List.length_cons] <;> omega
section
variable {A:Around} {E:Value->Shared->Prop} {R:Result->Shared->Prop} {e dx:Addr} {news:List (Addr×Obj)} {oe:Obj} {od:Option Obj} {name:Str} {tk:Tok} {v:Value} {es:List DictEntry} {n:Nat}
noncomputable def Z80P:FrZ->Prop:=fun V=>(fun (e:Addr)=>(∀ (A:Around) (od:Option Obj) (X:(hd.heap_1 V.w.params).In V.s.heap) (I:InstAt V.s.heap e (V.fO 0) 156 od) (ht:takerIn (hd.heap_1 V.w.params) 156 (V.fS 0)=some none) (h:∀ b,wpAny (model pw_rk0009_01 V.w) A.in1 (Builtin.ObjectAttr.storeInOwnDict (.ref e) (.ref 156) (.str (V.fS 0) (V.fT 0)) (V.fS 0) (V.fV 0) b)
   (fun fin s'=>match fin with | .done f=>(V.fr 0) (.ok f) s' | .again c'=>c'.quiet=true/\codeAny (model pw_rk0009_01 V.w) A c' (V.fr 0) s') (fun e s'=>(V.fr 0) (.error e) s') V.s),codeAny (model pw_rk0009_01 V.w) A (.call (.builtin "object.__setattr__") ⟨[.ref e,.str (V.fS 0) (V.fT 0),(V.fV 0)],[]⟩) (V.fr 0) V.s:Prop)) (V.fA 0)
@[irreducible] noncomputable def Z80:FrZ:=pickZ Z80P
theorem Z80c:Z80P Z80:=by
 intro A od X I ht h
 have SF:=PySem.F.store_Exception
 obtain ⟨q,bs,hdct,sn,sub,ab,col,dd,k0,k1,k2,k3,k5,hC⟩:=exc_cls X
 have sub:Looks (model pw_rk0009_01 Z80.w) Z80.s.heap (isInstance (.ref (Z80.fA 0)) (.type "object")) true:=I.type.andThen (looks_subIn X (by k_is))
 refine codeAny_call_builtin SF.slot.plain SF.entry (@check_slot (model pw_rk0009_01 Z80.w) _ _ Z80.s "object.__setattr__" "object" "__setattr__" (.ref (Z80.fA 0)) [.str (Z80.fS 0) (Z80.fT 0),(Z80.fV 0)] [] _ SF.kind SF.split sub (SF.args (.ref (Z80.fA 0)) (.str (Z80.fS 0) (Z80.fT 0)) (Z80.fV 0)) ?_)
 have hm:Looks (model pw_rk0009_01 Z80.w) Z80.s.heap (mroOf (.ref 156)) [.ref 156,.type "Exception",.type "BaseException",.type "object"]:=fun A Q E s₁ k q=>by
  obtain ⟨hh,g,d,t,os⟩:=s₁
  exact wpAny_mroOf_exc (k _ _ hC) q
 refine e1a2 (Option.bind_eq_some_iff.mp ht) fun attr ha hr=>?_
 have L3:Looks (model pw_rk0009_01 Z80.w) Z80.s.heap (Builtin.ObjectAttr.storeTaker? attr) none:=by
  cases attr with
  | none=>exact .now
  | some a =>
   refine e1a2 (Option.map_eq_some_iff.mp hr) fun b hb hr=>?_
   refine (looks_takesIn X hb).andThen ?_
   cases b
   ·exact .now
   ·cases hr
 rw [osa_eq,refuse_eq]
 refine wpAny_bind (wpAny_bind (I.type.here (wpAny_bind (hm.here ?_))))
 rw [refuseLoop_ref,SF.passes]
 refine wpAny_pure (wpAny_bind (I.type.here (wpAny_bind ((looks_findIn X ha).here (wpAny_bind (L3.here ?_))))))
 exact h attr.isSome
theorem osa_exc_open (X:(hd.heap_1 w.params).In s.heap) (I:InstAt s.heap e oe 156 od) (ht:takerIn (hd.heap_1 w.params) 156 name=some none)
  (h:∀ b,wpAny (model pw_rk0009_01 w) A.in1 (Builtin.ObjectAttr.storeInOwnDict (.ref e) (.ref 156) (.str name tk) name v b)
   (fun fin s'=>match fin with | .done f=>R (.ok f) s' | .again c'=>c'.quiet=true/\codeAny (model pw_rk0009_01 w) A c' R s') (fun e s'=>R (.error e) s') s) :
  codeAny (model pw_rk0009_01 w) A (.call (.builtin "object.__setattr__") ⟨[.ref e,.str name tk,v],[]⟩) R s:=pickedZ (by with_unfolding_all rfl) Z80c (sfV (sfT (sfS (sfO (sfA (sfr (frC w Z80.p Z80.loose Z80.mean Z80.mg Z80.mb Z80.dp Z80.un Z80.gd Z80.cn Z80.cs Z80.ca Z80.ccd Z80.cll Z80.outer Z80.A₀ Z80.base Z80.h₀ Z80.L Z80.m s Z80.E) [R]) [e]) [oe]) [name]) [tk]) [v]) A od X I ht h
noncomputable def Z82P:FrZ->Prop:=fun V=>∀ (Q:Fin->Shared->Prop) (hd:V.s.heap.get? (V.fA 0)=some (dictOf (V.fD 0) (V.fN 0))) (hl:(getL (V.fS 0) (V.fD 0)).isSome=true) (hz:(V.fD 0).length≤100) (h:∀ h' t1 t2 hsh,Heap.SameBut (V.fA 0) V.s.heap h'->h'.get? (V.fA 0)=some (dictOf (putL (V.fS 0) hsh (.str (V.fS 0) t1) (V.fV 0) (V.fD 0)) (putN (V.fS 0) (V.fD 0) (V.fN 0)))->Q (.done (.ret .none)) { V.s with heap:=h',toks:=t2 }),wpAny (model pw_rk0009_01 V.w) (V.fR 0) (Builtin.ObjectAttr.storeInDict (V.fA 0) (.str (V.fS 0) (V.fT 0)) (V.fS 0) (V.fV 0)) Q V.E V.s
@[irreducible] noncomputable def Z82:FrZ:=pickZ Z82P
set_option tactic.hygienic true in
theorem Z82c:Z82P Z82:=by
 intro Q hd hl hz h
 unfold Builtin.ObjectAttr.storeInDict
 refine wpAny_bind (wpAny_pure (wpAny_bind ?_))
 unfold nsSet
 have hput:=putName_dict (Z82.fS 0) (PyData.keyHash Z82.w.params (Z82.fS 0)) (.str (Z82.fS 0) Z82.s.toks) (Z82.fV 0) (Z82.fD 0) (Z82.fN 0)
 refine wpAny_bind (wpAny_bind (wpAny_askSetting (wpAny_pure (wpAny_bind (wpAny_mkText (wpAny_bind (wpAny_loadPart hd ?_)))))))
 dsimp only
 have c:aRefKeyMayBeTheName (Z82.fS 0) (Z82.fD 0).toArray=false:=by
  have:aRefKeyMayBeTheName (Z82.fS 0) (Z82.fD 0).toArray=aRefKeyMayBeTheNameByArray (Z82.fS 0) (Z82.fD 0).toArray:=by rw [aRefKeyMayBeTheName_at];rfl
  rw [this]
  unfold aRefKeyMayBeTheNameByArray
  unfold getL at hl
  split at hl
  ·rename_i en he
   have:(Z82.fD 0).any (·.key.isStr (Z82.fS 0))=true:=List.any_eq_true.mpr ⟨en,List.mem_of_find?_eq_some he,by simpa using List.find?_some he⟩
   simp only [List.any_toArray,this,Bool.not_true,Bool.false_and]
  ·split at hl
   ·cases hl
   ·rename_i z
    rw [Bool.not_eq_true] at z
    simp only [List.any_toArray,z,Bool.and_false]
 rw [c]
 refine wpAny_bind (wpAny_pure ?_)
 refine wpAny_updatePart hd ?_
 have hs:=Heap.SameBut.update Z82.s.heap (Z82.fA 0) (Obj.putName (Z82.fS 0) (PyData.keyHash Z82.w.params (Z82.fS 0)) (.str (Z82.fS 0) Z82.s.toks) (Z82.fV 0))
 have hd':=Heap.get?_update_self (Obj.putName (Z82.fS 0) (PyData.keyHash Z82.w.params (Z82.fS 0)) (.str (Z82.fS 0) Z82.s.toks) (Z82.fV 0)) hd (by rw [hput];rfl)
 rw [hput] at hd'
 refine wpAny_bind (wpAny_lookBehind hd' (pastItsLine_dict (by rw [List.size_toArray,sizeLine_eq];have:=putL_len (Z82.fS 0) (PyData.keyHash Z82.w.params (Z82.fS 0)) (.str (Z82.fS 0) Z82.s.toks) (Z82.fV 0) (Z82.fD 0);omega)) ?_)
 exact wpAny_pure (h _ _ _ _ hs hd')
theorem store_dict {d:Addr} {Q:Fin->Shared->Prop} (hd:s.heap.get? d=some (dictOf es n)) (hl:(getL name es).isSome=true) (hz:es.length≤100)
  (h:∀ h' t1 t2 hsh,Heap.SameBut d s.heap h'->h'.get? d=some (dictOf (putL name hsh (.str name t1) v es) (putN name es n))->Q (.done (.ret .none)) { s with heap:=h',toks:=t2 }) :
  wpAny (model pw_rk0009_01 w) A (Builtin.ObjectAttr.storeInDict d (.str name tk) name v) Q E s:=pickedZ (by with_unfolding_all rfl) Z82c (sfA (sfN (sfD (sfV (sfT (sfS (sfR (frC w Z82.p Z82.loose Z82.mean Z82.mg Z82.mb Z82.dp Z82.un Z82.gd Z82.cn Z82.cs Z82.ca Z82.ccd Z82.cll Z82.outer Z82.A₀ Z82.base Z82.h₀ Z82.L Z82.m s E) [A]) [name]) [tk]) [v]) [es]) [n]) [d]) Q hd hl hz h
noncomputable abbrev excIn (dx:Option Addr) (fs:Array Value):Obj:={ cls:=.ref 156,dict:=dx,data:=.fields fs }
theorem excIn_inst {h:Heap} {fs:Array Value} (h1:h.get? e=some (excIn (some dx) fs)) {o:Obj} (h2:h.get? dx=some o):InstAt h e (excIn (some dx) fs) 156 (some o):=⟨h1,rfl,rfl,h2⟩
noncomputable def Z81P:FrZ->Prop:=fun V=>∀ (F:Fr V.h₀ V.L V.s.heap V.m) (X₀:(hd.heap_1 V.w.params).In V.h₀) (N:News V.h₀ V.L V.s.heap (((V.fA 0),excIn (some (V.fA 1)) (V.fW 0))::((V.fA 1),dictOf (V.fD 0) (V.fN 0))::(V.fL 0))) (ne:(V.fA 0)≠(V.fA 1)) (nr:∀ p∈(V.fL 0),p.1≠(V.fA 1)) (ht:takerIn (hd.heap_1 V.w.params) 156 (V.fS 0)=some none) (hl:(getL (V.fS 0) (V.fD 0)).isSome=true) (hz:(V.fD 0).length≤100) (h:∀ h' t1 t2 hsh,Fr V.h₀ V.L h' V.m->News V.h₀ V.L h' (((V.fA 0),excIn (some (V.fA 1)) (V.fW 0))::((V.fA 1),dictOf (putL (V.fS 0) hsh (.str (V.fS 0) t1) (V.fV 0) (V.fD 0)) (putN (V.fS 0) (V.fD 0) (V.fN 0)))::(V.fL 0))->(V.fu 0) () { V.s with heap:=h',toks:=t2 }),wpAny (model pw_rk0009_01 V.w) (V.fR 0) (setAttr (.ref (V.fA 0)) (V.fS 0) (V.fV 0)) (V.fu 0) V.E V.s
@[irreducible] noncomputable def Z81:FrZ:=pickZ Z81P
theorem Z81c:Z81P Z81:=by
 intro F X₀ N ne nr ht hl hz h
 have X:=X₀.keeps F.keep
 have N1:=N ((Z81.fA 0),excIn (some (Z81.fA 1)) (Z81.fW 0)) (.head _)
 have N2:=N ((Z81.fA 1),dictOf (Z81.fD 0) (Z81.fN 0)) (.tail _ (.head _))
 have I:=excIn_inst N1.1 N2.1
 refine set_plain X I (by k_is) (osa_exc_open (s:={ Z81.s with toks:=Z81.s.toks+1 }) X I ht fun b=>?_)
 obtain ⟨q,bs,hdct,sn,sub,ab,col,dd,k0,k1,k2,k3,k5,hC⟩:=exc_cls X
 refine wpAny_bind (wpAny_pure (wpAny_bind (wpAny_bind (wpAny_loadPart N1.1 (wpAny_bind (Looks.here (s:={ Z81.s with toks:=Z81.s.toks+1 }) (looks_clsIn X (C:=156) (by k_is)) ?_))))))
 refine wpAny_pure (a:=some (Z81.fA 1)) ?_
 refine store_dict (s:={ Z81.s with toks:=Z81.s.toks+1 }) N2.1 hl hz fun h' t1 t2 hsh hs ho=>?_
 refine h h' t1 t2 hsh (F.change hs N2.2.1 N2.2.2) ?_
 exact news_ext (pre:=[((Z81.fA 0),excIn (some (Z81.fA 1)) (Z81.fW 0))]) N (fun p hp=>by rw [List.mem_singleton.mp hp];exact ne) nr ho fun b o hb q=>(hs.2 b hb).trans q
theorem exc_set_old {fs:Array Value} {rest:List (Addr×Obj)} {Q:Unit->Shared->Prop} (F:Fr h₀ L s.heap m) (X₀:(hd.heap_1 w.params).In h₀) (N:News h₀ L s.heap ((e,excIn (some dx) fs)::(dx,dictOf es n)::rest))
  (ne:e≠dx) (nr:∀ p∈rest,p.1≠dx) (ht:takerIn (hd.heap_1 w.params) 156 name=some none) (hl:(getL name es).isSome=true) (hz:es.length≤100)
  (h:∀ h' t1 t2 hsh,Fr h₀ L h' m->News h₀ L h' ((e,excIn (some dx) fs)::(dx,dictOf (putL name hsh (.str name t1) v es) (putN name es n))::rest)->Q () { s with heap:=h',toks:=t2 }) :
  wpAny (model pw_rk0009_01 w) A (setAttr (.ref e) name v) Q E s:=pickedZ (by with_unfolding_all rfl) Z81c (sfu (sfL (sfW (sfN (sfD (sfV (sfS (sfA (sfR (frC w Z81.p Z81.loose Z81.mean Z81.mg Z81.mb Z81.dp Z81.un Z81.gd Z81.cn Z81.cs Z81.ca Z81.ccd Z81.cll Z81.outer Z81.A₀ Z81.base h₀ L m s E) [A]) [e,dx]) [name]) [v]) [es]) [n]) [fs]) [rest]) [Q]) F X₀ N ne nr ht hl hz h
noncomputable def Z79P:FrZ->Prop:=fun V=>∀ (F:Fr V.h₀ V.L V.s.heap V.m) (X₀:(hd.heap_1 V.w.params).In V.h₀) (N:News V.h₀ V.L V.s.heap (((V.fA 0),excIn none (V.fW 0))::(V.fL 0))) (nr:∀ p∈(V.fL 0),p.1≠(V.fA 0)) (ht:takerIn (hd.heap_1 V.w.params) 156 (V.fS 0)=some none) (h:∀ h' dx t1 t2 hsh,Fr V.h₀ V.L h' V.m->News V.h₀ V.L h' (((V.fA 0),excIn (some dx) (V.fW 0))::(dx,dictOf [⟨hsh,.str (V.fS 0) t1,(V.fV 0)⟩] 1)::(V.fL 0))->(V.fA 0)<dx->(∀ p∈(V.fL 0),p.1<dx)->(V.fu 0) () { V.s with heap:=h',toks:=t2 }),wpAny (model pw_rk0009_01 V.w) (V.fR 0) (setAttr (.ref (V.fA 0)) (V.fS 0) (V.fV 0)) (V.fu 0) V.E V.s
@[irreducible] noncomputable def Z79:FrZ:=pickZ Z79P
theorem Z79c:Z79P Z79:=by
 intro F X₀ N nr ht h
 have X:=X₀.keeps F.keep
 have N1:=N ((Z79.fA 0),excIn none (Z79.fW 0)) (.head _)
 have I:InstAt Z79.s.heap (Z79.fA 0) (excIn none (Z79.fW 0)) 156 none:=⟨N1.1,rfl,rfl,trivial⟩
 refine set_plain X I (by k_is) (osa_exc_open (s:={ Z79.s with toks:=Z79.s.toks+1 }) X I ht fun b=>?_)
 refine wpAny_bind (wpAny_pure (wpAny_bind (wpAny_bind (wpAny_loadPart N1.1 (wpAny_bind (Looks.here (s:={ Z79.s with toks:=Z79.s.toks+1 }) (looks_clsIn X (C:=156) (by k_is)) ?_))))))
 refine wpAny_bind (wpAny_alloc ?_)
 have he:=Heap.get?_push_of_some { cls:=.type "dict",data:=.dict #[] } N1.1
 have hes:(Z79.fA 0)<Z79.s.heap.objs.size:=Heap.lt_size N1.1
 refine wpAny_bind (wpAny_update he ?_)
 refine wpAny_pure (a:=some Z79.s.heap.objs.size) ?_
 have he2:((Z79.s.heap.push { cls:=.type "dict",data:=.dict #[] }).update (Z79.fA 0) fun o=>{ o with dict:=some Z79.s.heap.objs.size }).get? (Z79.fA 0)=some (excIn (some Z79.s.heap.objs.size) (Z79.fW 0)):=Heap.get?_update_self _ he rfl
 have hd2:((Z79.s.heap.push { cls:=.type "dict",data:=.dict #[] }).update (Z79.fA 0) fun o=>{ o with dict:=some Z79.s.heap.objs.size }).get? Z79.s.heap.objs.size=some (dictOf [] 0) :=
  (Heap.get?_update_other _ _ (Nat.ne_of_lt hes)).trans (Heap.get?_push_size _ rfl)
 have hk:∀ b o,b≠(Z79.fA 0)->Z79.s.heap.get? b=some o->((Z79.s.heap.push { cls:=.type "dict",data:=.dict #[] }).update (Z79.fA 0) fun o=>{ o with dict:=some Z79.s.heap.objs.size }).get? b=some o:=fun b o hb q =>
  (Heap.get?_update_other _ _ (Ne.symm hb)).trans (Heap.get?_push_of_some _ q)
 have F2:=fr_ext F N1.2.1 N1.2.2 hk
 have N2:=news_ext (pre:=[]) N (fun _ hp=>nomatch hp) nr he2 hk
 have N3:News Z79.h₀ Z79.L ((Z79.s.heap.push { cls:=.type "dict",data:=.dict #[] }).update (Z79.fA 0) fun o=>{ o with dict:=some Z79.s.heap.objs.size }) (((Z79.fA 0),excIn (some Z79.s.heap.objs.size) (Z79.fW 0))::(Z79.s.heap.objs.size,dictOf [] 0)::(Z79.fL 0)):=by
  intro p hp
  rcases List.mem_cons.mp hp with rfl | hp
  ·exact N2 _ (.head _)
  ·rcases List.mem_cons.mp hp with rfl | hp
   ·refine ⟨hd2,Nat.ne_of_gt F.ns.lt,?_⟩
    cases q:Z79.h₀.get? Z79.s.heap.objs.size with
    | none=>rfl
    | some o=>exact absurd (Heap.lt_size (F.keep _ _ q)) (Nat.lt_irrefl _)
   ·exact N2 _ (.tail _ hp)
 have hlt:∀ p∈(Z79.fL 0),p.1<Z79.s.heap.objs.size:=fun p hp=>Heap.lt_size (N p (.tail _ hp)).1
 refine store_dict (s:={ Z79.s with toks:=Z79.s.toks+1,heap:=(Z79.s.heap.push { cls:=.type "dict",data:=.dict #[] }).update (Z79.fA 0) fun o=>{ o with dict:=some Z79.s.heap.objs.size } }) (es:=[]) (n:=0) hd2 rfl (by decide) fun h' t1 t2 hsh hs ho=>?_
 have N4:=N3 (Z79.s.heap.objs.size,dictOf [] 0) (.tail _ (.head _))
 refine h h' Z79.s.heap.objs.size t1 t2 hsh (F2.change hs N4.2.1 N4.2.2) ?_ hes hlt
 exact news_ext (pre:=[((Z79.fA 0),excIn (some Z79.s.heap.objs.size) (Z79.fW 0))]) N3 (fun p hp=>by rw [List.mem_singleton.mp hp];exact Nat.ne_of_lt hes) (fun p hp=>Nat.ne_of_lt (hlt p hp)) ho fun b o hb q=>(hs.2 b hb).trans q
theorem exc_set_new {fs:Array Value} {rest:List (Addr×Obj)} {Q:Unit->Shared->Prop} (F:Fr h₀ L s.heap m) (X₀:(hd.heap_1 w.params).In h₀) (N:News h₀ L s.heap ((e,excIn none fs)::rest))
  (nr:∀ p∈rest,p.1≠e) (ht:takerIn (hd.heap_1 w.params) 156 name=some none)
  (h:∀ h' dx t1 t2 hsh,Fr h₀ L h' m->News h₀ L h' ((e,excIn (some dx) fs)::(dx,dictOf [⟨hsh,.str name t1,v⟩] 1)::rest)->e<dx->(∀ p∈rest,p.1<dx)->Q () { s with heap:=h',toks:=t2 }) :
  wpAny (model pw_rk0009_01 w) A (setAttr (.ref e) name v) Q E s:=pickedZ (by with_unfolding_all rfl) Z79c (sfu (sfL (sfW (sfV (sfS (sfA (sfR (frC w Z79.p Z79.loose Z79.mean Z79.mg Z79.mb Z79.dp Z79.un Z79.gd Z79.cn Z79.cs Z79.ca Z79.ccd Z79.cll Z79.outer Z79.A₀ Z79.base h₀ L m s E) [A]) [e]) [name]) [v]) [fs]) [rest]) [Q]) F X₀ N nr ht h
end
end
example:True:=by w_top off;trivial
section
open NgM01 NgM01b NgM02 NgM03
/-! what a traceback's notes leave of an object: its own dict -/
noncomputable def DK (h h':Heap):Prop:=∀ b o,h.get? b=some o->∃ o',h'.get? b=some o'/\o'.dict=o.dict
theorem DK.refl (h:Heap):DK h h:=fun _ o e=>⟨o,e,rfl⟩
theorem DK.trans {h₁ h₂ h₃:Heap} (x:DK h₁ h₂) (y:DK h₂ h₃):DK h₁ h₃:=fun b o e =>
 let ⟨o',e',q⟩:=x b o e;let ⟨o'',e'',q'⟩:=y b o' e';⟨o'',e'',q'.trans q⟩
theorem DK.push (h:Heap) (o:Obj):DK h (h.push o):=fun _ o' e=>⟨o',Heap.get?_push_of_some o e,rfl⟩
theorem DK.update (h:Heap) (a:Addr) (f:Obj->Obj) (hf:∀ o,(f o).dict=o.dict/\(f o).isFreed=o.isFreed):DK h (h.update a f):=fun b o e=>by
 by_cases q:a=b
 ·subst q
  exact ⟨f o,Heap.get?_update_self f e ((hf o).2.trans (Heap.get?_some_iff.mp e).2),(hf o).1⟩
 ·exact ⟨o,(Heap.get?_update_other _ _ q).trans e,rfl⟩
noncomputable def Tame {α:Type} : Sem α->Prop
 | .pure _ | .raise _ | .unsupported _ | .finish _ | .register .. | .yield .. | .fork .. | .await ..=>True
 | .rule _ k | .at _ k | .point _ k=>Tame (k ())
 | .load _ _ k=>∀ o,Tame (k o)
 | .update _ _ f k=>(∀ o,(f o).dict=o.dict/\(f o).isFreed=o.isFreed)/\Tame (k ())
 | .alloc _ k=>∀ a,Tame (k a)
 | .loadIfAlive _ k=>∀ o,Tame (k o)
 | .fresh k=>∀ t,Tame (k t)
 | .ask k=>∀ t,Tame (k t)
 | .stack k=>∀ t,Tame (k t)
 | .handled _ k=>∀ t,Tame (k t)
 | .choose .. | .os .. | .call .. | .genState .. | .newGen .. | .resume .. | .thread ..=>False
theorem tame_wp {α:Type} {M:Model} {Γ:PySem.Ctx} {t:Sem α} (ht:Tame t):∀ {Q:α->Pos->Shared->Prop} {E:Value->Pos->Shared->Prop} {p:Pos} {s:Shared},Sem.wp M Γ t Q E p s ->
  Sem.wp M Γ t (fun a p' s'=>Q a p' s'/\DK s.heap s'.heap) (fun e p' s'=>E e p' s'/\DK s.heap s'.heap) p s:=by
 induction t with
 | pure a=>exact fun h=>⟨h,DK.refl _⟩
 | raise e=>exact fun h=>⟨h,DK.refl _⟩
 | unsupported _=>exact fun h=>h
 | finish _=>exact fun h=>h
 | register _ _=>exact fun h=>h
 | yield _ _ _ _=>exact fun h=>h
 | fork _ _=>exact fun h=>h
 | await _ _ _ _ _=>exact fun h=>h
 | rule _ k ih=>exact fun h=>ih () ht h
 | «at» _ k ih=>exact fun h=>ih () ht h
 | point _ k ih=>exact fun h=>ih () ht h
 | load a q k ih=>exact fun ⟨o,ho,h⟩=>⟨o,ho,ih o (ht o) h⟩
 | update a q f k ih =>
  intro Q E p s ⟨ho,h⟩
  refine ⟨ho,Sem.wp_mono M Γ _ (fun a p' s' x=>?_) (fun e p' s' x=>?_) _ _ (ih () ht.2 h)⟩
  ·exact ⟨x.1,(DK.update _ _ _ ht.1).trans x.2⟩
  ·exact ⟨x.1,(DK.update _ _ _ ht.1).trans x.2⟩
 | alloc o k ih =>
  intro Q E p s h
  refine Sem.wp_mono M Γ _ (fun a p' s' x=>?_) (fun e p' s' x=>?_) _ _ (ih _ (ht _) h)
  ·exact ⟨x.1,(DK.push _ _).trans x.2⟩
  ·exact ⟨x.1,(DK.push _ _).trans x.2⟩
 | loadIfAlive a k ih=>exact fun h=>ih _ (ht _) h
 | fresh k ih=>exact fun {Q E p s} h=>ih _ (ht _) (s:={ s with toks:=s.toks+1 }) h
 | ask k ih=>exact fun h=>ih _ (ht _) h
 | stack k ih=>exact fun h=>ih _ (ht _) h
 | handled o k ih=>exact fun h=>ih _ (ht _) h
 | choose _ _ _=>exact ht.elim
 | os _ _ _=>exact ht.elim
 | call _ _ _ _ _=>exact ht.elim
 | genState _ _=>exact ht.elim
 | newGen _ _=>exact ht.elim
 | resume _ _ _ _=>exact ht.elim
 | thread _=>exact ht.elim
theorem tame_any {α:Type} {M:Model} {A:Around} {t:Sem α} {Q:α->Shared->Prop} {E:Value->Shared->Prop} {s:Shared} (ht:Tame t) (h:wpAny M A t Q E s) :
  wpAny M A t (fun a s'=>Q a s'/\DK s.heap s'.heap) (fun e s'=>E e s'/\DK s.heap s'.heap) s:=fun Γ p hΓ=>tame_wp ht (h Γ p hΓ)
theorem tame_bind {α β:Type} {m:Sem α} {f:α->Sem β} (h:Tame m) (k:∀ a,Tame (f a)):Tame (m >>= f):=by
 show Tame (m.bind f)
 induction m with
 | pure a=>exact k a
 | raise | unsupported | finish | register | yield | fork | await=>trivial
 | rule _ _ ih=>exact ih () h
 | «at» _ _ ih=>exact ih () h
 | point _ _ ih=>exact ih () h
 | load _ _ _ ih=>exact fun o=>ih o (h o)
 | update _ _ _ _ ih=>exact ⟨h.1,ih () h.2⟩
 | alloc _ _ ih=>exact fun o=>ih o (h o)
 | loadIfAlive _ _ ih=>exact fun o=>ih o (h o)
 | fresh _ ih=>exact fun o=>ih o (h o)
 | ask _ ih=>exact fun o=>ih o (h o)
 | stack _ ih=>exact fun o=>ih o (h o)
 | handled _ _ ih=>exact fun o=>ih o (h o)
 | choose | os | call | genState | newGen | resume | thread=>exact h.elim
theorem tame_pure {α:Type} {a:α} : Tame (pure a:Sem α):=trivial
theorem mapF_ok (f:Array Value->Array Value) (o:Obj):(Obj.mapFields f o).dict=o.dict/\(Obj.mapFields f o).isFreed=o.isFreed:=by
 obtain ⟨c,d,dt,sl⟩:=o
 cases dt <;> exact ⟨rfl,rfl⟩
theorem tame_fieldsOf (v:Value):Tame (fieldsOf v):=by
 unfold fieldsOf
 cases v <;> try trivial
 refine tame_bind (fun o=>trivial) fun o=>?_
 split <;> trivial
theorem tame_field (v:Value) (i:Nat):Tame (field v i):=by
 unfold field
 refine tame_bind (tame_fieldsOf v) fun vs=>?_
 split <;> trivial
theorem tame_setField (v:Value) (i:Nat) (x:Value):Tame (setField v i x):=by
 unfold setField
 cases v <;> try trivial
 unfold updateField
 refine tame_bind (fun o=>trivial) fun o=>?_
 split
 ·split
  ·exact ⟨mapF_ok _,trivial⟩
  ·trivial
 ·trivial
theorem tame_setFlight (e:Value) (f:Option Addr):Tame (setFlight e f):=by
 unfold setFlight
 refine tame_bind (tame_field _ _) fun tb=>?_
 split
 ·exact tame_setField _ _ _
 ·trivial
theorem tame_keptBack (env:Env) (b:Bool) (l:List Env):Tame (keptBack env b l):=by
 cases l with
 | nil =>
  show Tame (if env.scope.isGenerator||env.scope.isCoroutine then pure Value.none else do return if <- underTheClaimsCaller then Value.notImplemented else Value.none)
  by_cases h:(env.scope.isGenerator||env.scope.isCoroutine)=true
  ·rw [if_pos h]
   trivial
  ·rw [if_neg h]
   unfold underTheClaimsCaller
   exact tame_bind (tame_bind (fun _=>trivial) fun _=>trivial) fun _=>trivial
 | cons c r=>trivial
theorem tame_behind (env:Env) (l:List Env):Tame (behindIsImport env l):=by
 unfold behindIsImport
 split
 ·trivial
 ·split
  ·trivial
  ·exact tame_bind (tame_field _ _) fun _=>trivial
theorem tame_ready:∀ l:List Env,Tame (readyFrames l)
 | []=>trivial
 | env::outer=>by
  unfold readyFrames
  split
  ·refine tame_bind (fun o=>trivial) fun o=>?_
   split
   ·trivial
   ·refine tame_bind (tame_behind _ _) fun b=>tame_bind (tame_keptBack _ _ _) fun back=>tame_bind ⟨fun o=>?_,trivial⟩ fun _=>tame_ready outer
    obtain ⟨c,d,dt,sl⟩:=o
    cases dt <;> exact ⟨rfl,rfl⟩
  ·trivial
theorem tame_frameOf (env:Env):Tame (PySem.frameOf env):=by
 unfold PySem.frameOf
 refine tame_bind (tame_bind (fun _=>trivial) fun _=>trivial) fun l=>tame_bind ?_ fun r=>?_
 ·generalize List.dropWhile _ l=l'
  cases l' with
  | nil=>trivial
  | cons a r=>exact tame_bind (tame_ready _) fun _=>trivial
 ·cases r <;> trivial
theorem tame_entryPlace (f:Addr) (b:Bool):Tame (entryPlaceOf f b):=by
 unfold entryPlaceOf
 refine tame_bind (fun _=>trivial) fun l=>?_
 split <;> trivial
theorem tame_newEntry (a b c d e:Value) (l:List Value):Tame (EntryCells.newEntry a b c d e l):=by
 unfold EntryCells.newEntry newFields newObj newObjAsIs
 dsimp only
 generalize (if l.isEmpty then List.replicate 6 Value.none else l)=l'
 split
 ·trivial
 ·exact tame_bind (fun _=>trivial) fun _=>trivial
theorem tame_noteFrame (e:Value) (env:Env):Tame (noteFrame e env):=by
 unfold noteFrame
 cases env.frame with
 | none=>trivial
 | some f =>
  refine tame_bind (tame_field _ _) fun head=>?_
  have tail:Tame (do setField e 1 (<- EntryCells.newEntry head (<- PySem.frameOf env) .none (rawInt f) .none (<- entryPlaceOf f (head != .none)))) :=
   tame_bind (tame_frameOf _) fun a=>tame_bind (tame_entryPlace _ _) fun pl=>tame_bind (tame_newEntry _ _ _ _ _ _) fun b=>tame_setField _ _ _
  dsimp only
  split
  ·refine tame_bind (tame_field _ _) fun fl=>?_
   split
   ·trivial
   ·exact tame_bind (tame_setField _ _ _) fun _=>tail
  ·exact tail
theorem tame_leaving (e:Value) (env:Env):Tame (leaving env e):=tame_bind (tame_noteFrame _ _) fun _=>tame_setFlight _ _
end
example:True:=by w_top off;trivial
section
open NgM01 NgM01b NgM02 NgM03
noncomputable def RaisedX (base:Heap) (l:List Env) (e dx:Addr) (news:List (Addr×Obj)) (h:Heap):Prop :=
 ∃ B a0,base.StaysIn B/\(∀ q∈news,B.get? q.1=some q.2/\base.get? q.1=none)/\Heap.FlyingW B l e (.ref 156) a0 h/\∃ oe,h.get? e=some oe/\oe.dict=some dx
theorem RaisedX.less {base:Heap} {l:List Env} {e dx:Addr} {news news':List (Addr×Obj)} {h:Heap} (R:RaisedX base l e dx news h) (k:∀ q∈news',q∈news):RaisedX base l e dx news' h:=by
 refine e2a3 R fun B a0 h1 h2 h3=>?_;clear R
 exact ⟨B,a0,h1,fun q hq=>h2 q (k q hq),h3⟩
section
variable {M:Model} {A:Around} {E:Value->Shared->Prop} {s':Shared} {g g₂:Heap} {env:Env} {e dx:Addr} {Q:Unit->Shared->Prop} {news:List (Addr×Obj)} {fs:Array Value} {a0:Value}
theorem funFrames_push (K:Below A base outer g) (F:Fr g L s'.heap m) (hf:env.frame=some L) (hk:env.scope.kind≠.module):s'.heap.FunFrames base (env::outer):=by
 refine e3a3 F.ns fun o es ep ho hd _=>?_
 refine ⟨hk,⟨L,o,hf,?_,ho,?_⟩,K.frames.of_keeps fun b o e _=>⟨o,F.keep b o e,rfl⟩⟩
 ·exact fresh_of_stays K.stays (Heap.get?_none_of_le F.above)
 ·intro vs q
  rw [hd] at q
  cases q
noncomputable def Z85P:FrZ->Prop:=fun V=>∀ (M:Model) (K:Below (V.fR 0) V.base V.outer (V.fh 0)) (F:Fr (V.fh 0) V.L (V.fZ 0).heap V.m) (N:News (V.fh 0) V.L (V.fZ 0).heap (((V.fA 0),excIn (some (V.fA 1)) (V.fW 0))::(V.fL 0))) (h1:(V.fW 0)[1]?=some .none) (h0:(V.fW 0)[0]?=some (V.fV 0)) (nd:∀ q∈(V.fL 0),q.1≠(V.fA 0)) (hf:(V.fE 0).frame=some V.L) (hk:(V.fE 0).scope.kind≠.module) (hQ:∀ h',RaisedX V.base V.outer (V.fA 0) (V.fA 1) (V.fL 0) h'->(V.fh 0).UpToSlots h'->(V.fu 0) () { (V.fZ 0) with heap:=h' }),wpAny M ((V.fR 0).deeper (V.fE 0)) (leaving (V.fE 0) (.ref (V.fA 0))) (V.fu 0) V.E (V.fZ 0)
@[irreducible] noncomputable def Z85:FrZ:=pickZ Z85P
theorem Z85c:Z85P Z85:=by
 intro M K F N h1 h0 nd hf hk hQ
 have ff:=funFrames_push K F hf hk
 have N0:=N _ (.head _)
 have hin:∀ v∈(Z85.fE 0)::Z85.outer,∀ b,v.frame=some b->b∈(Z85.fA 0)::((Z85.fE 0)::Z85.outer).filterMap (·.frame):=fun v he b hb=>.tail _ (List.mem_filterMap.mpr ⟨v,he,hb⟩)
 have enb:Z85.base.get? (Z85.fA 0)=none:=fresh_of_stays K.stays N0.2.2
 have st0:Z85.base.StaysIn (Z85.fZ 0).heap:=fun b o q=>F.keep b o (K.stays b o q)
 have st:Z85.base.StaysIn (hideAll (Z85.fZ 0).heap ((Z85.fA 0)::((Z85.fE 0)::Z85.outer).filterMap (·.frame))):=fun b o q=>hideAll_get _ (st0 b o q) fun hm=>by
  rcases List.mem_cons.mp hm with rfl | hm
  ·rw [enb] at q;cases q
  ·rw [(ff.mem hm).1] at q;cases q
 have hl:∀ q∈(Z85.fL 0),(hideAll (Z85.fZ 0).heap ((Z85.fA 0)::((Z85.fE 0)::Z85.outer).filterMap (·.frame))).get? q.1=some q.2/\Z85.base.get? q.1=none:=fun q hq=>by
  have Nq:=N q (.tail _ hq)
  refine ⟨hideAll_get _ Nq.1 fun hm=>?_,fresh_of_stays K.stays Nq.2.2⟩
  rcases List.mem_cons.mp hm with hm | hm
  ·exact nd q hq hm
  refine e1a2 (List.mem_filterMap.mp hm) fun v he hfv=>?_
  rcases List.mem_cons.mp he with rfl | he
  ·rw [hf] at hfv
   exact Nq.2.1 (Option.some.inj hfv).symm
  ·refine e1a2 ((K.frames.mem (List.mem_filterMap.mpr ⟨v,he,hfv⟩)).2) fun o ho _=>?_
   rw [Nq.2.2] at ho;cases ho
 have W:=wpAny_leaving_firstW (M:=M) (A:=(Z85.fR 0).deeper (Z85.fE 0)) (E:=fun _ _=>False) (base:=hideAll (Z85.fZ 0).heap ((Z85.fA 0)::((Z85.fE 0)::Z85.outer).filterMap (·.frame))) (Q:=fun _ s₂=>∃ h',s₂={ (Z85.fZ 0) with heap:=h' }/\Heap.LeftW (hideAll (Z85.fZ 0).heap ((Z85.fA 0)::((Z85.fE 0)::Z85.outer).filterMap (·.frame))) ((Z85.fE 0)::Z85.outer) (Z85.fA 0) (.ref 156) (Z85.fV 0) (Z85.fZ 0).heap h')
  (Around.frames_deeper K.stack) (funFrames_hide ff hin) hf N0.1 (fun b o q=>of_hideAll _ q) (hideAll_none _ (.head _)) rfl h1 h0 (fun h' hl=>⟨h',rfl,hl⟩)
 refine wpAny_mono (tame_any (tame_leaving _ _) W) (fun _ s₂ x=>?_) fun _ _ x=>x.1.elim
 refine e0a2 x fun Q5 dk=>?_;clear x;refine e1a5 Q5 fun h' Q6=>?_;clear Q5;obtain rfl:=Q6;intro k1 Q7 k3 k4;refine e0a3 Q7 fun _ _ k2=>?_;clear Q7
 refine e1a2 (dk _ _ N0.1) fun o' ho' hd'=>?_
 exact hQ h' ⟨_,(Z85.fV 0),st,hl,⟨k1,hideAll_none _ (.head _),k2,k3⟩,o',ho',hd'⟩ ((Heap.UpToSlots.of_keeps F.keep).trans k4)
theorem leave_firstX (K:Below A base outer g) (F:Fr g L s'.heap m) (N:News g L s'.heap ((e,excIn (some dx) fs)::news)) (h1:fs[1]?=some .none) (h0:fs[0]?=some a0) (nd:∀ q∈news,q.1≠e)
  (hf:env.frame=some L) (hk:env.scope.kind≠.module)
  (hQ:∀ h',RaisedX base outer e dx news h'->g.UpToSlots h'->Q () { s' with heap:=h' }) :
  wpAny M (A.deeper env) (leaving env (.ref e)) Q E s':=pickedZ (by with_unfolding_all rfl) Z85c (sfV (sfW (sfL (sfu (sfA (sfE (sfh (sfZ (sfR (frC Z85.w Z85.p Z85.loose Z85.mean Z85.mg Z85.mb Z85.dp Z85.un Z85.gd Z85.cn Z85.cs Z85.ca Z85.ccd Z85.cll outer Z85.A₀ base Z85.h₀ L m Z85.s E) [A]) [s']) [g]) [env]) [e,dx]) [Q]) [news]) [fs]) [a0]) M K F N h1 h0 nd hf hk hQ
theorem leave_onX (K:Below A base outer g) (F:Fr g L g₂ m) (R:RaisedX base (env::outer) e dx news s'.heap) (hsm:g₂.UpToSlots s'.heap) (hf:env.frame=some L)
  (hQ:∀ h',RaisedX base outer e dx news h'->g.UpToSlots h'->Q () { s' with heap:=h' }) :
  wpAny M (A.deeper env) (leaving env (.ref e)) Q E s':=by
 obtain ⟨B,a0,hB,hl,hfl,oe,ho,hd⟩:=R
 have W:=wpAny_leaves_onW (M:=M) (A:=A.deeper env) (E:=fun _ _=>False) (Q:=fun _ s₂=>∃ h',s₂={ s' with heap:=h' }/\Heap.FlyingW B outer e (.ref 156) a0 h'/\s'.heap.UpToSlots h') (Around.frames_deeper K.stack) hf hfl (fun h' x1 x2=>⟨h',rfl,x1,x2⟩)
 refine wpAny_mono (tame_any (tame_leaving _ _) W) (fun _ s₂ x=>?_) fun _ _ x=>x.1.elim
 refine e0a2 x fun Q8 dk=>?_;clear x;refine e1a3 Q8 fun h' Q9=>?_;clear Q8;obtain rfl:=Q9;intro x1 x2
 refine e1a2 (dk _ _ ho) fun o' ho' hd'=>?_
 exact hQ h' ⟨B,a0,hB,hl,x1,o',ho',hd'.trans hd⟩ ((Heap.UpToSlots.of_keeps F.keep).trans (hsm.trans x2))
end
end
theorem NgB08.gB08:True:=trivial
example:True:=by w_top off;trivial
section
open NgM01 NgM01b NgM02 NgM03 NgB08
noncomputable abbrev excFs (t:Addr):Array Value:=#[.ref t,.none,.none,.none,.bool false,.none]
section
variable {rest:List (Addr×Obj)} {Q E:Value->Shared->Prop} {x:Cel}
theorem exc_set_old1 {A:Around} {e dx x:Addr} {ox:Obj} {name:Str} {v:Value} {es:List DictEntry} {n:Nat} {fs:Array Value} {Q:Unit->Shared->Prop} {E:Value->Shared->Prop} (F:Fr h₀ L s.heap m) (X₀:(hd.heap_1 w.params).In h₀) (N:News h₀ L s.heap ((x,ox)::(e,excIn (some dx) fs)::(dx,dictOf es n)::rest))
  (ne:e≠dx) (nx:x≠dx) (nr:∀ p∈rest,p.1≠dx) (ht:takerIn (hd.heap_1 w.params) 156 name=some none) (hl:(getL name es).isSome=true) (hz:es.length≤100)
  (h:∀ h' t1 t2 hsh,Fr h₀ L h' m->News h₀ L h' ((x,ox)::(e,excIn (some dx) fs)::(dx,dictOf (putL name hsh (.str name t1) v es) (putN name es n))::rest)->Q () { s with heap:=h',toks:=t2 }) :
  wpAny (model pw_rk0009_01 w) A (setAttr (.ref e) name v) Q E s:=by
 refine exc_set_old (rest:=(x,ox)::rest) (fs:=fs) (n:=n) F X₀ (fun q hq=>N q ?_) ne (fun p hp=>?_) ht hl hz fun h' t1 t2 hsh F' N'=>h h' t1 t2 hsh F' fun q hq=>N' q ?_
 ·exact rot3 (rot3 hq)
 ·rcases List.mem_cons.mp hp with rfl | hp
  ·exact nx
  ·exact nr p hp
 ·exact rot3 hq
example:True:=by (k_with "B08" => (fail_if_success (fail_if_success (have:=gB08))));(k_with "setAttr ref str" => k_extra "B08";(k_here;k_dflt (refine' exc_set_new ?Y0 ?Y1 ?Y2 ?Y3 ?Y4 ?_;(case Y0=>k_asm);(case Y1=>k_asm);(case Y2=>assumption);(case Y3=>exact lt_ne_all (by assumption) (Nat.le_refl _));(case Y4=>k_is);k_whole;intro Y5 Y6 Y7 Y8 Y9 Y10 Y11 Y12 Y13)));(k_with "setAttr ref ref" => k_extra "B08";(k_here;k_dflt (refine' exc_set_old ?Y0 ?Y1 ?Y2 ?Y3 ?Y4 ?Y5 ?Y6 ?Y7 ?_;(case Y0=>k_asm);(case Y1=>k_asm);(case Y2=>assumption);(case Y3=>exact Nat.ne_of_lt (by assumption));(case Y4=>exact lt_ne_all (by assumption) (Nat.le_refl _));(case Y5=>k_is);(case Y6=>exact rfl);(case Y7=>exact Nat.le_of_ble_eq_true rfl);k_whole;intro Y8 Y9 Y10 Y11 Y12 Y13)));(k_with "setAttr ref ref" => k_extra "B08";(k_here;k_dflt (refine' exc_set_old1 ?Y0 ?Y1 ?Y2 ?Y3 ?Y4 ?Y5 ?Y6 ?Y7 ?Y8 ?_;(case Y0=>k_asm);(case Y1=>k_asm);(case Y2=>assumption);(case Y3=>exact Nat.ne_of_lt (by assumption));(case Y4=>exact Nat.ne_of_gt (by assumption));(case Y5=>exact lt_ne_all (by assumption) (Nat.le_refl _));(case Y6=>k_is);(case Y7=>exact rfl);(case Y8=>exact Nat.le_of_ble_eq_true rfl);k_whole;intro Y9 Y10 Y11 Y12 Y13 Y14)));trivial
noncomputable def Z51P:FrZ->Prop:=fun V=>∀ (s:Shared) (C:Cx 10 V.w V.p V.loose V.mean V.mg V.mb V.dp V.un V.cs V.outer V.A₀ V.base V.h₀ V.L V.m s) (N:News V.h₀ V.L s.heap (V.fL 0)) (hl:((V.fc 0).lc,locObj (V.fc 0))∈(V.fL 0)) (hd:((V.fc 0).ld,dictOf [] 0)∈(V.fL 0)) (ret:∀ e dx t D k h' tk',Fr V.h₀ V.L h' V.m->News V.h₀ V.L h' ((e,excIn (some dx) (excFs t))::(dx,dictOf D k)::(V.fL 0))->D.length≤3->getL "loc" D=some (some (.ref (V.fc 0).lc))->(∀ q∈(dx,dictOf D k)::(V.fL 0),q.1≠e)->(V.fQ 0) (.ref e) { s with heap:=h',toks:=tk' }),wpAny (model pw_rk0009_01 V.w) (ktrTop V.dp V.un V.gd V.cn V.cs V.L V.ca V.ccd V.cll V.outer) (call (.ref 156) [.str (V.fS 0) (V.fT 0),.ref (V.fc 0).lc]) (V.fQ 0) V.E s
@[irreducible] noncomputable def Z51:FrZ:=pickZ Z51P
set_option maxHeartbeats 4000000 in
theorem Z51c:Z51P Z51:=by
 intro s C N hl hd ret
 obtain ⟨B,F,X,T,hk,hdp,hun⟩:=C
 obtain ⟨h,g,d,t,os⟩:=s
 refine exc_call (X.keeps F.keep) (by rw [sizeLine_eq];exact Nat.le_of_ble_eq_true rfl) ?_
 have k:∀ b o,h.get? b=some o->((h.push { cls:=.type "tuple",data:=.seq ([Value.str (Z51.fS 0) (Z51.fT 0),.ref (Z51.fc 0).lc] : List Value).toArray }).push (excObj h.objs.size)).get? b=some o:=fun b o e=>Heap.get?_push_of_some _ (Heap.get?_push_of_some _ e)
 have ge:((h.push { cls:=.type "tuple",data:=.seq ([Value.str (Z51.fS 0) (Z51.fT 0),.ref (Z51.fc 0).lc] : List Value).toArray }).push (excObj h.objs.size)).get? (h.objs.size+1)=some (excObj h.objs.size):=by heap_get
 have nr:∀ q∈(Z51.fL 0),q.1<h.objs.size+1:=fun q hq=>Nat.lt_succ_of_lt (Heap.lt_size (N q hq).1)
 have hs:h.objs.size<h.objs.size+1:=Nat.lt_succ_self _
 generalize hh:(h.push { cls:=.type "tuple",data:=.seq ([Value.str (Z51.fS 0) (Z51.fT 0),.ref (Z51.fc 0).lc] : List Value).toArray }).push (excObj h.objs.size)=h1 at *
 have F1:Fr Z51.h₀ Z51.L h1 Z51.m:=F.keeps k
 have N1:News Z51.h₀ Z51.L h1 ((h.objs.size+1,excIn none (excFs h.objs.size))::(Z51.fL 0)):=by
  intro q hq
  rcases List.mem_cons.mp hq with rfl | hq
  ·refine ⟨ge,?_,?_⟩
   ·exact fun e=>by have:=F.ns.lt;rw [<- e] at this;exact absurd (Nat.lt_trans hs this) (Nat.lt_irrefl _)
   ·cases q:Z51.h₀.get? (h.objs.size+1) with
    | none=>rfl
    | some o=>exact absurd (Nat.lt_trans hs (Heap.lt_size (F.keep _ _ q))) (Nat.lt_irrefl _)
  ·exact ⟨k _ _ (N q hq).1,(N q hq).2⟩
 clear ge k
 k_dflt ktr_enter
 k_steps
 rename News Z51.h₀ Z51.L _ _=>kN
 exact ret _ _ _ _ _ _ _ (by assumption) (fun q hq=>kN q (.tail _ hq)) (Nat.le_of_ble_eq_true rfl) rfl (List.forall_mem_cons.mpr ⟨Nat.ne_of_gt (by assumption),fun q hq=>Nat.ne_of_lt (nr q hq)⟩)
theorem exc_make {msg:Str} {tm:Tok} (C:Cx 10 w p loose mean mg mb dp un cs outer A₀ base h₀ L m s) (N:News h₀ L s.heap rest)
  (hl:(x.lc,locObj x)∈rest) (hd:(x.ld,dictOf [] 0)∈rest)
  (ret:∀ e dx t D k h' tk',Fr h₀ L h' m->News h₀ L h' ((e,excIn (some dx) (excFs t))::(dx,dictOf D k)::rest)->D.length≤3->getL "loc" D=some (some (.ref x.lc))->(∀ q∈(dx,dictOf D k)::rest,q.1≠e)->Q (.ref e) { s with heap:=h',toks:=tk' }) :
  wpAny (model pw_rk0009_01 w) (ktrTop dp un gd cn cs L ca ccd cll outer) (call (.ref 156) [.str msg tm,.ref x.lc]) Q E s:=pickedZ (by with_unfolding_all rfl) Z51c (sfT (sfS (sfc (sfQ (sfL (frC w p loose mean mg mb dp un gd cn cs ca ccd cll outer A₀ base h₀ L m Z51.s E) [rest]) [Q]) [x]) [msg]) [tm]) s C N hl hd ret
example:True:=by (k_with "setAttr ref none" => k_extra "B08";(k_here;k_dflt (refine' exc_set_old ?Y0 ?Y1 ?Y2 ?Y3 ?Y4 ?Y5 ?Y6 ?Y7 ?_;(case Y0=>k_asm);(case Y1=>k_asm);(case Y2=>assumption);(case Y3=>exact Nat.ne_of_lt (by assumption));(case Y4=>exact lt_ne_all (by assumption) (Nat.le_refl _));(case Y5=>k_is);(case Y6=>exact rfl);(case Y7=>exact Nat.le_of_ble_eq_true rfl);k_whole;intro Y8 Y9 Y10 Y11 Y12 Y13)));trivial
noncomputable def Z52P:FrZ->Prop:=fun V=>∀ (s:Shared) (C:Cx 10 V.w V.p V.loose V.mean V.mg V.mb V.dp V.un V.cs V.outer V.A₀ V.base V.h₀ V.L V.m s) (N:News V.h₀ V.L s.heap (V.fL 0)) (ret:∀ e dx t D k h' tk',Fr V.h₀ V.L h' V.m->News V.h₀ V.L h' ((e,excIn (some dx) (excFs t))::(dx,dictOf D k)::(V.fL 0))->D.length≤3->getL "loc" D=some (some .none)->(∀ q∈(dx,dictOf D k)::(V.fL 0),q.1≠e)->(V.fQ 0) (.ref e) { s with heap:=h',toks:=tk' }),wpAny (model pw_rk0009_01 V.w) (ktrTop V.dp V.un V.gd V.cn V.cs V.L V.ca V.ccd V.cll V.outer) (call (.ref 156) [.str (V.fS 0) (V.fT 0),.none]) (V.fQ 0) V.E s
@[irreducible] noncomputable def Z52:FrZ:=pickZ Z52P
set_option maxHeartbeats 4000000 in
theorem Z52c:Z52P Z52:=by
 intro s C N ret
 obtain ⟨B,F,X,T,hk,hdp,hun⟩:=C
 obtain ⟨h,g,d,t,os⟩:=s
 refine exc_call (X.keeps F.keep) (by rw [sizeLine_eq];exact Nat.le_of_ble_eq_true rfl) ?_
 have k:∀ b o,h.get? b=some o->((h.push { cls:=.type "tuple",data:=.seq ([Value.str (Z52.fS 0) (Z52.fT 0),.none] : List Value).toArray }).push (excObj h.objs.size)).get? b=some o:=fun b o e=>Heap.get?_push_of_some _ (Heap.get?_push_of_some _ e)
 have ge:((h.push { cls:=.type "tuple",data:=.seq ([Value.str (Z52.fS 0) (Z52.fT 0),.none] : List Value).toArray }).push (excObj h.objs.size)).get? (h.objs.size+1)=some (excObj h.objs.size):=by heap_get
 have nr:∀ q∈(Z52.fL 0),q.1<h.objs.size+1:=fun q hq=>Nat.lt_succ_of_lt (Heap.lt_size (N q hq).1)
 have hs:h.objs.size<h.objs.size+1:=Nat.lt_succ_self _
 generalize hh:(h.push { cls:=.type "tuple",data:=.seq ([Value.str (Z52.fS 0) (Z52.fT 0),.none] : List Value).toArray }).push (excObj h.objs.size)=h1 at *
 have F1:Fr Z52.h₀ Z52.L h1 Z52.m:=F.keeps k
 have N1:News Z52.h₀ Z52.L h1 ((h.objs.size+1,excIn none (excFs h.objs.size))::(Z52.fL 0)):=by
  intro q hq
  rcases List.mem_cons.mp hq with rfl | hq
  ·refine ⟨ge,?_,?_⟩
   ·exact fun e=>by have:=F.ns.lt;rw [<- e] at this;exact absurd (Nat.lt_trans hs this) (Nat.lt_irrefl _)
   ·cases q:Z52.h₀.get? (h.objs.size+1) with
    | none=>rfl
    | some o=>exact absurd (Nat.lt_trans hs (Heap.lt_size (F.keep _ _ q))) (Nat.lt_irrefl _)
  ·exact ⟨k _ _ (N q hq).1,(N q hq).2⟩
 clear ge k
 k_dflt ktr_enter
 k_steps
 rename News Z52.h₀ Z52.L _ _=>kN
 exact ret _ _ _ _ _ _ _ (by assumption) (fun q hq=>kN q (.tail _ hq)) (Nat.le_of_ble_eq_true rfl) rfl (List.forall_mem_cons.mpr ⟨Nat.ne_of_gt (by assumption),fun q hq=>Nat.ne_of_lt (nr q hq)⟩)
theorem exc_make0 {msg:Str} {tm:Tok} (C:Cx 10 w p loose mean mg mb dp un cs outer A₀ base h₀ L m s) (N:News h₀ L s.heap rest)
  (ret:∀ e dx t D k h' tk',Fr h₀ L h' m->News h₀ L h' ((e,excIn (some dx) (excFs t))::(dx,dictOf D k)::rest)->D.length≤3->getL "loc" D=some (some .none)->(∀ q∈(dx,dictOf D k)::rest,q.1≠e)->Q (.ref e) { s with heap:=h',toks:=tk' }) :
  wpAny (model pw_rk0009_01 w) (ktrTop dp un gd cn cs L ca ccd cll outer) (call (.ref 156) [.str msg tm,.none]) Q E s:=pickedZ (by with_unfolding_all rfl) Z52c (sfT (sfS (sfQ (sfL (frC w p loose mean mg mb dp un gd cn cs ca ccd cll outer A₀ base h₀ L m Z52.s E) [rest]) [Q]) [msg]) [tm]) s C N ret
end
end
theorem NgM09.gM09:True:=trivial
example:True:=by w_top off;trivial
section
open NgM01 NgM01b NgM02 NgM03 NgM09
noncomputable def RaisX (w:World) (E:Value->Shared->Prop) (v:Value) (s₁:Shared):Prop :=
 ∃ e dx t,v=.ref e/\(hd.heap_1 w.params).In s₁.heap/\s₁.heap.get? e=some (excIn (some dx) (excFs t))/\E (.ref e) s₁
section
variable {A:Around} {E:Value->Shared->Prop} {env:Env}
theorem Raise_X {x:Expr} {pos:Pos} {Q:Flow->Shared->Prop} (hh:A.handled=none) (h:wpAny (model pw_rk0009_01 w) A (eval x env) (RaisX w E) E s):wpAny (model pw_rk0009_01 w) A (exec (.Raise (some x) none pos) env) Q E s:=by
 show wpAny (model pw_rk0009_01 w) A (do standAt pos;raiseStmt env (some (do let v <- eval x env;standAt pos;pure v)) none) Q E s
 refine wpAny_bind (wpAny_standAt ?_)
 unfold raiseStmt
 dsimp only
 refine wpAny_bind (wpAny_bind (wpAny_mono h (fun v s₁ h₁=>wpAny_bind (wpAny_standAt (wpAny_pure ?_))) fun _ _ x=>x))
 refine e3a4 h₁ fun e dx t Q10=>?_;clear h₁;obtain rfl:=Q10;intro X he hE
 obtain ⟨hp,g,d,tk,os⟩:=s₁
 obtain ⟨q,bs,hdct,sn,sub,ab,col,dd,k0,k1,k2,k3,k5,hC⟩:=exc_cls X
 have hcB:(Value.ref 156::[Value.type "Exception",.type "BaseException",.type "object"]).contains (.type "BaseException")=true:=by decide +kernel
 repeat (first | with_reducible refine wpAny_loadPart_at he ?_ | with_reducible refine wpAny_loadPart_at hC ?_ | (with_reducible refine wpAny_isSubtype_exc hC ?_;rw [hcB]) | wp_step)
 exact wpAny_raiseNew_none hh hE
end
example:True:=by (k_with "M09" => (fail_if_success (fail_if_success (have:=gM09))));(k_with "call ref" => k_extra "M09";(k_here;k_dflt (refine' exc_make ?Y0 ?Y1 ?Y2 ?Y3 ?_;(case Y0=>exact ⟨by k_asm,by k_asm,by k_asm,by k_asm,by first | exact rfl | assumption,by (dsimp only [ktrTop,Around.deeper];omega),by (dsimp only [ktrTop,Around.deeper];omega)⟩);(case Y1=>k_asm);(case Y2=>k_mem);(case Y3=>k_mem);k_whole;intro Y4 Y5 Y6 Y7 Y8 Y9 Y10 Y11 Y12 Y13 Y14 Y15)));(k_with "call ref" => k_extra "M09";(k_here;k_dflt (refine' exc_make0 ?Y0 ?Y1 ?_;(case Y0=>exact ⟨by k_asm,by k_asm,by k_asm,by k_asm,by first | exact rfl | assumption,by (dsimp only [ktrTop,Around.deeper];omega),by (dsimp only [ktrTop,Around.deeper];omega)⟩);(case Y1=>k_asm);k_whole;intro Y2 Y3 Y4 Y5 Y6 Y7 Y8 Y9 Y10 Y11 Y12 Y13)));(k_with "exec Raise some none" => k_extra "M09";(k_here;k_dflt (refine' Raise_X ?Y0 ?_;(case Y0=>exact rfl);k_whole)));(k_with "RaisX ref" => k_extra "M09";(k_here;(refine' ⟨_,_,_,rfl,?Y0,?Y1,?_⟩;(case Y0=>exact Frag.In.keeps (by assumption) (Fr.keep (by assumption)));(case Y1=>exact (by assumption:News _ _ _ (_::_)) _ (.head _) |>.1);k_whole)));(k_with "leaving ref" => k_extra "M09";(k_here;k_dflt (refine' leave_firstX ?Y0 ?Y1 ?Y2 ?Y3 ?Y4 ?Y5 ?Y6 ?Y7 ?_;(case Y0=>k_asm);(case Y1=>k_asm);(case Y2=>assumption);(case Y3=>exact rfl);(case Y4=>exact rfl);(case Y5=>assumption);(case Y6=>exact rfl);(case Y7=>(intro Y7;cases Y7));k_whole;intro Y8 Y9 Y10)));trivial
section
variable {a:LexA} {chars:List Cel} {cl:Addr} {st:LexS} {rest:List (Addr×Obj)} {Q E:Value->Shared->Prop}
theorem led_less (x:Addr×Obj) (a:LexA) (st:LexS):∀ q∈x::rest,q∈x::lexLed a st rest:=fun q hq=>by
 rcases List.mem_cons.mp hq with h | h
 ·exact h▸.head _
 ·exact .tail _ (List.mem_append_right [_,_,_,_,_,_] h)
noncomputable def locOf:List Cel->Value
 | x::_=>.ref x.lc
 | []=>.none
noncomputable abbrev ErrRet (base:Heap) (fr:Env) (outer:List Env) (rest:List (Addr×Obj)) (h₀:Heap) (L:Addr) (m:Str->Option Value) (s:Shared) (E:Value->Shared->Prop) (loc:Value):Prop :=
 ∀ e dx D k g₂ h' tk',Fr h₀ L g₂ m->g₂.UpToSlots h'->RaisedX base (fr::outer) e dx ((dx,dictOf D k)::rest) h'->D.length≤3->getL "loc" D=some (some loc)->E (.ref e) { s with heap:=h',toks:=tk' }
noncomputable def Z73P:FrZ->Prop:=fun V=>∀ (str:List Cel) (C:Cx 30 V.w V.p V.loose V.mean V.mg V.mb V.dp V.un V.cs V.outer V.A₀ V.base V.h₀ V.L V.m V.s) (R:LexR (V.fa 0) (V.fC 0) (V.fA 0) (V.fL 0)) (hx:∀ x∈str,CelIn (V.fL 0) x) (hr:str.length≤1000) (S:StrOf (V.fC 0) (V.fA 0) (V.fx 0) str) (N:News V.h₀ V.L V.s.heap (lexLed (V.fa 0) (V.fx 0) (V.fL 0))) (hz:(V.fx 0).ct.length≤900) (ret:ErrRet V.base (envX V.cn V.cs V.L V.ca V.ccd V.cll) V.outer (V.fL 0) V.h₀ V.L V.m V.s V.E (locOf str)),wpAny (model pw_rk0009_01 V.w) (ktrTop V.dp V.un V.gd V.cn V.cs V.L V.ca V.ccd V.cll V.outer) (call (.ref 265) [.ref (V.fa 0).lx,.str (V.fS 0) (V.fT 0)]) (V.fQ 0) V.E V.s
@[irreducible] noncomputable def Z73:FrZ:=pickZ Z73P
set_option maxHeartbeats 4000000 in
theorem Z73c:Z73P Z73:=by
 intro str C R hx hr S N hz ret
 obtain ⟨B,F,X,T,hk,hdp,hun⟩:=C
 have D:=R.D
 cases str with
 | nil =>
  refine wpAny_call ?_
  k_dflt ktr_enter
  k_steps
  all_goals exact ret _ _ _ _ _ _ _ (by assumption) (by assumption) (RaisedX.less (by assumption) (led_less _ _ _)) (by assumption) (by assumption)
 | cons x r =>
  have hx0:=hx x (.head _)
  refine e0a4 (id hx0) fun hx1 hx2 hx3 hx4=>?_
  have hr:r.length+1≤1000:=hr
  refine wpAny_call ?_
  k_dflt ktr_enter
  k_steps
  all_goals exact ret _ _ _ _ _ _ _ (by assumption) (by assumption) (RaisedX.less (by assumption) (led_less _ _ _)) (by assumption) (by assumption)
theorem error_c {str:List Cel} {msg:Str} {tm:Tok} (C:Cx 30 w p loose mean mg mb dp un cs outer A₀ base h₀ L m s) (R:LexR a chars cl rest) (hx:∀ x∈str,CelIn rest x) (hr:str.length≤1000) (S:StrOf chars cl st str) (N:News h₀ L s.heap (lexLed a st rest)) (hz:st.ct.length≤900)
  (ret:ErrRet base (envX cn cs L ca ccd cll) outer rest h₀ L m s E (locOf str)) :
  wpAny (model pw_rk0009_01 w) (ktrTop dp un gd cn cs L ca ccd cll outer) (call (.ref 265) [.ref a.lx,.str msg tm]) Q E s:=pickedZ (by with_unfolding_all rfl) Z73c (sfT (sfS (sfQ (sfL (sfx (sfA (sfC (sfa (frC w p loose mean mg mb dp un gd cn cs ca ccd cll outer A₀ base h₀ L m s E) [a]) [chars]) [cl]) [st]) [rest]) [Q]) [msg]) [tm]) str C R hx hr S N hz ret
end
end
theorem NgM10.gM10:True:=trivial
example:True:=by w_top off;trivial
section
open NgM01 NgM01b NgM02 NgM03 NgM09 NgM10
example:True:=by (k_with "M10" => (fail_if_success (fail_if_success (have:=gM10))));(k_with "call ref" => k_extra "M10";(k_here;k_dflt (refine' error_c (str:=[]) ?Y0 ?Y1 ?Y2 ?Y3 ?Y4 ?Y5 ?Y6 ?_;(case Y0=>exact ⟨by k_asm,by k_asm,by k_asm,by k_asm,by first | exact rfl | assumption,by (dsimp only [ktrTop,Around.deeper];omega),by (dsimp only [ktrTop,Around.deeper];omega)⟩);(case Y1=>assumption);(case Y5=>k_asm);(case Y4=>exact ⟨[],[],rfl,rfl,.inr ⟨by assumption,rfl⟩⟩);(case Y2=>assumption);(case Y3=>exact Nat.zero_le _);(case Y6=>(dsimp only [List.length_nil] at *;omega));k_whole;intro Y7 Y8 Y9 Y10 Y11 Y12 Y13 Y14 Y15 Y16 Y17 Y18)));(k_with "leaving ref" => k_extra "M10";(k_here;k_dflt (refine' leave_onX ?Y0 ?Y1 ?Y2 ?Y3 ?Y4 ?_;(case Y2=>assumption);(case Y3=>assumption);(case Y0=>k_asm);(case Y1=>assumption);(case Y4=>exact rfl);k_whole;intro Y5 Y6 Y7)));trivial
structure LexI (a:LexA) (chars:List Cel) (cl:Addr) (rest:List (Addr×Obj)) (st:LexS) (str:List Cel):Prop where
 R:LexR a chars cl rest
 S:StrOf chars cl st str
 x:∀ x∈str,CelIn rest x
 z:st.ct.length+str.length≤900
noncomputable abbrev LexRetI (a:LexA) (chars:List Cel) (cl:Addr) (rest:List (Addr×Obj)) (h₀:Heap) (L:Addr) (m:Str->Option Value) (s:Shared) (Q:Value->Shared->Prop) (r:List Cel) (ct tb:List Value) (v:Value):Prop :=
 ∀ st' h' tk',LexI a chars cl rest st' r->st'.ct=ct->st'.tb=tb->Fr h₀ L h' m->News h₀ L h' (lexLed a st' rest)->Q v { s with heap:=h',toks:=tk' }
theorem accT_len (v:Str) (str:List Cel):(accT v str).length+(accS v str).length=str.length:=by
 unfold accT accS
 cases str with
 | nil=>split <;> rfl
 | cons x r=>split <;> simp <;> omega
theorem accS_sub (v:Str) (str:List Cel):∀ x∈accS v str,x∈str:=by
 unfold accS
 split
 ·exact fun x h=>List.mem_of_mem_tail h
 ·exact fun x h=>h
section
variable {a:LexA} {chars:List Cel} {cl:Addr} {st:LexS} {rest:List (Addr×Obj)} {Q E:Value->Shared->Prop}
theorem LexI.acc {st':LexS} {v:Str} {str:List Cel} (I:LexI a chars cl rest st str) (S':StrOf chars cl st' (accS v str)) (ct:st'.ct=st.ct++accT v str):LexI a chars cl rest st' (accS v str) :=
 ⟨I.R,S',fun x h=>I.x x (accS_sub v str x h),by
  have:=I.z
  have:=accT_len v str
  rw [ct,List.length_append]
  omega⟩
theorem LexI.next {st':LexS} {x:Cel} {r:List Cel} (I:LexI a chars cl rest st (x::r)) (S':StrOf chars cl st' r) (ct:st'.ct=st.ct++[x.ref]):LexI a chars cl rest st' r :=
 ⟨I.R,S',fun x h=>I.x x (.tail _ h),by
  have:=I.z
  rw [ct,List.length_append]
  simp only [List.length_cons,List.length_nil] at this ⊢
  omega⟩
theorem accept_I {str:List Cel} {v:Str} {tv:Tok} (C:Cx 20 w p loose mean mg mb dp un cs outer A₀ base h₀ L m s) (I:LexI a chars cl rest st str) (N:News h₀ L s.heap (lexLed a st rest))
  (ret:LexRetI a chars cl rest h₀ L m s Q (accS v str) (st.ct++accT v str) st.tb (.bool (accB v str))) :
  wpAny (model pw_rk0009_01 w) (ktrTop dp un gd cn cs L ca ccd cll outer) (call (.ref 244) [.ref a.lx,.str v tv]) Q E s :=
 accept_c C I.R I.x (by have:=I.z;omega) I.S N (by have:=I.z;omega) fun st' h' tk' S' ct tb F' N'=>ret st' h' tk' (I.acc S' ct) ct tb F' N'
theorem next_I {x:Cel} {r:List Cel} (C:Cx 10 w p loose mean mg mb dp un cs outer A₀ base h₀ L m s) (I:LexI a chars cl rest st (x::r)) (N:News h₀ L s.heap (lexLed a st rest))
  (ret:LexRetI a chars cl rest h₀ L m s Q r (st.ct++[x.ref]) st.tb x.ref) :
  wpAny (model pw_rk0009_01 w) (ktrTop dp un gd cn cs L ca ccd cll outer) (call (.ref 216) [.ref a.lx]) Q E s :=
 next_some_pos C I.R (I.x x (.head _)) (by have:=I.z;simp only [List.length_cons] at this;omega) I.S N (by have:=I.z;omega) fun st' h' tk' S' ct tb F' N'=>ret st' h' tk' (I.next S' ct) ct tb F' N'
theorem next_I0 (C:Cx 10 w p loose mean mg mb dp un cs outer A₀ base h₀ L m s) (I:LexI a chars cl rest st []) (N:News h₀ L s.heap (lexLed a st rest))
  (ret:LexRetI a chars cl rest h₀ L m s Q [] st.ct st.tb .none) :
  wpAny (model pw_rk0009_01 w) (ktrTop dp un gd cn cs L ca ccd cll outer) (call (.ref 216) [.ref a.lx]) Q E s :=
 next_none C I.R I.S N fun st' h' tk' S' ct tb F' N'=>ret st' h' tk' ⟨I.R,S',(fun _ h=>nomatch h),by rw [ct];exact I.z⟩ ct tb F' N'
theorem error_I {str:List Cel} {msg:Str} {tm:Tok} (C:Cx 30 w p loose mean mg mb dp un cs outer A₀ base h₀ L m s) (I:LexI a chars cl rest st str) (N:News h₀ L s.heap (lexLed a st rest))
  (ret:ErrRet base (envX cn cs L ca ccd cll) outer rest h₀ L m s E (locOf str)) :
  wpAny (model pw_rk0009_01 w) (ktrTop dp un gd cn cs L ca ccd cll outer) (call (.ref 265) [.ref a.lx,.str msg tm]) Q E s :=
 error_c C I.R I.x (by have:=I.z;omega) I.S N (by have:=I.z;omega) ret
noncomputable def Z45P:FrZ->Prop:=fun V=>∀ (st:LexS) (C:Cx 10 V.w V.p V.loose V.mean V.mg V.mb V.dp V.un V.cs V.outer V.A₀ V.base V.h₀ V.L V.m V.s) (I:LexI (V.fa 0) (V.fC 0) (V.fA 0) (V.fL 0) st ((V.fc 0)::(V.fC 1))) (N:News V.h₀ V.L V.s.heap (lexLed (V.fa 0) st (V.fL 0))) (ret:LexRetI (V.fa 0) (V.fC 0) (V.fA 0) (V.fL 0) V.h₀ V.L V.m V.s (V.fQ 0) (V.fC 1) (st.ct++[(V.fc 0).ref]) st.tb (V.fc 0).ref),wpAny (model pw_rk0009_01 V.w) (ktrTop V.dp V.un V.gd V.cn V.cs V.L V.ca V.ccd V.cll V.outer) (call (.ref 216) [.ref (V.fa 0).lx] [("eof",.bool false)]) (V.fQ 0) V.E V.s
@[irreducible] noncomputable def Z45:FrZ:=pickZ Z45P
set_option maxHeartbeats 4000000 in
theorem Z45c:Z45P Z45:=by
 intro st C I N ret
 obtain ⟨B,F,X,T,hk,hdp,hun⟩:=C
 have I0:=I
 obtain ⟨R,S,hx,hz⟩:=I
 obtain ⟨D,⟨ep,hcl⟩,_,hsz⟩:=R
 refine e0a4 (hx (Z45.fc 0) (.head _)) fun hx1 hx2 _ _=>?_
 obtain ⟨tb,pb,ct,io,tn,pn,cnn⟩:=st
 have hz2:ct.length≤1000000:=by dsimp only at hz;omega
 rcases S.split with ⟨pp,q,h1,h2,h3⟩ | ⟨h2,i,h3,h4,h5⟩
 ·dsimp only at h2 h3 N ret
  subst h2
  have hz1:((Z45.fc 0).ref::pp.map Cel.ref).length≤1000000:=by
   have:=congrArg List.length h1
   simp only [List.length_append] at this
   simp only [List.length_cons,List.length_map] at hz ⊢
   omega
  refine wpAny_call ?_
  k_dflt ktr_enter
  k_steps
  all_goals exact ret ⟨_,_,_,_,_,_,_⟩ _ _ (I0.next ⟨pp,q,h1,rfl,h3⟩ rfl) rfl rfl (by k_asm) (by k_asm)
 ·dsimp only at h2 h3 N ret
  subst h2
  have h4:((Z45.fC 0).map Cel.ref)[i]?=some (Z45.fc 0).ref:=by rw [List.getElem?_map,h4];rfl
  refine wpAny_call ?_
  k_dflt ktr_enter
  k_steps
  all_goals exact ret ⟨_,_,_,_,_,_,_⟩ _ _ (I0.next ⟨[],(Z45.fC 1),rfl,rfl,.inl ⟨i+1,by assumption,h5⟩⟩ rfl) rfl rfl (by k_asm) (by k_asm)
theorem nextK_I {x:Cel} {r:List Cel} (C:Cx 10 w p loose mean mg mb dp un cs outer A₀ base h₀ L m s) (I:LexI a chars cl rest st (x::r)) (N:News h₀ L s.heap (lexLed a st rest))
  (ret:LexRetI a chars cl rest h₀ L m s Q r (st.ct++[x.ref]) st.tb x.ref) :
  wpAny (model pw_rk0009_01 w) (ktrTop dp un gd cn cs L ca ccd cll outer) (call (.ref 216) [.ref a.lx] [("eof",.bool false)]) Q E s:=pickedZ (by with_unfolding_all rfl) Z45c (sfc (sfQ (sfL (sfA (sfC (sfa (frC w p loose mean mg mb dp un gd cn cs ca ccd cll outer A₀ base h₀ L m s E) [a]) [chars,r]) [cl]) [rest]) [Q]) [x]) st C I N ret
noncomputable def Z46P:FrZ->Prop:=fun V=>∀ (st:LexS) (C:Cx 40 V.w V.p V.loose V.mean V.mg V.mb V.dp V.un V.cs V.outer V.A₀ V.base V.h₀ V.L V.m V.s) (I:LexI (V.fa 0) (V.fC 0) (V.fA 0) (V.fL 0) st []) (N:News V.h₀ V.L V.s.heap (lexLed (V.fa 0) st (V.fL 0))) (ret:ErrRet V.base (envX V.cn V.cs V.L V.ca V.ccd V.cll) V.outer (V.fL 0) V.h₀ V.L V.m V.s V.E .none),wpAny (model pw_rk0009_01 V.w) (ktrTop V.dp V.un V.gd V.cn V.cs V.L V.ca V.ccd V.cll V.outer) (call (.ref 216) [.ref (V.fa 0).lx] [("eof",.bool false)]) (V.fQ 0) V.E V.s
@[irreducible] noncomputable def Z46:FrZ:=pickZ Z46P
set_option maxHeartbeats 4000000 in
theorem Z46c:Z46P Z46:=by
 intro st C I N ret
 obtain ⟨B,F,X,T,hk,hdp,hun⟩:=C
 obtain ⟨R,S,hx,hz⟩:=I
 have R0:=R
 obtain ⟨D,⟨ep,hcl⟩,_,hsz⟩:=R
 obtain ⟨tb,pb,ct,io,tn,pn,cnn⟩:=st
 refine e0a2 S.nil fun h2 h3=>?_
 have hnil:∀ x∈([] : List Cel),CelIn (Z46.fL 0) x:=fun _ h=>nomatch h
 dsimp only at h2 h3 N hz
 subst h2
 rcases h3 with ⟨i,h3,h4⟩ | h3
 ·have h4:((Z46.fC 0).map Cel.ref)[i]?=none:=by rw [List.getElem?_map,h4];rfl
  refine wpAny_call ?_
  k_dflt ktr_enter
  k_steps
  all_goals exact ret _ _ _ _ _ _ _ (by assumption) (by assumption) (by assumption) (by assumption) (by assumption)
 ·refine wpAny_call ?_
  k_dflt ktr_enter
  k_steps
  all_goals exact ret _ _ _ _ _ _ _ (by assumption) (by assumption) (by assumption) (by assumption) (by assumption)
theorem nextK_I0 (C:Cx 40 w p loose mean mg mb dp un cs outer A₀ base h₀ L m s) (I:LexI a chars cl rest st []) (N:News h₀ L s.heap (lexLed a st rest))
  (ret:ErrRet base (envX cn cs L ca ccd cll) outer rest h₀ L m s E .none) :
  wpAny (model pw_rk0009_01 w) (ktrTop dp un gd cn cs L ca ccd cll outer) (call (.ref 216) [.ref a.lx] [("eof",.bool false)]) Q E s:=pickedZ (by with_unfolding_all rfl) Z46c (sfQ (sfL (sfA (sfC (sfa (frC w p loose mean mg mb dp un gd cn cs ca ccd cll outer A₀ base h₀ L m s E) [a]) [chars]) [cl]) [rest]) [Q]) st C I N ret
end
end
theorem NgM11.gM11:True:=trivial
theorem NgB11.gB11:True:=trivial
example:True:=by w_top off;trivial
section
open NgM01 NgM01b NgM02 NgM03 NgM09 NgM10 NgM11 NgB11
example:True:=by (k_with "call ref" => (fail_if_success (fail_if_success (have:=gM11)));(k_here;k_dflt (first | (refine' accept_I ?Y0 ?Y1 ?Y2 ?_;(case Y1=>assumption);(case Y0=>exact ⟨by k_asm,by k_asm,by k_asm,by k_asm,by first | exact rfl | assumption,by (dsimp only [ktrTop,Around.deeper];omega),by (dsimp only [ktrTop,Around.deeper];omega)⟩);(case Y2=>k_asm);k_whole;intro Y3 Y4 Y5 Y6 Y7 Y8 Y9 Y10) | (refine' next_I ?Y0 ?Y1 ?Y2 ?_;(case Y1=>assumption);(case Y0=>exact ⟨by k_asm,by k_asm,by k_asm,by k_asm,by first | exact rfl | assumption,by (dsimp only [ktrTop,Around.deeper];omega),by (dsimp only [ktrTop,Around.deeper];omega)⟩);(case Y2=>k_asm);k_whole;intro Y3 Y4 Y5 Y6 Y7 Y8 Y9 Y10) | (refine' next_I0 ?Y0 ?Y1 ?Y2 ?_;(case Y1=>assumption);(case Y0=>exact ⟨by k_asm,by k_asm,by k_asm,by k_asm,by first | exact rfl | assumption,by (dsimp only [ktrTop,Around.deeper];omega),by (dsimp only [ktrTop,Around.deeper];omega)⟩);(case Y2=>k_asm);k_whole;intro Y3 Y4 Y5 Y6 Y7 Y8 Y9 Y10) | (refine' nextK_I ?Y0 ?Y1 ?Y2 ?_;(case Y1=>assumption);(case Y0=>exact ⟨by k_asm,by k_asm,by k_asm,by k_asm,by first | exact rfl | assumption,by (dsimp only [ktrTop,Around.deeper];omega),by (dsimp only [ktrTop,Around.deeper];omega)⟩);(case Y2=>k_asm);k_whole;intro Y3 Y4 Y5 Y6 Y7 Y8 Y9 Y10) | (refine' nextK_I0 ?Y0 ?Y1 ?Y2 ?_;(case Y1=>assumption);(case Y0=>exact ⟨by k_asm,by k_asm,by k_asm,by k_asm,by first | exact rfl | assumption,by (dsimp only [ktrTop,Around.deeper];omega),by (dsimp only [ktrTop,Around.deeper];omega)⟩);(case Y2=>k_asm);k_whole;intro Y11 Y12 Y13 Y14 Y15 Y4 Y5 Y9 Y16 Y17 Y18 Y19) | (refine' error_I ?Y0 ?Y1 ?Y2 ?_;(case Y1=>assumption);(case Y0=>exact ⟨by k_asm,by k_asm,by k_asm,by k_asm,by first | exact rfl | assumption,by (dsimp only [ktrTop,Around.deeper];omega),by (dsimp only [ktrTop,Around.deeper];omega)⟩);(case Y2=>k_asm);k_whole;intro Y11 Y12 Y13 Y14 Y15 Y4 Y5 Y9 Y16 Y17 Y18 Y19))));trivial
theorem accS_no {v:Str} {s:List Cel} (h:accB v s=false):accS v s=s:=by unfold accS;rw [h];rfl
theorem accT_no {v:Str} {s:List Cel} (h:accB v s=false):accT v s=[]:=by unfold accT;rw [h];rfl
section
variable {a:LexA} {chars:List Cel} {cl:Addr} {st:LexS} {rest:List (Addr×Obj)} {Q E:Value->Shared->Prop}
example:True:=by (k_with "B11" => (fail_if_success (fail_if_success (have:=gB11))));(k_with "call builtin:str.format" => k_extra "B11";(k_here;k_dflt (refine' KFm.call_k ?Y0 ?Y1 ?Y2 ?_;(case Y0=>kfm_eq);(case Y1=>kfm_args);(case Y2=>kfm_run));intro _ _));(k_with "call builtin:str.join" => k_extra "B11";(k_here;k_dflt (refine' join_strF ?Y0 ?Y1 ?Y2 ?Y3 ?_;(case Y0=>exact rfl);(case Y1=>assumption);(case Y2=>assumption);(case Y3=>decide +kernel);k_whole;intro Y4 Y5 Y6 Y7 Y8)));trivial
noncomputable def Z89P:FrZ->Prop:=fun V=>∀ (C:Cx 50 V.w V.p V.loose V.mean V.mg V.mb V.dp V.un V.cs V.outer V.A₀ V.base V.h₀ V.L V.m V.s) (I:LexI (V.fa 0) (V.fC 0) (V.fA 0) (V.fL 0) (V.fx 0) (V.fC 1)) (N:News V.h₀ V.L V.s.heap (lexLed (V.fa 0) (V.fx 0) (V.fL 0))) (ret:accB "'" (V.fC 1)=true->LexRetI (V.fa 0) (V.fC 0) (V.fA 0) (V.fL 0) V.h₀ V.L V.m V.s (V.fQ 0) (accS "'" (V.fC 1)) ((V.fx 0).ct++accT "'" (V.fC 1)) (V.fx 0).tb .none) (err:accB "'" (V.fC 1)=false->ErrRet V.base (envX V.cn V.cs V.L V.ca V.ccd V.cll) V.outer (V.fL 0) V.h₀ V.L V.m V.s V.E (locOf (V.fC 1))),wpAny (model pw_rk0009_01 V.w) (ktrTop V.dp V.un V.gd V.cn V.cs V.L V.ca V.ccd V.cll V.outer) (call (.ref 272) [.ref (V.fa 0).lx,.str "'" (V.fT 0)]) (V.fQ 0) V.E V.s
@[irreducible] noncomputable def Z89:FrZ:=pickZ Z89P
set_option maxHeartbeats 4000000 in
theorem Z89c:Z89P Z89:=by
 intro C I N ret err
 obtain ⟨B,F,X,T,hk,hdp,hun⟩:=C
 have D:=I.R.D
 refine wpAny_call ?_
 k_dflt ktr_enter
 k_steps
 all_goals first
  | exact ret (by assumption) _ _ _ (by assumption) (by assumption) (by assumption) (by k_asm) (by k_asm)
  | (rename accB _ _=false=>hb;rename getL _ _=some (some (locOf _))=>hg;rw [accS_no hb] at hg;exact err hb _ _ _ _ _ _ _ (by assumption) (by assumption) (by assumption) (by assumption) hg)
theorem expect_I {str:List Cel} {tv:Tok} (C:Cx 50 w p loose mean mg mb dp un cs outer A₀ base h₀ L m s) (I:LexI a chars cl rest st str) (N:News h₀ L s.heap (lexLed a st rest))
  (ret:accB "'" str=true->LexRetI a chars cl rest h₀ L m s Q (accS "'" str) (st.ct++accT "'" str) st.tb .none)
  (err:accB "'" str=false->ErrRet base (envX cn cs L ca ccd cll) outer rest h₀ L m s E (locOf str)) :
  wpAny (model pw_rk0009_01 w) (ktrTop dp un gd cn cs L ca ccd cll outer) (call (.ref 272) [.ref a.lx,.str "'" tv]) Q E s:=pickedZ (by with_unfolding_all rfl) Z89c (sfT (sfQ (sfL (sfx (sfA (sfC (sfa (frC w p loose mean mg mb dp un gd cn cs ca ccd cll outer A₀ base h₀ L m s E) [a]) [chars,str]) [cl]) [st]) [rest]) [Q]) [tv]) C I N ret err
end
end
theorem NgM12.gM12:True:=trivial
theorem NgB12.gB12:True:=trivial
example:True:=by w_top off;trivial
section
open NgM01 NgM01b NgM02 NgM03 NgM09 NgM10 NgM11 NgM12 NgB12
section
variable {a:LexA} {chars:List Cel} {cl:Addr} {st:LexS} {rest:List (Addr×Obj)} {Q E:Value->Shared->Prop}
theorem accept_Y {str:List Cel} {v:Str} {tv:Tok} (b:accB v str=true) (C:Cx 20 w p loose mean mg mb dp un cs outer A₀ base h₀ L m s) (I:LexI a chars cl rest st str) (N:News h₀ L s.heap (lexLed a st rest))
  (ret:LexRetI a chars cl rest h₀ L m s Q (accS v str) (st.ct++accT v str) st.tb (.bool true)) :
  wpAny (model pw_rk0009_01 w) (ktrTop dp un gd cn cs L ca ccd cll outer) (call (.ref 244) [.ref a.lx,.str v tv]) Q E s:=accept_I C I N (by rw [b];exact ret)
theorem accept_N {str:List Cel} {v:Str} {tv:Tok} (b:accB v str=false) (C:Cx 20 w p loose mean mg mb dp un cs outer A₀ base h₀ L m s) (I:LexI a chars cl rest st str) (N:News h₀ L s.heap (lexLed a st rest))
  (ret:LexRetI a chars cl rest h₀ L m s Q str st.ct st.tb (.bool false)) :
  wpAny (model pw_rk0009_01 w) (ktrTop dp un gd cn cs L ca ccd cll outer) (call (.ref 244) [.ref a.lx,.str v tv]) Q E s:=accept_I C I N (by rw [b,accS_no b,accT_no b,List.append_nil];exact ret)
end
example:True:=by (k_with "call ref" => (fail_if_success (fail_if_success (have:=gM12)));(k_here;k_dflt (first | (refine' accept_Y ?Y0 ?Y1 ?Y2 ?Y3 ?_;(case Y2=>assumption);(case Y0=>assumption);(case Y1=>exact ⟨by k_asm,by k_asm,by k_asm,by k_asm,by first | exact rfl | assumption,by (dsimp only [ktrTop,Around.deeper];omega),by (dsimp only [ktrTop,Around.deeper];omega)⟩);(case Y3=>k_asm);k_whole;intro Y4 Y5 Y6 Y7 Y8 Y9 Y10 Y11) | (refine' accept_N ?Y0 ?Y1 ?Y2 ?Y3 ?_;(case Y2=>assumption);(case Y0=>assumption);(case Y1=>exact ⟨by k_asm,by k_asm,by k_asm,by k_asm,by first | exact rfl | assumption,by (dsimp only [ktrTop,Around.deeper];omega),by (dsimp only [ktrTop,Around.deeper];omega)⟩);(case Y3=>k_asm);k_whole;intro Y4 Y5 Y6 Y7 Y8 Y9 Y10 Y11))));trivial
noncomputable abbrev setS:Str := "'\"?\\abfnrtve"
noncomputable abbrev setO:Str := "01234567"
noncomputable abbrev setX:Str := "0123456789abcdefABCDEF"
noncomputable def accSn:Nat->Str->List Cel->List Cel
 | 0,_,s=>s
 | n+1,v,s=>accSn n v (accS v s)
noncomputable def accTn:Nat->Str->List Cel->List Value
 | 0,_,_=>[]
 | n+1,v,s=>accT v s++accTn n v (accS v s)
noncomputable def escOk (s:List Cel):Bool:=accB setS s||accB setO s||accB "x" s||accB "u" s||accB "U" s
noncomputable def escS (s:List Cel):List Cel :=
 if accB setS s then accS setS s else if accB setO s then accSn 3 setO s else if accB "x" s then accSn 2 setX (accS "x" s) else if accB "u" s then accSn 4 setX (accS "u" s) else accSn 4 setX (accS "U" s)
noncomputable def escT (s:List Cel):List Value :=
 if accB setS s then accT setS s else if accB setO s then accTn 3 setO s else if accB "x" s then accT "x" s++accTn 2 setX (accS "x" s) else if accB "u" s then accT "u" s++accTn 4 setX (accS "u" s) else accT "U" s++accTn 4 setX (accS "U" s)
section
variable {a:LexA} {chars:List Cel} {cl:Addr} {st:LexS} {rest:List (Addr×Obj)} {Q E:Value->Shared->Prop}
theorem self_arg {nm v:Str} {p1 p2:Pos} {A:Around} (F:Fr h₀ L s.heap m) (hm:m "self" = some (.ref a.lx)) (hk:cs.kind=.function) (hl:(envX cn cs L ca ccd cll).kindOf "self" = some .local)
  (hg:∀ {Q':Value->Shared->Prop},(∀ tv tk,Q' (.str v tv) { s with toks:=tk })->wpAny (model pw_rk0009_01 w) A (getAttr (.ref a.lx) nm true) Q' E s) (h:∀ tv tk,Q (.str v tv) { s with toks:=tk }) :
  wpAny (model pw_rk0009_01 w) A (eval (.Attribute (.Name "self" p1) nm p2) (envX cn cs L ca ccd cll)) Q E s:=Attribute_Name_ (nameX_L F hm (hg h) hk hl) 
theorem oct_attr {A:Around} (F:Fr h₀ L s.heap m) (X:(hd.heap_1 w.params).In h₀) (N:News h₀ L s.heap (lexLed a st rest)) (h:∀ tv tk,Q (.str setO tv) { s with toks:=tk }):wpAny (model pw_rk0009_01 w) A (getAttr (.ref a.lx) "octal_numbers" true) Q E s:=by
 k_steps
 all_goals exact h _ _
theorem hex_attr {A:Around} (F:Fr h₀ L s.heap m) (X:(hd.heap_1 w.params).In h₀) (N:News h₀ L s.heap (lexLed a st rest)) (h:∀ tv tk,Q (.str setX tv) { s with toks:=tk }):wpAny (model pw_rk0009_01 w) A (getAttr (.ref a.lx) "hex_numbers" true) Q E s:=by
 k_steps
 all_goals exact h _ _
theorem acc_e {str:List Cel} {v:Str} {e:Expr} {p1 p2 p3:Pos} (C:Cx 25 w p loose mean mg mb dp un cs outer A₀ base h₀ L m s) (I:LexI a chars cl rest st str) (N:News h₀ L s.heap (lexLed a st rest)) (hm:m "self" = some (.ref a.lx)) (hl:(envX cn cs L ca ccd cll).kindOf "self" = some .local)
  (harg:∀ {Q':Value->Shared->Prop},(∀ tv tk,Q' (.str v tv) { s with toks:=tk })->wpAny (model pw_rk0009_01 w) (ktrTop dp un gd cn cs L ca ccd cll outer) (eval e (envX cn cs L ca ccd cll)) Q' E s)
  (h6:starEach [e] (envX cn cs L ca ccd cll)=(false,eval e (envX cn cs L ca ccd cll))::starEach [] (envX cn cs L ca ccd cll)) {pl:Sem Bool}
  (he:eval (.Call (.Attribute (.Name "self" p1) "accept" p2) [e] [] p3) (envX cn cs L ca ccd cll)=do
   let ov <- eval (.Name "self" p1) (envX cn cs L ca ccd cll)
   standAt p2.atName
   let (f,first) <- holding [ov] (getMethod ov "accept" pl)
   callWith p3 f first (backTo p3 (starEach [e] (envX cn cs L ca ccd cll))) [])
  (ret:LexRetI a chars cl rest h₀ L m s Q (accS v str) (st.ct++accT v str) st.tb (.bool (accB v str))) :
  wpAny (model pw_rk0009_01 w) (ktrTop dp un gd cn cs L ca ccd cll outer) (eval (.Call (.Attribute (.Name "self" p1) "accept" p2) [e] [] p3) (envX cn cs L ca ccd cll)) Q E s :=
 meth (accept_ok w) C.F C.X N hm C.hk hl rfl h6 rfl he (args_cons (harg fun tv tk=>args_nil ⟨C.X.keeps C.F.keep,accept_I ⟨C.B,C.F,C.X,C.T,C.hk,by have:=C.hdp;omega,by have:=C.hun;omega⟩ I N ret⟩) h6)
noncomputable abbrev AccIn (e:Expr) (v:Str) (str:List Cel) (w:World) (A:Around) (env:Env) (a:LexA) (chars:List Cel) (cl:Addr) (rest:List (Addr×Obj)) (h₀:Heap) (L:Addr) (m:Str->Option Value) (s:Shared) (E:Value->Shared->Prop) (st:LexS):Prop :=
 ∀ {Q:Value->Shared->Prop},LexRetI a chars cl rest h₀ L m s Q (accS v str) (st.ct++accT v str) st.tb (.bool (accB v str))->wpAny (model pw_rk0009_01 w) A (eval e env) Q E s
theorem acc_if {str:List Cel} {v:Str} {A:Around} {env:Env} {e:Expr} {body orelse:List Stmt} {p4:Pos} {Q:Flow->Shared->Prop} (h:AccIn e v str w A env a chars cl rest h₀ L m s E st)
  (hti:PySem.isTrue e env (eval e env)=do
   let v <- eval e env
   standAt e.pos
   holding [v] (truthy v))
  (hY:accB v str=true->∀ st' h' tk',LexI a chars cl rest st' (accS v str)->st'.ct=st.ct++accT v str->st'.tb=st.tb->Fr h₀ L h' m->News h₀ L h' (lexLed a st' rest)->wpAny (model pw_rk0009_01 w) A (execs body env) Q E { s with heap:=h',toks:=tk' })
  (hN:accB v str=false->∀ st' h' tk',LexI a chars cl rest st' str->st'.ct=st.ct->st'.tb=st.tb->Fr h₀ L h' m->News h₀ L h' (lexLed a st' rest)->wpAny (model pw_rk0009_01 w) A (execs orelse env) Q E { s with heap:=h',toks:=tk' }) :
  wpAny (model pw_rk0009_01 w) A (exec (.If e body orelse p4) env) Q E s:=by
 refine wpAny_If (isTrue_plain (h fun st' h' tk' I' ct' tb' F' N'=>wpAny_truthy_bool ?_) hti)
 cases hb:accB v str with
 | true=>rw [if_pos rfl];exact hY hb st' h' tk' I' ct' tb' F' N'
 | false =>
  rw [if_neg Bool.false_ne_true]
  rw [accS_no hb] at I'
  rw [accT_no hb,List.append_nil] at ct'
  exact hN hb st' h' tk' I' ct' tb' F' N'
theorem esc_1 {str:List Cel} (h1:accB setS str=true):escOk str=true/\escS str=accS setS str/\escT str=accT setS str:=⟨by unfold escOk;rw [h1];rfl,if_pos h1,if_pos h1⟩
theorem esc_2 {str:List Cel} (h1:accB setS str=false) (h2:accB setO str=true):escOk str=true/\escS str=accSn 3 setO str/\escT str=accTn 3 setO str:=⟨by unfold escOk;rw [h1,h2];rfl,by unfold escS;rw [h1,h2];rfl,by unfold escT;rw [h1,h2];rfl⟩
theorem esc_3 {str:List Cel} (h1:accB setS str=false) (h2:accB setO str=false) (h3:accB "x" str=true):escOk str=true/\escS str=accSn 2 setX (accS "x" str)/\escT str=accT "x" str++accTn 2 setX (accS "x" str):=⟨by unfold escOk;rw [h1,h2,h3];rfl,by unfold escS;rw [h1,h2,h3];rfl,by unfold escT;rw [h1,h2,h3];rfl⟩
theorem esc_4 {str:List Cel} (h1:accB setS str=false) (h2:accB setO str=false) (h3:accB "x" str=false) (h4:accB "u" str=true):escOk str=true/\escS str=accSn 4 setX (accS "u" str)/\escT str=accT "u" str++accTn 4 setX (accS "u" str):=⟨by unfold escOk;rw [h1,h2,h3,h4];rfl,by unfold escS;rw [h1,h2,h3,h4];rfl,by unfold escT;rw [h1,h2,h3,h4];rfl⟩
theorem esc_5 {str:List Cel} (h1:accB setS str=false) (h2:accB setO str=false) (h3:accB "x" str=false) (h4:accB "u" str=false) (h5:accB "U" str=true):escOk str=true/\escS str=accSn 4 setX (accS "U" str)/\escT str=accT "U" str++accTn 4 setX (accS "U" str):=⟨by unfold escOk;rw [h1,h2,h3,h4,h5];rfl,by unfold escS;rw [h1,h2,h3,h4];rfl,by unfold escT;rw [h1,h2,h3,h4];rfl⟩
theorem esc_6 {str:List Cel} (h1:accB setS str=false) (h2:accB setO str=false) (h3:accB "x" str=false) (h4:accB "u" str=false) (h5:accB "U" str=false):escOk str=false:=by unfold escOk;rw [h1,h2,h3,h4,h5];rfl
example:True:=by (k_with "B12" => (fail_if_success (fail_if_success (have:=gB12))));(k_with "exec If" => k_extra "B12";(focus (k_here;k_dflt (refine' acc_if (fun r=>acc_e ?Y0 ?Y1 ?Y2 ?Y3 ?Y4 ?Y5 ?Y6 ?Y7 r) ?Y8 ?_ ?_;(case Y1=>assumption);(case Y0=>exact ⟨by k_asm,by k_asm,by k_asm,by k_asm,by first | exact rfl | assumption,by (dsimp only [ktrTop,Around.deeper];omega),by (dsimp only [ktrTop,Around.deeper];omega)⟩);(case Y2=>k_asm);(case Y3=>exact rfl);(case Y4=>exact rfl);(case Y5=>(intro _ Y14;first | (with_reducible refine Constant_str ?_;exact Y14 _ _) | (with_reducible refine' self_arg (nm := "octal_numbers") ?Y9 ?Y10 ?Y11 ?Y12 ?Y13 Y14;(case Y9=>k_asm);(case Y10=>k_dflt exact rfl);(case Y11=>k_dflt exact rfl);(case Y12=>k_dflt exact rfl);(case Y13=>k_dflt exact fun Y14=>oct_attr (by k_asm) (by k_asm) (by k_asm) Y14)) | (with_reducible refine' self_arg (nm := "hex_numbers") ?Y9 ?Y10 ?Y11 ?Y12 ?Y13 Y14;(case Y9=>k_asm);(case Y10=>k_dflt exact rfl);(case Y11=>k_dflt exact rfl);(case Y12=>k_dflt exact rfl);(case Y13=>k_dflt exact fun Y14=>hex_attr (by k_asm) (by k_asm) (by k_asm) Y14))));(case Y6=>exact rfl);(case Y7=>exact rfl);(case Y8=>exact rfl);all_goals (k_whole;intro Y15 Y16 Y17 Y18 Y19 Y20 Y21 Y22 Y23)))));(k_with "exec Expr" => k_extra "B12";(k_here;(with_reducible show wpAny _ _ (exec (Stmt.Expr (Expr.Call (Expr.Attribute _ (Str.ofString "accept") _) _ _ _) _) _) _ _ _);k_dflt (refine' wpAny_Expr_any (acc_e ?Y0 ?Y1 ?Y2 ?Y3 ?Y4 ?Y5 ?Y6 ?Y7 ?_) ?Y8 ?Y9;(case Y1=>assumption);(case Y0=>exact ⟨by k_asm,by k_asm,by k_asm,by k_asm,by first | exact rfl | assumption,by (dsimp only [ktrTop,Around.deeper];omega),by (dsimp only [ktrTop,Around.deeper];omega)⟩);(case Y2=>k_asm);(case Y3=>exact rfl);(case Y4=>exact rfl);(case Y5=>(intro _ Y15;first | (with_reducible refine Constant_str ?_;exact Y15 _ _) | (with_reducible refine' self_arg (nm := "octal_numbers") ?Y10 ?Y11 ?Y12 ?Y13 ?Y14 Y15;(case Y10=>k_asm);(case Y11=>k_dflt exact rfl);(case Y12=>k_dflt exact rfl);(case Y13=>k_dflt exact rfl);(case Y14=>k_dflt exact fun Y15=>oct_attr (by k_asm) (by k_asm) (by k_asm) Y15)) | (with_reducible refine' self_arg (nm := "hex_numbers") ?Y10 ?Y11 ?Y12 ?Y13 ?Y14 Y15;(case Y10=>k_asm);(case Y11=>k_dflt exact rfl);(case Y12=>k_dflt exact rfl);(case Y13=>k_dflt exact rfl);(case Y14=>k_dflt exact fun Y15=>hex_attr (by k_asm) (by k_asm) (by k_asm) Y15))));(case Y6=>exact rfl);(case Y7=>exact rfl);(case Y8=>exact rfl);(case Y9=>exact rfl);k_whole;intro Y16 Y17 Y18 Y19 Y20 Y21 Y22 Y23)));trivial
noncomputable def Z15P:FrZ->Prop:=fun V=>∀ (C:Cx 50 V.w V.p V.loose V.mean V.mg V.mb V.dp V.un V.cs V.outer V.A₀ V.base V.h₀ V.L V.m V.s) (I:LexI (V.fa 0) (V.fC 0) (V.fA 0) (V.fL 0) (V.fx 0) (V.fC 1)) (N:News V.h₀ V.L V.s.heap (lexLed (V.fa 0) (V.fx 0) (V.fL 0))) (ret:escOk (V.fC 1)=true->LexRetI (V.fa 0) (V.fC 0) (V.fA 0) (V.fL 0) V.h₀ V.L V.m V.s (V.fQ 0) (escS (V.fC 1)) ((V.fx 0).ct++escT (V.fC 1)) (V.fx 0).tb .none) (err:escOk (V.fC 1)=false->ErrRet V.base (envX V.cn V.cs V.L V.ca V.ccd V.cll) V.outer (V.fL 0) V.h₀ V.L V.m V.s V.E (locOf (V.fC 1))),wpAny (model pw_rk0009_01 V.w) (ktrTop V.dp V.un V.gd V.cn V.cs V.L V.ca V.ccd V.cll V.outer) (call (.ref 387) [.ref (V.fa 0).lx]) (V.fQ 0) V.E V.s
@[irreducible] noncomputable def Z15:FrZ:=pickZ Z15P
set_option maxHeartbeats 8000000 in
theorem Z15c:Z15P Z15:=by
 intro C I N ret err
 obtain ⟨B,F,X,T,hk,hdp,hun⟩:=C
 have D:=I.R.D
 refine wpAny_call ?_
 k_dflt ktr_enter
 k_steps
 all_goals first
  | (have z:=esc_1 (by assumption);exact ret z.1 _ _ _ (by rw [z.2.1];assumption) (by rw [z.2.2];assumption) (by assumption) (by k_asm) (by k_asm))
  | (have z:=esc_2 (by assumption) (by assumption);exact ret z.1 _ _ _ (by rw [z.2.1];assumption) (by rw [z.2.2];simp only [*,accTn,List.append_assoc,List.append_nil]) (by simp only [*]) (by k_asm) (by k_asm))
  | (have z:=esc_3 (by assumption) (by assumption) (by assumption);exact ret z.1 _ _ _ (by rw [z.2.1];assumption) (by rw [z.2.2];simp only [*,accTn,List.append_assoc,List.append_nil]) (by simp only [*]) (by k_asm) (by k_asm))
  | (have z:=esc_4 (by assumption) (by assumption) (by assumption) (by assumption);exact ret z.1 _ _ _ (by rw [z.2.1];assumption) (by rw [z.2.2];simp only [*,accTn,List.append_assoc,List.append_nil]) (by simp only [*]) (by k_asm) (by k_asm))
  | (have z:=esc_5 (by assumption) (by assumption) (by assumption) (by assumption) (by assumption);exact ret z.1 _ _ _ (by rw [z.2.1];assumption) (by rw [z.2.2];simp only [*,accTn,List.append_assoc,List.append_nil]) (by simp only [*]) (by k_asm) (by k_asm))
  | exact err (esc_6 (by assumption) (by assumption) (by assumption) (by assumption) (by assumption)) _ _ _ _ _ _ _ (by assumption) (by assumption) (by assumption) (by assumption) (by assumption)
theorem escape_I {str:List Cel} (C:Cx 50 w p loose mean mg mb dp un cs outer A₀ base h₀ L m s) (I:LexI a chars cl rest st str) (N:News h₀ L s.heap (lexLed a st rest))
  (ret:escOk str=true->LexRetI a chars cl rest h₀ L m s Q (escS str) (st.ct++escT str) st.tb .none)
  (err:escOk str=false->ErrRet base (envX cn cs L ca ccd cll) outer rest h₀ L m s E (locOf str)) :
  wpAny (model pw_rk0009_01 w) (ktrTop dp un gd cn cs L ca ccd cll outer) (call (.ref 387) [.ref a.lx]) Q E s:=pickedZ (by with_unfolding_all rfl) Z15c (sfQ (sfL (sfx (sfA (sfC (sfa (frC w p loose mean mg mb dp un gd cn cs ca ccd cll outer A₀ base h₀ L m s E) [a]) [chars,str]) [cl]) [st]) [rest]) [Q]) C I N ret err
end
end
example:True:=by w_top off;trivial
section
open NgM01 NgM01b NgM02 NgM03 NgM09 NgM10 NgM11 NgM12
noncomputable def GenE (w:World) (A:Around) (a:Addr) (n:Nat) (F:Nat->Value->Prop) (K g0:Nat) (s:Shared):Prop :=
 ∃ fp wr St,WalksS pw_rk0009_01 w A.in4 a fp wr (GenOnlyQ g0) n F St/\St 0 s/\(∀ i s',St i s'->s'.TypeIs (.ref a) "generator")/\a∈fp/\(∀ b∈fp,b<s.heap.objs.size)/\∀ b∈wr,@LE.le Nat _ K b
noncomputable def GKeep (a b:Array GenState):Prop:=a.size≤b.size/\(∀ i,i<a.size->b[i]?=a[i]?)/\∀ (i:Nat) x,a.size≤i->b[i]?=some x->x.bare=true
theorem GKeep.refl (a:Array GenState):GKeep a a:=⟨Nat.le_refl _,fun _ _=>rfl,fun i x h e=>by rw [Array.getElem?_eq_none h] at e;cases e⟩
theorem GKeep.trans {a b c:Array GenState} (x:GKeep a b) (y:GKeep b c):GKeep a c:=⟨Nat.le_trans x.1 y.1,fun i hi=>(y.2.1 i (Nat.lt_of_lt_of_le hi x.1)).trans (x.2.1 i hi),fun i g h e=>by
 by_cases hi:i<b.size
 ·rw [y.2.1 i hi] at e
  exact x.2.2 i g h e
 ·exact y.2.2 i g (Nat.not_lt.mp hi) e⟩
theorem GKeep.push (a:Array GenState) (g:GenState) (hg:g.bare=true):GKeep a (a.push g):=⟨by rw [Array.size_push];omega,fun i hi=>by rw [Array.getElem?_push,if_neg (by omega)],fun i x h e=>by
 rw [Array.getElem?_push] at e
 split at e
 ·cases e;exact hg
 ·rw [Array.getElem?_eq_none h] at e;cases e⟩
theorem GKeep.only {a b c:Array GenState} (x:GKeep a b) {g0:Nat} (h:a.size≤g0) (y:GenOnlyQ g0 b c):GKeep a c:=by
 rcases y with rfl | ⟨y,yb⟩
 ·exact x
 ·refine ⟨by rw [y.1];exact x.1,fun i hi=>(y.2 i (by omega)).trans (x.2.1 i hi),fun i z hi e=>?_⟩
  by_cases hg:i=g0
  ·exact yb z (hg▸e)
  ·rw [y.2 i hg] at e
   exact x.2.2 i z hi e
theorem TriplesOk_emp:TriplesOk []:=trivial
section
variable {A:Around} {E:Value->Shared->Prop} {c P:Addr} {ps:Array Value} {news:List (Addr×Obj)} {g:Obj->List (Addr×Obj)}
theorem tab_facts (F:Fr h₀ L s.heap m) (T:Top p loose mean mg mb h₀) (hP:s.heap.get? P=some (tabObj ps)) :
  ∃ bm ob,mg "__builtins__" = some (.ref bm)/\bm≠builtinsNs/\h₀.get? bm=some ob/\ob.cls=.type "module" /\ ob.dict=some builtinsNs/\ob.data=.plain/\bm≠P/\mainGlobals≠P:=by
 have hgs:=T.g.keeps F.keep
 refine e2a6 T.bmain fun bm ob b1 b2 b3 b4 b5 b6=>?_
 refine ⟨bm,ob,b1,b2,b3,b4,b5,b6,fun q=>?_,fun q=>?_⟩
 ·have e:=F.keep _ _ b3
  rw [q,hP] at e;cases e;cases b4
 ·refine e3a3 hgs fun o es ep e hd _=>?_;clear hgs
  rw [q,hP] at e;cases e;cases hd
noncomputable def Z10P:FrZ->Prop:=fun V=>(fun (x:Str)=>(∀ (P:Addr) (ps:Array Value) (g:Obj->List (Addr×Obj)) (cl:List (Str×Addr)) (K:Frag) (T:Top V.p V.loose V.mean V.mg V.mb V.h₀) (C:CodeHd V.h₀ (V.fA 0) P) (hcode:(V.fE 0).code=.ref (V.fA 0)) (hglob:(V.fE 0).globals=mainGlobals) (hh:(V.fR 0).handled=none) (hco:(V.fs 0).isCoroutine=false) (hclos:closureFor (V.fs 0) (V.fE 0)=pure cl) (hcell:∀ y∈(V.fs 0).names,y.2≠.cell) (h0:(V.fs 0).names.lookup (".0" : Str)=some NameKind.local) (hx:(V.fs 0).names.lookup x=some .local) (hkind:(V.fs 0).kind=.function) (hroom:(V.fR 0).depth<recursionLimit) (hs:∀ x,genFold (V.fe 1) (V.fE 0) x=pure x) (h:wpAny (model pw_rk0009_01 V.w) (V.fR 0) (eval (V.fe 1) (V.fE 0)) (fun xv s₁=>∃ l items,xv=.ref l/\s₁.heap.IsList l items/\Fr V.h₀ V.L s₁.heap V.m/\News V.h₀ V.L s₁.heap (V.fL 0)/\UpdF P (tabObj ps) (V.fL 0) g /\
   (ps=#[]\/∃ c',ps=#[rawInt (V.fp 1).line,rawInt (V.fp 1).col,.ref c'])/\∃ F:Nat->Value->Prop,
   (∀ (code:Value) (bi C:Addr) (A':Around) E' i v (t:Shared) m₂,A'.handled=none->items[i]?=some v->t.heap.Ns C m₂->m₂ x=some v->(∀ b o,b≠P->s₁.heap.get? b=some o->t.heap.get? b=some o) ->
    wpAny (model pw_rk0009_01 V.w) A' (eval (V.fe 0) (genEnv (V.fs 0) cl C code bi (V.fE 0))) (fun y s₃=>F i y/\Keeps t s₃) E' t) /\
   (∀ a ps' gs tk h₅,gs.bare=true->Fr V.h₀ V.L h₅ V.m->News V.h₀ V.L h₅ (g (tabObj ps'))->(∃ c',ps'=#[rawInt (V.fp 1).line,rawInt (V.fp 1).col,.ref c']) ->
    GenE V.w (V.fR 0) a items.size (fun j y=>∃ i,(List.range items.size)[j]?=some i/\F i y) s₁.heap.objs.size s₁.gens.size { s₁ with heap:=h₅,gens:=s₁.gens.push gs,toks:=tk }->(V.fQ 0) (.ref a) { s₁ with heap:=h₅,gens:=s₁.gens.push gs,toks:=tk })) V.E V.s),wpAny (model pw_rk0009_01 V.w) (V.fR 0) (eval (.GeneratorExp (V.fe 0) [⟨.Name x (V.fp 0),(V.fe 1),[],0⟩] (V.fs 0) (V.fp 1)) (V.fE 0)) (V.fQ 0) V.E V.s:Prop)) (V.fS 0)
@[irreducible] noncomputable def Z10:FrZ:=pickZ Z10P
theorem Z10c:Z10P Z10:=by
 intro P ps g cl K T C hcode hglob hh hco hclos hcell h0 hx hkind hroom hs h
 refine wpAny_GeneratorExp_walksQD hh hco hclos hcell h0 hx hkind hroom (wpAny_mono h (fun xv s₁ h₁=>?_) fun _ _ e=>e) hs
 obtain ⟨l,items,rfl,hl,F₁,N₁,U,hps,F,hel,hQ⟩:=h₁
 refine e2a4 U.split fun pre post hnw hg p1 p2=>?_
 have hm:=N₁ (P,tabObj ps) (by rw [hnw];exact List.mem_append_right _ (.head _))
 refine e2a8 (tab_facts F₁ T hm.1) fun bm ob b1 b2 b3 b4 b5 b6 hbP hgP=>?_
 have hlt:l<s₁.heap.objs.size:=by refine e1a2 hl fun _ e _=>?_;clear hl;exact Heap.lt_size e
 have hPlt:P<s₁.heap.objs.size:=Heap.lt_size hm.1
 have hlP:l≠P:=fun e=>by
  refine e1a3 hl fun o ho hc _=>?_;clear hl
  rw [e,hm.1] at ho;cases ho;exact absurd hc (by simp)
 have hnl:=T.nolimit.keeps F₁.keep
 have hcP:cStatics≠P:=fun e=>by
  refine e1a2 hnl fun _ hns _=>?_;clear hnl
  refine e3a3 hns fun o es ep ho hd _=>?_;clear hns
  rw [e,hm.1] at ho;cases ho;cases hd
 have ht:TriplesOk ps.toList:=by
  rcases hps with rfl | ⟨c',rfl⟩
  ·exact trivial
  ·exact trivial
 generalize hH:s₁.heap.push { cls:=.type "list_iterator",data:=.fields #[.ref l,.int 0 0] }=H
 have up:∀ b o,s₁.heap.get? b=some o->H.get? b=some o:=fun b o e=>hH▸Heap.get?_push_of_some _ e
 have hHs:H.objs.size=s₁.heap.objs.size+1:=by rw [<- hH,Heap.size_push]
 refine wpAny_pyIter_list hl ?_
 rw [hH]
 refine ⟨hnl.keeps up,?_⟩
 have rest:∀ (cv:Value) (h₃:Heap) (tk:Tok) (ps':Array Value),Heap.ExtBut P H h₃->H.objs.size≤h₃.objs.size->h₃.get? P=some (tabObj ps')->(∃ c',ps'=#[rawInt (Z10.fp 1).line,rawInt (Z10.fp 1).col,.ref c']) ->
   wpAny (model pw_rk0009_01 Z10.w) (Z10.fR 0) (builtinsFor (Z10.fE 0).globals (Z10.fE 0).builtins) (fun bi s₄ =>
    ∃ I fp wr n₀ P St₀ pz F,(Value.ref s₁.heap.objs.size)=.ref I/\(∀ A':Around,A'.handled=none->Walks pw_rk0009_01 Z10.w A' I fp wr n₀ P St₀)/\St₀ 0 s₄.heap/\(∀ b∈fp,b<s₄.heap.objs.size)/\s₄.heap.NoLimit/\cStatics∉wr /\
     (∀ href:Heap,(∀ b o,s₄.heap.get? b=some o->href.get? b=some o) ->
      QuietGenD pw_rk0009_01 Z10.w (genEnv (Z10.fs 0) cl s₄.heap.objs.size cv bi (Z10.fE 0)) (Z10.fS 0) [] (Z10.fe 0) (List.range s₄.heap.objs.size) wr P pz F href ((Z10.fR 0).depth+1) ((Z10.fR 0).units+8)) /\
     (∀ a h₅ tk gs,gs.bare=true->s₄.heap.objs.size<a->h₅.objs.size=a+1->(∀ b o,s₄.heap.get? b=some o->h₅.get? b=some o) ->
      WalksS pw_rk0009_01 Z10.w (Z10.fR 0).in4 a (a::s₄.heap.objs.size::List.range s₄.heap.objs.size) (s₄.heap.objs.size::wr) (GenOnlyQ s₄.gens.size) (passing pz n₀ 0).length
       (fun j y=>∃ i,(passing pz n₀ 0)[j]?=some i/\F i y) (GenAt pw_rk0009_01 Z10.w (Z10.fR 0).in4 a s₄.gens.size s₄.heap.objs.size (List.range s₄.heap.objs.size) wr pz n₀ F) ->
      GenAt pw_rk0009_01 Z10.w (Z10.fR 0).in4 a s₄.gens.size s₄.heap.objs.size (List.range s₄.heap.objs.size) wr pz n₀ F 0 { s₄ with gens:=s₄.gens.push gs,toks:=tk,heap:=h₅ } ->
      (Z10.fQ 0) (.ref a) { s₄ with gens:=s₄.gens.push gs,toks:=tk,heap:=h₅ })) Z10.E { s₁ with heap:=h₃,toks:=tk }:=by
  intro cv h₃ tk ps' hx₃ hsz hP₃ hps'
  have hx₁:∀ b o,b≠P->s₁.heap.get? b=some o->h₃.get? b=some o:=fun b o hb e=>hx₃ b o hb (up b o e)
  have hg':h₃.Ns mainGlobals Z10.mg:=(T.g.keeps F₁.keep).at' fun o e=>hx₁ _ o hgP e
  rw [hglob]
  refine wpAny_builtinsFor hg' b1 b2 (hx₁ _ _ hbP (F₁.keep _ _ b3)) b4 b5 b6 ?_
  have hIP:s₁.heap.objs.size≠P:=Nat.ne_of_gt hPlt
  have hit:H.IsListIter s₁.heap.objs.size l 0:=by rw [<- hH];exact ⟨_,Heap.get?_push_size _ rfl,rfl,rfl⟩
  have hI3:h₃.IsListIter s₁.heap.objs.size l 0:=let ⟨o,e,r⟩:=hit;⟨o,hx₃ _ o hIP e,r⟩
  have hl3:h₃.IsList l items:=let ⟨o,e,r⟩:=hl;⟨o,hx₁ _ o hlP e,r⟩
  have hlt3:s₁.heap.objs.size<h₃.objs.size:=Nat.lt_of_lt_of_le (by rw [hHs];exact Nat.lt_succ_self _) hsz
  refine ⟨s₁.heap.objs.size,[s₁.heap.objs.size,l],[s₁.heap.objs.size],items.size,fun i v=>items[i]?=some v,_,fun _=>true,F,rfl,(fun A' hA=>Walks.list hA _ _ (Nat.ne_of_lt hlt) items),⟨hI3,hl3⟩,?_,?_,?_,?_,?_⟩
  ·intro b hb
   rcases List.mem_cons.mp hb with rfl | hb
   ·exact hlt3
   ·rw [List.mem_singleton.mp hb];exact Nat.lt_trans hlt hlt3
  ·exact let ⟨mc,a,r⟩:=hnl;⟨mc,a.at' fun o e=>hx₁ _ o hcP e,r⟩
  ·intro hm
   rw [List.mem_singleton] at hm
   have hc:cStatics<s₁.heap.objs.size:=let ⟨_,hn,_⟩:=hnl;hn.lt
   rw [hm] at hc
   exact Nat.lt_irrefl _ hc
  ·intro href hhref
   have inB:∀ (t:Shared),(∀ b∈List.range h₃.objs.size,b∉[s₁.heap.objs.size]->∀ o,href.get? b=some o->t.heap.get? b=some o)->∀ b o,b≠P->s₁.heap.get? b=some o->t.heap.get? b=some o:=fun t hk b o hb e =>
    hk b (List.mem_range.mpr (Heap.lt_size (hx₁ b o hb e))) (fun hm=>by rw [List.mem_singleton] at hm;exact absurd (Heap.lt_size e) (by rw [hm];exact Nat.lt_irrefl _)) o (hhref b o (hx₁ b o hb e))
   exact ⟨fun A' E' i v t m₂ hA _ _ hv hn hm hk=>by
     show wpAny _ A' (pure true) _ E' t
     exact wpAny_pure ⟨rfl,t.heap,t.toks,rfl,fun _ _ e=>e⟩,
    fun A' E' i v t m₂ hA _ _ hv _ hn hm hk=>hel _ _ _ A' E' i v t m₂ hA hv hn hm (inB t hk)⟩
  ·intro a h₅ tk' gs hgb hag hsz₅ hk₅ W hat
   have hpas:passing (fun _=>true) items.size 0=List.range items.size:=by
    unfold passing
    rw [List.drop_zero,List.filter_eq_self.mpr (fun _ _=>rfl)]
   rw [hpas,List.length_range] at W
   have hL5:∀ b o,b≠P->s₁.heap.get? b=some o->h₅.get? b=some o:=fun b o hb e=>hk₅ b o (hx₁ b o hb e)
   refine hQ a ps' gs tk' h₅ hgb ⟨F₁.ns.at' fun o e=>hL5 _ o hm.2.1.symm e,fun b o e=>hL5 b o (fun q=>by rw [q,hm.2.2] at e;cases e) (F₁.keep b o e),F₁.above⟩ (fun q hq=>?_) hps' ⟨_,_,_,W,hat,(fun i s' st=>st.1.typeIs),List.mem_cons_self,?_,?_⟩
   ·rw [hg] at hq
    rcases List.mem_append.mp hq with hq | hq
    ·have n:=N₁ q (by rw [hnw];exact List.mem_append_left _ hq)
     exact ⟨hL5 _ _ (p1 q hq) n.1,n.2⟩
    ·rcases List.mem_cons.mp hq with rfl | hq
     ·exact ⟨hk₅ _ _ hP₃,hm.2⟩
     ·have n:=N₁ q (by rw [hnw];exact List.mem_append_right _ (.tail _ hq))
      exact ⟨hL5 _ _ (p2 q hq) n.1,n.2⟩
   ·intro b hb
    show b<h₅.objs.size
    rw [hsz₅]
    rcases List.mem_cons.mp hb with rfl | hb
    ·exact Nat.lt_succ_self _
    ·rcases List.mem_cons.mp hb with rfl | hb
     ·exact Nat.lt_succ_of_lt hag
     ·exact Nat.lt_succ_of_lt (Nat.lt_trans (List.mem_range.mp hb) hag)
   ·intro b hb
    rcases List.mem_cons.mp hb with rfl | hb
    ·exact Nat.le_of_lt hlt3
    ·rw [List.mem_singleton.mp hb];exact Nat.le_refl _
 have C1:=C.keeps fun b o e=>up b o (F₁.keep b o e)
 rcases hps with rfl | ⟨c',rfl⟩
 ·refine wpAny_genexprCodeX hcode (C1.code (up _ _ hm.1) ht) (C1.tab (up _ _ hm.1)) rfl fun c' h₃ tk₃ hx₃ hge hlt' hcode₃ _ htab₃ _=>?_
  exact rest (.ref c') h₃ tk₃ _ hx₃ (Nat.le_trans hge (Nat.le_of_lt hlt')) htab₃.2 ⟨c',rfl⟩
 ·refine wpAny_genexprCode_hit (c':=.ref c') hcode (C1.code (up _ _ hm.1) ht) ?_ ?_
  ·simp [codeAmong,rawInt]
  ·exact rest (.ref c') H _ _ (fun _ _ _ e=>e) (Nat.le_refl _) (up _ _ hm.1) ⟨c',rfl⟩
theorem genexp_list {env:Env} {elt iter:Expr} {x:Str} {px:Pos} {scope:Scope} {cl:List (Str×Addr)} {pos:Pos} {Q:Value->Shared->Prop} {K:Frag}
  (T:Top p loose mean mg mb h₀) (C:CodeHd h₀ c P) (hcode:env.code=.ref c) (hglob:env.globals=mainGlobals)
  (hh:A.handled=none) (hco:scope.isCoroutine=false) (hclos:closureFor scope env=pure cl) (hcell:∀ y∈scope.names,y.2≠.cell) (h0:scope.names.lookup (".0" : Str)=some NameKind.local)
  (hx:scope.names.lookup x=some .local) (hkind:scope.kind=.function) (hroom:A.depth<recursionLimit) (hs:∀ x,genFold iter env x=pure x)
  (h:wpAny (model pw_rk0009_01 w) A (eval iter env) (fun xv s₁=>∃ l items,xv=.ref l/\s₁.heap.IsList l items/\Fr h₀ L s₁.heap m/\News h₀ L s₁.heap news/\UpdF P (tabObj ps) news g /\
   (ps=#[]\/∃ c',ps=#[rawInt pos.line,rawInt pos.col,.ref c'])/\∃ F:Nat->Value->Prop,
   (∀ (code:Value) (bi C:Addr) (A':Around) E' i v (t:Shared) m₂,A'.handled=none->items[i]?=some v->t.heap.Ns C m₂->m₂ x=some v->(∀ b o,b≠P->s₁.heap.get? b=some o->t.heap.get? b=some o) ->
    wpAny (model pw_rk0009_01 w) A' (eval elt (genEnv scope cl C code bi env)) (fun y s₃=>F i y/\Keeps t s₃) E' t) /\
   (∀ a ps' gs tk h₅,gs.bare=true->Fr h₀ L h₅ m->News h₀ L h₅ (g (tabObj ps'))->(∃ c',ps'=#[rawInt pos.line,rawInt pos.col,.ref c']) ->
    GenE w A a items.size (fun j y=>∃ i,(List.range items.size)[j]?=some i/\F i y) s₁.heap.objs.size s₁.gens.size { s₁ with heap:=h₅,gens:=s₁.gens.push gs,toks:=tk }->Q (.ref a) { s₁ with heap:=h₅,gens:=s₁.gens.push gs,toks:=tk })) E s) :
  wpAny (model pw_rk0009_01 w) A (eval (.GeneratorExp elt [⟨.Name x px,iter,[],0⟩] scope pos) env) Q E s:=pickedZ (by with_unfolding_all rfl) Z10c (sfQ (sfs (sfp (sfS (sfe (sfE (sfL (sfA (sfR (frC w p loose mean mg mb Z10.dp Z10.un Z10.gd Z10.cn Z10.cs Z10.ca Z10.ccd Z10.cll Z10.outer Z10.A₀ Z10.base h₀ L m s E) [A]) [c]) [news]) [env]) [elt,iter]) [x]) [px,pos]) [scope]) [Q]) P ps g cl K T C hcode hglob hh hco hclos hcell h0 hx hkind hroom hs h
end
end
example:True:=by w_top off;trivial
section
open NgM01 NgM01b NgM02 NgM03 NgM09 NgM10 NgM11 NgM12
noncomputable def EmTab (pos:Pos) (ps:Array Value):Prop:=ps=#[]\/∃ c',ps=#[rawInt pos.line,rawInt pos.col,.ref c']
noncomputable abbrev emPos:Pos:=⟨99,22,99,57⟩
structure TokC where
 (t td lc:Addr)
 (typ val:Str)
 (t1 t2:Tok)
noncomputable abbrev tokObj (k:TokC):Obj:={ cls:=.ref 47,dict:=some k.td,slots:=#[some (.ref k.lc),some (.str k.typ k.t1),some (.str k.val k.t2)] }
noncomputable abbrev emLed (a:LexA) (st:LexS) (ps:Array Value) (rest:List (Addr×Obj)):List (Addr×Obj):=lexLed a st ((225,tabObj ps)::rest)
theorem lexD_tab {a:LexA} {st:LexS} {ps:Array Value} {rest:List (Addr×Obj)} (D:LexD a ((225,tabObj ps)::rest)):UpdF 225 (tabObj ps) (emLed a st ps rest) (fun o=>lexLed a st ((225,o)::rest)):=by
 have D1:=List.nodup_cons.mp D
 have D2:=List.nodup_cons.mp D1.2
 have D3:=List.nodup_cons.mp D2.2
 have D4:=List.nodup_cons.mp D3.2
 have D5:=List.nodup_cons.mp D4.2
 have D6:=List.nodup_cons.mp D5.2
 have D7:=List.nodup_cons.mp D6.2
 exact (.tail (fun e=>D1.1 (e▸(.tail _ (.tail _ (.tail _ (.tail _ (.tail _ (.head _)))))))) (.tail (fun e=>D2.1 (e▸(.tail _ (.tail _ (.tail _ (.tail _ (.head _))))))) (.tail (fun e=>D3.1 (e▸(.tail _ (.tail _ (.tail _ (.head _)))))) (.tail (fun e=>D4.1 (e▸(.tail _ (.tail _ (.head _))))) (.tail (fun e=>D5.1 (e▸(.tail _ (.head _)))) (.tail (fun e=>D6.1 (e▸(.head _))) (.head (nd_ne D7.1))))))))
theorem LexI.tab {a:LexA} {chars:List Cel} {cl:Addr} {st:LexS} {str:List Cel} {o o':Obj} {rest:List (Addr×Obj)} (I:LexI a chars cl ((225,o)::rest) st str) (hcl:∃ ep,(cl,listOf (chars.map Cel.ref).toArray ep)∈rest) (hc:∀ x∈chars,CelIn rest x) (hs:∀ x∈str,CelIn rest x) :
  LexI a chars cl ((225,o')::rest) st str :=
 ⟨⟨I.R.D,let ⟨ep,h⟩:=hcl;⟨ep,.tail _ h⟩,fun x h=>let ⟨h1,h2,h3,h4⟩:=hc x h;⟨.tail _ h1,.tail _ h2,.tail _ h3,.tail _ h4⟩,I.R.sz⟩,I.S,fun x h=>let ⟨h1,h2,h3,h4⟩:=hs x h;⟨.tail _ h1,.tail _ h2,.tail _ h3,.tail _ h4⟩,I.z⟩
noncomputable def EmF (cs:List Cel) (j:Nat) (y:Value):Prop:=∃ i,(List.range cs.length)[j]?=some i/\∃ x u,cs[i]?=some x/\y=.str x.x u
noncomputable def EmIn (w:World) (A:Around) (h₀:Heap) (L:Addr) (m:Str->Option Value) (a:LexA) (st:LexS) (cs:List Cel) (rest:List (Addr×Obj)) (ps:Array Value) (pos:Pos) (Q:Value->Shared->Prop) (xv:Value) (s₁:Shared):Prop :=
 xv=.ref a.ct/\Fr h₀ L s₁.heap m/\News h₀ L s₁.heap (emLed a st ps rest)/\∀ ga ps' gs tk h₅,gs.bare=true->Fr h₀ L h₅ m->News h₀ L h₅ (emLed a st ps' rest)->EmTab pos ps' ->
  GenE w A ga cs.length (EmF cs) s₁.heap.objs.size s₁.gens.size { s₁ with heap:=h₅,gens:=s₁.gens.push gs,toks:=tk } ->
  (L<s₁.heap.objs.size/\∀ q∈emLed a st ps' rest,q.1<s₁.heap.objs.size)->Q (.ref ga) { s₁ with heap:=h₅,gens:=s₁.gens.push gs,toks:=tk }
section
variable {A:Around} {E:Value->Shared->Prop} {ps:Array Value} {a:LexA} {chars:List Cel} {cl:Addr} {st:LexS} {str cs:List Cel} {rest:List (Addr×Obj)}
noncomputable def Z72P:FrZ->Prop:=fun V=>∀ (_F:Fr V.h₀ V.L V.s.heap V.m) (T:Top V.p V.loose V.mean V.mg V.mb V.h₀) (X:(hd.heap_1 V.w.params).In V.h₀) (I:LexI (V.fa 0) (V.fC 0) (V.fA 0) ((225,tabObj (V.fW 0))::(V.fL 0)) (V.fx 0) (V.fC 1)) (hct:(V.fx 0).ct=(V.fC 2).map Cel.ref) (hcs:∀ x∈(V.fC 2),CelIn (V.fL 0) x) (hps:EmTab (V.fp 3) (V.fW 0)) (hcode:(V.fE 0).code=.ref 229) (hglob:(V.fE 0).globals=mainGlobals) (hh:(V.fR 0).handled=none) (hco:(V.fs 0).isCoroutine=false) (hclos:closureFor (V.fs 0) (V.fE 0)=pure []) (hcell:∀ y∈(V.fs 0).names,y.2≠.cell) (h0:(V.fs 0).names.lookup (".0" : Str)=some NameKind.local) (hx:(V.fs 0).names.lookup ("c" : Str)=some NameKind.local) (hkind:(V.fs 0).kind=.function) (hroom:(V.fR 0).depth<recursionLimit) (hs:∀ x,genFold (V.fe 0) (V.fE 0) x=pure x) (h:wpAny (model pw_rk0009_01 V.w) (V.fR 0) (eval (V.fe 0) (V.fE 0)) (EmIn V.w (V.fR 0) V.h₀ V.L V.m (V.fa 0) (V.fx 0) (V.fC 2) (V.fL 0) (V.fW 0) (V.fp 3) (V.fQ 0)) V.E V.s),wpAny (model pw_rk0009_01 V.w) (V.fR 0) (eval (.GeneratorExp (.Attribute (.Name "c" (V.fp 1)) "char" (V.fp 2)) [⟨.Name "c" (V.fp 0),(V.fe 0),[],0⟩] (V.fs 0) (V.fp 3)) (V.fE 0)) (V.fQ 0) V.E V.s
@[irreducible] noncomputable def Z72:FrZ:=pickZ Z72P
theorem Z72c:Z72P Z72:=by
 intro _F T X I hct hcs hps hcode hglob hh hco hclos hcell h0 hx hkind hroom hs h
 have C:CodeHd Z72.h₀ 229 225:=codeHd_of_K X (by kernel_rfl)
 refine genexp_list (K:=[]) (L:=Z72.L) (m:=Z72.m) (ps:=(Z72.fW 0)) (news:=emLed (Z72.fa 0) (Z72.fx 0) (Z72.fW 0) (Z72.fL 0)) (g:=fun o=>lexLed (Z72.fa 0) (Z72.fx 0) ((225,o)::(Z72.fL 0))) T C hcode hglob hh hco hclos hcell h0 hx hkind hroom hs (wpAny_mono h (fun xv s₁ h₁=>?_) fun _ _ e=>e)
 refine e0a4 h₁ fun Q11=>?_;clear h₁;obtain rfl:=Q11;intro F₁ N₁ hQ
 have hm:=(N₁ ((Z72.fa 0).ct,listOf (Z72.fx 0).ct.toArray (Z72.fx 0).cn) (.tail _ (.tail _ (.tail _ (.tail _ (.head _)))))).1
 refine ⟨(Z72.fa 0).ct,_,rfl,⟨_,hm,rfl,_,rfl⟩,F₁,N₁,lexD_tab I.R.D,hps,fun i y=>∃ x u,(Z72.fC 2)[i]?=some x/\y=.str x.x u,?_,?_⟩
 ·intro code bi C' A' E' i v t m₂ hA hv hn hmc hk
  rw [hct,List.getElem?_toArray,List.getElem?_map] at hv
  refine e1a2 (Option.map_eq_some_iff.mp hv) fun x hx1 Q12=>?_;obtain rfl:=Q12
  refine e0a4 (hcs x (List.mem_of_getElem? hx1)) fun q1 q2 _ _=>?_
  have D:=I.R.D
  have n225:∀ q∈(Z72.fL 0),q.1≠225:=by
   unfold LexD at D
   simp only [List.map_cons,List.nodup_cons] at D
   exact nd_ne D.2.2.2.2.2.2.1
  have X':(hd.heap_1 Z72.w.params).In t.heap:=fun b o e=>hk b o (fun q=>by
   have n:=N₁ (225,tabObj (Z72.fW 0)) (List.mem_append_right [_,_,_,_,_,_] (.head _))
   rw [q] at e
   rw [X _ _ e] at n
   exact absurd n.2.2 (by simp)) (F₁.keep b o (X b o e))
  have g1:=hk _ _ (n225 _ q1) (N₁ _ (List.mem_append_right [_,_,_,_,_,_] (.tail _ q1))).1
  have g2:=hk _ _ (n225 _ q2) (N₁ _ (List.mem_append_right [_,_,_,_,_,_] (.tail _ q2))).1
  have IA:InstAt t.heap x.c (instObj 183 x.dc) 183 (some (dictOf (celDict x) 2)):=⟨g1,rfl,rfl,g2⟩
  refine Attribute_name (wpAny_Name (wpAny_loadName_local hkind hx hn hmc ?_) (by decide))
  have pg:plainGet (hd.heap_1 Z72.w.params) 183 "char" = true:=by k_is
  refine get_value X' IA (plainGet_of pg).1 (findObj_own (by k_is) (by k_is) (by k_is) rfl) rfl ?_
  exact ⟨⟨x,_,hx1,rfl⟩,_,_,rfl,fun _ _ e=>e⟩
 ·intro ga ps' gs tk h₅ hgb F₅ N₅ hps' hG
  have e:((Z72.fx 0).ct.toArray).size=(Z72.fC 2).length:=by rw [List.size_toArray,hct,List.length_map]
  rw [e] at hG
  refine hQ ga ps' gs tk h₅ hgb F₅ N₅ (.inr hps') hG ⟨F₁.ns.lt,fun q hq=>?_⟩
  have:q.1∈(emLed (Z72.fa 0) (Z72.fx 0) ps' (Z72.fL 0)).map (·.1):=List.mem_map_of_mem hq
  refine e1a2 (List.mem_map.mp (show q.1∈(emLed (Z72.fa 0) (Z72.fx 0) (Z72.fW 0) (Z72.fL 0)).map (·.1) from this)) fun q' h1 h2=>?_
  rw [<- h2]
  exact Heap.lt_size (N₁ _ h1).1
theorem emit_gen {env:Env} {iter:Expr} {px cp cq:Pos} {scope:Scope} {pos:Pos} {Q:Value->Shared->Prop}
  (_F:Fr h₀ L s.heap m) (T:Top p loose mean mg mb h₀) (X:(hd.heap_1 w.params).In h₀) (I:LexI a chars cl ((225,tabObj ps)::rest) st str) (hct:st.ct=cs.map Cel.ref) (hcs:∀ x∈cs,CelIn rest x) (hps:EmTab pos ps)
  (hcode:env.code=.ref 229) (hglob:env.globals=mainGlobals)
  (hh:A.handled=none) (hco:scope.isCoroutine=false) (hclos:closureFor scope env=pure []) (hcell:∀ y∈scope.names,y.2≠.cell) (h0:scope.names.lookup (".0" : Str)=some NameKind.local)
  (hx:scope.names.lookup ("c" : Str)=some NameKind.local) (hkind:scope.kind=.function) (hroom:A.depth<recursionLimit) (hs:∀ x,genFold iter env x=pure x)
  (h:wpAny (model pw_rk0009_01 w) A (eval iter env) (EmIn w A h₀ L m a st cs rest ps pos Q) E s) :
  wpAny (model pw_rk0009_01 w) A (eval (.GeneratorExp (.Attribute (.Name "c" cp) "char" cq) [⟨.Name "c" px,iter,[],0⟩] scope pos) env) Q E s:=pickedZ (by with_unfolding_all rfl) Z72c (sfQ (sfs (sfp (sfe (sfE (sfL (sfx (sfA (sfC (sfa (sfW (sfR (frC w p loose mean mg mb Z72.dp Z72.un Z72.gd Z72.cn Z72.cs Z72.ca Z72.ccd Z72.cll Z72.outer Z72.A₀ Z72.base h₀ L m s E) [A]) [ps]) [a]) [chars,str,cs]) [cl]) [st]) [rest]) [env]) [iter]) [px,cp,cq,pos]) [scope]) [Q]) _F T X I hct hcs hps hcode hglob hh hco hclos hcell h0 hx hkind hroom hs h
theorem join_E {sep:Str} {t:Tok} {ga:Addr} {n:Nat} {F:Nat->Value->Prop} {K g0:Nat} {news:List (Addr×Obj)} {Q:Value->Shared->Prop} (Fh:Fr h₀ L s.heap m) (N:News h₀ L s.heap news) (X:GenE w A ga n F K g0 s)
  (hK:L<K/\∀ q∈news,q.1<K) (tx:Nat->Str) (htx:∀ j v,F j v->∃ u,v=.str (tx j) u) (hok:JoinOk sep ((List.range n).map tx)=true) (hsz:n≤sizeLine)
  (hQ:∀ h' g' k t',Fr h₀ L h' m->News h₀ L h' news->GenOnlyQ g0 s.gens g'->Q (.str (Txt.join sep ((List.range n).map tx)) t') { s with heap:=h',gens:=g',toks:=k }) :
  wpAny (model pw_rk0009_01 w) A (call (.builtin "str.join") [.str sep t,.ref ga]) Q E s:=by
 refine e3a6 X fun fp wr St W hst hT ha hfp hwr=>?_;clear X
 have W:=W.in4_2
 refine SC.joinGen W hT hst hfp ha (fun j v hv=>let ⟨u,e⟩:=htx j v hv;⟨_,u,e⟩) (fun s' lt hm hacc=>?_) hsz
 have hl:lt.map (·.1)=(List.range n).map tx:=by
  apply List.ext_getElem?
  intro j
  have hsz:lt.length=n:=by simpa [strValues] using hacc.1
  by_cases hj:j<n
  ·have hj':j<lt.length:=hsz▸hj
   refine e1a1 (htx j _ (hacc.2 j (.str lt[j].1 lt[j].2) (by simp [strValues,List.getElem?_eq_getElem hj']))) fun u hv=>?_
   injection hv with h1 _
   simp [List.getElem?_eq_getElem hj',hj,h1]
  ·rw [List.getElem?_eq_none (by simpa [hsz] using Nat.le_of_not_lt hj),List.getElem?_eq_none (by simpa using Nat.le_of_not_lt hj)]
 rw [hl]
 refine ⟨hok,fun t' k=>?_⟩
 obtain ⟨h',g',d',tk',os'⟩:=s'
 obtain ⟨kp,gg,e1,e2,_⟩:=hm
 dsimp only at kp gg e1 e2
 subst e1 e2
 have nw:∀ b,b<K->b∉wr:=fun b hb hw=>Nat.lt_irrefl _ (Nat.lt_of_lt_of_le hb (hwr b hw))
 refine hQ h' g' k t' ⟨Fh.ns.at' fun o e=>kp _ o (nw _ hK.1) e,fun b o e=>kp b o (nw b (Nat.lt_trans (Nat.lt_of_lt_of_le (Heap.lt_size e) Fh.above) hK.1)) (Fh.keep b o e),Fh.above⟩ (fun q hq=>⟨kp _ _ (nw _ (hK.2 q hq)) (N q hq).1,(N q hq).2⟩) gg
end
end
theorem NgM15.gM15:True:=trivial
example:True:=by w_top off;trivial
section
open NgM01 NgM01b NgM02 NgM03 NgM09 NgM10 NgM11 NgM12 NgM15
noncomputable def catS (cs:List Cel):Str:=Txt.join "" (cs.map (·.x))
theorem sum_ones:∀ cs:List Cel,(∀ x∈cs,x.x.length=1)->((cs.map (·.x)).map (·.length)).sum=cs.length
 | [],_=>rfl
 | x::r,h=>by
  simp only [List.map_cons,List.sum_cons,List.length_cons]
  rw [h x (.head _),sum_ones r fun y hy=>h y (.tail _ hy)]
  omega
theorem join_cs {w:World} {A:Around} {E:Value->Shared->Prop} {s:Shared} {h₀:Heap} {L:Addr} {m:Str->Option Value} {t:Tok} {ga:Addr} {cs:List Cel} {K g0:Nat} {news:List (Addr×Obj)} {Q:Value->Shared->Prop} (X:GenE w A ga cs.length (EmF cs) K g0 s) (Fh:Fr h₀ L s.heap m) (N:News h₀ L s.heap news)
  (hK:L<K/\∀ q∈news,q.1<K) (h1:∀ x∈cs,x.x.length=1) (hz:cs.length≤1000)
  (hQ:∀ h' g' k t',Fr h₀ L h' m->News h₀ L h' news->GenOnlyQ g0 s.gens g'->Q (.str (catS cs) t') { s with heap:=h',gens:=g',toks:=k }) :
  wpAny (model pw_rk0009_01 w) A (call (.builtin "str.join") [.str "" t,.ref ga]) Q E s:=by
 have e:(List.range cs.length).map (fun j:Nat=>(((cs.map Cel.x)[j]?).getD (Str.ofString ""):Str))=cs.map Cel.x:=by
  apply List.ext_getElem?
  intro j
  rw [List.getElem?_map]
  by_cases hj:j<cs.length
  ·rw [List.getElem?_range hj]
   simp [hj]
  ·rw [List.getElem?_eq_none (by simpa using Nat.le_of_not_lt hj),List.getElem?_eq_none (by simpa using Nat.le_of_not_lt hj)]
   rfl
 refine join_E (tx:=fun j:Nat=>(((cs.map Cel.x)[j]?).getD (Str.ofString ""):Str)) Fh N X hK ?_ ?_ (by rw [sizeLine_eq];omega) fun h' g' k t' F' N' G'=>?_
 ·intro j v hq0
  obtain ⟨i,hi,x,u,hx,rfl⟩:=hq0
  have hij:i=j:=by
   have hl:j<cs.length:=by
    by_cases hj:j<cs.length
    ·exact hj
    ·rw [List.getElem?_eq_none (by simpa using Nat.le_of_not_lt hj)] at hi;cases hi
   rw [List.getElem?_range hl] at hi
   exact (Option.some.inj hi).symm
  subst hij
  exact ⟨u,by simp [hx]⟩
 ·rw [e]
  refine joinOk_of_weight ?_ (by decide +kernel)
  rw [sum_ones cs h1,List.length_map]
  omega
 ·have:=hQ h' g' k t' F' N' G'
  unfold catS at this
  rw [<- e] at this
  exact this
theorem lx_item {w:World} {A:Around} {E:Value->Shared->Prop} {s:Shared} {h₀:Heap} {L:Addr} {value slice:PySem.Expr} {D:Addr} {its:List Value} {n:Nat} {news:List (Addr×Obj)} {k:Int} {u:Tok} {v:Value} {Q:Value->Shared->Prop} (N:News h₀ L s.heap news) (hm:(D,listOf its.toArray n)∈news) (h0:0≤k) (hhi:k<2 ^ 63) (hx:its[k.toNat]?=some v) (h:Q v s)
  (hs:subscripted slice false (.ref D) (.int k u)=operate [.ref D,.int k u] (getItem (.ref D) (.int k u)):=by with_unfolding_all rfl) :
  wpAny (model pw_rk0009_01 w) A (subscriptTail value slice (.ref D) (.int k u)) Q E s:=by
 have hl:s.heap.IsList D its.toArray:=⟨_,(N _ hm).1,rfl,_,rfl⟩
 exact tail_any hl.typeIs slot_list_getitem.lookup (wpAny_getItem_list hl h0 hhi (by simpa using hx) h) hs
theorem lx_append_tb2 {w:World} {A:Around} {E:Value->Shared->Prop} {s:Shared} {h₀:Heap} {L x d:Addr} {ox od:Obj} {m:Str->Option Value} {a:LexA} {st:LexS} {rest:List (Addr×Obj)} {c:Value} {Q:Value->Shared->Prop} (D:LexD a rest) (F:Fr h₀ L s.heap m) (N:News h₀ L s.heap ((x,ox)::(d,od)::lexLed a st rest)) (hx:x≠a.tb) (hd:d≠a.tb) (hz:st.tb.length≤1000)
  (h:∀ h' k,Fr h₀ L h' m->News h₀ L h' ((x,ox)::(d,od)::lexLed a { st with tb:=st.tb++[c],tn:=k } rest)->Q .none { s with heap:=h' }):wpAny (model pw_rk0009_01 w) A (call (.builtin "list.append") [.ref a.tb,c]) Q E s:=by
 refine append_K (its:=st.tb.toArray) (n:=st.tn) F N (.tail hx (.tail hd (lexD_tb D))) (fun h' F' N'=>?_) (by rw [sizeLine_eq];simp;omega)
 rw [List.push_toArray] at N'
 exact h h' _ F' N'
theorem lx_clear2 {w:World} {A:Around} {E:Value->Shared->Prop} {s:Shared} {h₀:Heap} {L x d:Addr} {ox od:Obj} {m:Str->Option Value} {a:LexA} {st:LexS} {rest:List (Addr×Obj)} {Q:Value->Shared->Prop} (D:LexD a rest) (F:Fr h₀ L s.heap m) (N:News h₀ L s.heap ((x,ox)::(d,od)::lexLed a st rest)) (hx:x≠a.ct) (hd:d≠a.ct) (hne:st.ct.length≠0) (hz:st.ct.length≤1000)
  (h:∀ h' k,Fr h₀ L h' m->News h₀ L h' ((x,ox)::(d,od)::lexLed a { st with ct:=[],cn:=k } rest)->Q .none { s with heap:=h' }):wpAny (model pw_rk0009_01 w) A (call (.builtin "list.clear") [.ref a.ct]) Q E s:=by
 refine kl_clear (its:=st.ct.toArray) (n:=st.cn) F N (.tail hx (.tail hd (lexD_ct D))) (by simpa using hne) (by rw [sizeLine_eq];simp;omega) (fun h' F' N'=>?_)
 exact h h' _ F' N'
example:True:=by (k_with "M15" => (fail_if_success (fail_if_success (have:=gM15))));(k_with "eval GeneratorExp" => k_extra "M15";(k_here;k_dflt (refine' emit_gen ?Y0 ?Y1 ?Y2 ?Y3 ?Y4 ?Y5 ?Y6 ?Y7 ?Y8 ?Y9 ?Y10 ?Y11 ?Y12 ?Y13 ?Y14 ?Y15 ?Y16 ?Y17 ?_;(case Y0=>assumption);(case Y1=>k_asm);(case Y2=>k_asm);(case Y3=>assumption);(case Y4=>first | assumption | exact rfl);(case Y5=>assumption);(case Y6=>assumption);(case Y7=>exact rfl);(case Y8=>exact rfl);(case Y9=>exact rfl);(case Y10=>exact rfl);(case Y11=>exact rfl);(case Y12=>decide);(case Y13=>decide);(case Y14=>decide);(case Y15=>exact rfl);(case Y16=>k_room);(case Y17=>(intro Y18;exact rfl));k_whole)));(k_with "EmIn" => k_extra "M15";(k_here;(refine' ⟨rfl,?Y0,?Y1,?_⟩;(case Y0=>k_asm);(case Y1=>k_asm);k_whole;intro Y2 Y3 Y4 Y5 Y6 Y7 Y8 Y9 Y10 Y11 Y12)));(k_with "call builtin:str.join" => k_extra "M15";(k_here;k_dflt (refine' join_cs ?Y0 ?Y1 ?Y2 ?Y3 ?Y4 ?Y5 ?_;(case Y0=>assumption);(case Y1=>assumption);(case Y2=>assumption);(case Y3=>assumption);(case Y4=>assumption);(case Y5=>assumption);k_whole;intro Y6 Y7 Y8 Y9 Y10 Y11 Y12)));(k_with "subscriptTail" => k_extra "M15";(k_here;k_dflt (refine' lx_item ?Y0 ?Y1 ?Y2 ?Y3 ?Y4 ?_ ?Y5;(case Y0=>k_asm);(case Y1=>k_mem);(case Y2=>decide);(case Y3=>decide);(case Y4=>exact rfl);(case Y5=>with_unfolding_all rfl);k_whole)));(k_with "call builtin:list.append" => k_extra "M15";(k_here;k_dflt (refine' lx_append_tb2 ?Y0 ?Y1 ?Y2 ?Y3 ?Y4 ?Y5 ?_;(case Y2=>assumption);(case Y0=>assumption);(case Y1=>k_asm);(case Y3=>exact Nat.ne_of_gt (by omega));(case Y4=>exact Nat.ne_of_gt (by omega));(case Y5=>assumption);k_whole;intro Y6 Y7 Y8 Y9)));(k_with "call builtin:list.clear" => k_extra "M15";(k_here;k_dflt (refine' lx_clear2 ?Y0 ?Y1 ?Y2 ?Y3 ?Y4 ?Y5 ?Y6 ?_;(case Y2=>assumption);(case Y0=>assumption);(case Y1=>k_asm);(case Y3=>exact Nat.ne_of_gt (by omega));(case Y4=>exact Nat.ne_of_gt (by omega));(case Y5=>exact Nat.succ_ne_zero _);(case Y6=>exact Nat.le_trans (Nat.le_of_eq (List.length_map _)) (by assumption));k_whole;intro Y7 Y8 Y9 Y10)));trivial
noncomputable abbrev tokRest (k:TokC) (rest:List (Addr×Obj)):List (Addr×Obj):=(k.t,tokObj k)::(k.td,dictOf [] 0)::rest
noncomputable abbrev EmitRet (a:LexA) (chars:List Cel) (cl:Addr) (rest:List (Addr×Obj)) (h₀:Heap) (L:Addr) (m:Str->Option Value) (s:Shared) (Q:Value->Shared->Prop) (str:List Cel) (cs:List Cel) (typ:Str) (lc:Addr) (tb:List Value):Prop :=
 ∀ st' h' tk' g' ps' k,k.typ=typ->k.val=catS cs->k.lc=lc->LexI a chars cl ((225,tabObj ps')::tokRest k rest) st' str->EmTab emPos ps'->st'.ct=[]->st'.tb=tb++[.ref k.t]->Fr h₀ L h' m ->
  News h₀ L h' (emLed a st' ps' (tokRest k rest))->GKeep s.gens g'->Q .none { s with heap:=h',gens:=g',toks:=tk' }
theorem CelIn.mono {rest rest':List (Addr×Obj)} {x:Cel} (h:CelIn rest x) (k:∀ q∈rest,q∈rest'):CelIn rest' x:=⟨k _ h.1,k _ h.2.1,k _ h.2.2.1,k _ h.2.2.2⟩
theorem lexD_two {a:LexA} {rest:List (Addr×Obj)} {o o' ot od:Obj} {t td:Addr} (D:LexD a ((225,o)::rest)) (h0:a.lx<td/\a.dx<td/\a.tb<td/\a.pb<td/\a.ct<td/\a.it<td/\225<td) (h1:∀ q∈rest,q.1<td) (h2:td<t) :
  LexD a ((225,o')::(t,ot)::(td,od)::rest):=by
 have z:=List.nodup_append.mp (show ([a.lx,a.dx,a.tb,a.pb,a.ct,a.it,225]++rest.map (·.1)).Nodup from D)
 have hb:∀ b∈[a.lx,a.dx,a.tb,a.pb,a.ct,a.it,225],b<td:=e0a7 h0 fun p1 p2 p3 p4 p5 p6 p7=>List.forall_mem_cons.mpr ⟨p1,List.forall_mem_cons.mpr ⟨p2,List.forall_mem_cons.mpr ⟨p3,List.forall_mem_cons.mpr ⟨p4,List.forall_mem_cons.mpr ⟨p5,List.forall_mem_cons.mpr ⟨p6,List.forall_mem_singleton.mpr p7⟩⟩⟩⟩⟩⟩
 have hr:∀ q∈rest.map (·.1),q<td:=List.forall_mem_map.mpr h1
 exact (List.nodup_append (l₁:=[a.lx,a.dx,a.tb,a.pb,a.ct,a.it,225]) (l₂:=t::td::rest.map (·.1))).mpr ⟨z.1,List.nodup_cons.mpr ⟨fun h=>(List.mem_cons.mp h).elim (fun e=>Nat.ne_of_gt h2 e) (fun h=>Nat.lt_asymm h2 (hr _ h)),List.nodup_cons.mpr ⟨fun h=>Nat.lt_irrefl _ (hr _ h),z.2.1⟩⟩,
  fun b hb' c hc=>(List.mem_cons.mp hc).elim (fun e=>e▸Nat.ne_of_lt (Nat.lt_trans (hb b hb') h2)) (fun hc=>(List.mem_cons.mp hc).elim (fun e=>e▸Nat.ne_of_lt (hb b hb')) (z.2.2 b hb' c))⟩
theorem LexI.two {a:LexA} {chars:List Cel} {cl:Addr} {st st':LexS} {str:List Cel} {rest:List (Addr×Obj)} {o o' ot od:Obj} {t td:Addr} (I:LexI a chars cl ((225,o)::rest) st str) (h0:a.lx<td/\a.dx<td/\a.tb<td/\a.pb<td/\a.ct<td/\a.it<td/\225<td) (h1:∀ q∈rest,q.1<td) (h2:td<t)
  (hcl:∃ ep,(cl,listOf (chars.map Cel.ref).toArray ep)∈rest) (hc:∀ x∈chars,CelIn rest x) (hs:∀ x∈str,CelIn rest x) (e1:st'.pb=st.pb) (e2:st'.io=st.io) (e3:st'.ct=[]):LexI a chars cl ((225,o')::(t,ot)::(td,od)::rest) st' str:=by
 have up:∀ q∈rest,q∈((225,o')::(t,ot)::(td,od)::rest:List (Addr×Obj)):=fun q hq=>.tail _ (.tail _ (.tail _ hq))
 refine ⟨⟨lexD_two I.R.D h0 h1 h2,let ⟨ep,h⟩:=hcl;⟨ep,up _ h⟩,fun x h=>(hc x h).mono up,I.R.sz⟩,?_,fun x h=>(hs x h).mono up,?_⟩
 ·refine e2a3 I.S fun p q h1 h2 h3=>?_
  exact ⟨p,q,h1,by rw [e1];exact h2,by rw [e2];exact h3⟩
 ·rw [e3]
  have:=I.z
  simp only [List.length_nil]
  omega
theorem mem_swap {α:Type} {A B C:List α} {q:α} (h:q∈A++(B++C)):q∈B++(A++C):=(List.mem_append.mp h).elim (fun h=>List.mem_append_right _ (List.mem_append_left _ h)) (fun h=>(List.mem_append.mp h).elim (List.mem_append_left _) (fun h=>List.mem_append_right _ (List.mem_append_right _ h)))
theorem news_swap2 {h₀ h:Heap} {L t td:Addr} {ot od:Obj} {a:LexA} {st:LexS} {ps:Array Value} {rest:List (Addr×Obj)} (N:News h₀ L h ((t,ot)::(td,od)::emLed a st ps rest)):News h₀ L h (emLed a st ps ((t,ot)::(td,od)::rest)):=fun q hq=>N q (mem_swap (A:=[_,_,_,_,_,_,_]) (B:=[_,_]) hq)
section
variable {a:LexA} {chars:List Cel} {cl:Addr} {st:LexS} {rest:List (Addr×Obj)} {Q E:Value->Shared->Prop}
noncomputable def Z14P:FrZ->Prop:=fun V=>∀ (st:LexS) (C:Cx 50 V.w V.p V.loose V.mean V.mg V.mb V.dp V.un V.cs V.outer V.A₀ V.base V.h₀ V.L V.m V.s) (I:LexI (V.fa 0) (V.fC 0) (V.fA 0) ((225,tabObj (V.fW 0))::(V.fL 0)) st (V.fC 1)) (N:News V.h₀ V.L V.s.heap (emLed (V.fa 0) st (V.fW 0) (V.fL 0))) (hct:st.ct=((V.fc 0)::(V.fC 2)).map Cel.ref) (hcs:∀ x∈(V.fc 0)::(V.fC 2),CelIn (V.fL 0) x) (h1:∀ x∈(V.fc 0)::(V.fC 2),x.x.length=1) (hz:((V.fc 0)::(V.fC 2)).length≤1000) (hps:EmTab emPos (V.fW 0)) (hb:st.tb.length≤1000) (hcl:∃ ep,((V.fA 0),listOf ((V.fC 0).map Cel.ref).toArray ep)∈(V.fL 0)) (hc:∀ x∈(V.fC 0),CelIn (V.fL 0) x) (hstr:∀ x∈(V.fC 1),CelIn (V.fL 0) x) (ret:EmitRet (V.fa 0) (V.fC 0) (V.fA 0) (V.fL 0) V.h₀ V.L V.m V.s (V.fQ 0) (V.fC 1) ((V.fc 0)::(V.fC 2)) (V.fS 0) (V.fc 0).lc st.tb),wpAny (model pw_rk0009_01 V.w) (ktrTop V.dp V.un V.gd V.cn V.cs V.L V.ca V.ccd V.cll V.outer) (call (.ref 230) [.ref (V.fa 0).lx,.str (V.fS 0) (V.fT 0)]) (V.fQ 0) V.E V.s
@[irreducible] noncomputable def Z14:FrZ:=pickZ Z14P
set_option maxHeartbeats 8000000 in
theorem Z14c:Z14P Z14:=by
 intro st C I N hct hcs h1 hz hps hb hcl hc hstr ret
 obtain ⟨B,F,X,T,hk,hdp,hun⟩:=C
 have D:=I.R.D
 refine e0a4 (hcs (Z14.fc 0) (.head _)) fun hx1 hx2 hx3 hx4=>?_
 obtain ⟨tb,pb,ct,io,tn,pn,cnn⟩:=st
 dsimp only at hct
 subst hct
 refine wpAny_call ?_
 k_dflt ktr_enter
 k_steps
 rename News Z14.h₀ Z14.L _ _=>kN
 exact ret ⟨_,pb,[],io,_,_,_⟩ _ _ _ _ ⟨_,_,(Z14.fc 0).lc,(Z14.fS 0),catS ((Z14.fc 0)::(Z14.fC 2)),_,_⟩ rfl rfl rfl (LexI.two I ⟨by omega,by omega,by omega,by omega,by omega,by omega,by omega⟩ (by assumption) (by assumption) hcl hc hstr rfl rfl rfl) (by assumption) rfl rfl (by assumption) (news_swap2 kN) (GKeep.only (GKeep.push _ _ (by assumption)) (Nat.le_refl _) (by assumption))
theorem emit_I {str:List Cel} {x0:Cel} {ce:List Cel} {typ:Str} {tt:Tok} {ps:Array Value} (C:Cx 50 w p loose mean mg mb dp un cs outer A₀ base h₀ L m s) (I:LexI a chars cl ((225,tabObj ps)::rest) st str) (N:News h₀ L s.heap (emLed a st ps rest))
  (hct:st.ct=(x0::ce).map Cel.ref) (hcs:∀ x∈x0::ce,CelIn rest x) (h1:∀ x∈x0::ce,x.x.length=1) (hz:(x0::ce).length≤1000) (hps:EmTab emPos ps) (hb:st.tb.length≤1000)
  (hcl:∃ ep,(cl,listOf (chars.map Cel.ref).toArray ep)∈rest) (hc:∀ x∈chars,CelIn rest x) (hstr:∀ x∈str,CelIn rest x)
  (ret:EmitRet a chars cl rest h₀ L m s Q str (x0::ce) typ x0.lc st.tb) :
  wpAny (model pw_rk0009_01 w) (ktrTop dp un gd cn cs L ca ccd cll outer) (call (.ref 230) [.ref a.lx,.str typ tt]) Q E s:=pickedZ (by with_unfolding_all rfl) Z14c (sfW (sfT (sfS (sfc (sfQ (sfL (sfA (sfC (sfa (frC w p loose mean mg mb dp un gd cn cs ca ccd cll outer A₀ base h₀ L m s E) [a]) [chars,str,ce]) [cl]) [rest]) [Q]) [x0]) [typ]) [tt]) [ps]) st C I N hct hcs h1 hz hps hb hcl hc hstr ret
end
end
theorem NgM16.gM16:True:=trivial
example:True:=by w_top off;trivial
section
open NgM01 NgM01b NgM02 NgM03 NgM09 NgM10 NgM11 NgM12 NgM15 NgM16
noncomputable def accC (v:Str) (s:List Cel):List Cel:=if accB v s then s.take 1 else []
noncomputable def accCn:Nat->Str->List Cel->List Cel
 | 0,_,_=>[]
 | n+1,v,s=>accC v s++accCn n v (accS v s)
noncomputable def escC (s:List Cel):List Cel :=
 if accB setS s then accC setS s else if accB setO s then accCn 3 setO s else if accB "x" s then accC "x" s++accCn 2 setX (accS "x" s) else if accB "u" s then accC "u" s++accCn 4 setX (accS "u" s) else accC "U" s++accCn 4 setX (accS "U" s)
theorem accT_map (v:Str) (s:List Cel):accT v s=(accC v s).map Cel.ref:=by
 unfold accT accC
 split <;> rfl
theorem accTn_map:∀ (n:Nat) (v:Str) (s:List Cel),accTn n v s=(accCn n v s).map Cel.ref
 | 0,_,_=>rfl
 | n+1,v,s=>by rw [accTn,accCn,List.map_append,accT_map,accTn_map n]
theorem escT_map (s:List Cel):escT s=(escC s).map Cel.ref:=by
 unfold escT escC
 simp only [accT_map,accTn_map]
 repeat' split
 all_goals simp only [List.map_append]
noncomputable def lcMid (s:List Cel):Except Value (List Cel×List Cel) :=
 if accB "\\" s then (if escOk (accS "\\" s) then .ok (accC "\\" s++escC (accS "\\" s),escS (accS "\\" s)) else .error (locOf (accS "\\" s)))
 else match s with
  | []=>.error .none
  | x::r=>.ok ([x],r)
noncomputable def lexC (s:List Cel):Except Value (List Cel×List Cel) :=
 match lcMid s with
 | .error l=>.error l
 | .ok (c,r)=>if accB "'" r then .ok (c++accC "'" r,accS "'" r) else .error (locOf r)
theorem accC_sub (v:Str) (s:List Cel):accC v s++accS v s=s:=by
 unfold accC accS
 cases s with
 | nil=>split <;> rfl
 | cons x r=>split <;> rfl
theorem accCn_sub:∀ (n:Nat) (v:Str) (s:List Cel),accCn n v s++accSn n v s=s
 | 0,_,_=>rfl
 | n+1,v,s=>by rw [accCn,accSn,List.append_assoc,accCn_sub n,accC_sub]
theorem escC_sub (s:List Cel):escC s++escS s=s:=by
 unfold escC escS
 repeat' split
 ·exact accC_sub _ _
 ·exact accCn_sub _ _ _
 all_goals rw [List.append_assoc,accCn_sub,accC_sub]
theorem lcMid_sub {s c r:List Cel} (h:lcMid s=.ok (c,r)):c++r=s:=by
 unfold lcMid at h
 split at h
 ·split at h
  ·injection h with h
   injection h with h1 h2
   subst h1 h2
   rw [List.append_assoc,escC_sub,accC_sub]
  ·cases h
 ·split at h
  ·cases h
  ·injection h with h
   injection h with h1 h2
   subst h1 h2
   rfl
set_option tactic.hygienic true in
theorem lexC_sub {s c r:List Cel} (h:lexC s=.ok (c,r)):c++r=s:=by
 unfold lexC at h
 split at h
 ·cases h
 ·rename_i c' r' h'
  split at h
  ·injection h with h
   injection h with h1 h2
   subst h1 h2
   rw [List.append_assoc,accC_sub,lcMid_sub h']
  ·cases h
section
variable {a:LexA} {chars:List Cel} {cl:Addr} {st:LexS} {rest:List (Addr×Obj)} {Q E:Value->Shared->Prop}
theorem escape_Y {str:List Cel} (b:escOk str=true) (C:Cx 50 w p loose mean mg mb dp un cs outer A₀ base h₀ L m s) (I:LexI a chars cl rest st str) (N:News h₀ L s.heap (lexLed a st rest))
  (ret:LexRetI a chars cl rest h₀ L m s Q (escS str) (st.ct++escT str) st.tb .none) :
  wpAny (model pw_rk0009_01 w) (ktrTop dp un gd cn cs L ca ccd cll outer) (call (.ref 387) [.ref a.lx]) Q E s:=escape_I C I N (fun _=>ret) (fun h=>by rw [b] at h;cases h)
theorem escape_N {str:List Cel} (b:escOk str=false) (C:Cx 50 w p loose mean mg mb dp un cs outer A₀ base h₀ L m s) (I:LexI a chars cl rest st str) (N:News h₀ L s.heap (lexLed a st rest))
  (err:ErrRet base (envX cn cs L ca ccd cll) outer rest h₀ L m s E (locOf str)) :
  wpAny (model pw_rk0009_01 w) (ktrTop dp un gd cn cs L ca ccd cll outer) (call (.ref 387) [.ref a.lx]) Q E s:=escape_I C I N (fun h=>by rw [b] at h;cases h) (fun _=>err)
theorem expect_Y {str:List Cel} {tv:Tok} (b:accB "'" str=true) (C:Cx 50 w p loose mean mg mb dp un cs outer A₀ base h₀ L m s) (I:LexI a chars cl rest st str) (N:News h₀ L s.heap (lexLed a st rest))
  (ret:LexRetI a chars cl rest h₀ L m s Q (accS "'" str) (st.ct++accT "'" str) st.tb .none) :
  wpAny (model pw_rk0009_01 w) (ktrTop dp un gd cn cs L ca ccd cll outer) (call (.ref 272) [.ref a.lx,.str "'" tv]) Q E s:=expect_I C I N (fun _=>ret) (fun h=>by rw [b] at h;cases h)
theorem expect_N {str:List Cel} {tv:Tok} (b:accB "'" str=false) (C:Cx 50 w p loose mean mg mb dp un cs outer A₀ base h₀ L m s) (I:LexI a chars cl rest st str) (N:News h₀ L s.heap (lexLed a st rest))
  (err:ErrRet base (envX cn cs L ca ccd cll) outer rest h₀ L m s E (locOf str)) :
  wpAny (model pw_rk0009_01 w) (ktrTop dp un gd cn cs L ca ccd cll outer) (call (.ref 272) [.ref a.lx,.str "'" tv]) Q E s:=expect_I C I N (fun h=>by rw [b] at h;cases h) (fun _=>err)
end
example:True:=by (k_with "call ref" => (fail_if_success (fail_if_success (have:=gM16)));(k_here;k_dflt (first | (refine' escape_Y ?Y0 ?Y1 ?Y2 ?Y3 ?_;(case Y2=>assumption);(case Y0=>assumption);(case Y1=>exact ⟨by k_asm,by k_asm,by k_asm,by k_asm,by first | exact rfl | assumption,by (dsimp only [ktrTop,Around.deeper];omega),by (dsimp only [ktrTop,Around.deeper];omega)⟩);(case Y3=>k_asm);k_whole;intro Y12 Y13 Y14 Y15 Y16 Y17 Y18 Y19) | (refine' escape_N ?Y0 ?Y1 ?Y2 ?Y3 ?_;(case Y2=>assumption);(case Y0=>assumption);(case Y1=>exact ⟨by k_asm,by k_asm,by k_asm,by k_asm,by first | exact rfl | assumption,by (dsimp only [ktrTop,Around.deeper];omega),by (dsimp only [ktrTop,Around.deeper];omega)⟩);(case Y3=>k_asm);k_whole;intro Y20 Y21 Y22 Y23 Y24 Y13 Y14 Y18 Y25 Y26 Y27 Y28) | (refine' expect_Y ?Y0 ?Y1 ?Y2 ?Y3 ?_;(case Y2=>assumption);(case Y0=>assumption);(case Y1=>exact ⟨by k_asm,by k_asm,by k_asm,by k_asm,by first | exact rfl | assumption,by (dsimp only [ktrTop,Around.deeper];omega),by (dsimp only [ktrTop,Around.deeper];omega)⟩);(case Y3=>k_asm);k_whole;intro Y12 Y13 Y14 Y15 Y16 Y17 Y18 Y19) | (refine' expect_N ?Y0 ?Y1 ?Y2 ?Y3 ?_;(case Y2=>assumption);(case Y0=>assumption);(case Y1=>exact ⟨by k_asm,by k_asm,by k_asm,by k_asm,by first | exact rfl | assumption,by (dsimp only [ktrTop,Around.deeper];omega),by (dsimp only [ktrTop,Around.deeper];omega)⟩);(case Y3=>k_asm);k_whole;intro Y20 Y21 Y22 Y23 Y24 Y13 Y14 Y18 Y25 Y26 Y27 Y28) | (refine' emit_I ?Y1 ?Y2 ?Y3 ?Y4 ?Y5 ?Y6 ?Y7 ?Y8 ?Y0 ?Y9 ?Y10 ?Y11 ?_;(case Y2=>assumption);(case Y1=>exact ⟨by k_asm,by k_asm,by k_asm,by k_asm,by first | exact rfl | assumption,by (dsimp only [ktrTop,Around.deeper];omega),by (dsimp only [ktrTop,Around.deeper];omega)⟩);(case Y3=>k_asm);(case Y5=>assumption);(case Y6=>assumption);(case Y7=>assumption);(case Y4=>first | assumption | (simp only [*,accT_map,escT_map,List.map_append,List.map_cons,List.map_nil,List.append_assoc,List.cons_append,List.nil_append]));(case Y8=>assumption);(case Y0=>first | assumption | (simp only [*]));(case Y9=>assumption);(case Y10=>assumption);(case Y11=>assumption);k_whole;intro Y12 Y13 Y14 Y24 Y29 Y23 Y30 Y31 Y32 Y15 Y33 Y16 Y17 Y18 Y19 Y34))));trivial
section
variable {a:LexA} {chars:List Cel} {cl:Addr} {st:LexS} {rest:List (Addr×Obj)} {Q E:Value->Shared->Prop}
noncomputable abbrev EmitRetV (a:LexA) (chars:List Cel) (cl:Addr) (rest:List (Addr×Obj)) (h₀:Heap) (L:Addr) (m:Str->Option Value) (s:Shared) (Q:Value->Shared->Prop) (str:List Cel) (cs:List Cel) (typ:Str) (lc:Addr) (tb:List Value):Prop :=
 ∀ st' h' tk' g' ps' k v,k.typ=typ->k.val=catS cs->k.lc=lc->LexI a chars cl ((225,tabObj ps')::tokRest k rest) st' str->EmTab emPos ps'->st'.ct=[]->st'.tb=tb++[.ref k.t]->Fr h₀ L h' m ->
  News h₀ L h' (emLed a st' ps' (tokRest k rest))->GKeep s.gens g'->Q v { s with heap:=h',gens:=g',toks:=tk' }
noncomputable def Z29P:FrZ->Prop:=fun V=>∀ (str mc mr:List Cel) (C:Cx 80 V.w V.p V.loose V.mean V.mg V.mb V.dp V.un V.cs V.outer V.A₀ V.base V.h₀ V.L V.m V.s) (I:LexI (V.fa 0) (V.fC 0) (V.fA 0) ((225,tabObj (V.fW 0))::(V.fL 0)) (V.fx 0) str) (N:News V.h₀ V.L V.s.heap (emLed (V.fa 0) (V.fx 0) (V.fW 0) (V.fL 0))) (hct:(V.fx 0).ct=((V.fc 0)::(V.fC 1)).map Cel.ref) (hcs:∀ x∈(V.fc 0)::(V.fC 1),CelIn (V.fL 0) x) (h1:∀ x∈(V.fc 0)::(V.fC 1),x.x.length=1) (hz:((V.fc 0)::(V.fC 1)).length+str.length≤900) (hps:EmTab emPos (V.fW 0)) (hb:(V.fx 0).tb.length≤1000) (hcl:∃ ep,((V.fA 0),listOf ((V.fC 0).map Cel.ref).toArray ep)∈(V.fL 0)) (hc:∀ x∈(V.fC 0),CelIn (V.fL 0) x) (hstr:∀ x∈str,CelIn (V.fL 0) x) (h2:∀ x∈str,x.x.length=1) (ok:lexC str=.ok (mc,mr)) (ret:EmitRetV (V.fa 0) (V.fC 0) (V.fA 0) (V.fL 0) V.h₀ V.L V.m V.s (V.fQ 0) mr ((V.fc 0)::(V.fC 1)++mc) "CHAR" (V.fc 0).lc (V.fx 0).tb),wpAny (model pw_rk0009_01 V.w) (ktrTop V.dp V.un V.gd V.cn V.cs V.L V.ca V.ccd V.cll V.outer) (call (.ref 380) [.ref (V.fa 0).lx]) (V.fQ 0) V.E V.s
@[irreducible] noncomputable def Z29:FrZ:=pickZ Z29P
set_option maxHeartbeats 8000000 in
theorem Z29c:Z29P Z29:=by
 intro str mc mr C I N hct hcs h1 hz hps hb hcl hc hstr h2 ok ret
 obtain ⟨B,F,X,T,hk,hdp,hun⟩:=C
 have D:=I.R.D
 have sub:=lexC_sub ok
 have hcs2:∀ x∈(Z29.fc 0)::((Z29.fC 1)++mc),CelIn (Z29.fL 0) x:=fun x h=>by
  rw [<- List.cons_append] at h
  rcases List.mem_append.mp h with h | h
  ·exact hcs x h
  ·exact hstr x (by rw [<- sub];exact List.mem_append_left _ h)
 have h3:∀ x∈(Z29.fc 0)::((Z29.fC 1)++mc),x.x.length=1:=fun x h=>by
  rw [<- List.cons_append] at h
  rcases List.mem_append.mp h with h | h
  ·exact h1 x h
  ·exact h2 x (by rw [<- sub];exact List.mem_append_left _ h)
 have hz2:((Z29.fc 0)::((Z29.fC 1)++mc)).length≤1000:=by
  rw [<- sub] at hz
  simp only [List.length_cons,List.length_append] at hz ⊢
  omega
 have hmr:∀ x∈mr,CelIn (Z29.fL 0) x:=fun x h=>hstr x (by rw [<- sub];exact List.mem_append_right _ h)
 unfold lexC at ok
 cases hm:lcMid str with
 | error l=>rw [hm] at ok;cases ok
 | ok cr =>
  obtain ⟨c,r⟩:=cr
  rw [hm] at ok
  dsimp only at ok
  cases b3:accB "'" r with
  | false=>rw [b3] at ok;cases ok
  | true =>
   rw [b3,if_pos rfl] at ok
   injection ok with ok
   injection ok with o1 o2
   subst o1 o2
   unfold lcMid at hm
   cases b1:accB "\\" str with
   | true =>
    rw [b1,if_pos rfl] at hm
    cases b2:escOk (accS "\\" str) with
    | false=>rw [b2] at hm;cases hm
    | true =>
     rw [b2,if_pos rfl] at hm
     injection hm with hm
     injection hm with o1 o2
     subst o1 o2
     refine wpAny_call ?_
     k_dflt ktr_enter
     k_steps
     rename News Z29.h₀ Z29.L _ _=>kN
     exact ret _ _ _ _ _ _ _ (by assumption) (by assumption) (by assumption) (by assumption) (by assumption) (by assumption) (by simp only [*]) (by k_asm) (fun q hq=>kN q (.tail _ hq)) (by assumption)
   | false =>
    rw [b1] at hm
    cases str with
    | nil=>cases hm
    | cons x r' =>
     injection hm with hm
     injection hm with o1 o2
     subst o1 o2
     refine wpAny_call ?_
     k_dflt ktr_enter
     k_steps
     rename News Z29.h₀ Z29.L _ _=>kN
     exact ret _ _ _ _ _ _ _ (by assumption) (by assumption) (by assumption) (by assumption) (by assumption) (by assumption) (by simp only [*]) (by k_asm) (fun q hq=>kN q (.tail _ hq)) (by assumption)
theorem lexchar_ok {str mc mr:List Cel} {x0:Cel} {pre:List Cel} {ps:Array Value} (C:Cx 80 w p loose mean mg mb dp un cs outer A₀ base h₀ L m s) (I:LexI a chars cl ((225,tabObj ps)::rest) st str) (N:News h₀ L s.heap (emLed a st ps rest))
  (hct:st.ct=(x0::pre).map Cel.ref) (hcs:∀ x∈x0::pre,CelIn rest x) (h1:∀ x∈x0::pre,x.x.length=1) (hz:(x0::pre).length+str.length≤900) (hps:EmTab emPos ps) (hb:st.tb.length≤1000)
  (hcl:∃ ep,(cl,listOf (chars.map Cel.ref).toArray ep)∈rest) (hc:∀ x∈chars,CelIn rest x) (hstr:∀ x∈str,CelIn rest x) (h2:∀ x∈str,x.x.length=1)
  (ok:lexC str=.ok (mc,mr))
  (ret:EmitRetV a chars cl rest h₀ L m s Q mr (x0::pre++mc) "CHAR" x0.lc st.tb) :
  wpAny (model pw_rk0009_01 w) (ktrTop dp un gd cn cs L ca ccd cll outer) (call (.ref 380) [.ref a.lx]) Q E s:=pickedZ (by with_unfolding_all rfl) Z29c (sfW (sfc (sfQ (sfL (sfx (sfA (sfC (sfa (frC w p loose mean mg mb dp un gd cn cs ca ccd cll outer A₀ base h₀ L m s E) [a]) [chars,pre]) [cl]) [st]) [rest]) [Q]) [x0]) [ps]) str mc mr C I N hct hcs h1 hz hps hb hcl hc hstr h2 ok ret
noncomputable def Z30P:FrZ->Prop:=fun V=>∀ (str:List Cel) (l:Value) (C:Cx 80 V.w V.p V.loose V.mean V.mg V.mb V.dp V.un V.cs V.outer V.A₀ V.base V.h₀ V.L V.m V.s) (I:LexI (V.fa 0) (V.fC 0) (V.fA 0) ((225,tabObj (V.fW 0))::(V.fL 0)) (V.fx 0) str) (N:News V.h₀ V.L V.s.heap (emLed (V.fa 0) (V.fx 0) (V.fW 0) (V.fL 0))) (bad:lexC str=.error l) (ret:ErrRet V.base (envX V.cn V.cs V.L V.ca V.ccd V.cll) V.outer ((225,tabObj (V.fW 0))::(V.fL 0)) V.h₀ V.L V.m V.s V.E l),wpAny (model pw_rk0009_01 V.w) (ktrTop V.dp V.un V.gd V.cn V.cs V.L V.ca V.ccd V.cll V.outer) (call (.ref 380) [.ref (V.fa 0).lx]) (V.fQ 0) V.E V.s
@[irreducible] noncomputable def Z30:FrZ:=pickZ Z30P
set_option maxHeartbeats 8000000 in
theorem Z30c:Z30P Z30:=by
 intro str l C I N bad ret
 obtain ⟨B,F,X,T,hk,hdp,hun⟩:=C
 have D:=I.R.D
 unfold lexC lcMid at bad
 cases b1:accB "\\" str with
 | true =>
  rw [b1,if_pos rfl] at bad
  cases b2:escOk (accS "\\" str) with
  | false =>
   rw [b2] at bad
   injection bad with bad
   subst bad
   refine wpAny_call ?_
   k_dflt ktr_enter
   k_steps
   all_goals exact ret _ _ _ _ _ _ _ (by assumption) (by assumption) (by assumption) (by assumption) (by assumption)
  | true =>
   rw [b2,if_pos rfl] at bad
   dsimp only at bad
   cases b3:accB "'" (escS (accS "\\" str)) with
   | true=>rw [b3] at bad;cases bad
   | false =>
    rw [b3] at bad
    injection bad with bad
    subst bad
    refine wpAny_call ?_
    k_dflt ktr_enter
    k_steps
    all_goals exact ret _ _ _ _ _ _ _ (by assumption) (by assumption) (by assumption) (by assumption) (by assumption)
 | false =>
  rw [b1] at bad
  cases str with
  | nil =>
   injection bad with bad
   subst bad
   refine wpAny_call ?_
   k_dflt ktr_enter
   k_steps
   all_goals exact ret _ _ _ _ _ _ _ (by assumption) (by assumption) (by assumption) (by assumption) (by assumption)
  | cons x r' =>
   replace bad:(if accB "'" r'=true then (Except.ok ([x]++accC "'" r',accS "'" r'):Except Value (List Cel×List Cel)) else .error (locOf r'))=.error l:=bad
   cases b3:accB "'" r' with
   | true=>rw [b3] at bad;cases bad
   | false =>
    rw [b3] at bad
    injection bad with bad
    subst bad
    refine wpAny_call ?_
    k_dflt ktr_enter
    k_steps
    all_goals exact ret _ _ _ _ _ _ _ (by assumption) (by assumption) (by assumption) (by assumption) (by assumption)
theorem lexchar_err {str:List Cel} {l:Value} {ps:Array Value} (C:Cx 80 w p loose mean mg mb dp un cs outer A₀ base h₀ L m s) (I:LexI a chars cl ((225,tabObj ps)::rest) st str) (N:News h₀ L s.heap (emLed a st ps rest))
  (bad:lexC str=.error l)
  (ret:ErrRet base (envX cn cs L ca ccd cll) outer ((225,tabObj ps)::rest) h₀ L m s E l) :
  wpAny (model pw_rk0009_01 w) (ktrTop dp un gd cn cs L ca ccd cll outer) (call (.ref 380) [.ref a.lx]) Q E s:=pickedZ (by with_unfolding_all rfl) Z30c (sfW (sfQ (sfL (sfx (sfA (sfC (sfa (frC w p loose mean mg mb dp un gd cn cs ca ccd cll outer A₀ base h₀ L m s E) [a]) [chars]) [cl]) [st]) [rest]) [Q]) [ps]) str l C I N bad ret
end
end
theorem NgB17.gB17:True:=trivial
example:True:=by w_top off;trivial
section
open NgM01 NgM01b NgM02 NgM03 NgM09 NgM10 NgM11 NgM12 NgM15 NgM16 NgB17
theorem opt_pick {h₀ h:Heap} {L:Addr} {a b c d e f:Addr×Obj} {news:List (Addr×Obj)} (N:News h₀ L h (a::b::c::d::e::f::news)):News h₀ L h (e::news):=fc (N _ (.tail _ (.tail _ (.tail _ (.tail _ (.head _)))))) (fun q hq=>N q (.tail _ (.tail _ (.tail _ (.tail _ (.tail _ (.tail _ hq)))))))
noncomputable abbrev preDict (a:LexA):List DictEntry:=[⟨a.h1,.str "token_buffer" a.t1,.ref a.tb⟩,⟨a.h2,.str "pushed_back" a.t2,.ref a.pb⟩,⟨a.h3,.str "current_text" a.t3,.ref a.ct⟩,⟨a.h4,.str "coptions" a.t4,.ref a.co⟩]
noncomputable abbrev preLed (a:LexA) (tn pn cn:Nat) (news:List (Addr×Obj)):List (Addr×Obj):=(a.lx,instObj 390 a.dx)::(a.dx,dictOf (preDict a) 4)::(a.tb,listOf #[] tn)::(a.pb,listOf #[] pn)::(a.ct,listOf #[] cn)::news
noncomputable def PreD (a:LexA) (news:List (Addr×Obj)):Prop:=(∀ q∈news,q.1<a.dx)/\a.dx<a.lx/\a.lx<a.tb/\a.tb<a.pb/\a.pb<a.ct
example:True:=by (k_with "ks_enter" => (fail_if_success (fail_if_success (have:=gB17)));(refine' ks_code_super ?Y0 ?Y1 ?Y2 ?Y3 ?Y4 ?Y5 ?Y6 ?Y7 ?Y8 ?Y9 ?Y10 ?Y11 ?Y12 ?_ ?Y13 ?Y14 ?Y15 ?Y16;(case Y5=>exact rfl);(case Y6=>exact rfl);(case Y7=>first | exact rfl | assumption);(case Y0=>k_asm);(case Y1=>k_asm);(case Y2=>k_asm);(case Y3=>k_asm);(case Y4=>k_asm);(case Y8=>k_is);(case Y9=>k_is);(case Y10=>k_room);(case Y11=>first | exact BindsTo.of_eq (binds:=[]) rfl | exact BindsTo.of_eq (binds:=[(_,_)]) rfl | exact BindsTo.of_eq (binds:=[(_,_),(_,_)]) rfl | exact BindsTo.of_eq rfl);(case Y12=>exact locs rfl);(case Y13=>decide);(case Y14=>exact rfl);(case Y15=>exact rfl);(case Y16=>exact rfl);intro Y17 Y18 Y19 Y20 Y21 Y22 Y23 Y24 Y25 Y26;(try k_lt Y26);(try dsimp only)));trivial
section
variable {news:List (Addr×Obj)} {Q E:Value->Shared->Prop}
noncomputable def Z38P:FrZ->Prop:=fun V=>∀ (C:Cx 30 V.w V.p V.loose V.mean V.mg V.mb V.dp V.un V.cs V.outer V.A₀ V.base V.h₀ V.L V.m V.s) (N:News V.h₀ V.L V.s.heap (V.fL 0)) (ret:∀ x dx h' tk',Fr V.h₀ V.L h' V.m->News V.h₀ V.L h' ((x,instObj 458 dx)::(V.fL 0))->(V.fQ 0) (.ref x) { V.s with heap:=h',toks:=tk' }),wpAny (model pw_rk0009_01 V.w) (ktrTop V.dp V.un V.gd V.cn V.cs V.L V.ca V.ccd V.cll V.outer) (call (.ref 458) []) (V.fQ 0) V.E V.s
@[irreducible] noncomputable def Z38:FrZ:=pickZ Z38P
set_option maxHeartbeats 8000000 in
theorem Z38c:Z38P Z38:=by
 intro C N ret
 obtain ⟨B,F,X,T,hk,hdp,hun⟩:=C
 k_steps
 rename News Z38.h₀ Z38.L _ _=>kN
 exact ret _ _ _ _ (by k_asm) (opt_pick kN)
theorem mk_opts (C:Cx 30 w p loose mean mg mb dp un cs outer A₀ base h₀ L m s) (N:News h₀ L s.heap news)
  (ret:∀ x dx h' tk',Fr h₀ L h' m->News h₀ L h' ((x,instObj 458 dx)::news)->Q (.ref x) { s with heap:=h',toks:=tk' }) :
  wpAny (model pw_rk0009_01 w) (ktrTop dp un gd cn cs L ca ccd cll outer) (call (.ref 458) []) Q E s:=pickedZ (by with_unfolding_all rfl) Z38c (sfQ (sfL (frC w p loose mean mg mb dp un gd cn cs ca ccd cll outer A₀ base h₀ L m s E) [news]) [Q]) C N ret
theorem pre_fin {h:Heap} {lx dx tb pb ct co:Addr} {h1 h2 h3 h4:Int} {t1 t2 t3 t4:Tok} {tn pn cn tk:Nat} {x y cc:Addr×Obj}
  (N:News h₀ L h ((ct,listOf #[] cn)::(pb,listOf #[] pn)::(tb,listOf #[] tn)::x::y::(lx,instObj 390 dx)::(dx,dictOf [⟨h1,.str "token_buffer" t1,.ref tb⟩,⟨h2,.str "pushed_back" t2,.ref pb⟩,⟨h3,.str "current_text" t3,.ref ct⟩,⟨h4,.str "coptions" t4,.ref co⟩] 4)::cc::news))
  (F:Fr h₀ L h m) (f1:∀ q∈news,q.1<dx) (f2:dx<lx) (f3:lx<tb) (f4:tb<pb) (f5:pb<ct)
  (ret:∀ a tn pn cn h' tk',a.co=co->Fr h₀ L h' m->News h₀ L h' (preLed a tn pn cn news)->PreD a news->Q (.ref a.lx) { s with heap:=h',toks:=tk' }):Q (.ref lx) { s with heap:=h,toks:=tk }:=by
 refine ret ⟨lx,dx,tb,pb,ct,co,0,h1,h2,h3,h4,0,t1,t2,t3,t4,0,0⟩ tn pn cn h tk rfl F ?_ ⟨f1,f2,f3,f4,f5⟩
 exact List.forall_mem_cons.mpr ⟨N _ (.tail _ (.tail _ (.tail _ (.tail _ (.tail _ (.head _)))))),List.forall_mem_cons.mpr ⟨N _ (.tail _ (.tail _ (.tail _ (.tail _ (.tail _ (.tail _ (.head _))))))),List.forall_mem_cons.mpr ⟨N _ (.tail _ (.tail _ (.head _))),List.forall_mem_cons.mpr ⟨N _ (.tail _ (.head _)),List.forall_mem_cons.mpr ⟨N _ (.head _),fun q hq=>N q (.tail _ (.tail _ (.tail _ (.tail _ (.tail _ (.tail _ (.tail _ (.tail _ hq))))))))⟩⟩⟩⟩⟩
noncomputable def Z37P:FrZ->Prop:=fun V=>(fun (cn:Str)=>(∀ (C:Cx 30 V.w V.p V.loose V.mean V.mg V.mb V.dp V.un V.cs V.outer V.A₀ V.base V.h₀ V.L V.m V.s) (N:News V.h₀ V.L V.s.heap (((V.fA 0),instObj 458 (V.fA 1))::(V.fL 0))) (ret:∀ a tn pn cn h' tk',a.co=(V.fA 0)->Fr V.h₀ V.L h' V.m->News V.h₀ V.L h' (preLed a tn pn cn (V.fL 0))->PreD a (V.fL 0)->(V.fQ 0) (.ref a.lx) { V.s with heap:=h',toks:=tk' }),wpAny (model pw_rk0009_01 V.w) (ktrTop V.dp V.un V.gd cn V.cs V.L V.ca V.ccd V.cll V.outer) (call (.ref 390) [.ref (V.fA 0)]) (V.fQ 0) V.E V.s:Prop)) V.cn
@[irreducible] noncomputable def Z37:FrZ:=pickZ Z37P
set_option maxHeartbeats 8000000 in
theorem Z37c:Z37P Z37:=by
 intro C N ret
 obtain ⟨B,F,X,T,hk,hdp,hun⟩:=C
 k_steps
 rename News Z37.h₀ Z37.L _ _=>kN
 exact pre_fin kN (by k_asm) (by assumption) (by assumption) (by assumption) (by assumption) (by assumption) ret
theorem mk_lex {co cd:Addr} (C:Cx 30 w p loose mean mg mb dp un cs outer A₀ base h₀ L m s) (N:News h₀ L s.heap ((co,instObj 458 cd)::news))
  (ret:∀ a tn pn cn h' tk',a.co=co->Fr h₀ L h' m->News h₀ L h' (preLed a tn pn cn news)->PreD a news->Q (.ref a.lx) { s with heap:=h',toks:=tk' }) :
  wpAny (model pw_rk0009_01 w) (ktrTop dp un gd cn cs L ca ccd cll outer) (call (.ref 390) [.ref co]) Q E s:=pickedZ (by with_unfolding_all rfl) Z37c (sfA (sfQ (sfL (frC w p loose mean mg mb dp un gd cn cs ca ccd cll outer A₀ base h₀ L m s E) [news]) [Q]) [co,cd]) C N ret
end
end
theorem NgM18.gM18:True:=trivial
example:True:=by w_top off;trivial
section
open NgM01 NgM01b NgM02 NgM03 NgM09 NgM10 NgM11 NgM12 NgM15 NgM16 NgM18
example:True:=by (k_with "M18" => (fail_if_success (fail_if_success (have:=gM18))));(k_with "kn_enter" => k_extra "M18";(refine' code_nest ?Y0 ?Y1 ?Y2 ?Y3 ?Y4 ?Y5 ?Y6 ?Y7 ?Y8 ?Y9 ?Y10 ?Y11 ?Y12 ?_ ?Y13 ?Y14 ?Y15 ?Y16;(case Y5=>exact rfl);(case Y6=>exact rfl);(case Y7=>first | exact rfl | assumption);(case Y0=>k_asm);(case Y1=>k_asm);(case Y2=>k_asm);(case Y3=>k_asm);(case Y4=>k_asm);(case Y8=>k_mem);(case Y9=>exact codeRec_news (by k_asm) (by k_mem) (by assumption) (by assumption));(case Y10=>k_room);(case Y11=>first | exact BindsTo.of_eq (binds:=[]) rfl | exact BindsTo.of_eq (binds:=[(_,_)]) rfl | exact BindsTo.of_eq (binds:=[(_,_),(_,_)]) rfl | exact BindsTo.of_eq rfl);(case Y16=>decide);(case Y12=>exact locs rfl);(case Y13=>exact rfl);(case Y14=>exact rfl);(case Y15=>exact rfl);k_whole;intro Y17 Y18 Y19 Y20 Y21 Y22 Y23 Y24 Y25;(try dsimp only);(try k_fold)));(k_with "call ref" => k_extra "M18";(k_here;k_dflt (first | (refine' lexchar_ok ?Y0 ?Y1 ?Y2 ?Y3 ?Y4 ?Y5 ?Y6 ?Y7 ?Y8 ?Y9 ?Y10 ?Y11 ?Y12 ?Y13 ?_;(case Y13=>assumption);(case Y1=>assumption);(case Y0=>exact ⟨by k_asm,by k_asm,by k_asm,by k_asm,by first | exact rfl | assumption,by (dsimp only [ktrTop,Around.deeper];omega),by (dsimp only [ktrTop,Around.deeper];omega)⟩);(case Y2=>k_asm);(case Y4=>assumption);(case Y5=>assumption);(case Y6=>assumption);(case Y3=>(simp only [*,accT_map,List.map_append,List.map_cons,List.map_nil,List.append_assoc,List.cons_append,List.nil_append]));(case Y7=>assumption);(case Y8=>first | assumption | (simp only [*]));(case Y9=>assumption);(case Y10=>assumption);(case Y11=>assumption);(case Y12=>assumption);k_whole;intro Y15 Y16 Y17 Y18 Y19 Y20 Y21 Y22 Y23 Y24 Y25 Y26 Y27 Y28 Y29 Y30 Y31) | (refine' lexchar_err ?Y0 ?Y1 ?Y2 ?Y14 ?_;(case Y14=>assumption);(case Y1=>assumption);(case Y0=>exact ⟨by k_asm,by k_asm,by k_asm,by k_asm,by first | exact rfl | assumption,by (dsimp only [ktrTop,Around.deeper];omega),by (dsimp only [ktrTop,Around.deeper];omega)⟩);(case Y2=>k_asm);k_whole;intro Y32 Y33 Y34 Y20 Y18 Y16 Y17 Y29 Y35 Y36 Y37 Y38))));trivial
noncomputable def defAt (l:List Stmt) (n:Nat):Option (Arguments×List Stmt×Scope):=l[n]?.bind sdf
noncomputable abbrev EmitRetF (a:LexA) (chars:List Cel) (cl:Addr) (rest:List (Addr×Obj)) (h₀:Heap) (L:Addr) (m:Str->Option Value) (s:Shared) (Q:Value->Shared->Prop) (str:List Cel) (cs:List Cel) (typ:Str) (lc:Addr) (tb:List Value) (v:Value):Prop :=
 ∀ st' h' tk' g' ps' k,k.typ=typ->k.val=catS cs->k.lc=lc->LexI a chars cl ((225,tabObj ps')::tokRest k rest) st' str->EmTab emPos ps'->st'.ct=[]->st'.tb=tb++[.ref k.t]->Fr h₀ L h' m ->
  News h₀ L h' (emLed a st' ps' (tokRest k rest))->GKeep s.gens g'->Q v { s with heap:=h',gens:=g',toks:=tk' }
theorem fn_body {K:Frag} {f:Addr} {oc oc2:Value} {od od2:Option Addr} {osl osl2:Array (Option Value)} {nm ql nm2 ql2:Str} {pr pr2:Arguments} {b b2:List Stmt} {sc sc2:Scope} {dV kV doc pm cdv ct dV2 kV2 doc2 pm2 cdv2 ct2:Value} {an an2:Option Addr}
  (h:K.lookup f=some ⟨oc,od,.func (fnOf nm ql pr b sc dV kV doc pm an cdv ct),osl⟩) (h2:K.lookup f=some ⟨oc2,od2,.func (fnOf nm2 ql2 pr2 b2 sc2 dV2 kV2 doc2 pm2 an2 cdv2 ct2),osl2⟩):b=b2:=by
 rw [h] at h2
 injection h2 with h2
 injection h2 with _ _ h2
 injection h2 with h2
 injection h2 with _ _ _ h2
 injection h2
inductive RunDef (w:World) (n:Nat) (pr:Arguments) (b:List Stmt) (sc:Scope):Prop
 | mk (oc:Value) (od:Option Addr) (nm ql:Str) (pr0:Arguments) (b0:List Stmt) (sc0:Scope) (dV kV doc pm:Value) (an:Option Addr) (cdv ct:Value) (osl:Array (Option Value)) (h:(hd.heap_1 w.params).lookup 551=some ⟨oc,od,.func (fnOf nm ql pr0 b0 sc0 dV kV doc pm an cdv ct),osl⟩) (h2:defAt b0 n=some (pr,b,sc))
section
variable {a:LexA} {chars:List Cel} {cl:Addr} {st:LexS} {rest:List (Addr×Obj)} {Q E:Value->Shared->Prop} {fe fs c' cE cL cS:Addr} {oE oL oS oc:Obj} {vs:Array Value} {nm qual:Str} {pr:Arguments} {b:List Stmt} {sc:Scope} {doc pm ctv:Value} {tq:Tok}
structure StartIn (w:World) (a:LexA) (rest:List (Addr×Obj)) (fe fs:Addr) (c' cE cL cS:Addr) (oE oL oS oc:Obj) (vs:Array Value) (nm qual:Str) (pr:Arguments) (b:List Stmt) (sc:Scope) (doc pm ctv:Value) (tq:Tok):Prop where
 txt:RunDef w 3 pr b sc
 fn:(fs,fnMade nm qual pr b sc [("start",cS),("lexer",cL),("ended",cE)] doc pm c' ctv)∈rest
 cd:(c',oc)∈rest/\oc.data=.fields vs/\vs[1]?=some (.str qual tq)
 e:(cE,oE)∈rest/\oE.data=.cell (some (.ref fe))
 l:(cL,oL)∈rest/\oL.data=.cell (some (.ref a.lx))
 s:(cS,oS)∈rest/\oS.data=.cell (some (.ref fs))
noncomputable def isQ (v:Str):Bool:=v == "'" || inS "L$" v
noncomputable def turn (s:List Cel):Option (Except Value (Str×List Cel×List Cel)) :=
 match s with
 | []=>none
 | x::r =>
  if x.x == "'" then (match lexC r with | .error l=>some (.error l) | .ok (c,mr)=>some (.ok ("CHAR",x::c,mr)))
  else if inS "L$" x.x&&accB "'" r then (match lexC (accS "'" r) with | .error l=>some (.error l) | .ok (c,mr)=>some (.ok ("CHAR",x::(accC "'" r++c),mr)))
  else some (.ok ("ONE",[x],r))
noncomputable def Z67P:FrZ->Prop:=fun V=>∀ (a:LexA) (chars:List Cel) (cl:Addr) (st:LexS) (rest:List (Addr×Obj)) (Q:Value->Shared->Prop) (fe:Addr) (fs:Addr) (c':Addr) (cE:Addr) (cL:Addr) (cS:Addr) (oE:Obj) (oL:Obj) (oS:Obj) (oc:Obj) (vs:Array Value) (nm:Str) (qual:Str) (pr:Arguments) (b:List Stmt) (sc:Scope) (doc:Value) (pm:Value) (ctv:Value) (tq:Tok) (ps:Array Value) (C:Cx 120 V.w V.p V.loose V.mean V.mg V.mb V.dp V.un V.cs V.outer V.A₀ V.base V.h₀ V.L V.m V.s) (_C1:CodeHd V.h₀ 550 548) (Z:StartIn V.w a rest fe fs c' cE cL cS oE oL oS oc vs nm qual pr b sc doc pm ctv tq) (I:LexI a chars cl ((225,tabObj ps)::rest) st []) (N:News V.h₀ V.L V.s.heap (emLed a st ps rest)) (ret:LexRetI a chars cl ((225,tabObj ps)::rest) V.h₀ V.L V.m V.s Q [] st.ct st.tb (.ref fe)),wpAny (model pw_rk0009_01 V.w) (ktrTop V.dp V.un V.gd V.cn V.cs V.L V.ca V.ccd V.cll V.outer) (call (.ref fs) []) Q V.E V.s
@[irreducible] noncomputable def Z67:FrZ:=pickZ Z67P
set_option maxHeartbeats 8000000 in
theorem Z67c:Z67P Z67:=by
 intro a chars cl st rest Q fe fs c' cE cL cS oE oL oS oc vs nm qual pr b sc doc pm ctv tq ps C _C1 Z I N ret
 obtain ⟨B,F,X,T,hk,hdp,hun⟩:=C
 have D:=I.R.D
 obtain ⟨⟨_,_,_,_,_,b0,_,_,_,_,_,_,_,_,_,ho,hd⟩,zf,⟨zc1,zc2,zc3⟩,⟨ze1,ze2⟩,⟨zl1,zl2⟩,zs1,zs2⟩:=Z
 have e:b0=_:=fn_body ho (by k_is)
 subst e
 have e2:(pr,b,sc)=_:=Option.some.inj (hd.symm.trans (rfl:defAt _ 3=some _))
 injection e2 with e3 e4
 injection e4 with e4 e5
 subst e3 e4 e5
 clear hd ho
 refine wpAny_call ?_
 k_dflt kn_enter
 k_steps
 all_goals exact ret _ _ _ (by assumption) (by assumption) (by assumption) (by k_asm) (by k_asm)
theorem start_nil {ps:Array Value} (C:Cx 120 w p loose mean mg mb dp un cs outer A₀ base h₀ L m s) (_C1:CodeHd h₀ 550 548) (Z:StartIn w a rest fe fs c' cE cL cS oE oL oS oc vs nm qual pr b sc doc pm ctv tq) (I:LexI a chars cl ((225,tabObj ps)::rest) st []) (N:News h₀ L s.heap (emLed a st ps rest))
  (ret:LexRetI a chars cl ((225,tabObj ps)::rest) h₀ L m s Q [] st.ct st.tb (.ref fe)) :
  wpAny (model pw_rk0009_01 w) (ktrTop dp un gd cn cs L ca ccd cll outer) (call (.ref fs) []) Q E s:=pickedZ (by with_unfolding_all rfl) Z67c (frC w p loose mean mg mb dp un gd cn cs ca ccd cll outer A₀ base h₀ L m s E) a chars cl st rest Q fe fs c' cE cL cS oE oL oS oc vs nm qual pr b sc doc pm ctv tq ps C _C1 Z I N ret
noncomputable def Z68P:FrZ->Prop:=fun V=>∀ (a:LexA) (chars:List Cel) (cl:Addr) (st:LexS) (rest:List (Addr×Obj)) (Q:Value->Shared->Prop) (fe:Addr) (fs:Addr) (c':Addr) (cE:Addr) (cL:Addr) (cS:Addr) (oE:Obj) (oL:Obj) (oS:Obj) (oc:Obj) (vs:Array Value) (nm:Str) (qual:Str) (pr:Arguments) (b:List Stmt) (sc:Scope) (doc:Value) (pm:Value) (ctv:Value) (tq:Tok) (x:Cel) (r c mr:List Cel) (ps:Array Value) (C:Cx 120 V.w V.p V.loose V.mean V.mg V.mb V.dp V.un V.cs V.outer V.A₀ V.base V.h₀ V.L V.m V.s) (_C1:CodeHd V.h₀ 550 548) (Z:StartIn V.w a rest fe fs c' cE cL cS oE oL oS oc vs nm qual pr b sc doc pm ctv tq) (I:LexI a chars cl ((225,tabObj ps)::rest) st (x::r)) (N:News V.h₀ V.L V.s.heap (emLed a st ps rest)) (hct:st.ct=[]) (hps:EmTab emPos ps) (hb:st.tb.length≤1000) (hcl:∃ ep,(cl,listOf (chars.map Cel.ref).toArray ep)∈rest) (hc:∀ x∈chars,CelIn rest x) (hstr:∀ y∈x::r,CelIn rest y) (h2:∀ y∈x::r,y.x.length=1) (hz:(x::r).length≤900) (hq:(x.x==("'" : Str))=true) (ok:lexC r=.ok (c,mr)) (ret:EmitRetF a chars cl rest V.h₀ V.L V.m V.s Q mr (x::c) "CHAR" x.lc st.tb (.ref fs)),wpAny (model pw_rk0009_01 V.w) (ktrTop V.dp V.un V.gd V.cn V.cs V.L V.ca V.ccd V.cll V.outer) (call (.ref fs) []) Q V.E V.s
@[irreducible] noncomputable def Z68:FrZ:=pickZ Z68P
set_option maxHeartbeats 8000000 in
theorem Z68c:Z68P Z68:=by
 intro a chars cl st rest Q fe fs c' cE cL cS oE oL oS oc vs nm qual pr b sc doc pm ctv tq x r c mr ps C _C1 Z I N hct hps hb hcl hc hstr h2 hz hq ok ret
 obtain ⟨B,F,X,T,hk,hdp,hun⟩:=C
 have D:=I.R.D
 obtain ⟨⟨_,_,_,_,_,b0,_,_,_,_,_,_,_,_,_,ho,hd⟩,zf,⟨zc1,zc2,zc3⟩,⟨ze1,ze2⟩,⟨zl1,zl2⟩,zs1,zs2⟩:=Z
 have e:b0=_:=fn_body ho (by k_is)
 subst e
 have e2:(pr,b,sc)=_:=Option.some.inj (hd.symm.trans (rfl:defAt _ 3=some _))
 injection e2 with e3 e4
 injection e4 with e4 e5
 subst e3 e4 e5
 clear hd ho
 refine e0a4 (hstr x (.head _)) fun hx1 hx2 hx3 hx4=>?_
 have q1:∀ y∈x::([] : List Cel),CelIn rest y:=fun y hy=>hstr y (by rw [List.mem_singleton.mp hy];exact .head _)
 have q2:∀ y∈x::([] : List Cel),y.x.length=1:=fun y hy=>h2 y (by rw [List.mem_singleton.mp hy];exact .head _)
 have q3:(x::([] : List Cel)).length+r.length≤900:=by simp only [List.length_cons,List.length_nil] at hz ⊢;omega
 have q4:∀ y∈r,CelIn rest y:=fun y hy=>hstr y (.tail _ hy)
 have q5:∀ y∈r,y.x.length=1:=fun y hy=>h2 y (.tail _ hy)
 refine wpAny_call ?_
 k_dflt kn_enter
 k_steps
 rename News Z68.h₀ Z68.L _ _=>kN
 exact ret _ _ _ _ _ _ (by assumption) (by assumption) (by assumption) (by assumption) (by assumption) (by assumption) (by simp only [*]) (by k_asm) (fun q hq=>kN q hq) (by assumption)
theorem start_quote {x:Cel} {r c mr:List Cel} {ps:Array Value} (C:Cx 120 w p loose mean mg mb dp un cs outer A₀ base h₀ L m s) (_C1:CodeHd h₀ 550 548) (Z:StartIn w a rest fe fs c' cE cL cS oE oL oS oc vs nm qual pr b sc doc pm ctv tq) (I:LexI a chars cl ((225,tabObj ps)::rest) st (x::r)) (N:News h₀ L s.heap (emLed a st ps rest))
  (hct:st.ct=[]) (hps:EmTab emPos ps) (hb:st.tb.length≤1000)
  (hcl:∃ ep,(cl,listOf (chars.map Cel.ref).toArray ep)∈rest) (hc:∀ x∈chars,CelIn rest x) (hstr:∀ y∈x::r,CelIn rest y) (h2:∀ y∈x::r,y.x.length=1) (hz:(x::r).length≤900)
  (hq:(x.x==("'" : Str))=true) (ok:lexC r=.ok (c,mr))
  (ret:EmitRetF a chars cl rest h₀ L m s Q mr (x::c) "CHAR" x.lc st.tb (.ref fs)) :
  wpAny (model pw_rk0009_01 w) (ktrTop dp un gd cn cs L ca ccd cll outer) (call (.ref fs) []) Q E s:=pickedZ (by with_unfolding_all rfl) Z68c (frC w p loose mean mg mb dp un gd cn cs ca ccd cll outer A₀ base h₀ L m s E) a chars cl st rest Q fe fs c' cE cL cS oE oL oS oc vs nm qual pr b sc doc pm ctv tq x r c mr ps C _C1 Z I N hct hps hb hcl hc hstr h2 hz hq ok ret
noncomputable def Z69P:FrZ->Prop:=fun V=>∀ (a:LexA) (chars:List Cel) (cl:Addr) (st:LexS) (rest:List (Addr×Obj)) (Q:Value->Shared->Prop) (fe:Addr) (fs:Addr) (c':Addr) (cE:Addr) (cL:Addr) (cS:Addr) (oE:Obj) (oL:Obj) (oS:Obj) (oc:Obj) (vs:Array Value) (nm:Str) (qual:Str) (pr:Arguments) (b:List Stmt) (sc:Scope) (doc:Value) (pm:Value) (ctv:Value) (tq:Tok) (x:Cel) (r:List Cel) (l:Value) (ps:Array Value) (C:Cx 120 V.w V.p V.loose V.mean V.mg V.mb V.dp V.un V.cs V.outer V.A₀ V.base V.h₀ V.L V.m V.s) (_C1:CodeHd V.h₀ 550 548) (Z:StartIn V.w a rest fe fs c' cE cL cS oE oL oS oc vs nm qual pr b sc doc pm ctv tq) (I:LexI a chars cl ((225,tabObj ps)::rest) st (x::r)) (N:News V.h₀ V.L V.s.heap (emLed a st ps rest)) (hct:st.ct=[]) (hps:EmTab emPos ps) (hb:st.tb.length≤1000) (hcl:∃ ep,(cl,listOf (chars.map Cel.ref).toArray ep)∈rest) (hc:∀ x∈chars,CelIn rest x) (hstr:∀ y∈x::r,CelIn rest y) (h2:∀ y∈x::r,y.x.length=1) (hz:(x::r).length≤900) (hq:(x.x==("'" : Str))=true) (bad:lexC r=.error l) (ret:ErrRet V.base (envX V.cn V.cs V.L V.ca V.ccd V.cll) V.outer ((225,tabObj ps)::rest) V.h₀ V.L V.m V.s V.E l),wpAny (model pw_rk0009_01 V.w) (ktrTop V.dp V.un V.gd V.cn V.cs V.L V.ca V.ccd V.cll V.outer) (call (.ref fs) []) Q V.E V.s
@[irreducible] noncomputable def Z69:FrZ:=pickZ Z69P
set_option maxHeartbeats 8000000 in
theorem Z69c:Z69P Z69:=by
 intro a chars cl st rest Q fe fs c' cE cL cS oE oL oS oc vs nm qual pr b sc doc pm ctv tq x r l ps C _C1 Z I N hct hps hb hcl hc hstr h2 hz hq bad ret
 obtain ⟨B,F,X,T,hk,hdp,hun⟩:=C
 have D:=I.R.D
 obtain ⟨⟨_,_,_,_,_,b0,_,_,_,_,_,_,_,_,_,ho,hd⟩,zf,⟨zc1,zc2,zc3⟩,⟨ze1,ze2⟩,⟨zl1,zl2⟩,zs1,zs2⟩:=Z
 have e:b0=_:=fn_body ho (by k_is)
 subst e
 have e2:(pr,b,sc)=_:=Option.some.inj (hd.symm.trans (rfl:defAt _ 3=some _))
 injection e2 with e3 e4
 injection e4 with e4 e5
 subst e3 e4 e5
 clear hd ho
 refine e0a4 (hstr x (.head _)) fun hx1 hx2 hx3 hx4=>?_
 have q1:∀ y∈x::([] : List Cel),CelIn rest y:=fun y hy=>hstr y (by rw [List.mem_singleton.mp hy];exact .head _)
 have q2:∀ y∈x::([] : List Cel),y.x.length=1:=fun y hy=>h2 y (by rw [List.mem_singleton.mp hy];exact .head _)
 have q3:(x::([] : List Cel)).length+r.length≤900:=by simp only [List.length_cons,List.length_nil] at hz ⊢;omega
 have q4:∀ y∈r,CelIn rest y:=fun y hy=>hstr y (.tail _ hy)
 have q5:∀ y∈r,y.x.length=1:=fun y hy=>h2 y (.tail _ hy)
 refine wpAny_call ?_
 k_dflt kn_enter
 k_steps
 all_goals exact ret _ _ _ _ _ _ _ (by assumption) (by assumption) (by assumption) (by assumption) (by assumption)
theorem start_quote_err {x:Cel} {r:List Cel} {l:Value} {ps:Array Value} (C:Cx 120 w p loose mean mg mb dp un cs outer A₀ base h₀ L m s) (_C1:CodeHd h₀ 550 548) (Z:StartIn w a rest fe fs c' cE cL cS oE oL oS oc vs nm qual pr b sc doc pm ctv tq) (I:LexI a chars cl ((225,tabObj ps)::rest) st (x::r)) (N:News h₀ L s.heap (emLed a st ps rest))
  (hct:st.ct=[]) (hps:EmTab emPos ps) (hb:st.tb.length≤1000)
  (hcl:∃ ep,(cl,listOf (chars.map Cel.ref).toArray ep)∈rest) (hc:∀ x∈chars,CelIn rest x) (hstr:∀ y∈x::r,CelIn rest y) (h2:∀ y∈x::r,y.x.length=1) (hz:(x::r).length≤900)
  (hq:(x.x==("'" : Str))=true) (bad:lexC r=.error l)
  (ret:ErrRet base (envX cn cs L ca ccd cll) outer ((225,tabObj ps)::rest) h₀ L m s E l) :
  wpAny (model pw_rk0009_01 w) (ktrTop dp un gd cn cs L ca ccd cll outer) (call (.ref fs) []) Q E s:=pickedZ (by with_unfolding_all rfl) Z69c (frC w p loose mean mg mb dp un gd cn cs ca ccd cll outer A₀ base h₀ L m s E) a chars cl st rest Q fe fs c' cE cL cS oE oL oS oc vs nm qual pr b sc doc pm ctv tq x r l ps C _C1 Z I N hct hps hb hcl hc hstr h2 hz hq bad ret
end
end
example:True:=by w_top off;trivial
section
open NgM01 NgM01b NgM02 NgM03 NgM09 NgM10 NgM11 NgM12 NgM15 NgM16 NgM18
section
variable {a:LexA} {chars:List Cel} {cl:Addr} {st:LexS} {rest:List (Addr×Obj)} {Q E:Value->Shared->Prop} {fe fs c' cE cL cS:Addr} {oE oL oS oc:Obj} {vs:Array Value} {nm qual:Str} {pr:Arguments} {b:List Stmt} {sc:Scope} {doc pm ctv:Value} {tq:Tok}
noncomputable def Z58P:FrZ->Prop:=fun V=>∀ (a:LexA) (chars:List Cel) (cl:Addr) (st:LexS) (rest:List (Addr×Obj)) (Q:Value->Shared->Prop) (fe:Addr) (fs:Addr) (c':Addr) (cE:Addr) (cL:Addr) (cS:Addr) (oE:Obj) (oL:Obj) (oS:Obj) (oc:Obj) (vs:Array Value) (nm:Str) (qual:Str) (pr:Arguments) (b:List Stmt) (sc:Scope) (doc:Value) (pm:Value) (ctv:Value) (tq:Tok) (x:Cel) (r c mr:List Cel) (ps:Array Value) (C:Cx 120 V.w V.p V.loose V.mean V.mg V.mb V.dp V.un V.cs V.outer V.A₀ V.base V.h₀ V.L V.m V.s) (_C1:CodeHd V.h₀ 550 548) (Z:StartIn V.w a rest fe fs c' cE cL cS oE oL oS oc vs nm qual pr b sc doc pm ctv tq) (I:LexI a chars cl ((225,tabObj ps)::rest) st (x::r)) (N:News V.h₀ V.L V.s.heap (emLed a st ps rest)) (hct:st.ct=[]) (hps:EmTab emPos ps) (hb:st.tb.length≤1000) (hcl:∃ ep,(cl,listOf (chars.map Cel.ref).toArray ep)∈rest) (hc:∀ x∈chars,CelIn rest x) (hstr:∀ y∈x::r,CelIn rest y) (h2:∀ y∈x::r,y.x.length=1) (hz:(x::r).length≤900) (hq:(x.x==("'" : Str))=false) (hl:inS "L$" x.x=true) (ha:accB "'" r=true) (ok:lexC (accS "'" r)=.ok (c,mr)) (ret:EmitRetF a chars cl rest V.h₀ V.L V.m V.s Q mr (x::(accC "'" r++c)) "CHAR" x.lc st.tb (.ref fs)),wpAny (model pw_rk0009_01 V.w) (ktrTop V.dp V.un V.gd V.cn V.cs V.L V.ca V.ccd V.cll V.outer) (call (.ref fs) []) Q V.E V.s
@[irreducible] noncomputable def Z58:FrZ:=pickZ Z58P
set_option maxHeartbeats 8000000 in
theorem Z58c:Z58P Z58:=by
 intro a chars cl st rest Q fe fs c' cE cL cS oE oL oS oc vs nm qual pr b sc doc pm ctv tq x r c mr ps C _C1 Z I N hct hps hb hcl hc hstr h2 hz hq hl ha ok ret
 obtain ⟨B,F,X,T,hk,hdp,hun⟩:=C
 have D:=I.R.D
 obtain ⟨⟨_,_,_,_,_,b0,_,_,_,_,_,_,_,_,_,ho,hd⟩,zf,⟨zc1,zc2,zc3⟩,⟨ze1,ze2⟩,⟨zl1,zl2⟩,zs1,zs2⟩:=Z
 have e:b0=_:=fn_body ho (by k_is)
 subst e
 have e2:(pr,b,sc)=_:=Option.some.inj (hd.symm.trans (rfl:defAt _ 3=some _))
 injection e2 with e3 e4
 injection e4 with e4 e5
 subst e3 e4 e5
 clear hd ho
 refine e0a4 (hstr x (.head _)) fun hx1 hx2 hx3 hx4=>?_
 have sb:=accC_sub "'" r
 have sb1:∀ y∈accC "'" r,y∈r:=fun y hy=>by rw [<- sb];exact List.mem_append_left _ hy
 have sb2:∀ y∈accS "'" r,y∈r:=accS_sub "'" r
 have sb3:(accC "'" r).length+(accS "'" r).length=r.length:=by rw [<- List.length_append,sb]
 have q1:∀ y∈x::accC "'" r,CelIn rest y:=fun y hy=>hstr y ((List.mem_cons.mp hy).elim (fun e=>e▸.head _) fun h=>.tail _ (sb1 y h))
 have q2:∀ y∈x::accC "'" r,y.x.length=1:=fun y hy=>h2 y ((List.mem_cons.mp hy).elim (fun e=>e▸.head _) fun h=>.tail _ (sb1 y h))
 have q3:(x::accC "'" r).length+(accS "'" r).length≤900:=by simp only [List.length_cons] at hz ⊢;omega
 have q4:∀ y∈accS "'" r,CelIn rest y:=fun y hy=>hstr y (.tail _ (sb2 y hy))
 have q5:∀ y∈accS "'" r,y.x.length=1:=fun y hy=>h2 y (.tail _ (sb2 y hy))
 have hl':(Builtin.Str.occurrences "L$" x.x 0 ("L$" : Str).length 1).isEmpty=false:=by unfold inS at hl;simpa using hl
 refine wpAny_call ?_
 k_dflt kn_enter
 k_steps
 rename News Z58.h₀ Z58.L _ _=>kN
 exact ret _ _ _ _ _ _ (by assumption) (by assumption) (by assumption) (by assumption) (by assumption) (by assumption) (by simp only [*]) (by k_asm) (fun q hq=>kN q hq) (by assumption)
theorem start_two {x:Cel} {r c mr:List Cel} {ps:Array Value} (C:Cx 120 w p loose mean mg mb dp un cs outer A₀ base h₀ L m s) (_C1:CodeHd h₀ 550 548) (Z:StartIn w a rest fe fs c' cE cL cS oE oL oS oc vs nm qual pr b sc doc pm ctv tq) (I:LexI a chars cl ((225,tabObj ps)::rest) st (x::r)) (N:News h₀ L s.heap (emLed a st ps rest))
  (hct:st.ct=[]) (hps:EmTab emPos ps) (hb:st.tb.length≤1000)
  (hcl:∃ ep,(cl,listOf (chars.map Cel.ref).toArray ep)∈rest) (hc:∀ x∈chars,CelIn rest x) (hstr:∀ y∈x::r,CelIn rest y) (h2:∀ y∈x::r,y.x.length=1) (hz:(x::r).length≤900)
  (hq:(x.x==("'" : Str))=false) (hl:inS "L$" x.x=true) (ha:accB "'" r=true) (ok:lexC (accS "'" r)=.ok (c,mr))
  (ret:EmitRetF a chars cl rest h₀ L m s Q mr (x::(accC "'" r++c)) "CHAR" x.lc st.tb (.ref fs)) :
  wpAny (model pw_rk0009_01 w) (ktrTop dp un gd cn cs L ca ccd cll outer) (call (.ref fs) []) Q E s:=pickedZ (by with_unfolding_all rfl) Z58c (frC w p loose mean mg mb dp un gd cn cs ca ccd cll outer A₀ base h₀ L m s E) a chars cl st rest Q fe fs c' cE cL cS oE oL oS oc vs nm qual pr b sc doc pm ctv tq x r c mr ps C _C1 Z I N hct hps hb hcl hc hstr h2 hz hq hl ha ok ret
noncomputable def Z59P:FrZ->Prop:=fun V=>∀ (a:LexA) (chars:List Cel) (cl:Addr) (st:LexS) (rest:List (Addr×Obj)) (Q:Value->Shared->Prop) (fe:Addr) (fs:Addr) (c':Addr) (cE:Addr) (cL:Addr) (cS:Addr) (oE:Obj) (oL:Obj) (oS:Obj) (oc:Obj) (vs:Array Value) (nm:Str) (qual:Str) (pr:Arguments) (b:List Stmt) (sc:Scope) (doc:Value) (pm:Value) (ctv:Value) (tq:Tok) (x:Cel) (r:List Cel) (l:Value) (ps:Array Value) (C:Cx 120 V.w V.p V.loose V.mean V.mg V.mb V.dp V.un V.cs V.outer V.A₀ V.base V.h₀ V.L V.m V.s) (_C1:CodeHd V.h₀ 550 548) (Z:StartIn V.w a rest fe fs c' cE cL cS oE oL oS oc vs nm qual pr b sc doc pm ctv tq) (I:LexI a chars cl ((225,tabObj ps)::rest) st (x::r)) (N:News V.h₀ V.L V.s.heap (emLed a st ps rest)) (hct:st.ct=[]) (hps:EmTab emPos ps) (hb:st.tb.length≤1000) (hcl:∃ ep,(cl,listOf (chars.map Cel.ref).toArray ep)∈rest) (hc:∀ x∈chars,CelIn rest x) (hstr:∀ y∈x::r,CelIn rest y) (h2:∀ y∈x::r,y.x.length=1) (hz:(x::r).length≤900) (hq:(x.x==("'" : Str))=false) (hl:inS "L$" x.x=true) (ha:accB "'" r=true) (bad:lexC (accS "'" r)=.error l) (ret:ErrRet V.base (envX V.cn V.cs V.L V.ca V.ccd V.cll) V.outer ((225,tabObj ps)::rest) V.h₀ V.L V.m V.s V.E l),wpAny (model pw_rk0009_01 V.w) (ktrTop V.dp V.un V.gd V.cn V.cs V.L V.ca V.ccd V.cll V.outer) (call (.ref fs) []) Q V.E V.s
@[irreducible] noncomputable def Z59:FrZ:=pickZ Z59P
set_option maxHeartbeats 8000000 in
theorem Z59c:Z59P Z59:=by
 intro a chars cl st rest Q fe fs c' cE cL cS oE oL oS oc vs nm qual pr b sc doc pm ctv tq x r l ps C _C1 Z I N hct hps hb hcl hc hstr h2 hz hq hl ha bad ret
 obtain ⟨B,F,X,T,hk,hdp,hun⟩:=C
 have D:=I.R.D
 obtain ⟨⟨_,_,_,_,_,b0,_,_,_,_,_,_,_,_,_,ho,hd⟩,zf,⟨zc1,zc2,zc3⟩,⟨ze1,ze2⟩,⟨zl1,zl2⟩,zs1,zs2⟩:=Z
 have e:b0=_:=fn_body ho (by k_is)
 subst e
 have e2:(pr,b,sc)=_:=Option.some.inj (hd.symm.trans (rfl:defAt _ 3=some _))
 injection e2 with e3 e4
 injection e4 with e4 e5
 subst e3 e4 e5
 clear hd ho
 refine e0a4 (hstr x (.head _)) fun hx1 hx2 hx3 hx4=>?_
 have sb:=accC_sub "'" r
 have sb1:∀ y∈accC "'" r,y∈r:=fun y hy=>by rw [<- sb];exact List.mem_append_left _ hy
 have sb2:∀ y∈accS "'" r,y∈r:=accS_sub "'" r
 have sb3:(accC "'" r).length+(accS "'" r).length=r.length:=by rw [<- List.length_append,sb]
 have q1:∀ y∈x::accC "'" r,CelIn rest y:=fun y hy=>hstr y ((List.mem_cons.mp hy).elim (fun e=>e▸.head _) fun h=>.tail _ (sb1 y h))
 have q2:∀ y∈x::accC "'" r,y.x.length=1:=fun y hy=>h2 y ((List.mem_cons.mp hy).elim (fun e=>e▸.head _) fun h=>.tail _ (sb1 y h))
 have q3:(x::accC "'" r).length+(accS "'" r).length≤900:=by simp only [List.length_cons] at hz ⊢;omega
 have q4:∀ y∈accS "'" r,CelIn rest y:=fun y hy=>hstr y (.tail _ (sb2 y hy))
 have q5:∀ y∈accS "'" r,y.x.length=1:=fun y hy=>h2 y (.tail _ (sb2 y hy))
 have hl':(Builtin.Str.occurrences "L$" x.x 0 ("L$" : Str).length 1).isEmpty=false:=by unfold inS at hl;simpa using hl
 refine wpAny_call ?_
 k_dflt kn_enter
 k_steps
 all_goals exact ret _ _ _ _ _ _ _ (by assumption) (by assumption) (by assumption) (by assumption) (by assumption)
theorem start_two_err {x:Cel} {r:List Cel} {l:Value} {ps:Array Value} (C:Cx 120 w p loose mean mg mb dp un cs outer A₀ base h₀ L m s) (_C1:CodeHd h₀ 550 548) (Z:StartIn w a rest fe fs c' cE cL cS oE oL oS oc vs nm qual pr b sc doc pm ctv tq) (I:LexI a chars cl ((225,tabObj ps)::rest) st (x::r)) (N:News h₀ L s.heap (emLed a st ps rest))
  (hct:st.ct=[]) (hps:EmTab emPos ps) (hb:st.tb.length≤1000)
  (hcl:∃ ep,(cl,listOf (chars.map Cel.ref).toArray ep)∈rest) (hc:∀ x∈chars,CelIn rest x) (hstr:∀ y∈x::r,CelIn rest y) (h2:∀ y∈x::r,y.x.length=1) (hz:(x::r).length≤900)
  (hq:(x.x==("'" : Str))=false) (hl:inS "L$" x.x=true) (ha:accB "'" r=true) (bad:lexC (accS "'" r)=.error l)
  (ret:ErrRet base (envX cn cs L ca ccd cll) outer ((225,tabObj ps)::rest) h₀ L m s E l) :
  wpAny (model pw_rk0009_01 w) (ktrTop dp un gd cn cs L ca ccd cll outer) (call (.ref fs) []) Q E s:=pickedZ (by with_unfolding_all rfl) Z59c (frC w p loose mean mg mb dp un gd cn cs ca ccd cll outer A₀ base h₀ L m s E) a chars cl st rest Q fe fs c' cE cL cS oE oL oS oc vs nm qual pr b sc doc pm ctv tq x r l ps C _C1 Z I N hct hps hb hcl hc hstr h2 hz hq hl ha bad ret
noncomputable def Z60P:FrZ->Prop:=fun V=>∀ (a:LexA) (chars:List Cel) (cl:Addr) (st:LexS) (rest:List (Addr×Obj)) (Q:Value->Shared->Prop) (fe:Addr) (fs:Addr) (c':Addr) (cE:Addr) (cL:Addr) (cS:Addr) (oE:Obj) (oL:Obj) (oS:Obj) (oc:Obj) (vs:Array Value) (nm:Str) (qual:Str) (pr:Arguments) (b:List Stmt) (sc:Scope) (doc:Value) (pm:Value) (ctv:Value) (tq:Tok) (x:Cel) (r:List Cel) (ps:Array Value) (C:Cx 120 V.w V.p V.loose V.mean V.mg V.mb V.dp V.un V.cs V.outer V.A₀ V.base V.h₀ V.L V.m V.s) (_C1:CodeHd V.h₀ 550 548) (Z:StartIn V.w a rest fe fs c' cE cL cS oE oL oS oc vs nm qual pr b sc doc pm ctv tq) (I:LexI a chars cl ((225,tabObj ps)::rest) st (x::r)) (N:News V.h₀ V.L V.s.heap (emLed a st ps rest)) (hct:st.ct=[]) (hps:EmTab emPos ps) (hb:st.tb.length≤1000) (hcl:∃ ep,(cl,listOf (chars.map Cel.ref).toArray ep)∈rest) (hc:∀ x∈chars,CelIn rest x) (hstr:∀ y∈x::r,CelIn rest y) (h2:∀ y∈x::r,y.x.length=1) (hz:(x::r).length≤900) (hq:(x.x==("'" : Str))=false) (hl:inS "L$" x.x=false) (ret:EmitRetF a chars cl rest V.h₀ V.L V.m V.s Q r [x] "ONE" x.lc st.tb (.ref fs)),wpAny (model pw_rk0009_01 V.w) (ktrTop V.dp V.un V.gd V.cn V.cs V.L V.ca V.ccd V.cll V.outer) (call (.ref fs) []) Q V.E V.s
@[irreducible] noncomputable def Z60:FrZ:=pickZ Z60P
set_option maxHeartbeats 8000000 in
theorem Z60c:Z60P Z60:=by
 intro a chars cl st rest Q fe fs c' cE cL cS oE oL oS oc vs nm qual pr b sc doc pm ctv tq x r ps C _C1 Z I N hct hps hb hcl hc hstr h2 hz hq hl ret
 obtain ⟨B,F,X,T,hk,hdp,hun⟩:=C
 have D:=I.R.D
 obtain ⟨⟨_,_,_,_,_,b0,_,_,_,_,_,_,_,_,_,ho,hd⟩,zf,⟨zc1,zc2,zc3⟩,⟨ze1,ze2⟩,⟨zl1,zl2⟩,zs1,zs2⟩:=Z
 have e:b0=_:=fn_body ho (by k_is)
 subst e
 have e2:(pr,b,sc)=_:=Option.some.inj (hd.symm.trans (rfl:defAt _ 3=some _))
 injection e2 with e3 e4
 injection e4 with e4 e5
 subst e3 e4 e5
 clear hd ho
 refine e0a4 (hstr x (.head _)) fun hx1 hx2 hx3 hx4=>?_
 have q1:∀ y∈x::([] : List Cel),CelIn rest y:=fun y hy=>hstr y (by rw [List.mem_singleton.mp hy];exact .head _)
 have q2:∀ y∈x::([] : List Cel),y.x.length=1:=fun y hy=>h2 y (by rw [List.mem_singleton.mp hy];exact .head _)
 have q3:(x::([] : List Cel)).length≤1000:=Nat.le_of_ble_eq_true rfl
 have q4:∀ y∈r,CelIn rest y:=fun y hy=>hstr y (.tail _ hy)
 have hl':(Builtin.Str.occurrences "L$" x.x 0 ("L$" : Str).length 1).isEmpty=true:=by unfold inS at hl;simpa using hl
 refine wpAny_call ?_
 k_dflt kn_enter
 k_steps
 rename News Z60.h₀ Z60.L _ _=>kN
 exact ret _ _ _ _ _ _ (by assumption) (by assumption) (by assumption) (by assumption) (by assumption) (by assumption) (by simp only [*]) (by k_asm) (fun q hq=>kN q hq) (by assumption)
theorem start_one_no {x:Cel} {r:List Cel} {ps:Array Value} (C:Cx 120 w p loose mean mg mb dp un cs outer A₀ base h₀ L m s) (_C1:CodeHd h₀ 550 548) (Z:StartIn w a rest fe fs c' cE cL cS oE oL oS oc vs nm qual pr b sc doc pm ctv tq) (I:LexI a chars cl ((225,tabObj ps)::rest) st (x::r)) (N:News h₀ L s.heap (emLed a st ps rest))
  (hct:st.ct=[]) (hps:EmTab emPos ps) (hb:st.tb.length≤1000)
  (hcl:∃ ep,(cl,listOf (chars.map Cel.ref).toArray ep)∈rest) (hc:∀ x∈chars,CelIn rest x) (hstr:∀ y∈x::r,CelIn rest y) (h2:∀ y∈x::r,y.x.length=1) (hz:(x::r).length≤900)
  (hq:(x.x==("'" : Str))=false) (hl:inS "L$" x.x=false)
  (ret:EmitRetF a chars cl rest h₀ L m s Q r [x] "ONE" x.lc st.tb (.ref fs)) :
  wpAny (model pw_rk0009_01 w) (ktrTop dp un gd cn cs L ca ccd cll outer) (call (.ref fs) []) Q E s:=pickedZ (by with_unfolding_all rfl) Z60c (frC w p loose mean mg mb dp un gd cn cs ca ccd cll outer A₀ base h₀ L m s E) a chars cl st rest Q fe fs c' cE cL cS oE oL oS oc vs nm qual pr b sc doc pm ctv tq x r ps C _C1 Z I N hct hps hb hcl hc hstr h2 hz hq hl ret
noncomputable def Z61P:FrZ->Prop:=fun V=>∀ (a:LexA) (chars:List Cel) (cl:Addr) (st:LexS) (rest:List (Addr×Obj)) (Q:Value->Shared->Prop) (fe:Addr) (fs:Addr) (c':Addr) (cE:Addr) (cL:Addr) (cS:Addr) (oE:Obj) (oL:Obj) (oS:Obj) (oc:Obj) (vs:Array Value) (nm:Str) (qual:Str) (pr:Arguments) (b:List Stmt) (sc:Scope) (doc:Value) (pm:Value) (ctv:Value) (tq:Tok) (x:Cel) (r:List Cel) (ps:Array Value) (C:Cx 120 V.w V.p V.loose V.mean V.mg V.mb V.dp V.un V.cs V.outer V.A₀ V.base V.h₀ V.L V.m V.s) (_C1:CodeHd V.h₀ 550 548) (Z:StartIn V.w a rest fe fs c' cE cL cS oE oL oS oc vs nm qual pr b sc doc pm ctv tq) (I:LexI a chars cl ((225,tabObj ps)::rest) st (x::r)) (N:News V.h₀ V.L V.s.heap (emLed a st ps rest)) (hct:st.ct=[]) (hps:EmTab emPos ps) (hb:st.tb.length≤1000) (hcl:∃ ep,(cl,listOf (chars.map Cel.ref).toArray ep)∈rest) (hc:∀ x∈chars,CelIn rest x) (hstr:∀ y∈x::r,CelIn rest y) (h2:∀ y∈x::r,y.x.length=1) (hz:(x::r).length≤900) (hq:(x.x==("'" : Str))=false) (hl:inS "L$" x.x=true) (ha:accB "'" r=false) (ret:EmitRetF a chars cl rest V.h₀ V.L V.m V.s Q r [x] "ONE" x.lc st.tb (.ref fs)),wpAny (model pw_rk0009_01 V.w) (ktrTop V.dp V.un V.gd V.cn V.cs V.L V.ca V.ccd V.cll V.outer) (call (.ref fs) []) Q V.E V.s
@[irreducible] noncomputable def Z61:FrZ:=pickZ Z61P
set_option maxHeartbeats 8000000 in
theorem Z61c:Z61P Z61:=by
 intro a chars cl st rest Q fe fs c' cE cL cS oE oL oS oc vs nm qual pr b sc doc pm ctv tq x r ps C _C1 Z I N hct hps hb hcl hc hstr h2 hz hq hl ha ret
 obtain ⟨B,F,X,T,hk,hdp,hun⟩:=C
 have D:=I.R.D
 obtain ⟨⟨_,_,_,_,_,b0,_,_,_,_,_,_,_,_,_,ho,hd⟩,zf,⟨zc1,zc2,zc3⟩,⟨ze1,ze2⟩,⟨zl1,zl2⟩,zs1,zs2⟩:=Z
 have e:b0=_:=fn_body ho (by k_is)
 subst e
 have e2:(pr,b,sc)=_:=Option.some.inj (hd.symm.trans (rfl:defAt _ 3=some _))
 injection e2 with e3 e4
 injection e4 with e4 e5
 subst e3 e4 e5
 clear hd ho
 refine e0a4 (hstr x (.head _)) fun hx1 hx2 hx3 hx4=>?_
 have q1:∀ y∈x::([] : List Cel),CelIn rest y:=fun y hy=>hstr y (by rw [List.mem_singleton.mp hy];exact .head _)
 have q2:∀ y∈x::([] : List Cel),y.x.length=1:=fun y hy=>h2 y (by rw [List.mem_singleton.mp hy];exact .head _)
 have q3:(x::([] : List Cel)).length≤1000:=Nat.le_of_ble_eq_true rfl
 have q4:∀ y∈r,CelIn rest y:=fun y hy=>hstr y (.tail _ hy)
 have hl':(Builtin.Str.occurrences "L$" x.x 0 ("L$" : Str).length 1).isEmpty=false:=by unfold inS at hl;simpa using hl
 refine wpAny_call ?_
 k_dflt kn_enter
 k_steps
 rename News Z61.h₀ Z61.L _ _=>kN
 exact ret _ _ _ _ _ _ (by assumption) (by assumption) (by assumption) (by assumption) (by assumption) (by assumption) (by simp only [*]) (by k_asm) (fun q hq=>kN q hq) (by assumption)
theorem start_one_yes {x:Cel} {r:List Cel} {ps:Array Value} (C:Cx 120 w p loose mean mg mb dp un cs outer A₀ base h₀ L m s) (_C1:CodeHd h₀ 550 548) (Z:StartIn w a rest fe fs c' cE cL cS oE oL oS oc vs nm qual pr b sc doc pm ctv tq) (I:LexI a chars cl ((225,tabObj ps)::rest) st (x::r)) (N:News h₀ L s.heap (emLed a st ps rest))
  (hct:st.ct=[]) (hps:EmTab emPos ps) (hb:st.tb.length≤1000)
  (hcl:∃ ep,(cl,listOf (chars.map Cel.ref).toArray ep)∈rest) (hc:∀ x∈chars,CelIn rest x) (hstr:∀ y∈x::r,CelIn rest y) (h2:∀ y∈x::r,y.x.length=1) (hz:(x::r).length≤900)
  (hq:(x.x==("'" : Str))=false) (hl:inS "L$" x.x=true) (ha:accB "'" r=false)
  (ret:EmitRetF a chars cl rest h₀ L m s Q r [x] "ONE" x.lc st.tb (.ref fs)) :
  wpAny (model pw_rk0009_01 w) (ktrTop dp un gd cn cs L ca ccd cll outer) (call (.ref fs) []) Q E s:=pickedZ (by with_unfolding_all rfl) Z61c (frC w p loose mean mg mb dp un gd cn cs ca ccd cll outer A₀ base h₀ L m s E) a chars cl st rest Q fe fs c' cE cL cS oE oL oS oc vs nm qual pr b sc doc pm ctv tq x r ps C _C1 Z I N hct hps hb hcl hc hstr h2 hz hq hl ha ret
end
end
example:True:=by w_top off;trivial
section
open NgM01 NgM01b NgM02 NgM03 NgM09 NgM10 NgM11 NgM12 NgM15 NgM16 NgM18
noncomputable def cutH (h:Heap) (n:Nat):Heap:=⟨h.objs.extract 0 n,h.life⟩
theorem cutH_get {h:Heap} {n:Nat} {b:Addr} {o:Obj} : (cutH h n).get? b=some o ↔ @LT.lt Nat _ b n/\h.get? b=some o:=by
 rw [Heap.get?_some_iff,Heap.get?_some_iff]
 show (h.objs.extract 0 n)[b]?=some o/\_ ↔ _
 rw [Array.getElem?_extract]
 by_cases hb : @LT.lt Nat _ b n
 ·by_cases hs : @LT.lt Nat _ b h.objs.size
  ·rw [if_pos (by omega),Nat.zero_add]
   exact ⟨fun x=>⟨hb,x⟩,fun x=>x.2⟩
  ·rw [if_neg (by omega),Array.getElem?_eq_none (Nat.not_lt.mp hs)]
   exact ⟨fun x=>(by cases x.1),fun x=>(by cases x.2.1)⟩
 ·rw [if_neg (by omega)]
  exact ⟨fun x=>(by cases x.1),fun x=>absurd x.1 hb⟩
theorem cutH_size (h:Heap) (n:Nat):(cutH h n).objs.size≤n:=by
 show (h.objs.extract 0 n).size≤n
 rw [Array.size_extract]
 omega
noncomputable def allBut (h g:Heap) (bad:List Addr):List (Addr×Obj) :=
 (List.range h.objs.size).filterMap fun b=>if b∈bad then none else match g.get? b with
  | some _=>none
  | none=>(h.get? b).map fun o=>(b,o)
set_option tactic.hygienic true in
theorem mem_allBut {h g:Heap} {bad:List Addr} {b:Addr} {o:Obj} : (b,o)∈allBut h g bad ↔ h.get? b=some o/\b∉bad/\g.get? b=none:=by
 unfold allBut
 rw [List.mem_filterMap]
 constructor
 ·intro hq0
  refine e1a2 hq0 fun c _ e=>?_;clear hq0
  split at e
  ·cases e
  ·rename_i hc
   split at e
   ·cases e
   ·rename_i hg
    refine e1a2 (Option.map_eq_some_iff.mp e) fun o' ho e=>?_
    cases e
    exact ⟨ho,hc,hg⟩
 ·intro hq0
  refine e0a3 hq0 fun h1 h2 h3=>?_;clear hq0
  refine ⟨b,List.mem_range.mpr (Heap.lt_size h1),?_⟩
  rw [if_neg h2,h3,h1]
  rfl
theorem sub_filterMap {f:Addr->Option (Addr×Obj)} (hf:∀ b p,f b=some p->p.1=b):∀ l:List Addr,List.Sublist ((l.filterMap f).map (·.1)) l
 | []=>List.Sublist.slnil
 | x::r=>by
  rw [List.filterMap_cons]
  cases e:f x with
  | none=>exact (sub_filterMap hf r).cons _
  | some p =>
   rw [List.map_cons,hf x p e]
   exact (sub_filterMap hf r).cons₂ _
theorem nodup_allBut (h g:Heap) (bad:List Addr):((allBut h g bad).map (·.1)).Nodup:=by
 refine List.Nodup.sublist (sub_filterMap (fun b p e=>?_) (List.range h.objs.size)) List.nodup_range
 split at e
 ·cases e
 ·split at e
  ·cases e
  ·refine e1a2 (Option.map_eq_some_iff.mp e) fun o' _ e=>?_
   rw [<- e]
noncomputable def gndH (h g0:Heap) (LR n:Addr):Heap:=cutH (hideAll h ((List.range h.objs.size).filter fun b=>(g0.get? b).isNone&&b != LR)) n
theorem gndH_get {h g0:Heap} {LR n b:Addr} {o:Obj} : (gndH h g0 LR n).get? b=some o ↔ @LT.lt Nat _ b n/\h.get? b=some o/\((g0.get? b).isSome=true\/b=LR):=by
 unfold gndH
 rw [cutH_get]
 constructor
 ·intro hq0
  refine e0a2 hq0 fun h1 h2=>?_;clear hq0
  have h3:=of_hideAll _ h2
  refine ⟨h1,h3,?_⟩
  by_cases q:(g0.get? b).isSome=true
  ·exact .inl q
  ·by_cases q2:b=LR
   ·exact .inr q2
   ·have:b∈(List.range h.objs.size).filter fun b=>(g0.get? b).isNone&&b != LR:=by
     rw [List.mem_filter]
     exact ⟨List.mem_range.mpr (Heap.lt_size h3),by simp at q;simp [q,q2]⟩
    rw [hideAll_none _ this] at h2
    cases h2
 ·intro hq0
  refine e0a3 hq0 fun h1 h2 h3=>?_;clear hq0
  refine ⟨h1,hideAll_get _ h2 fun hm=>?_⟩
  rw [List.mem_filter] at hm
  have:=hm.2
  rcases h3 with h3 | h3
  ·simp at this;simp [this.1] at h3
  ·simp [h3] at this
noncomputable def Has (h:Heap) (l:List (Addr×Obj)):Prop:=∀ q∈l,h.get? q.1=some q.2
noncomputable def KeepBut (wr:List Addr) (h h':Heap):Prop:=∀ b o,b∉wr->h.get? b=some o->h'.get? b=some o
theorem KeepBut.trans {wr:List Addr} {h h' h'':Heap} (x:KeepBut wr h h') (y:KeepBut wr h' h''):KeepBut wr h h'':=fun b o n e=>y b o n (x b o n e)
section
variable {A:Around} {g0:Heap} {env:Env} {LR LG:Addr} {mR mT:Str->Option Value} {l:List (Addr×Obj)} {K:Frag}
theorem ground_in (B:Below A₀ base outer g0) (F:Fr g0 LR s.heap mR) (hf:env.frame=some LR) (hk:env.scope.kind=.function) (hA:A.frames=some (env::outer)) (T:Top p loose mean mg mb g0) (X:K.In g0)
  (hlt : @LT.lt Nat _ LR LG) (hT:s.heap.Ns LG mT) (H:Has s.heap l) (hl:∀ q∈l,q.1≠LG/\q.1≠LR/\g0.get? q.1=none) :
  Fr (gndH s.heap g0 LR LG) LG s.heap mT/\News (gndH s.heap g0 LR LG) LG s.heap (l++allBut s.heap (gndH s.heap g0 LR LG) (LG::l.map (·.1)))/\Below A base (env::outer) (gndH s.heap g0 LR LG) /\
   K.In (gndH s.heap g0 LR LG)/\Top p loose mean mg mb (gndH s.heap g0 LR LG)/\g0.StaysIn (gndH s.heap g0 LR LG):=by
 have st:g0.StaysIn (gndH s.heap g0 LR LG):=fun b o e=>gndH_get.mpr ⟨Nat.lt_trans (Nat.lt_of_lt_of_le (Heap.lt_size e) F.above) hlt,F.keep b o e,.inl (by rw [e];rfl)⟩
 have ff:=funFrames_push B F hf (by rw [hk];decide)
 refine ⟨⟨hT,fun b o e=>(gndH_get.mp e).2.1,cutH_size _ _⟩,fun q hq=>?_,⟨hA,fun b o e=>st b o (B.stays b o e),?_⟩,X.keeps st,T.keeps st,st⟩
 ·rcases List.mem_append.mp hq with hq | hq
  ·refine e0a3 (hl q hq) fun h1 h2 h3=>?_
   refine ⟨H q hq,h1,?_⟩
   cases e:(gndH s.heap g0 LR LG).get? q.1 with
   | none=>rfl
   | some o =>
    rcases (gndH_get.mp e).2.2 with h | h
    ·rw [h3] at h;cases h
    ·exact absurd h h2
  ·refine e0a3 (mem_allBut.mp (show (q.1,q.2)∈_ from hq)) fun h1 h2 h3=>?_
   exact ⟨h1,fun e=>h2 (e▸.head _),h3⟩
 ·have gg:∀ v∈env::outer,∀ b,v.frame=some b->@LT.lt Nat _ b LG/\((g0.get? b).isSome=true\/b=LR):=by
   intro v hv b hb
   rcases List.mem_cons.mp hv with rfl | hv
   ·rw [hf] at hb;cases hb;exact ⟨hlt,.inr rfl⟩
   ·refine e2a2 (funFrames_in B.frames v hv) fun L₁ o₁ hf₁ ho₁=>?_
    rw [hf₁] at hb
    cases hb
    exact ⟨Nat.lt_trans (Nat.lt_of_lt_of_le (Heap.lt_size ho₁) F.above) hlt,.inl (by rw [ho₁];rfl)⟩
  clear hA
  revert gg ff
  generalize env::outer=l'
  intro ff gg
  induction l' with
  | nil=>trivial
  | cons v r ih =>
   refine e0a3 ff fun k1 Q13 k3=>?_;clear ff;refine e2a4 Q13 fun L₁ o₁ f1 f2 f3 f4=>?_;clear Q13
   have g1:=gg v (.head _) L₁ f1
   exact ⟨k1,⟨L₁,o₁,f1,f2,gndH_get.mpr ⟨g1.1,f3,g1.2⟩,f4⟩,ih k3 fun v' hv=>gg v' (.tail _ hv)⟩
end
theorem keep_out {s:Shared} {g0 h':Heap} {LR LG:Addr} {m':Str->Option Value} {l:List (Addr×Obj)} {wr:List Addr} (H:Has s.heap l) (F':Fr (gndH s.heap g0 LR LG) LG h' m')
  (hext:∀ q∈allBut s.heap (gndH s.heap g0 LR LG) (LG::l.map (·.1)),h'.get? q.1=some q.2) (hst:∀ q∈l,q.1∉wr->h'.get? q.1=some q.2) (hLG:LG∈wr):KeepBut wr s.heap h':=by
 intro b o hb e
 cases eg:(gndH s.heap g0 LR LG).get? b with
 | some o' =>
  have:=(gndH_get.mp eg).2.1
  rw [e] at this
  cases this
  exact F'.keep _ _ eg
 | none =>
  by_cases hm:b∈LG::l.map (·.1)
  ·rcases List.mem_cons.mp hm with rfl | hm
   ·exact absurd hLG hb
   ·refine e1a2 (List.mem_map.mp hm) fun q hq Q14=>?_;obtain rfl:=Q14
    have:=H q hq
    rw [e] at this
    cases this
    exact hst q hq hb
  ·exact hext (b,o) (mem_allBut.mpr ⟨e,hm,eg⟩)
theorem fr_out {s:Shared} {g0 h':Heap} {LR:Addr} {mR:Str->Option Value} {wr:List Addr} (F:Fr g0 LR s.heap mR) (k:KeepBut wr s.heap h') (hL:LR∉wr) (hw:∀ b∈wr,g0.get? b=none):Fr g0 LR h' mR :=
 ⟨F.ns.at' fun o e=>k _ _ hL e,fun b o e=>k _ _ (fun hm=>by rw [hw b hm] at e;cases e) (F.keep b o e),F.above⟩
/-! a generator is asked for its next,and may raise -/
section
variable {A:Around} {E:Value->Shared->Prop}
noncomputable def Z26P:FrZ->Prop:=fun V=>(fun (n:Nat)=>(∀ (A:Around) (E:Value->Shared->Prop) (gs:GenState) (P:Nat->Shared->Shared->Prop) (PE:Nat->Shared->Addr->Shared->Prop) (Y:Protocol) (Q:Option Value->Shared->Prop) (hh:A.handled=none) (hl:V.s.heap.NoLimit) (hroom:A.depth<recursionLimit) (hg:V.s.heap.IsGen (V.fA 0) (V.fN 0)) (hgs:V.s.gens[(V.fN 0)]?=some gs) (hgo:gs.Goes (model pw_rk0009_01 V.w) A.in1 (fun n s₀ r s₁=>(r=.ok (.ret .none)/\P n s₀ s₁)\/∃ e,r=.error (.ref e)/\PE n s₀ e s₁) Y n (.send .none) (V.s.setGen (V.fN 0) .running)) (hY:∀ v s₁ gs',gs'.bare=true->Y (n - 1) (V.s.setGen (V.fN 0) .running) v s₁ (fun r' s''=>match n with
    | 0=>False
    | m+1=>gs'.Goes (model pw_rk0009_01 V.w) A.in1 (fun n s₀ r s₁=>(r=.ok (.ret .none)/\P n s₀ s₁)\/∃ e,r=.error (.ref e)/\PE n s₀ e s₁) Y m r' s'')->Q (some v) (s₁.setGen (V.fN 0) gs')) (hP:∀ s₁,P n (V.s.setGen (V.fN 0) .running) s₁->∀ h',(∀ b o,s₁.heap.get? b=some o->h'.get? b=some o)->Q none { s₁.setGen (V.fN 0) .finished with heap:=h' }) (hE:∀ e s₁,PE n (V.s.setGen (V.fN 0) .running) e s₁->(hd.heap_1 V.w.params).In s₁.heap/\s₁.heap.IsGen (V.fA 0) (V.fN 0)/\(∃ oe,s₁.heap.get? e=some oe/\oe.cls=.ref 156)/\E (.ref e) (s₁.setGen (V.fN 0) .finished)),wpAny (model pw_rk0009_01 V.w) A (pyNext (.ref (V.fA 0))) Q E V.s:Prop)) (V.fN 1)
@[irreducible] noncomputable def Z26:FrZ:=pickZ Z26P
theorem Z26c:Z26P Z26:=by
 intro A E gs P PE Y Q hh hl hroom hg hgs hgo hY hP hE
 unfold pyNext
 refine wpAny_bind (wpAny_attempt (wpAny_callSpecial?_slot (name:=Str.ofString "__next__") hg.typeIs slot_gen_next
  (wpAny_call_entry slot_gen_next hg.typeIs entry_gen_next ?_ (args_gen_next _))))
 show wpAny _ A.in1 (Builtin.Generator.genWake (.ref (Z26.fA 0)) (.send .none)) _ _ Z26.s
 unfold Builtin.Generator.genWake
 refine wpAny_bind (wpAny_holding (wpAny_genNumber hg (wpAny_bind (wpAny_genState hgs ?_))))
 cases gs with
 | running=>exact hgo.elim
 | finished=>exact hgo.elim
 | _ =>
  refine wpAny_bind (wpAny_roomToWake hl hroom ?_)
  show wpAny _ A.in1 (.resume (Z26.fN 0) (.send .none) [] _) _ _ Z26.s
  refine wpAny_resumeQ hgs hgo (fun x s₁ hx=>?_) (fun v s₁ gs' hb hv=>?_)
  ·rcases hx with ⟨rfl,hp⟩ | ⟨e,rfl,hp⟩
   ·show wpAny _ A.in1 (newExc (.type "StopIteration") [] >>= _) _ _ _
    refine wpAny_bind ?_
    simp only [newExc,newTuple]
    refine wpAny_bind (wpAny_newObj_type ?_ (by size_fits))
    refine wpAny_bind (m:=firstArgMember _ _) (wpAny_of_eq (a:=Value.none) (by first | rfl | (simp only [firstArgMember];rfl)) ?_)
    refine wpAny_newObj_type ?_ (by size_fits)
    simp only [raiseNew]
    refine wpAny_bind (wpAny_bind (wpAny_handled ?_))
    first | rw [show A.in1.handled=none from hh] | rw [hh]
    refine wpAny_throw ?_
    refine wpAny_bind (wpAny_isInstance (T := "StopIteration") (b:=true) ⟨_,Heap.get?_push_size _ rfl,rfl⟩ isSubtype_stop ?_)
    exact wpAny_pure (hP s₁ hp _ fun b o hb=>Heap.get?_push_of_some _ (Heap.get?_push_of_some _ hb))
   ·refine e0a4 (hE e s₁ hp) fun X Q15 Q16 hE=>?_;refine e3a4 Q15 fun og nm qn hgo' hgc hgd hgs'=>?_;clear Q15;refine e1a2 Q16 fun oe hoe hoc=>?_;clear Q16
    obtain ⟨q,bs,hdct,sn,sub,ab,col,dd,k0,k1,k2,k3,k5,hC⟩:=exc_cls X
    obtain ⟨hp',g',d',t',os'⟩:=s₁
    have nst:(Value.ref 156::[Value.type "Exception",.type "BaseException",.type "object"]).contains (.type "StopIteration")=false:=by decide +kernel
    have inst:∀ {A:Around} {E:Value->Shared->Prop} {Q:Bool->Shared->Prop} {gg:Array GenState},Q false ⟨hp',gg,d',t',os'⟩->wpAny (model pw_rk0009_01 Z26.w) A (isInstance (.ref e) (.type "StopIteration")) Q E ⟨hp',gg,d',t',os'⟩:=by
     intro A E Q gg hq
     unfold isInstance
     repeat (first | (with_reducible refine wpAny_loadPart_at hoe ?_;rw [hoc]) | (with_reducible refine wpAny_isSubtype_exc hC ?_;rw [nst]) | wp_step)
     exact hq
    show wpAny _ A.in1 (Builtin.Generator.genLeft (.ref (Z26.fA 0)) (.ref e)) _ _ _
    unfold Builtin.Generator.genLeft Builtin.Generator.madeByALambda Builtin.Generator.genEscaped
    refine wpAny_bind (wpAny_bind (wpAny_load (o:=og) hgo' ?_))
    rw [hgc,hgd]
    refine wpAny_pure (wpAny_bind (m:=isInstance (.ref e) (.type "StopIteration")) (inst (gg:=g'.setIfInBounds (Z26.fN 0) .finished) ?_))
    show wpAny _ _ (if (_&&false)=true then _ else _) _ _ _
    rw [Bool.and_false,if_neg Bool.false_ne_true]
    refine wpAny_bind (m:=isInstance (.ref e) (.type "StopIteration")) (inst (gg:=g'.setIfInBounds (Z26.fN 0) .finished) ?_)
    show wpAny _ _ (if (!false)=true then _ else _) _ _ _
    rw [if_pos (show (!false)=true from rfl)]
    refine wpAny_bind (wpAny_throw ?_)
    show wpAny _ A (isInstance (.ref e) (.type "StopIteration") >>= _) _ _ _
    refine wpAny_bind (m:=isInstance (.ref e) (.type "StopIteration")) (inst (gg:=g'.setIfInBounds (Z26.fN 0) .finished) ?_)
    show wpAny _ _ (if false=true then _ else _) _ _ _
    rw [if_neg Bool.false_ne_true]
    exact wpAny_throw hE
  ·exact wpAny_pure ⟨v,rfl,wpAny_pure (hY v s₁ gs' hb hv)⟩
theorem wpAny_pyNext_genX {a:Addr} {g n:Nat} {gs:GenState} {P:Nat->Shared->Shared->Prop} {PE:Nat->Shared->Addr->Shared->Prop} {Y:Protocol} {Q:Option Value->Shared->Prop} (hh:A.handled=none)
  (hl:s.heap.NoLimit) (hroom:A.depth<recursionLimit)
  (hg:s.heap.IsGen a g) (hgs:s.gens[g]?=some gs)
  (hgo:gs.Goes (model pw_rk0009_01 w) A.in1 (fun n s₀ r s₁=>(r=.ok (.ret .none)/\P n s₀ s₁)\/∃ e,r=.error (.ref e)/\PE n s₀ e s₁) Y n (.send .none) (s.setGen g .running))
  (hY:∀ v s₁ gs',gs'.bare=true->Y (n - 1) (s.setGen g .running) v s₁ (fun r' s''=>match n with
    | 0=>False
    | m+1=>gs'.Goes (model pw_rk0009_01 w) A.in1 (fun n s₀ r s₁=>(r=.ok (.ret .none)/\P n s₀ s₁)\/∃ e,r=.error (.ref e)/\PE n s₀ e s₁) Y m r' s'')->Q (some v) (s₁.setGen g gs'))
  (hP:∀ s₁,P n (s.setGen g .running) s₁->∀ h',(∀ b o,s₁.heap.get? b=some o->h'.get? b=some o)->Q none { s₁.setGen g .finished with heap:=h' })
  (hE:∀ e s₁,PE n (s.setGen g .running) e s₁->(hd.heap_1 w.params).In s₁.heap/\s₁.heap.IsGen a g/\(∃ oe,s₁.heap.get? e=some oe/\oe.cls=.ref 156)/\E (.ref e) (s₁.setGen g .finished)) :
  wpAny (model pw_rk0009_01 w) A (pyNext (.ref a)) Q E s:=pickedZ (by with_unfolding_all rfl) Z26c (sfN (sfA (frC w Z26.p Z26.loose Z26.mean Z26.mg Z26.mb Z26.dp Z26.un Z26.gd Z26.cn Z26.cs Z26.ca Z26.ccd Z26.cll Z26.outer Z26.A₀ Z26.base Z26.h₀ Z26.L Z26.m s Z26.E) [a]) [g,n]) A E gs P PE Y Q hh hl hroom hg hgs hgo hY hP hE
end
end
example:True:=by w_top off;trivial
section
open NgM01 NgM01b NgM02 NgM03 NgM09 NgM10 NgM11 NgM12 NgM15 NgM16 NgM18
noncomputable def HeldX (base:Heap) (l:List Env) (e dx:Addr) (news:List (Addr×Obj)) (L:Addr) (h:Heap):Prop :=
 ∃ B a0,base.StaysIn B/\(∀ q∈news,B.get? q.1=some q.2/\base.get? q.1=none)/\Heap.HeldW B l e (.ref 156) a0 L h/\∃ oe,h.get? e=some oe/\oe.dict=some dx
section
variable {M:Model} {A:Around} {E:Value->Shared->Prop} {env:Env} {e dx:Addr} {Q:Unit->Shared->Prop} {news:List (Addr×Obj)}
theorem tame_keep {t:Sem Unit} {P:Heap->Prop} (ht:Tame t) (W:wpAny M A t (fun _ s₂=>∃ h',s₂={ s with heap:=h' }/\P h') (fun _ _=>False) s) (he:∃ oe,s.heap.get? e=some oe/\oe.dict=some dx)
  (hQ:∀ h',P h'->(∃ oe,h'.get? e=some oe/\oe.dict=some dx)->Q () { s with heap:=h' }):wpAny M A t Q E s:=by
 refine wpAny_mono (tame_any ht W) (fun _ s₂ x=>?_) fun _ _ x=>x.1.elim
 refine e0a2 x fun Q17 dk=>?_;clear x;refine e1a2 Q17 fun h' Q18=>?_;clear Q17;obtain rfl:=Q18;intro x1
 refine e1a2 he fun oe ho hd=>?_;clear he
 refine e1a2 (dk _ _ ho) fun o' ho' hd'=>?_
 exact hQ h' x1 ⟨o',ho',hd'.trans hd⟩
theorem note_X (hfr:A.frames=some (env::outer)) (hf:env.frame=some L) (R:RaisedX base (env::outer) e dx news s.heap)
  (hQ:∀ h',HeldX base (env::outer) e dx news L h'->s.heap.UpToSlots h'->Q () { s with heap:=h' }):wpAny M A (noteFrame (.ref e) env) Q E s:=by
 refine e2a4 R fun B a0 h1 h2 h3 h4=>?_;clear R
 exact tame_keep (P:=fun h'=>Heap.HeldW B (env::outer) e (.ref 156) a0 L h'/\s.heap.UpToSlots h') (tame_noteFrame _ _) (wpAny_looks_onW hfr hf h3 fun h' x y=>⟨h',rfl,x,y⟩) h4
  fun h' x y=>hQ h' ⟨B,a0,h1,h2,x.1,y⟩ x.2
theorem again_X (hf:env.frame=some L) (H:HeldX base (env::outer) e dx news L s.heap) (h:Q () s):wpAny M A (noteFrame (.ref e) env) Q E s:=by
 refine e2a4 H fun B a0 h1 h2 h3 h4=>?_;clear H
 exact wpAny_noteFrame_againW hf h3.2.2.2 h
theorem lands_X (H:HeldX base (env::outer) e dx news L s.heap) (hQ:∀ h',RaisedX base (env::outer) e dx news h'->s.heap.UpToSlots h'->Q () { s with heap:=h' }):wpAny M A (setFlight (.ref e) none) Q E s:=by
 refine e2a4 H fun B a0 h1 h2 h3 h4=>?_;clear H
 exact tame_keep (P:=fun h'=>Heap.FlyingW B (env::outer) e (.ref 156) a0 h'/\s.heap.UpToSlots h') (tame_setFlight _ _) (wpAny_landsW h3 fun h' x y=>⟨h',rfl,x,y⟩) h4
  fun h' x y=>hQ h' ⟨B,a0,h1,h2,x.1,y⟩ x.2
theorem leaveHeld_X (hf:env.frame=some L) (H:HeldX base (env::outer) e dx news L s.heap) (hQ:∀ h',RaisedX base outer e dx news h'->s.heap.UpToSlots h'->Q () { s with heap:=h' }):wpAny M A (leaving env (.ref e)) Q E s:=by
 unfold leaving
 refine wpAny_bind (again_X hf H (lands_X H fun h' R U=>?_))
 refine e2a4 R fun B a0 h1 h2 Q19 h4=>?_;clear R;refine e0a4 Q19 fun f1 f2 Q20 f4=>?_;clear Q19;refine e0a3 Q20 fun _ _ f3=>?_;clear Q20
 exact hQ h' ⟨B,a0,h1,h2,⟨f1,f2,f3,f4⟩,h4⟩ U
noncomputable def Z75P:FrZ->Prop:=fun V=>∀ (M:Model) (H:HeldX V.base ((V.fE 0)::V.outer) (V.fA 0) (V.fA 1) (V.fL 0) V.L V.s.heap) (hQ:∀ h',HeldX V.base ((V.fE 0)::V.outer) (V.fA 0) (V.fA 1) (V.fL 0) V.L h'->V.s.heap.UpToSlots h'->(V.fu 0) () { V.s with heap:=h' }),wpAny M (V.fR 0) (do
   if (<- field (.ref (V.fA 0)) 1)==.none then unsupported "frame.own-activation:exception-without-traceback"
   setFlight (.ref (V.fA 0)) (some V.L)) (V.fu 0) V.E V.s
@[irreducible] noncomputable def Z75:FrZ:=pickZ Z75P
theorem Z75c:Z75P Z75:=by
 intro M H hQ
 obtain ⟨B,a0,h1,h2,⟨hkb,hen,hl,oe,vs,T,oT,ts,he,hcls,hd,hv1,hnT,hTe,hT,hdT,h3⟩,oe',he',hdx⟩:=H
 rw [he] at he'
 cases he'
 have hsz3:3<ts.size:=(Array.getElem?_eq_some_iff.mp h3).1
 refine wpAny_bind (wpAny_field he hd hv1 ?_)
 rw [if_neg (show ¬ ((Value.ref T==Value.none)=true) from Bool.false_ne_true)]
 unfold setFlight
 refine wpAny_bind (wpAny_field he hd hv1 ?_)
 rw [if_pos (show (Value.ref T != Value.none)=true from by simp)]
 have other:∀ b,b≠T->(Z75.s.heap.update T (Obj.mapFields (·.setIfInBounds 3 ((some Z75.L:Option Addr).elim Value.none fun f=>rawInt f)))).get? b=Z75.s.heap.get? b:=fun b hb=>Heap.get?_update_other _ _ (Ne.symm hb)
 have noRecord:∀ b o,Z75.s.heap.get? b=some o->(∀ vs,o.data≠.fields vs)->b≠T:=fun b o hb hnf q=>by
  rw [q,hT] at hb;injection hb with hb;subst hb;exact hnf ts hdT
 refine wpAny_setField hT hdT hsz3 (hQ _ ⟨B,a0,h1,h2,⟨fun b o hbo=>(other b fun q=>by rw [q,hnT] at hbo;cases hbo).trans (hkb b o hbo),hen,
  hl.of_keeps fun b o hb hnf=>⟨o,(other b (noRecord b o hb hnf)).trans hb,rfl⟩,
  oe,vs,T,_,_,(other (Z75.fA 0) (Ne.symm hTe)).trans he,hcls,hd,hv1,hnT,hTe,Heap.get?_update_self _ hT (Obj.isFreed_of_fields (Obj.data_mapFields hdT _)),Obj.data_mapFields hdT _,by simp [hsz3]⟩,
  oe,(other (Z75.fA 0) (Ne.symm hTe)).trans he,hdx⟩ fun b o hb hnf=>⟨o.slots,(other b (noRecord b o hb hnf)).trans hb⟩)
theorem flight_X (H:HeldX base (env::outer) e dx news L s.heap) (hQ:∀ h',HeldX base (env::outer) e dx news L h'->s.heap.UpToSlots h'->Q () { s with heap:=h' }) :
  wpAny M A (do
   if (<- field (.ref e) 1)==.none then unsupported "frame.own-activation:exception-without-traceback"
   setFlight (.ref e) (some L)) Q E s:=pickedZ (by with_unfolding_all rfl) Z75c (sfL (sfu (sfA (sfE (sfR (frC Z75.w Z75.p Z75.loose Z75.mean Z75.mg Z75.mb Z75.dp Z75.un Z75.gd Z75.cn Z75.cs Z75.ca Z75.ccd Z75.cll outer Z75.A₀ base Z75.h₀ L Z75.m s E) [A]) [env]) [e,dx]) [Q]) [news]) M H hQ
end
end
example:True:=by w_top off;trivial
section
open NgM01 NgM01b NgM02 NgM03 NgM09 NgM10 NgM11 NgM12 NgM15 NgM16 NgM18
inductive FnDef (w:World) (f:Addr) (nm ql:Str) (pr:Arguments) (b:List Stmt) (sc:Scope) (cdv:Value):Prop
 | mk (oc:Value) (od:Option Addr) (dV kV doc pm:Value) (an:Option Addr) (ct:Value) (osl:Array (Option Value)) (h:(hd.heap_1 w.params).lookup f=some ⟨oc,od,.func (fnOf nm ql pr b sc dV kV doc pm an cdv ct),osl⟩)
noncomputable abbrev genObjOf (g:Nat) (nm ql:Str) (t1 t2:Tok):Obj:={ cls:=.type "generator",data:=.fields #[.int g 0,.str nm t1,.str ql t2] }
section
variable {news:List (Addr×Obj)} {Q E:Value->Shared->Prop}
noncomputable def Z66P:FrZ->Prop:=fun V=>∀ (C:Cx 30 V.w V.p V.loose V.mean V.mg V.mb V.dp V.un V.cs V.outer V.A₀ V.base V.h₀ V.L V.m V.s) (N:News V.h₀ V.L V.s.heap (V.fL 0)) (ret:∀ LG oG h' tk' pr b sc t1 t2 ga,FnDef V.w 208 "tokenize" "HandLexerBase.tokenize" pr b sc (.ref 207)->Fr V.h₀ V.L h' V.m->News V.h₀ V.L h' ((ga,genObjOf V.s.gens.size "tokenize" "HandLexerBase.tokenize" t1 t2)::(LG,oG)::(V.fL 0)) ->
   h'.Ns LG (fun y=>(([("self",.ref (V.fA 0)),("characters",.ref (V.fA 1)),("start_state",.ref (V.fA 2))] : List (Str×Value)).reverse.lookup y))->(∀ q∈(V.fL 0),q.1<LG)->@LT.lt Nat _ V.L LG->@LT.lt Nat _ LG ga ->
   (V.fQ 0) (.ref ga) { V.s with heap:=h',gens:=V.s.gens.push (.fresh (.func b (envOf "HandLexerBase.tokenize" sc LG 208 (.ref 207)))),toks:=tk' }),wpAny (model pw_rk0009_01 V.w) (ktrTop V.dp V.un V.gd V.cn V.cs V.L V.ca V.ccd V.cll V.outer) (call (.ref 208) [.ref (V.fA 0),.ref (V.fA 1),.ref (V.fA 2)]) (V.fQ 0) V.E V.s
@[irreducible] noncomputable def Z66:FrZ:=pickZ Z66P
set_option maxHeartbeats 4000000 in
theorem Z66c:Z66P Z66:=by
 intro C N ret
 obtain ⟨B,F,X,T,hk,hdp,hun⟩:=C
 have hl:∃ oc od pr b sc dV kV doc pm an ct osl,(hd.heap_1 Z66.w.params).lookup 208=some ⟨oc,od,.func (fnOf "tokenize" "HandLexerBase.tokenize" pr b sc dV kV doc pm an (.ref 207) ct),osl⟩/\sc.isCoroutine=false/\sc.isGenerator=true/\sc.kind=.function /\
   (∀ x∈sc.names,x.2≠.cell)/\(∀ x∈([("self",.ref (Z66.fA 0)),("characters",.ref (Z66.fA 1)),("start_state",.ref (Z66.fA 2))] : List (Str×Value)),sc.names.lookup x.1=some .local) /\
   (∀ s',BindsTo s' (fnOf "tokenize" "HandLexerBase.tokenize" pr b sc dV kV doc pm an (.ref 207) ct) ⟨[.ref (Z66.fA 0),.ref (Z66.fA 1),.ref (Z66.fA 2)],[]⟩ [("self",.ref (Z66.fA 0)),("characters",.ref (Z66.fA 1)),("start_state",.ref (Z66.fA 2))]) :=
  ⟨_,_,_,_,_,_,_,_,_,_,_,_,(by k_is),rfl,rfl,rfl,by decide,locs rfl,fun s'=>BindsTo.of_eq rfl⟩
 refine e8a1 hl fun oc od pr b sc dV kV doc Q21=>?_;clear hl;obtain ⟨pm,an,ct,osl,ho,g1,g2,g3,g4,g5,g6⟩:=Q21
 have X1:=X.keeps F.keep
 have hcd:codeIn (hd.heap_1 Z66.w.params) (.ref 207) "HandLexerBase.tokenize" = true:=by k_is
 refine wpAny_call (codeAny_call_generator (by k_room) (X1 _ _ ho) rfl g1 g2 rfl (codeRec_of X1 hcd) (g6 _ _ _ _ _ ?_))
 refine wpAny_newFunctionEnv g4 g5 (fun h₁ hns hsb=>?_) g3
 have up:∀ b o,Z66.s.heap.get? b=some o->h₁.get? b=some o:=fun b o e=>hsb.extBut b o (Nat.ne_of_lt (Heap.lt_size e)) (Heap.get?_push_of_some _ e)
 have up2:∀ (og:Obj) b o,Z66.s.heap.get? b=some o->(h₁.push og).get? b=some o:=fun og b o e=>Heap.get?_push_of_some _ (up b o e)
 refine ⟨(T.nolimit.keeps F.keep).keeps up,?_⟩
 refine e3a3 hns fun oG es ep hoG hdG hrG=>?_;clear hns
 have hlt:=Heap.lt_size hoG
 have fresh:∀ b,Z66.s.heap.objs.size≤b->Z66.h₀.get? b=none:=fun b hb=>Heap.get?_none_of_le (Nat.le_trans F.above (Nat.le_trans (Nat.le_of_lt F.ns.lt) hb))
 refine ret Z66.s.heap.objs.size oG _ _ pr b sc (Z66.s.toks+3) (Z66.s.toks+3+1) _ ⟨oc,od,dV,kV,doc,pm,an,ct,osl,ho⟩ (F.keeps (up2 _)) (fun q hq=>?_) ⟨oG,es,ep,Heap.get?_push_of_some _ hoG,hdG,hrG⟩ (fun q hq=>Heap.lt_size (N q hq).1) F.ns.lt hlt
 rcases List.mem_cons.mp hq with rfl | hq
 ·exact ⟨Heap.get?_push_size _ rfl,Nat.ne_of_gt (Nat.lt_trans F.ns.lt hlt),fresh _ (Nat.le_of_lt hlt)⟩
 ·rcases List.mem_cons.mp hq with rfl | hq
  ·exact ⟨Heap.get?_push_of_some _ hoG,Nat.ne_of_gt F.ns.lt,fresh _ (Nat.le_refl _)⟩
  ·exact ⟨up2 _ _ _ (N q hq).1,(N q hq).2⟩
theorem tok_call {lx it fs:Addr} (C:Cx 30 w p loose mean mg mb dp un cs outer A₀ base h₀ L m s) (N:News h₀ L s.heap news)
  (ret:∀ LG oG h' tk' pr b sc t1 t2 ga,FnDef w 208 "tokenize" "HandLexerBase.tokenize" pr b sc (.ref 207)->Fr h₀ L h' m->News h₀ L h' ((ga,genObjOf s.gens.size "tokenize" "HandLexerBase.tokenize" t1 t2)::(LG,oG)::news) ->
   h'.Ns LG (fun y=>(([("self",.ref lx),("characters",.ref it),("start_state",.ref fs)] : List (Str×Value)).reverse.lookup y))->(∀ q∈news,q.1<LG)->@LT.lt Nat _ L LG->@LT.lt Nat _ LG ga ->
   Q (.ref ga) { s with heap:=h',gens:=s.gens.push (.fresh (.func b (envOf "HandLexerBase.tokenize" sc LG 208 (.ref 207)))),toks:=tk' }) :
  wpAny (model pw_rk0009_01 w) (ktrTop dp un gd cn cs L ca ccd cll outer) (call (.ref 208) [.ref lx,.ref it,.ref fs]) Q E s:=pickedZ (by with_unfolding_all rfl) Z66c (sfA (sfQ (sfL (frC w p loose mean mg mb dp un gd cn cs ca ccd cll outer A₀ base h₀ L m s E) [news]) [Q]) [lx,it,fs]) C N ret
end
end
example:True:=by w_top off;trivial
section
open NgM01 NgM01b NgM02 NgM03 NgM09 NgM10 NgM11 NgM12 NgM15 NgM16 NgM18
section
variable {news:List (Addr×Obj)} {Q E:Value->Shared->Prop} {fe c':Addr} {oc:Obj} {vs:Array Value} {nm qual:Str} {pr:Arguments} {b:List Stmt} {sc:Scope} {doc pm ctv:Value} {tq:Tok}
structure EndIn (w:World) (rest:List (Addr×Obj)) (fe c':Addr) (oc:Obj) (vs:Array Value) (nm qual:Str) (pr:Arguments) (b:List Stmt) (sc:Scope) (doc pm ctv:Value) (tq:Tok):Prop where
 txt:RunDef w 2 pr b sc
 fn:(fe,fnMade nm qual pr b sc [] doc pm c' ctv)∈rest
 cd:(c',oc)∈rest/\oc.data=.fields vs/\vs[1]?=some (.str qual tq)
set_option maxHeartbeats 4000000 in
theorem ended_c (C:Cx 20 w p loose mean mg mb dp un cs outer A₀ base h₀ L m s) (_C1:CodeHd h₀ 550 548) (Z:EndIn w news fe c' oc vs nm qual pr b sc doc pm ctv tq) (N:News h₀ L s.heap news)
  (ret:∀ h' tk',Fr h₀ L h' m->News h₀ L h' news->Q .none { s with heap:=h',toks:=tk' }) :
  wpAny (model pw_rk0009_01 w) (ktrTop dp un gd cn cs L ca ccd cll outer) (call (.ref fe) []) Q E s:=by
 obtain ⟨B,F,X,T,hk,hdp,hun⟩:=C
 obtain ⟨⟨_,_,_,_,_,b0,_,_,_,_,_,_,_,_,_,ho,hd⟩,zf,⟨zc1,zc2,zc3⟩⟩:=Z
 have e:b0=_:=fn_body ho (by k_is)
 subst e
 have e2:(pr,b,sc)=_:=Option.some.inj (hd.symm.trans (rfl:defAt _ 2=some _))
 injection e2 with e3 e4
 injection e4 with e4 e5
 subst e3 e4 e5
 clear hd ho
 refine wpAny_call ?_
 k_dflt kn_enter
 k_steps
 all_goals exact ret _ _ (by k_asm) (by k_asm)
structure Same (s s':Shared):Prop where
 os:s'.os=s.os
 dr:s'.drawn=s.drawn
 gk:GKeep s.gens s'.gens
end
end
theorem NgB24.gB24:True:=trivial
example:True:=by w_top off;trivial
section
open NgM01 NgM01b NgM02 NgM03 NgM09 NgM10 NgM11 NgM12 NgM15 NgM16 NgM18 NgB24
theorem StartIn.mono {w:World} {a:LexA} {rest rest':List (Addr×Obj)} {fe fs c' cE cL cS:Addr} {oE oL oS oc:Obj} {vs:Array Value} {nm qual:Str} {pr:Arguments} {b:List Stmt} {sc:Scope} {doc pm ctv:Value} {tq:Tok}
  (Z:StartIn w a rest fe fs c' cE cL cS oE oL oS oc vs nm qual pr b sc doc pm ctv tq) (k:∀ q∈rest,q∈rest'):StartIn w a rest' fe fs c' cE cL cS oE oL oS oc vs nm qual pr b sc doc pm ctv tq :=
 ⟨Z.txt,k _ Z.fn,⟨k _ Z.cd.1,Z.cd.2⟩,⟨k _ Z.e.1,Z.e.2⟩,⟨k _ Z.l.1,Z.l.2⟩,⟨k _ Z.s.1,Z.s.2⟩⟩
theorem EndIn.mono {w:World} {rest rest':List (Addr×Obj)} {fe c':Addr} {oc:Obj} {vs:Array Value} {nm qual:Str} {pr:Arguments} {b:List Stmt} {sc:Scope} {doc pm ctv:Value} {tq:Tok}
  (Z:EndIn w rest fe c' oc vs nm qual pr b sc doc pm ctv tq) (k:∀ q∈rest,q∈rest'):EndIn w rest' fe c' oc vs nm qual pr b sc doc pm ctv tq:=⟨Z.txt,k _ Z.fn,⟨k _ Z.cd.1,Z.cd.2⟩⟩
inductive StartP (w:World) (a:LexA) (rest:List (Addr×Obj)) (fe fs:Addr):Prop
 | mk (c' cE cL cS:Addr) (oE oL oS oc:Obj) (vs:Array Value) (nm qual:Str) (pr:Arguments) (b:List Stmt) (sc:Scope) (doc pm ctv:Value) (tq:Tok) (S:StartIn w a rest fe fs c' cE cL cS oE oL oS oc vs nm qual pr b sc doc pm ctv tq)
inductive EndP (w:World) (rest:List (Addr×Obj)) (fe:Addr):Prop
 | mk (c':Addr) (oc:Obj) (vs:Array Value) (nm qual:Str) (pr:Arguments) (b:List Stmt) (sc:Scope) (doc pm ctv:Value) (tq:Tok) (S:EndIn w rest fe c' oc vs nm qual pr b sc doc pm ctv tq)
structure TokS (w:World) (a:LexA) (chars:List Cel) (cl:Addr) (rest0:List (Addr×Obj)) (fe fs:Addr):Prop where
 cl:∃ ep,(cl,listOf (chars.map Cel.ref).toArray ep)∈rest0
 ce:∀ x∈chars,CelIn rest0 x
 one:∀ x∈chars,x.x.length=1
 z:chars.length≤900
 zs:StartP w a rest0 fe fs
 ze:EndP w rest0 fe
theorem TokS.zf {w:World} {a:LexA} {chars:List Cel} {cl:Addr} {rest:List (Addr×Obj)} {fe fs:Addr} (S:TokS w a chars cl rest fe fs):∃ o:FuncData,(fs,(⟨.type "function",none,.func o,#[]⟩:Obj))∈rest:=S.zs.rec fun _ _ _ _ _ _ _ _ _ _ _ _ _ _ _ _ _ _ h=>⟨_,h.fn⟩
theorem TokS.zg {w:World} {a:LexA} {chars:List Cel} {cl:Addr} {rest:List (Addr×Obj)} {fe fs:Addr} (S:TokS w a chars cl rest fe fs):∃ o:FuncData,(fe,(⟨.type "function",none,.func o,#[]⟩:Obj))∈rest:=S.ze.rec fun _ _ _ _ _ _ _ _ _ _ _ _ h=>⟨_,h.fn⟩
theorem TokS.mono {w:World} {a:LexA} {chars:List Cel} {cl:Addr} {rest rest':List (Addr×Obj)} {fe fs:Addr} (S:TokS w a chars cl rest fe fs) (k:∀ q∈rest,q∈rest'):TokS w a chars cl rest' fe fs where
 cl:=S.cl.imp fun _ h=>k _ h
 ce:=fun x h=>(S.ce x h).mono k
 one:=S.one
 z:=S.z
 zs:=S.zs.rec fun _ _ _ _ _ _ _ _ _ _ _ _ _ _ _ _ _ _ h=>⟨_,_,_,_,_,_,_,_,_,_,_,_,_,_,_,_,_,_,h.mono k⟩
 ze:=S.ze.rec fun _ _ _ _ _ _ _ _ _ _ _ _ h=>⟨_,_,_,_,_,_,_,_,_,_,_,_,h.mono k⟩
theorem fn_scope {K:Frag} {f:Addr} {oc oc2:Value} {od od2:Option Addr} {osl osl2:Array (Option Value)} {nm ql nm2 ql2:Str} {pr pr2:Arguments} {b b2:List Stmt} {sc sc2:Scope} {dV kV doc pm cdv ct dV2 kV2 doc2 pm2 cdv2 ct2:Value} {an an2:Option Addr}
  (h:K.lookup f=some ⟨oc,od,.func (fnOf nm ql pr b sc dV kV doc pm an cdv ct),osl⟩) (h2:K.lookup f=some ⟨oc2,od2,.func (fnOf nm2 ql2 pr2 b2 sc2 dV2 kV2 doc2 pm2 an2 cdv2 ct2),osl2⟩):sc=sc2:=by
 rw [h] at h2
 injection h2 with h2
 injection h2 with _ _ h2
 injection h2 with h2
 injection h2
noncomputable abbrev mS (lx it fs:Addr) (v:Value):Str->Option Value:=fun y=>if y = "state" then some v else ([("self",.ref lx),("characters",.ref it),("start_state",.ref fs)] : List (Str×Value)).reverse.lookup y
theorem mS_set (lx it fs:Addr) (v v':Value):(fun y=>if y=("state" : Str) then some v' else mS lx it fs v y)=mS lx it fs v':=by
 funext y
 by_cases h:y = "state"
 ·simp only [mS,h,if_true]
 ·simp only [mS,h,if_false]
noncomputable def popOf (l:List Stmt):Option Expr:=l[2]?.bind fun x=>(stp x).2.1[0]?.bind fun y=>(stp y).2.1[0]?.bind fun z=>(stp z).1[0]?.bind fun e=>(xpp e).1[0]?
noncomputable def asgOf (l:List Stmt):Option (List Stmt):=l[2]?.bind fun x=>tl (stp x).2.1
noncomputable abbrev TokW:Str := "HandLexerBase.tokenize"
theorem noBool_fn:typeLookup (.type "function") "__bool__" = pure none:=by rw [typeLookup_type,builtinLookup_eq_fast];kernel_rfl
theorem noLen_fn:typeLookup (.type "function") "__len__" = pure none:=by rw [typeLookup_type,builtinLookup_eq_fast];kernel_rfl
theorem truthy_fn {M:Model} {A:Around} {E:Value->Shared->Prop} {s:Shared} {q:Addr} {Q:Bool->Shared->Prop} (hT:s.TypeIs (.ref q) "function") (h:Q true s):wpAny M A (truthy (.ref q)) Q E s:=by
 unfold truthy
 first
  | refine wpAny_bind (wpAny_callSpecial?_none (name:=Str.ofString "__bool__") hT noBool_fn ?_)
  | refine wpAny_bind (wpAny_pure (wpAny_bind (wpAny_callSpecial?_none (name:=Str.ofString "__bool__") hT noBool_fn ?_)))
 first
  | refine wpAny_bind (wpAny_specialOf (name:=Str.ofString "__len__") hT noLen_fn ?_)
  | refine wpAny_bind (wpAny_pure (wpAny_bind (wpAny_specialOf (name:=Str.ofString "__len__") hT noLen_fn ?_)))
 show wpAny _ _ (if (none:Option Value).isNone=true then _ else _) _ _ _
 exact wpAny_pure h
theorem truthy_fnK {M:Model} {A:Around} {E:Value->Shared->Prop} {s:Shared} {q:Addr} {Q:Bool->Shared->Prop} {h₀:Heap} {L:Addr} {news:List (Addr×Obj)} {fd:FuncData} (N:News h₀ L s.heap news) (hm:(q,(⟨.type "function",none,.func fd,#[]⟩:Obj))∈news) (h:Q true s):wpAny M A (truthy (.ref q)) Q E s :=
 truthy_fn ⟨_,(N _ hm).1,rfl⟩ h
example:True:=by (k_with "B24" => (fail_if_success (fail_if_success (have:=gB24))));(k_with "truthy ref" => k_extra "B24";(k_here;k_dflt (refine' truthy_fnK ?Y0 ?Y1 ?_;(case Y0=>k_asm);(case Y1=>assumption);k_whole)));trivial
section
variable {LG:Addr} {a:LexA} {st:LexS} {chars:List Cel} {cl fe fs:Addr} {rest:List (Addr×Obj)} {news:List (Addr×Obj)} {ps:Array Value} {pr:Arguments} {b:List Stmt} {sc:Scope} {E:Value->Shared->Prop}
set_option maxHeartbeats 4000000 in
theorem pc_state {p1:Pos} {Q:Bool->Shared->Prop} {q:Addr} {fd:FuncData} (FD:FnDef w 208 "tokenize" TokW pr b sc (.ref 207)) (C:Cx 20 w p loose mean mg mb dp un sc outer A₀ base h₀ LG (mS a.lx a.it fs (.ref q)) s)
  (N:News h₀ LG s.heap news) (hq:(q,(⟨.type "function",none,.func fd,#[]⟩:Obj))∈news) (ret:Q true s) :
  wpAny (model pw_rk0009_01 w) (ktrTop dp un gd TokW sc LG 208 (.ref 207) [] outer) (isTrue (.Name "state" p1) (envX TokW sc LG 208 (.ref 207) []) (eval (.Name "state" p1) (envX TokW sc LG 208 (.ref 207) []))) Q E s:=by
 obtain ⟨_,_,_,_,_,_,_,_,_,ho⟩:=FD
 have e:sc=_:=fn_scope ho (by k_is)
 subst e
 obtain ⟨B,F,X,T,hk,hdp,hun⟩:=C
 k_steps
 all_goals exact ret
set_option maxHeartbeats 4000000 in
theorem pc_none {p1:Pos} {Q:Bool->Shared->Prop} (FD:FnDef w 208 "tokenize" TokW pr b sc (.ref 207)) (C:Cx 20 w p loose mean mg mb dp un sc outer A₀ base h₀ LG (mS a.lx a.it fs .none) s)
  (N:News h₀ LG s.heap news) (ret:Q false s) :
  wpAny (model pw_rk0009_01 w) (ktrTop dp un gd TokW sc LG 208 (.ref 207) [] outer) (isTrue (.Name "state" p1) (envX TokW sc LG 208 (.ref 207) []) (eval (.Name "state" p1) (envX TokW sc LG 208 (.ref 207) []))) Q E s:=by
 obtain ⟨_,_,_,_,_,_,_,_,_,ho⟩:=FD
 have e:sc=_:=fn_scope ho (by k_is)
 subst e
 obtain ⟨B,F,X,T,hk,hdp,hun⟩:=C
 k_steps
 all_goals exact ret
set_option maxHeartbeats 4000000 in
theorem pc_buf {v:Value} {p1 p2:Pos} {Q:Bool->Shared->Prop} (FD:FnDef w 208 "tokenize" TokW pr b sc (.ref 207)) (C:Cx 20 w p loose mean mg mb dp un sc outer A₀ base h₀ LG (mS a.lx a.it fs v) s)
  (N:News h₀ LG s.heap (lexLed a st rest)) (hz:st.tb.length≤1000) (ret:∀ tk',Q (!st.tb.isEmpty) { s with toks:=tk' }) :
  wpAny (model pw_rk0009_01 w) (ktrTop dp un gd TokW sc LG 208 (.ref 207) [] outer) (isTrue (.Attribute (.Name "self" p1) "token_buffer" p2) (envX TokW sc LG 208 (.ref 207) []) (eval (.Attribute (.Name "self" p1) "token_buffer" p2) (envX TokW sc LG 208 (.ref 207) []))) Q E s:=by
 obtain ⟨_,_,_,_,_,_,_,_,_,ho⟩:=FD
 have e:sc=_:=fn_scope ho (by k_is)
 subst e
 obtain ⟨B,F,X,T,hk,hdp,hun⟩:=C
 obtain ⟨tb,pb,ct,io,tn,pn,cnn⟩:=st
 cases tb with
 | nil =>
  k_steps
  all_goals exact ret _
 | cons x r =>
  have hz:(x::r).length≤1000000:=Nat.le_trans hz (by decide)
  k_steps
  all_goals exact ret _
theorem lx_pop_tb {A:Around} {E:Value->Shared->Prop} {m:Str->Option Value} {c:Value} {r:List Value} {u:Tok} {Q:Value->Shared->Prop} (D:LexD a rest) (F:Fr h₀ LG s.heap m) (N:News h₀ LG s.heap (lexLed a st rest)) (e:st.tb=c::r) (hz:st.tb.length≤1000)
  (h:∀ h' k,Fr h₀ LG h' m->News h₀ LG h' (lexLed a { st with tb:=r,tn:=k } rest)->Q c { s with heap:=h' }):wpAny (model pw_rk0009_01 w) A (call (.builtin "list.pop") [.ref a.tb,.int 0 u]) Q E s:=by
 refine kl_popAt (its:=st.tb.toArray) (n:=st.tn) (k:=0) (p:=[]) (q:=r) (y:=c) F N (by rfl) (by rw [e];simp [seqIndex?]) (by rw [e];rfl) (lexD_tb D) (by rw [sizeLine_eq];simp;omega) fun h' F' N'=>?_
 exact h h' _ F' N'
example:True:=by (k_with "call builtin:list.pop" => k_extra "B24";(k_here;k_dflt (refine' lx_pop_tb ?Y0 ?Y1 ?Y2 ?Y3 ?Y4 ?_;(case Y2=>k_asm);(case Y0=>assumption);(case Y1=>k_asm);(case Y3=>exact rfl);(case Y4=>assumption);k_whole;intro Y5 Y6 Y7 Y8)));trivial
set_option maxHeartbeats 4000000 in
theorem pc_pop {v x:Value} {r:List Value} {ex:Expr} {Q:Value->Shared->Prop} (FD:FnDef w 208 "tokenize" TokW pr b sc (.ref 207)) (C:Cx 20 w p loose mean mg mb dp un sc outer A₀ base h₀ LG (mS a.lx a.it fs v) s)
  (hp:popOf b=some ex) (D:LexD a rest) (N:News h₀ LG s.heap (lexLed a st rest)) (htb:st.tb=x::r) (hz:st.tb.length≤1000) (ret:∀ h' tk' k,Fr h₀ LG h' (mS a.lx a.it fs v)->News h₀ LG h' (lexLed a { st with tb:=r,tn:=k } rest)->Q x { s with heap:=h',toks:=tk' }) :
  wpAny (model pw_rk0009_01 w) (ktrTop dp un gd TokW sc LG 208 (.ref 207) [] outer) (eval ex (envX TokW sc LG 208 (.ref 207) [])) Q E s:=by
 obtain ⟨_,_,_,_,_,_,_,_,_,ho⟩:=FD
 have e:sc=_:=fn_scope ho (by k_is)
 subst e
 have e:b=_:=fn_body ho (by k_is)
 subst e
 have e2:ex=_:=Option.some.inj (hp.symm.trans (rfl:popOf _=some _))
 subst e2
 clear hp ho
 obtain ⟨B,F,X,T,hk,hdp,hun⟩:=C
 obtain ⟨tb,pb,ct,io,tn,pn,cnn⟩:=st
 dsimp only at htb hz
 subst htb
 k_steps
 all_goals exact ret _ _ _ (by k_asm) (by k_asm)
end
end
theorem NgB25.gB25:True:=trivial
example:True:=by w_top off;trivial
section
open NgM01 NgM01b NgM02 NgM03 NgM09 NgM10 NgM11 NgM12 NgM15 NgM16 NgM18 NgB25
noncomputable def lcOf:List Cel->Addr
 | x::_=>x.lc
 | []=>0
section
variable {a:LexA} {chars:List Cel} {cl:Addr} {st:LexS} {rest:List (Addr×Obj)} {Q E:Value->Shared->Prop} {fe fs:Addr}
noncomputable def Z55P:FrZ->Prop:=fun V=>∀ (str cc:List Cel) (typ:Str) (ht:turn str=some (.ok (typ,cc,(V.fC 1)))) (C:Cx 120 V.w V.p V.loose V.mean V.mg V.mb V.dp V.un V.cs V.outer V.A₀ V.base V.h₀ V.L V.m V.s) (C1:CodeHd V.h₀ 550 548) (Z:TokS V.w (V.fa 0) (V.fC 0) (V.fA 0) (V.fL 0) (V.fA 1) (V.fA 2)) (I:LexI (V.fa 0) (V.fC 0) (V.fA 0) ((225,tabObj (V.fW 0))::(V.fL 0)) (V.fx 0) str) (N:News V.h₀ V.L V.s.heap (emLed (V.fa 0) (V.fx 0) (V.fW 0) (V.fL 0))) (hct:(V.fx 0).ct=[]) (hps:EmTab emPos (V.fW 0)) (hb:(V.fx 0).tb.length≤1000) (hs:∀ x∈str,x∈(V.fC 0)) (hz:str.length≤900) (ret:EmitRetF (V.fa 0) (V.fC 0) (V.fA 0) (V.fL 0) V.h₀ V.L V.m V.s (V.fQ 0) (V.fC 1) cc typ (lcOf cc) (V.fx 0).tb (.ref (V.fA 2))),wpAny (model pw_rk0009_01 V.w) (ktrTop V.dp V.un V.gd V.cn V.cs V.L V.ca V.ccd V.cll V.outer) (call (.ref (V.fA 2)) []) (V.fQ 0) V.E V.s
@[irreducible] noncomputable def Z55:FrZ:=pickZ Z55P
theorem Z55c:Z55P Z55:=by
 intro str cc typ ht C C1 Z I N hct hps hb hs hz ret
 obtain ⟨_,_,_,_,_,_,_,_,_,_,_,_,_,_,_,_,_,_,S⟩:=Z.zs
 cases str with
 | nil=>cases ht
 | cons x r =>
  have hstr:∀ y∈x::r,CelIn (Z55.fL 0) y:=fun y hy=>Z.ce y (hs y hy)
  have h2:∀ y∈x::r,y.x.length=1:=fun y hy=>Z.one y (hs y hy)
  unfold turn at ht
  dsimp only at ht
  cases hq:x.x==("'" : Str) with
  | true =>
   rw [hq,if_pos rfl] at ht
   cases hl:lexC r with
   | error l=>rw [hl] at ht;cases ht
   | ok cm =>
    obtain ⟨c,m'⟩:=cm
    rw [hl] at ht
    cases ht
    exact start_quote C C1 S I N hct hps hb Z.cl Z.ce hstr h2 hz hq hl ret
  | false =>
   rw [hq,if_neg Bool.false_ne_true] at ht
   cases hi:inS "L$" x.x with
   | false =>
    rw [hi,Bool.false_and,if_neg Bool.false_ne_true] at ht
    cases ht
    exact start_one_no C C1 S I N hct hps hb Z.cl Z.ce hstr h2 hz hq hi ret
   | true =>
    rw [hi,Bool.true_and] at ht
    cases ha:accB "'" r with
    | false =>
     rw [ha,if_neg Bool.false_ne_true] at ht
     cases ht
     exact start_one_yes C C1 S I N hct hps hb Z.cl Z.ce hstr h2 hz hq hi ha ret
    | true =>
     rw [ha,if_pos rfl] at ht
     cases hl:lexC (accS "'" r) with
     | error l=>rw [hl] at ht;cases ht
     | ok cm =>
      obtain ⟨c,m'⟩:=cm
      rw [hl] at ht
      cases ht
      exact start_two C C1 S I N hct hps hb Z.cl Z.ce hstr h2 hz hq hi ha hl ret
theorem start_tok {str cc mr:List Cel} {typ:Str} {ps:Array Value} (ht:turn str=some (.ok (typ,cc,mr))) (C:Cx 120 w p loose mean mg mb dp un cs outer A₀ base h₀ L m s) (C1:CodeHd h₀ 550 548) (Z:TokS w a chars cl rest fe fs) (I:LexI a chars cl ((225,tabObj ps)::rest) st str) (N:News h₀ L s.heap (emLed a st ps rest))
  (hct:st.ct=[]) (hps:EmTab emPos ps) (hb:st.tb.length≤1000) (hs:∀ x∈str,x∈chars) (hz:str.length≤900)
  (ret:EmitRetF a chars cl rest h₀ L m s Q mr cc typ (lcOf cc) st.tb (.ref fs)) :
  wpAny (model pw_rk0009_01 w) (ktrTop dp un gd cn cs L ca ccd cll outer) (call (.ref fs) []) Q E s:=pickedZ (by with_unfolding_all rfl) Z55c (sfW (sfQ (sfL (sfx (sfA (sfC (sfa (frC w p loose mean mg mb dp un gd cn cs ca ccd cll outer A₀ base h₀ L m s E) [a]) [chars,mr]) [cl,fe,fs]) [st]) [rest]) [Q]) [ps]) str cc typ ht C C1 Z I N hct hps hb hs hz ret
theorem start_bad {str:List Cel} {l:Value} {ps:Array Value} (ht:turn str=some (.error l)) (C:Cx 120 w p loose mean mg mb dp un cs outer A₀ base h₀ L m s) (C1:CodeHd h₀ 550 548) (Z:TokS w a chars cl rest fe fs) (I:LexI a chars cl ((225,tabObj ps)::rest) st str) (N:News h₀ L s.heap (emLed a st ps rest))
  (hct:st.ct=[]) (hps:EmTab emPos ps) (hb:st.tb.length≤1000) (hs:∀ x∈str,x∈chars) (hz:str.length≤900)
  (ret:ErrRet base (envX cn cs L ca ccd cll) outer ((225,tabObj ps)::rest) h₀ L m s E l) :
  wpAny (model pw_rk0009_01 w) (ktrTop dp un gd cn cs L ca ccd cll outer) (call (.ref fs) []) Q E s:=by
 obtain ⟨_,_,_,_,_,_,_,_,_,_,_,_,_,_,_,_,_,_,S⟩:=Z.zs
 cases str with
 | nil=>cases ht
 | cons x r =>
  have hstr:∀ y∈x::r,CelIn rest y:=fun y hy=>Z.ce y (hs y hy)
  have h2:∀ y∈x::r,y.x.length=1:=fun y hy=>Z.one y (hs y hy)
  unfold turn at ht
  dsimp only at ht
  cases hq:x.x==("'" : Str) with
  | true =>
   rw [hq,if_pos rfl] at ht
   cases hl:lexC r with
   | ok cm=>rw [hl] at ht;cases ht
   | error l' =>
    rw [hl] at ht
    cases ht
    exact start_quote_err C C1 S I N hct hps hb Z.cl Z.ce hstr h2 hz hq hl ret
  | false =>
   rw [hq,if_neg Bool.false_ne_true] at ht
   cases hi:inS "L$" x.x with
   | false =>
    rw [hi,Bool.false_and,if_neg Bool.false_ne_true] at ht
    cases ht
   | true =>
    rw [hi,Bool.true_and] at ht
    cases ha:accB "'" r with
    | false =>
     rw [ha,if_neg Bool.false_ne_true] at ht
     cases ht
    | true =>
     rw [ha,if_pos rfl] at ht
     cases hl:lexC (accS "'" r) with
     | ok cm=>rw [hl] at ht;cases ht
     | error l' =>
      rw [hl] at ht
      cases ht
      exact start_two_err C C1 S I N hct hps hb Z.cl Z.ce hstr h2 hz hq hi ha hl ret
theorem start_end {ps:Array Value} (C:Cx 120 w p loose mean mg mb dp un cs outer A₀ base h₀ L m s) (C1:CodeHd h₀ 550 548) (Z:TokS w a chars cl rest fe fs) (I:LexI a chars cl ((225,tabObj ps)::rest) st []) (N:News h₀ L s.heap (emLed a st ps rest))
  (ret:LexRetI a chars cl ((225,tabObj ps)::rest) h₀ L m s Q [] st.ct st.tb (.ref fe)) :
  wpAny (model pw_rk0009_01 w) (ktrTop dp un gd cn cs L ca ccd cll outer) (call (.ref fs) []) Q E s:=by
 obtain ⟨_,_,_,_,_,_,_,_,_,_,_,_,_,_,_,_,_,_,S⟩:=Z.zs
 exact start_nil C C1 S I N ret
end
section
variable {LG:Addr} {a:LexA} {st:LexS} {chars:List Cel} {cl fe fs:Addr} {rest:List (Addr×Obj)} {ps:Array Value} {pr:Arguments} {b:List Stmt} {sc:Scope} {Q:Flow->Shared->Prop} {E:Value->Shared->Prop}
example:True:=by (k_with "B25" => (fail_if_success (fail_if_success (have:=gB25))));(k_with "call ref" => k_extra "B25";(k_here;k_dflt (first | (refine' start_tok ?Y0 ?Y1 ?Y2 ?Y3 ?Y4 ?Y5 ?Y6 ?Y7 ?Y8 ?Y9 ?Y10 ?_;(case Y0=>assumption);(case Y4=>assumption);(case Y1=>exact ⟨by k_asm,by k_asm,by k_asm,by k_asm,by first | exact rfl | assumption,by ((try dsimp only [ktrTop,Around.deeper]);omega),by ((try dsimp only [ktrTop,Around.deeper]);omega)⟩);(case Y2=>assumption);(case Y3=>assumption);(case Y5=>k_asm);(case Y6=>assumption);(case Y7=>assumption);(case Y8=>assumption);(case Y9=>assumption);(case Y10=>assumption);k_whole;intro Y11 Y12 Y13 Y14 Y15 Y16 Y17 Y18 Y19 Y20 Y21 Y22 Y23 Y24 Y25 Y26) | (refine' start_bad ?Y0 ?Y1 ?Y2 ?Y3 ?Y4 ?Y5 ?Y6 ?Y7 ?Y8 ?Y9 ?Y10 ?_;(case Y0=>assumption);(case Y4=>assumption);(case Y1=>exact ⟨by k_asm,by k_asm,by k_asm,by k_asm,by first | exact rfl | assumption,by ((try dsimp only [ktrTop,Around.deeper]);omega),by ((try dsimp only [ktrTop,Around.deeper]);omega)⟩);(case Y2=>assumption);(case Y3=>assumption);(case Y5=>k_asm);(case Y6=>assumption);(case Y7=>assumption);(case Y8=>assumption);(case Y9=>assumption);(case Y10=>assumption);k_whole;intro Y27 Y28 Y29 Y16 Y14 Y12 Y13 Y24 Y30 Y31 Y32 Y33) | (refine' start_end ?Y1 ?Y2 ?Y3 ?Y4 ?Y5 ?_;(case Y4=>assumption);(case Y1=>exact ⟨by k_asm,by k_asm,by k_asm,by k_asm,by first | exact rfl | assumption,by ((try dsimp only [ktrTop,Around.deeper]);omega),by ((try dsimp only [ktrTop,Around.deeper]);omega)⟩);(case Y2=>assumption);(case Y3=>assumption);(case Y5=>k_asm);k_whole;intro Y11 Y12 Y13 Y20 Y22 Y23 Y24 Y25))));trivial
set_option maxHeartbeats 4000000 in
theorem pc_go {str cc mr:List Cel} {typ:Str} {asg:List Stmt} (FD:FnDef w 208 "tokenize" TokW pr b sc (.ref 207)) (hp:asgOf b=some asg) (C:Cx 130 w p loose mean mg mb dp un sc outer A₀ base h₀ LG (mS a.lx a.it fs (.ref fs)) s)
  (C1:CodeHd h₀ 550 548) (Z:TokS w a chars cl rest fe fs) (I:LexI a chars cl ((225,tabObj ps)::rest) st str) (N:News h₀ LG s.heap (emLed a st ps rest))
  (hct:st.ct=[]) (hps:EmTab emPos ps) (hb:st.tb.length≤1000) (hs:∀ x∈str,x∈chars) (hz:str.length≤900) (ht:turn str=some (.ok (typ,cc,mr)))
  (ret:∀ st' h' tk' g' ps' k,k.typ=typ->k.val=catS cc->k.lc=lcOf cc->LexI a chars cl ((225,tabObj ps')::tokRest k rest) st' mr->EmTab emPos ps'->st'.ct=[]->st'.tb=st.tb++[.ref k.t]->Fr h₀ LG h' (mS a.lx a.it fs (.ref fs)) ->
   News h₀ LG h' (emLed a st' ps' (tokRest k rest))->GKeep s.gens g'->Q .next { s with heap:=h',gens:=g',toks:=tk' }) :
  wpAny (model pw_rk0009_01 w) (ktrTop dp un gd TokW sc LG 208 (.ref 207) [] outer) (execs asg (envX TokW sc LG 208 (.ref 207) [])) Q E s:=by
 obtain ⟨_,_,_,_,_,_,_,_,_,ho⟩:=FD
 have e:sc=_:=fn_scope ho (by k_is)
 subst e
 have e:b=_:=fn_body ho (by k_is)
 subst e
 have e2:asg=_:=Option.some.inj (hp.symm.trans (rfl:asgOf _=some _))
 subst e2
 clear hp ho
 obtain ⟨B,F,X,T,hk,hdp,hun⟩:=C
 have zf:=Z.zf
 refine e1a1 zf ?_;clear zf;intro fo zf
 k_steps
 all_goals exact ret _ _ _ _ _ _ (by assumption) (by assumption) (by assumption) (by assumption) (by assumption) (by assumption) (by assumption) (by rw [<- mS_set a.lx a.it fs (.ref fs) (.ref fs)];k_asm) (by k_asm) (by assumption)
set_option maxHeartbeats 4000000 in
theorem pc_bad {str:List Cel} {l:Value} {asg:List Stmt} (FD:FnDef w 208 "tokenize" TokW pr b sc (.ref 207)) (hp:asgOf b=some asg) (C:Cx 130 w p loose mean mg mb dp un sc outer A₀ base h₀ LG (mS a.lx a.it fs (.ref fs)) s)
  (C1:CodeHd h₀ 550 548) (Z:TokS w a chars cl rest fe fs) (I:LexI a chars cl ((225,tabObj ps)::rest) st str) (N:News h₀ LG s.heap (emLed a st ps rest))
  (hct:st.ct=[]) (hps:EmTab emPos ps) (hb:st.tb.length≤1000) (hs:∀ x∈str,x∈chars) (hz:str.length≤900) (ht:turn str=some (.error l))
  (ret:ErrRet base (envX TokW sc LG 208 (.ref 207) []) outer ((225,tabObj ps)::rest) h₀ LG (mS a.lx a.it fs (.ref fs)) s E l) :
  wpAny (model pw_rk0009_01 w) (ktrTop dp un gd TokW sc LG 208 (.ref 207) [] outer) (execs asg (envX TokW sc LG 208 (.ref 207) [])) Q E s:=by
 obtain ⟨_,_,_,_,_,_,_,_,_,ho⟩:=FD
 have e:sc=_:=fn_scope ho (by k_is)
 subst e
 have e:b=_:=fn_body ho (by k_is)
 subst e
 have e2:asg=_:=Option.some.inj (hp.symm.trans (rfl:asgOf _=some _))
 subst e2
 clear hp ho
 obtain ⟨B,F,X,T,hk,hdp,hun⟩:=C
 have zf:=Z.zf
 refine e1a1 zf ?_;clear zf;intro fo zf
 k_steps
 all_goals exact ret _ _ _ _ _ _ _ (by assumption) (by assumption) (by assumption) (by assumption) (by assumption)
set_option maxHeartbeats 4000000 in
theorem pc_end {asg:List Stmt} (FD:FnDef w 208 "tokenize" TokW pr b sc (.ref 207)) (hp:asgOf b=some asg) (C:Cx 130 w p loose mean mg mb dp un sc outer A₀ base h₀ LG (mS a.lx a.it fs (.ref fs)) s)
  (C1:CodeHd h₀ 550 548) (Z:TokS w a chars cl rest fe fs) (I:LexI a chars cl ((225,tabObj ps)::rest) st []) (N:News h₀ LG s.heap (emLed a st ps rest))
  (ret:LexRetI a chars cl ((225,tabObj ps)::rest) h₀ LG (mS a.lx a.it fs (.ref fe)) s (fun _ s'=>Q .next s') [] st.ct st.tb .none) :
  wpAny (model pw_rk0009_01 w) (ktrTop dp un gd TokW sc LG 208 (.ref 207) [] outer) (execs asg (envX TokW sc LG 208 (.ref 207) [])) Q E s:=by
 obtain ⟨_,_,_,_,_,_,_,_,_,ho⟩:=FD
 have e:sc=_:=fn_scope ho (by k_is)
 subst e
 have e:b=_:=fn_body ho (by k_is)
 subst e
 have e2:asg=_:=Option.some.inj (hp.symm.trans (rfl:asgOf _=some _))
 subst e2
 clear hp ho
 obtain ⟨B,F,X,T,hk,hdp,hun⟩:=C
 have zf:=Z.zf
 refine e1a1 zf ?_;clear zf;intro fo zf
 k_steps
 all_goals exact ret _ _ _ (by assumption) (by assumption) (by assumption) (by rw [<- mS_set a.lx a.it fs (.ref fs) (.ref fe)];k_asm) (by k_asm)
example:True:=by (k_with "call ref" => k_extra "B25";(k_here;k_dflt (refine' ended_c ?Y0 ?Y1 ?Y2 ?Y3 ?_;(case Y2=>assumption);(case Y0=>exact ⟨by k_asm,by k_asm,by k_asm,by k_asm,by first | exact rfl | assumption,by ((try dsimp only [ktrTop,Around.deeper]);omega),by ((try dsimp only [ktrTop,Around.deeper]);omega)⟩);(case Y1=>assumption);(case Y3=>k_asm);k_whole;intro Y4 Y5 Y6 Y7)));trivial
set_option maxHeartbeats 4000000 in
theorem pc_stop {asg:List Stmt} (FD:FnDef w 208 "tokenize" TokW pr b sc (.ref 207)) (hp:asgOf b=some asg) (C:Cx 130 w p loose mean mg mb dp un sc outer A₀ base h₀ LG (mS a.lx a.it fs (.ref fe)) s)
  (C1:CodeHd h₀ 550 548) (Z:TokS w a chars cl rest fe fs) (N:News h₀ LG s.heap rest)
  (ret:∀ h' tk',Fr h₀ LG h' (mS a.lx a.it fs .none)->News h₀ LG h' rest->Q .next { s with heap:=h',toks:=tk' }) :
  wpAny (model pw_rk0009_01 w) (ktrTop dp un gd TokW sc LG 208 (.ref 207) [] outer) (execs asg (envX TokW sc LG 208 (.ref 207) [])) Q E s:=by
 obtain ⟨_,_,_,_,_,_,_,_,_,ho⟩:=FD
 have e:sc=_:=fn_scope ho (by k_is)
 subst e
 have e:b=_:=fn_body ho (by k_is)
 subst e
 have e2:asg=_:=Option.some.inj (hp.symm.trans (rfl:asgOf _=some _))
 subst e2
 clear hp ho
 obtain ⟨B,F,X,T,hk,hdp,hun⟩:=C
 obtain ⟨_,_,_,_,_,_,_,_,_,_,_,_,S⟩:=Z.ze
 have zf:=S.fn
 k_steps
 all_goals exact ret _ _ (by rw [<- mS_set a.lx a.it fs (.ref fe) .none];k_asm) (by k_asm)
end
end
theorem NgB26.gB26:True:=trivial
example:True:=by w_top off;trivial
section
open NgM01 NgM01b NgM02 NgM03 NgM09 NgM10 NgM11 NgM12 NgM15 NgM16 NgM18 NgB26
noncomputable def iniOf (l:List Stmt):Option (Stmt×Stmt):=match l with
 | [x,y,_]=>some (x,y)
 | _=>none
noncomputable abbrev m0 (lx it fs:Addr):Str->Option Value:=fun y=>([("self",.ref lx),("characters",.ref it),("start_state",.ref fs)] : List (Str×Value)).reverse.lookup y
example:True:=by (k_with "k_all" => (fail_if_success (fail_if_success (have:=gB26)));assumption);trivial
section
variable {LG:Addr} {a:LexA} {st:LexS} {fs:Addr} {rest:List (Addr×Obj)} {ps:Array Value} {pr:Arguments} {b:List Stmt} {sc:Scope} {Q:Flow->Shared->Prop} {E:Value->Shared->Prop}
set_option maxHeartbeats 4000000 in
theorem pc_s0 {x y:Stmt} {tn pn cn it:Nat} (FD:FnDef w 208 "tokenize" TokW pr b sc (.ref 207)) (hp:iniOf b=some (x,y)) (C:Cx 30 w p loose mean mg mb dp un sc outer A₀ base h₀ LG (m0 a.lx it fs) s)
  (N:News h₀ LG s.heap (preLed a tn pn cn rest)) (d1:∀ q∈rest,q.1≠a.dx) (d2:a.dx<a.lx) (d3:a.lx<a.tb) (d4:a.tb<a.pb) (d5:a.pb<a.ct)
  (ret:∀ h' tk' h5 t5,Fr h₀ LG h' (m0 a.lx it fs)->News h₀ LG h' ((a.lx,instObj 390 a.dx)::(a.dx,dictOf (preDict a++[⟨h5,.str "characters" t5,.ref it⟩]) 5)::(a.tb,listOf #[] tn)::(a.pb,listOf #[] pn)::(a.ct,listOf #[] cn)::rest)->Q .next { s with heap:=h',toks:=tk' }) :
  wpAny (model pw_rk0009_01 w) (ktrTop dp un gd TokW sc LG 208 (.ref 207) [] outer) (exec x (envX TokW sc LG 208 (.ref 207) [])) Q E s:=by
 obtain ⟨_,_,_,_,_,_,_,_,_,ho⟩:=FD
 have e:sc=_:=fn_scope ho (by k_is)
 subst e
 have e:b=_:=fn_body ho (by k_is)
 subst e
 have e2:(x,y)=_:=Option.some.inj (hp.symm.trans (rfl:iniOf _=some _))
 injection e2 with e2 e3
 subst e2 e3
 clear hp ho
 obtain ⟨B,F,X,T,hk,hdp,hun⟩:=C
 have d2:=ltN d2
 have d3:=ltN d3
 have d4:=ltN d4
 have d5:=ltN d5
 k_steps
 rename News h₀ LG _ _=>kN
 exact ret _ _ _ _ (by k_asm) kN
set_option maxHeartbeats 4000000 in
theorem pc_s1 {x y:Stmt} {it:Addr} {news:List (Addr×Obj)} (FD:FnDef w 208 "tokenize" TokW pr b sc (.ref 207)) (hp:iniOf b=some (x,y)) (C:Cx 30 w p loose mean mg mb dp un sc outer A₀ base h₀ LG (m0 a.lx it fs) s)
  (N:News h₀ LG s.heap news)
  (ret:∀ h' tk',Fr h₀ LG h' (mS a.lx it fs (.ref fs))->News h₀ LG h' news->Q .next { s with heap:=h',toks:=tk' }) :
  wpAny (model pw_rk0009_01 w) (ktrTop dp un gd TokW sc LG 208 (.ref 207) [] outer) (exec y (envX TokW sc LG 208 (.ref 207) [])) Q E s:=by
 obtain ⟨_,_,_,_,_,_,_,_,_,ho⟩:=FD
 have e:sc=_:=fn_scope ho (by k_is)
 subst e
 have e:b=_:=fn_body ho (by k_is)
 subst e
 have e2:(x,y)=_:=Option.some.inj (hp.symm.trans (rfl:iniOf _=some _))
 injection e2 with e2 e3
 subst e2 e3
 clear hp ho
 obtain ⟨B,F,X,T,hk,hdp,hun⟩:=C
 k_steps
 all_goals exact ret _ _ (by k_asm) (by k_asm)
end
end
example:True:=by w_top off;trivial
section
open NgM01 NgM01b NgM02 NgM03 NgM09 NgM10 NgM11 NgM12 NgM15 NgM16 NgM18
theorem tok_shape {w:World} {pr:Arguments} {b:List Stmt} {sc:Scope} (FD:FnDef w 208 "tokenize" TokW pr b sc (.ref 207)) :
  ∃ p1 p2 p3 x y ex yp ep wp1 wp0 asg,b=[x,y,.While (.Name "state" p1) (.While (.Attribute (.Name "self" p2) "token_buffer" p3) [.Expr (.Yield (some ex) yp) ep] [] wp1::asg) [] wp0]/\sc.isCoroutine=false/\sc.kind=.function:=by
 obtain ⟨_,_,_,_,_,_,_,_,_,ho⟩:=FD
 have e:sc=_:=fn_scope ho (by k_is)
 subst e
 have e:b=_:=fn_body ho (by k_is)
 subst e
 exact ⟨_,_,_,_,_,_,_,_,_,_,_,rfl,rfl,rfl⟩
noncomputable abbrev wrT (a:LexA) (LG:Addr):List Addr:=[LG,a.dx,a.tb,a.pb,a.ct,a.it,225]
structure TState (a:LexA) (chars:List Cel) (cl:Addr) (rest0:List (Addr×Obj)) (LG fs:Addr) (h:Heap) (st:LexS) (ps:Array Value) (str:List Cel):Prop where
 has:Has h (emLed a st ps rest0)
 ns:h.Ns LG (mS a.lx a.it fs (.ref fs))
 lex:LexI a chars cl ((225,tabObj ps)::rest0) st str
 ct:st.ct=[]
 tb:st.tb=[]
 tab:EmTab emPos ps
 sub:∀ x∈str,x∈chars
noncomputable abbrev envR (cn:Str) (cs:Scope) (LR ca:Addr) (ccd:Value) (cll:List (Str×Addr)):Env:=envX cn cs LR ca ccd cll
noncomputable def YTok (a:LexA) (chars:List Cel) (cl:Addr) (rest0:List (Addr×Obj)) (LG fs:Addr) (g0:Heap) (LR:Addr) (stm:Nat->List Cel):Protocol:=fun n s₀ v s₁ kap =>
 ∃ st ps k typ cc,turn (stm (n+1))=some (.ok (typ,cc,stm n))/\v=.ref k.t/\k.typ=typ/\k.val=catS cc/\k.lc=lcOf cc/\TState a chars cl rest0 LG fs s₁.heap st ps (stm n) /\
  s₁.heap.get? k.t=some (tokObj k)/\s₁.heap.get? k.td=some (dictOf [] 0)/\s₀.heap.get? k.t=none/\s₀.heap.get? k.td=none/\k.t≠k.td/\KeepBut (wrT a LG) s₀.heap s₁.heap/\Same s₀ s₁ /\
  ∀ s'',TState a chars cl rest0 LG fs s''.heap st ps (stm n)->(∃ mR,Fr g0 LR s''.heap mR)->kap (.send .none) s''
noncomputable def PTok (a:LexA) (LG:Addr) (stm:Nat->List Cel) (n:Nat) (s₀ s₁:Shared):Prop:=n=0/\turn (stm 0)=none/\KeepBut (wrT a LG) s₀.heap s₁.heap/\Same s₀ s₁/\GrownAt 225 s₁.heap
noncomputable def PErrTok (base:Heap) (l:List Env) (a:LexA) (LG:Addr) (g0:Heap) (LR:Addr) (stm:Nat->List Cel) (n:Nat) (s₀:Shared) (e:Addr) (s₁:Shared):Prop :=
 n=0/\∃ loc dx D k ps,turn (stm 0)=some (.error loc)/\RaisedX base l e dx ((dx,dictOf D k)::(225,tabObj ps)::allBut s₀.heap (gndH s₀.heap g0 LR LG) (a.lx::wrT a LG)) s₁.heap/\D.length≤3/\getL "loc" D=some (some loc) /\
  (gndH s₀.heap g0 LR LG).UpToSlots s₁.heap/\Same s₀ s₁
noncomputable abbrev RTok (base:Heap) (l:List Env) (a:LexA) (LG:Addr) (g0:Heap) (LR:Addr) (stm:Nat->List Cel):GenEnd:=fun n s₀ r s₁ =>
 (r=.ok (.ret .none)/\PTok a LG stm n s₀ s₁)\/∃ e,r=.error (.ref e)/\PErrTok base l a LG g0 LR stm n s₀ e s₁
section
variable {g0:Heap} {LR LG:Addr} {a:LexA} {chars:List Cel} {cl fe fs:Addr} {rest0:List (Addr×Obj)} {stm:Nat->List Cel} {pr:Arguments} {b:List Stmt} {sc:Scope}
structure TokG (w:World) (p:Program) (loose:List Str) (mean:ExcName->Option Value) (mg mb:Str->Option Value) (dp un:Nat) (cs:Scope) (outer:List Env) (A₀:Around) (base g0:Heap) (LR LG:Addr)
  (a:LexA) (chars:List Cel) (cl fe fs:Addr) (rest0:List (Addr×Obj)) (stm:Nat->List Cel) (N:Nat) (pr:Arguments) (b:List Stmt) (sc:Scope):Prop where
 B:Below A₀ base outer g0
 X:(hd.heap_1 w.params).In g0
 T:Top p loose mean mg mb g0
 C1:CodeHd g0 550 548
 hk:cs.kind=.function
 hdp:dp+200<900
 hun:un+8 * 200<9000
 lt : @LT.lt Nat _ LR LG
 Z:TokS w a chars cl rest0 fe fs
 adr:∀ x∈a.lx::a.dx::a.tb::a.pb::a.ct::a.it::225::rest0.map (·.1),x≠LG/\x≠LR/\g0.get? x=none
 FD:FnDef w 208 "tokenize" TokW pr b sc (.ref 207)
 go:∀ n,n<N->∃ typ cc,turn (stm (n+1))=some (.ok (typ,cc,stm n))
 fin:turn (stm 0)=none\/∃ l,turn (stm 0)=some (.error l)
theorem TokG.led {N:Nat} (G:TokG w p loose mean mg mb dp un cs outer A₀ base g0 LR LG a chars cl fe fs rest0 stm N pr b sc) (st:LexS) (ps:Array Value):∀ q∈emLed a st ps rest0,q.1≠LG/\q.1≠LR/\g0.get? q.1=none:=fun q hq =>
 G.adr q.1 (by
  have:q.1∈(emLed a st ps rest0).map (·.1):=List.mem_map_of_mem hq
  simpa [emLed,lexLed] using this)
theorem nodup_ext {l:List Addr} {r:List Addr} (h1:l.Nodup) (h2:r.Nodup) (h:∀ x∈r,x∉l):(l++r).Nodup:=List.nodup_append.mpr ⟨h1,h2,fun x hx y hy e=>h y hy (e▸hx)⟩
theorem TokG.ground {N:Nat} (G:TokG w p loose mean mg mb dp un cs outer A₀ base g0 LR LG a chars cl fe fs rest0 stm N pr b sc) {A:Around} {st:LexS} {ps:Array Value} {str:List Cel} {mR:Str->Option Value}
  (hA:A.frames=some (envX cn cs LR ca ccd cll::outer)) (F:Fr g0 LR s.heap mR) (S:TState a chars cl rest0 LG fs s.heap st ps str) :
  ∃ ext,ext=allBut s.heap (gndH s.heap g0 LR LG) (LG::(emLed a st ps rest0).map (·.1)) /\
   Fr (gndH s.heap g0 LR LG) LG s.heap (mS a.lx a.it fs (.ref fs))/\News (gndH s.heap g0 LR LG) LG s.heap (emLed a st ps (rest0++ext)) /\
   Below A base (envX cn cs LR ca ccd cll::outer) (gndH s.heap g0 LR LG)/\(hd.heap_1 w.params).In (gndH s.heap g0 LR LG)/\Top p loose mean mg mb (gndH s.heap g0 LR LG)/\CodeHd (gndH s.heap g0 LR LG) 550 548 /\
   TokS w a chars cl (rest0++ext) fe fs/\LexI a chars cl ((225,tabObj ps)::(rest0++ext)) st str:=by
 refine e0a6 (ground_in (A:=A) (env:=envX cn cs LR ca ccd cll) G.B F rfl G.hk hA G.T G.X G.lt S.ns S.has (G.led st ps)) fun g1 g2 g3 g4 g5 g6=>?_
 have up:∀ q∈rest0,q∈rest0++allBut s.heap (gndH s.heap g0 LR LG) (LG::(emLed a st ps rest0).map (·.1)):=fun q hq=>List.mem_append_left _ hq
 refine ⟨_,rfl,g1,g2,g3,g4,g5,G.C1.keeps g6,G.Z.mono up,⟨⟨?_,let ⟨ep,h⟩:=G.Z.cl;⟨ep,.tail _ (up _ h)⟩,fun x hx=>(G.Z.ce x hx).mono fun q hq=>.tail _ (up q hq),S.lex.R.sz⟩,S.lex.S,fun x hx=>(G.Z.ce x (S.sub x hx)).mono fun q hq=>.tail _ (up q hq),S.lex.z⟩⟩
 have D:=S.lex.R.D
 unfold LexD at D ⊢
 have e:(a.lx::a.dx::a.tb::a.pb::a.ct::a.it::((225,tabObj ps)::(rest0++allBut s.heap (gndH s.heap g0 LR LG) (LG::(emLed a st ps rest0).map (·.1)))).map (·.1)) =
   (a.lx::a.dx::a.tb::a.pb::a.ct::a.it::((225,tabObj ps)::rest0).map (·.1))++(allBut s.heap (gndH s.heap g0 LR LG) (LG::(emLed a st ps rest0).map (·.1))).map (·.1):=by
  simp
 rw [e]
 refine nodup_ext D (nodup_allBut _ _ _) fun x hx hm=>?_
 refine e1a2 (List.mem_map.mp hx) fun q hq Q22=>?_;obtain rfl:=Q22
 have:=(mem_allBut.mp (show (q.1,q.2)∈_ from hq)).2.1
 exact this (.tail _ hm)
theorem LexI.less {st' st0:LexS} {ps ps':Array Value} {str:List Cel} {rest':List (Addr×Obj)} (Z:TokS w a chars cl rest0 fe fs) (I0:LexI a chars cl ((225,tabObj ps)::rest0) st0 str') (I:LexI a chars cl rest' st' str) (hs:∀ x∈str,x∈chars) :
  LexI a chars cl ((225,tabObj ps')::rest0) st' str :=
 ⟨⟨I0.R.D,let ⟨ep,h⟩:=Z.cl;⟨ep,.tail _ h⟩,fun x hx=>(Z.ce x hx).mono fun q hq=>.tail _ hq,I0.R.sz⟩,I.S,fun x hx=>(Z.ce x (hs x hx)).mono fun q hq=>.tail _ hq,I.z⟩
noncomputable def Z87P:FrZ->Prop:=fun V=>∀ (S:TState (V.fa 0) (V.fC 0) (V.fA 2) (V.fL 0) (V.fA 1) (V.fA 3) V.s.heap (V.fx 0) (V.fW 0) (V.fC 1)) (F':Fr (gndH V.s.heap (V.fh 0) (V.fA 0) (V.fA 1)) (V.fA 1) (V.fh 1) (V.fM 0)) (hlx:(V.fh 1).get? (V.fa 0).lx=some (instObj 390 (V.fa 0).dx)) (hr:∀ q∈(V.fL 0)++allBut V.s.heap (gndH V.s.heap (V.fh 0) (V.fA 0) (V.fA 1)) ((V.fA 1)::(emLed (V.fa 0) (V.fx 0) (V.fW 0) (V.fL 0)).map (·.1)),(V.fh 1).get? q.1=some q.2),KeepBut (wrT (V.fa 0) (V.fA 1)) V.s.heap (V.fh 1)
@[irreducible] noncomputable def Z87:FrZ:=pickZ Z87P
theorem Z87c:Z87P Z87:=by
 intro S F' hlx hr
 refine keep_out S.has F' (fun q hq=>hr q (List.mem_append_right _ hq)) (fun q hq hn=>?_) (.head _)
 refine e0a7 (nm7 hn) fun _ n1 n2 n3 n4 n5 n6=>?_
 refine m7r hq (fun e=>?_) (fun e=>?_) (fun e=>?_) (fun e=>?_) (fun e=>?_) (fun e=>?_) (fun e=>?_) fun hq=>?_
 any_goals subst e
 ·exact hlx
 ·exact absurd rfl n1
 ·exact absurd rfl n2
 ·exact absurd rfl n3
 ·exact absurd rfl n4
 ·exact absurd rfl n5
 ·exact absurd rfl n6
 ·exact hr q (List.mem_append_left _ hq)
theorem keep_seg {st:LexS} {ps:Array Value} {str:List Cel} {h':Heap} {m':Str->Option Value} (S:TState a chars cl rest0 LG fs s.heap st ps str) (F':Fr (gndH s.heap g0 LR LG) LG h' m')
  (hlx:h'.get? a.lx=some (instObj 390 a.dx)) (hr:∀ q∈rest0++allBut s.heap (gndH s.heap g0 LR LG) (LG::(emLed a st ps rest0).map (·.1)),h'.get? q.1=some q.2):KeepBut (wrT a LG) s.heap h':=pickedZ (by with_unfolding_all rfl) Z87c (sfM (sfW (sfx (sfL (sfC (sfa (sfA (sfh (frC Z87.w Z87.p Z87.loose Z87.mean Z87.mg Z87.mb Z87.dp Z87.un Z87.gd Z87.cn Z87.cs Z87.ca Z87.ccd Z87.cll Z87.outer Z87.A₀ Z87.base Z87.h₀ Z87.L Z87.m s Z87.E) [g0,h']) [LR,LG,cl,fs]) [a]) [chars,str]) [rest0]) [st]) [ps]) [m']) S F' hlx hr
noncomputable abbrev envT (t:TokA):Env:=envX TokW t.sc t.LG 208 (.ref 207) []
noncomputable abbrev innT (t:TokA):Expr:=.Attribute (.Name "self" t.p2) "token_buffer" t.p3
noncomputable abbrev innB (t:TokA):List Stmt:=[.Expr (.Yield (some t.ex) t.yp) t.ep]
noncomputable abbrev INN (t:TokA):Code:=.whileLoop (innT t) (innB t) [] (envT t)
noncomputable abbrev outB (t:TokA):List Stmt:=.While (innT t) (innB t) [] t.wp1::t.asg
noncomputable abbrev OUT (t:TokA):Code:=.whileLoop (.Name "state" t.p1) (outB t) [] (envT t)
noncomputable abbrev FUN (t:TokA):Code:=.func t.b (envT t)
noncomputable abbrev K0 (t:TokA):Flow->Sem Fin:=fun f=>match f with
 | .next | .cont=>.pure (.again (OUT t))
 | .brk=>.pure (.done .next)
 | .ret v=>.pure (.done (.ret v))
noncomputable abbrev H0 (t:TokA):Value->Sem Fin:=fun e=>(do noteFrame e (envT t);theTreesLotGoes e:Sem Unit).wrap (fun _=>.raise e) .raise id id
noncomputable abbrev KF:Flow->Sem Fin:=fun f=>.pure (.done (.ret (match f with | .ret v=>v | _=>.none)))
noncomputable abbrev HF (t:TokA):Value->Sem Fin:=fun e=>(leaving (envT t) e).wrap (fun _=>.raise e) .raise id id
noncomputable abbrev retF (t:TokA) (K:Flow->Sem Fin) (H:Value->Sem Fin) (c:Code) (p:Pos):Frame:=.ret (fun r=>((match r with | .ok f=>(.pure f:Sem Flow) | .error e=>.raise e).onRaise fun (x:Value)=>do
    if (<- field x 1)==Value.none then unsupported "frame.own-activation:exception-without-traceback"
    setFlight x (envT t).frame).wrap K H id id) none false [] c p []
noncomputable abbrev KI (t:TokA):Flow->Sem Fin:=fun f=>match f with | .next=>(execs t.asg (envT t)).wrap (K0 t) (H0 t) id id | f=>K0 t f
noncomputable abbrev KO (t:TokA):Flow->Sem Fin:=fun f=>match f with | .next=>(execs [] (envT t)).wrap KF (HF t) id id | f=>KF f
noncomputable abbrev retI (t:TokA) (p:Pos):Frame:=retF t (KI t) (H0 t) (OUT t) p
noncomputable abbrev retO (t:TokA) (p:Pos):Frame:=retF t (KO t) (HF t) (FUN t) p
section
variable {t:TokA}
theorem over_inn {p p':Pos} : ∃ d u g,(ktrTop dp un gd cn cs LR ca ccd cll outer).over (INN t) [retI t p,retO t p']=ktrTop d u g TokW t.sc t.LG 208 (.ref 207) [] (envX cn cs LR ca ccd cll::outer)/\d≤dp+20/\u≤un+60 :=
 ⟨_,_,_,rfl,by rw [Nat.add_assoc];exact Nat.add_le_add_left (Nat.le_of_ble_eq_true rfl) _,by rw [Nat.add_assoc];exact Nat.add_le_add_left (Nat.le_of_ble_eq_true rfl) _⟩
theorem over_out {p':Pos} : ∃ d u g,(ktrTop dp un gd cn cs LR ca ccd cll outer).over (OUT t) [retO t p']=ktrTop d u g TokW t.sc t.LG 208 (.ref 207) [] (envX cn cs LR ca ccd cll::outer)/\d≤dp+20/\u≤un+60 :=
 ⟨_,_,_,rfl,by rw [Nat.add_assoc];exact Nat.add_le_add_left (Nat.le_of_ble_eq_true rfl) _,by rw [Nat.add_assoc];exact Nat.add_le_add_left (Nat.le_of_ble_eq_true rfl) _⟩
theorem over_fun:∃ d u g,(ktrTop dp un gd cn cs LR ca ccd cll outer).over (FUN t) []=ktrTop d u g TokW t.sc t.LG 208 (.ref 207) [] (envX cn cs LR ca ccd cll::outer)/\d≤dp+20/\u≤un+60 :=
 ⟨_,_,_,rfl,by rw [Nat.add_assoc];exact Nat.add_le_add_left (Nat.le_of_ble_eq_true rfl) _,by rw [Nat.add_assoc];exact Nat.add_le_add_left (Nat.le_of_ble_eq_true rfl) _⟩
end
end
end
example:True:=by w_top off;trivial
section
open NgM01 NgM01b NgM02 NgM03 NgM09 NgM10 NgM11 NgM12 NgM15 NgM16 NgM18
set_option tactic.hygienic true in
theorem turn_sub {s cc r:List Cel} {typ:Str} (h:turn s=some (.ok (typ,cc,r))):cc++r=s:=by
 unfold turn at h
 cases s with
 | nil=>cases h
 | cons x r' =>
  dsimp only at h
  split at h
  ·split at h
   ·cases h
   ·rename_i hl
    cases h
    rw [List.cons_append,lexC_sub hl]
  ·split at h
   ·split at h
    ·cases h
    ·rename_i hl
     cases h
     rw [List.cons_append,List.append_assoc,lexC_sub hl,accC_sub]
   ·cases h
    rfl
theorem Same.refl (s:Shared):Same s s:=⟨rfl,rfl,GKeep.refl _⟩
theorem Same.trans {s s' s'':Shared} (x:Same s s') (y:Same s' s''):Same s s'':=⟨y.os.trans x.os,y.dr.trans x.dr,x.gk.trans y.gk⟩
theorem KeepBut.refl (wr:List Addr) (h:Heap):KeepBut wr h h:=fun _ _ _ e=>e
theorem has_tok {h₀ h:Heap} {L:Addr} {a:LexA} {st:LexS} {ps:Array Value} {k:TokC} {r ext:List (Addr×Obj)} (N:News h₀ L h (emLed a st ps (tokRest k (r++ext)))):Has h (emLed a st ps r):=fun q hq=>(N q ((List.mem_append (s:=[_,_,_,_,_,_,_])).mp hq |>.elim (fun h=>List.mem_append_left _ h) (fun h=>List.mem_append_right [_,_,_,_,_,_,_] (.tail _ (.tail _ (List.mem_append_left _ h)))))).1
theorem has_ext {h₀ h:Heap} {L:Addr} {a:LexA} {st:LexS} {ps:Array Value} {r ext:List (Addr×Obj)} (N:News h₀ L h (emLed a st ps (r++ext))):Has h (emLed a st ps r):=fun q hq=>(N q (List.mem_append_left ext hq)).1
theorem mem_em {a:LexA} {st:LexS} {ps:Array Value} {r:List (Addr×Obj)} : ∀ q∈r,q∈emLed a st ps r:=fun _ hq=>List.mem_append_right [_,_,_,_,_,_,_] hq
theorem mem_tok {a:LexA} {st:LexS} {ps:Array Value} {k:TokC} {r:List (Addr×Obj)} : ∀ q∈r,q∈emLed a st ps (tokRest k r):=fun q hq=>mem_em q (.tail _ (.tail _ hq))
section
variable {g0:Heap} {LR:Addr} {a:LexA} {chars:List Cel} {cl fe fs:Addr} {rest0:List (Addr×Obj)} {stm:Nat->List Cel} {t:TokA} {N:Nat} {pr:Arguments}
theorem fresh_tok {st:LexS} {ps ps':Array Value} {k:TokC} {h' gT:Heap} {LG:Addr} {st':LexS} {ot:Obj} {x:Addr}
  (D:LexD a ((225,tabObj ps')::tokRest k (rest0++allBut s.heap gT (LG::(emLed a st ps rest0).map (·.1)))))
  (Nw:News gT LG h' (emLed a st' ps' (tokRest k (rest0++allBut s.heap gT (LG::(emLed a st ps rest0).map (·.1)))))) (hx:(x=k.t/\ot=tokObj k)\/(x=k.td/\ot=dictOf [] 0)) :
  s.heap.get? x=none/\x∉a.lx::wrT a LG:=by
 have hm:(x,ot)∈tokRest k (rest0++allBut s.heap gT (LG::(emLed a st ps rest0).map (·.1))):=by
  rcases hx with ⟨rfl,rfl⟩ | ⟨rfl,rfl⟩
  ·exact .head _
  ·exact .tail _ (.head _)
 have n:=Nw (x,ot) (mem_em _ hm)
 have z:=List.nodup_append.mp (show ([a.lx,a.dx,a.tb,a.pb,a.ct,a.it,225]++([k.t,k.td]++(rest0++allBut s.heap gT (LG::(emLed a st ps rest0).map (·.1))).map (·.1))).Nodup from D)
 have z3:=List.nodup_append.mp z.2.1
 have hxm:x∈[k.t,k.td]:=hx.elim (fun h=>h.1▸.head _) (fun h=>h.1▸.tail _ (.head _))
 have nl:∀ y∈a.lx::a.dx::a.tb::a.pb::a.ct::a.it::225::rest0.map (·.1),x≠y:=fun y hy=>((List.mem_append (s:=[a.lx,a.dx,a.tb,a.pb,a.ct,a.it,225])).mp hy).elim (fun h=>Ne.symm (z.2.2 y h x (List.mem_append_left _ hxm)))
  (fun h=>z3.2.2 x hxm y (by rw [List.map_append];exact List.mem_append_left _ h))
 have nx:x∉(allBut s.heap gT (LG::(emLed a st ps rest0).map (·.1))).map (·.1):=fun h=>z3.2.2 x hxm x (by rw [List.map_append];exact List.mem_append_right _ h) rfl
 constructor
 ·cases e:s.heap.get? x with
  | none=>rfl
  | some o =>
   refine absurd (List.mem_map_of_mem (f:=(·.1)) (mem_allBut.mpr ⟨e,fun hb=>?_,n.2.2⟩)) nx
   rcases List.mem_cons.mp hb with h | h
   ·exact n.2.1 h
   ·exact nl x h rfl
 ·exact fun hw=>(List.mem_cons.mp hw).elim (fun h=>nl _ (.head _) h) (fun hw=>(List.mem_cons.mp hw).elim n.2.1 (fun h=>nl x (.tail _ (List.mem_append_left _ h)) rfl))
noncomputable def Z17P:FrZ->Prop:=fun V=>∀ (p:Program) (G:TokG V.w p V.loose V.mean V.mg V.mb V.dp V.un V.cs V.outer V.A₀ V.base (V.fh 0) (V.fA 0) (V.fK 0).LG (V.fa 0) (V.fC 0) (V.fA 1) (V.fA 2) (V.fA 3) (V.fL 0) (V.fk 0) (V.fN 0) (V.fg 0) (V.fK 0).b (V.fK 0).sc) (hb:(V.fK 0).b=[(V.fm 0),(V.fm 1),.While (.Name "state" (V.fK 0).p1) (outB (V.fK 0)) [] (V.fp 0)]) (fin:∀ p' st ps (s₀ s:Shared) mR,TState (V.fa 0) (V.fC 0) (V.fA 1) (V.fL 0) (V.fK 0).LG (V.fA 3) s.heap st ps ((V.fk 0) 0)->Fr (V.fh 0) (V.fA 0) s.heap mR->KeepBut (wrT (V.fa 0) (V.fK 0).LG) s₀.heap s.heap->Same s₀ s ->
   Seg (model pw_rk0009_01 V.w) (ktrTop V.dp V.un V.gd V.cn V.cs (V.fA 0) V.ca V.ccd V.cll V.outer) (RTok V.base (envX V.cn V.cs (V.fA 0) V.ca V.ccd V.cll::V.outer) (V.fa 0) (V.fK 0).LG (V.fh 0) (V.fA 0) (V.fk 0)) (YTok (V.fa 0) (V.fC 0) (V.fA 1) (V.fL 0) (V.fK 0).LG (V.fA 3) (V.fh 0) (V.fA 0) (V.fk 0)) 0 s₀ (OUT (V.fK 0)) ((execs (V.fK 0).asg (envT (V.fK 0))).wrap (K0 (V.fK 0)) (H0 (V.fK 0)) id id) [retO (V.fK 0) p'] s),∀ n,n≤(V.fN 0)->∀ p p' st ps (s₀ s:Shared) mR,TState (V.fa 0) (V.fC 0) (V.fA 1) (V.fL 0) (V.fK 0).LG (V.fA 3) s.heap st ps ((V.fk 0) n)->Fr (V.fh 0) (V.fA 0) s.heap mR->KeepBut (wrT (V.fa 0) (V.fK 0).LG) s₀.heap s.heap->Same s₀ s ->
   Seg (model pw_rk0009_01 V.w) (ktrTop V.dp V.un V.gd V.cn V.cs (V.fA 0) V.ca V.ccd V.cll V.outer) (RTok V.base (envX V.cn V.cs (V.fA 0) V.ca V.ccd V.cll::V.outer) (V.fa 0) (V.fK 0).LG (V.fh 0) (V.fA 0) (V.fk 0)) (YTok (V.fa 0) (V.fC 0) (V.fA 1) (V.fL 0) (V.fK 0).LG (V.fA 3) (V.fh 0) (V.fA 0) (V.fk 0)) n s₀ (INN (V.fK 0)) ((model pw_rk0009_01 V.w).den (INN (V.fK 0))) [retI (V.fK 0) p,retO (V.fK 0) p'] s
@[irreducible] noncomputable def Z17:FrZ:=pickZ Z17P
set_option maxHeartbeats 4000000 in
theorem Z17c:Z17P Z17:=by
 intro p G hb fin
 have hp1:popOf (Z17.fK 0).b=some (Z17.fK 0).ex:=by rw [hb];rfl
 have hp2:asgOf (Z17.fK 0).b=some (Z17.fK 0).asg:=by rw [hb];rfl
 have hsk:(Z17.fK 0).sc.kind=.function:=by
  obtain ⟨_,_,_,_,_,_,_,_,_,_,_,_,_,h⟩:=tok_shape G.FD
  exact h
 have hsco:(Z17.fK 0).sc.isCoroutine=false:=by
  obtain ⟨_,_,_,_,_,_,_,_,_,_,_,_,h,_⟩:=tok_shape G.FD
  exact h
 have hin:interactive (envT (Z17.fK 0))=false:=by simp [interactive,hsk]
 have zf:=G.Z.zf
 refine e1a1 zf ?_;clear zf;intro fo zf
 have b1:=G.hdp
 have b2:=G.hun
 intro n
 induction n with
 | zero =>
  intro hn p p' st ps s₀ s mR S F hk hsame
  refine e1a9 (G.ground (A:=ktrTop Z17.dp Z17.un Z17.gd Z17.cn Z17.cs (Z17.fA 0) Z17.ca Z17.ccd Z17.cll Z17.outer) rfl F S) fun ext hext g1 g2 g3 g4 g5 g6 g7 g8=>?_
  refine e3a3 (over_inn (dp:=Z17.dp) (un:=Z17.un) (gd:=Z17.gd) (cn:=Z17.cn) (cs:=Z17.cs) (LR:=(Z17.fA 0)) (ca:=Z17.ca) (ccd:=Z17.ccd) (cll:=Z17.cll) (outer:=Z17.outer) (t:=(Z17.fK 0)) (p:=p) (p':=p')) fun d u gg oI hd1 hu1=>?_
  refine seg_whileLoop ?_
  rw [oI]
  refine pc_buf G.FD ⟨g3,g1,g4,g5,hsk,by omega,by omega⟩ g2 (by rw [S.tb];decide) fun tk'=>?_
  rw [S.tb]
  show Seg _ _ _ _ _ _ _ (leafOf (.ok .next)) (retI (Z17.fK 0) p::[retO (Z17.fK 0) p']) _
  refine seg_leaf (.ok .next) ?_
  exact fin p' st ps s₀ { s with toks:=tk' } mR S F hk ⟨hsame.os,hsame.dr,hsame.gk⟩
 | succ n ih =>
  intro hn p p' st ps s₀ s mR S F hk hsame
  refine e2a1 (G.go n hn) fun typ cc ht=>?_
  refine e1a9 (G.ground (A:=ktrTop Z17.dp Z17.un Z17.gd Z17.cn Z17.cs (Z17.fA 0) Z17.ca Z17.ccd Z17.cll Z17.outer) rfl F S) fun ext hext g1 g2 g3 g4 g5 g6 g7 g8=>?_
  refine e3a3 (over_inn (dp:=Z17.dp) (un:=Z17.un) (gd:=Z17.gd) (cn:=Z17.cn) (cs:=Z17.cs) (LR:=(Z17.fA 0)) (ca:=Z17.ca) (ccd:=Z17.ccd) (cll:=Z17.cll) (outer:=Z17.outer) (t:=(Z17.fK 0)) (p:=p) (p':=p')) fun d u gg oI hd1 hu1=>?_
  refine e3a3 (over_out (dp:=Z17.dp) (un:=Z17.un) (gd:=Z17.gd) (cn:=Z17.cn) (cs:=Z17.cs) (LR:=(Z17.fA 0)) (ca:=Z17.ca) (ccd:=Z17.ccd) (cll:=Z17.cll) (outer:=Z17.outer) (t:=(Z17.fK 0)) (p':=p')) fun d2 u2 gg2 oO hd2 hu2=>?_
  refine seg_whileLoop ?_
  rw [oI]
  refine pc_buf G.FD ⟨g3,g1,g4,g5,hsk,by omega,by omega⟩ g2 (by rw [S.tb];decide) fun tk'=>?_
  rw [S.tb]
  show Seg _ _ _ _ _ _ _ (leafOf (.ok .next)) (retI (Z17.fK 0) p::[retO (Z17.fK 0) p']) _
  refine seg_leaf (.ok .next) ?_
  show Seg _ _ _ _ _ _ (OUT (Z17.fK 0)) ((execs (Z17.fK 0).asg (envT (Z17.fK 0))).wrap (K0 (Z17.fK 0)) (H0 (Z17.fK 0)) id id) [retO (Z17.fK 0) p'] _
  refine seg_wrap ?_
  rw [oO]
  refine pc_go G.FD hp2 ⟨g3,g1,g4,g5,hsk,by omega,by omega⟩ g6 g7 g8 g2 S.ct S.tab (by rw [S.tb];decide) S.sub (by have:=S.lex.z;omega) ht fun st' h' tk'' g' ps' k e1 e2 e3 I' hps' ct' tb' F' N' G'=>?_
  rw [S.tb,List.nil_append] at tb'
  show Seg _ _ _ _ _ _ _ (.pure (.again (OUT (Z17.fK 0)))) _ _
  refine seg_again rfl (seg_whileLoop ?_)
  rw [oO]
  refine pc_state (q:=(Z17.fA 3)) G.FD ⟨g3,F',g4,g5,hsk,by omega,by omega⟩ N' (mem_tok _ (List.mem_append_left _ zf)) ?_
  rw [if_pos rfl]
  refine seg_execs_cons (seg_While fun p2=>?_)
  show Seg _ _ _ _ _ _ (INN (Z17.fK 0)) _ [retI (Z17.fK 0) p2,retO (Z17.fK 0) p'] _
  refine e3a3 (over_inn (dp:=Z17.dp) (un:=Z17.un) (gd:=Z17.gd) (cn:=Z17.cn) (cs:=Z17.cs) (LR:=(Z17.fA 0)) (ca:=Z17.ca) (ccd:=Z17.ccd) (cll:=Z17.cll) (outer:=Z17.outer) (t:=(Z17.fK 0)) (p:=p2) (p':=p')) fun d3 u3 gg3 oI2 hd3 hu3=>?_
  refine seg_whileLoop ?_
  rw [oI2]
  refine pc_buf G.FD ⟨g3,F',g4,g5,hsk,by omega,by omega⟩ N' (by rw [tb'];exact Nat.le_of_ble_eq_true rfl) fun tk3=>?_
  rw [tb']
  show (if true=true then _ else _)
  rw [if_pos rfl]
  refine seg_execs_cons (seg_Expr_Yield rfl rfl rfl ?_ hsco hin)
  rw [oI2]
  refine pc_pop (x:=.ref k.t) (r:=[]) G.FD ⟨g3,F',g4,g5,hsk,by omega,by omega⟩ hp1 I'.R.D N' tb' (by rw [tb'];exact Nat.le_of_ble_eq_true rfl) fun h2 tk4 kk F2 N2=>?_
  intro kap hkap
  subst hext
  have fr:=fresh_tok I'.R.D N2 (.inl ⟨rfl,rfl⟩)
  have fr2:=fresh_tok I'.R.D N2 (.inr ⟨rfl,rfl⟩)
  have no0:∀ z:Addr,s.heap.get? z=none->z∉(Z17.fa 0).lx::wrT (Z17.fa 0) (Z17.fK 0).LG->s₀.heap.get? z=none:=fun z h1 h2=>by
   cases e:s₀.heap.get? z with
   | none=>rfl
   | some o =>
    have:=hk z o (fun h=>h2 (.tail _ h)) e
    rw [h1] at this
    cases this
  have sub2:∀ z∈(Z17.fk 0) n,z∈(Z17.fC 0):=fun z hz=>S.sub z (by rw [<- turn_sub ht];exact List.mem_append_right _ hz)
  have tne:k.t≠k.td:=by
   have D:=(List.nodup_cons.mp (List.nodup_cons.mp (List.nodup_cons.mp (List.nodup_cons.mp (List.nodup_cons.mp (List.nodup_cons.mp (List.nodup_cons.mp I'.R.D).2).2).2).2).2).2).2
   exact fun e=>(List.nodup_cons.mp D).1 (e▸.head _)
  refine ⟨{ st' with tb:=[],tn:=kk },ps',k,typ,cc,ht,rfl,e1,e2,e3,⟨has_tok N2,F2.ns,LexI.less G.Z S.lex (st':={ st' with tb:=[],tn:=kk }) (rest':=(225,tabObj ps')::tokRest k ((Z17.fL 0)++allBut s.heap (gndH s.heap (Z17.fh 0) (Z17.fA 0) (Z17.fK 0).LG) ((Z17.fK 0).LG::(emLed (Z17.fa 0) st ps (Z17.fL 0)).map (·.1)))) ⟨I'.R,I'.S,I'.x,I'.z⟩ sub2,ct',rfl,hps',sub2⟩,
   (N2 (k.t,tokObj k) (mem_em _ (.head _))).1,(N2 (k.td,dictOf [] 0) (mem_em _ (.tail _ (.head _)))).1,no0 _ fr.1 fr.2,no0 _ fr2.1 fr2.2,tne,
   hk.trans (keep_seg S F2 (N2 ((Z17.fa 0).lx,instObj 390 (Z17.fa 0).dx) (.head _)).1 fun q hq=>(N2 q (mem_tok _ hq)).1),hsame.trans ⟨rfl,rfl,G'⟩,fun s'' S'' F''=>?_⟩
  refine e1a1 F'' ?_;clear F'';intro mR'' F''
  refine hkap .none s'' ?_
  show Seg _ _ _ _ _ _ _ (.pure (.again (INN (Z17.fK 0)))) _ _
  exact seg_again rfl (ih (Nat.le_of_succ_le hn) p2 p' _ _ s'' s'' mR'' S'' F'' (KeepBut.refl _ _) (Same.refl _))
theorem seg_inner (G:TokG w p loose mean mg mb dp un cs outer A₀ base g0 LR t.LG a chars cl fe fs rest0 stm N pr t.b t.sc) {x y:Stmt} {wp0:Pos} (hb:t.b=[x,y,.While (.Name "state" t.p1) (outB t) [] wp0])
  (fin:∀ p' st ps (s₀ s:Shared) mR,TState a chars cl rest0 t.LG fs s.heap st ps (stm 0)->Fr g0 LR s.heap mR->KeepBut (wrT a t.LG) s₀.heap s.heap->Same s₀ s ->
   Seg (model pw_rk0009_01 w) (ktrTop dp un gd cn cs LR ca ccd cll outer) (RTok base (envX cn cs LR ca ccd cll::outer) a t.LG g0 LR stm) (YTok a chars cl rest0 t.LG fs g0 LR stm) 0 s₀ (OUT t) ((execs t.asg (envT t)).wrap (K0 t) (H0 t) id id) [retO t p'] s) :
  ∀ n,n≤N->∀ p p' st ps (s₀ s:Shared) mR,TState a chars cl rest0 t.LG fs s.heap st ps (stm n)->Fr g0 LR s.heap mR->KeepBut (wrT a t.LG) s₀.heap s.heap->Same s₀ s ->
   Seg (model pw_rk0009_01 w) (ktrTop dp un gd cn cs LR ca ccd cll outer) (RTok base (envX cn cs LR ca ccd cll::outer) a t.LG g0 LR stm) (YTok a chars cl rest0 t.LG fs g0 LR stm) n s₀ (INN t) ((model pw_rk0009_01 w).den (INN t)) [retI t p,retO t p'] s:=pickedZ (by with_unfolding_all rfl) Z17c (sfp (sfm (sfg (sfN (sfK (sfk (sfL (sfC (sfa (sfA (sfh (frC w Z17.p loose mean mg mb dp un gd cn cs ca ccd cll outer A₀ base Z17.h₀ Z17.L Z17.m Z17.s Z17.E) [g0]) [LR,cl,fe,fs]) [a]) [chars]) [rest0]) [stm]) [t]) [N]) [pr]) [x,y]) [wp0]) p G hb fin
end
end
example:True:=by w_top off;trivial
section
open NgM01 NgM01b NgM02 NgM03 NgM09 NgM10 NgM11 NgM12 NgM15 NgM16 NgM18
theorem turn_none {s:List Cel} (h:turn s=none):s=[]:=by
 cases s with
 | nil=>rfl
 | cons x r =>
  unfold turn at h
  dsimp only at h
  split at h
  ·split at h <;> cases h
  ·split at h
   ·split at h <;> cases h
   ·cases h
theorem news_rest {h₀ h:Heap} {L:Addr} {a:LexA} {st:LexS} {ps:Array Value} {r:List (Addr×Obj)} (N:News h₀ L h (emLed a st ps r)):News h₀ L h r:=fun q hq=>N q (mem_em _ hq)
section
variable {g0:Heap} {LR:Addr} {a:LexA} {chars:List Cel} {cl fe fs:Addr} {rest0:List (Addr×Obj)} {stm:Nat->List Cel} {t:TokA} {N:Nat} {pr:Arguments}
noncomputable def Z32P:FrZ->Prop:=fun V=>∀ (S:TState (V.fa 0) (V.fC 0) (V.fA 1) (V.fL 0) (V.fA 3) (V.fA 2) V.s.heap (V.fx 0) (V.fW 0) (V.fC 1)) (hk:KeepBut (wrT (V.fa 0) (V.fA 3)) (V.fZ 0).heap V.s.heap),∀ q∈allBut (V.fZ 0).heap (gndH (V.fZ 0).heap (V.fh 0) (V.fA 0) (V.fA 3)) ((V.fa 0).lx::wrT (V.fa 0) (V.fA 3)),q∈(V.fL 0)++allBut V.s.heap (gndH V.s.heap (V.fh 0) (V.fA 0) (V.fA 3)) ((V.fA 3)::(emLed (V.fa 0) (V.fx 0) (V.fW 0) (V.fL 0)).map (·.1))
@[irreducible] noncomputable def Z32:FrZ:=pickZ Z32P
theorem Z32c:Z32P Z32:=by
 intro S hk
 intro hq0 hq
 obtain ⟨b,o⟩:=hq0
 refine e0a3 (mem_allBut.mp hq) fun h1 h2 h3=>?_
 have n1:b≠(Z32.fa 0).lx:=fun e=>h2 (e▸.head _)
 have n2:b∉wrT (Z32.fa 0) (Z32.fA 3):=fun e=>h2 (.tail _ e)
 have e1:=hk b o n2 h1
 have gn:(gndH Z32.s.heap (Z32.fh 0) (Z32.fA 0) (Z32.fA 3)).get? b=none:=by
  cases e:(gndH Z32.s.heap (Z32.fh 0) (Z32.fA 0) (Z32.fA 3)).get? b with
  | none=>rfl
  | some o' =>
   have:=gndH_get.mp e
   rw [gndH_get.mpr ⟨this.1,h1,this.2.2⟩] at h3
   cases h3
 by_cases hm:b∈(emLed (Z32.fa 0) (Z32.fx 0) (Z32.fW 0) (Z32.fL 0)).map (·.1)
 ·refine e1a2 (List.mem_map.mp hm) fun q hq2 Q23=>?_;obtain rfl:=Q23
  have e2:=S.has q hq2
  rw [e1] at e2
  cases e2
  refine List.mem_append_left _ ?_
  refine e0a7 (nm7 n2) fun _ m1 m2 m3 m4 m5 m6=>?_
  refine m7r hq2 (fun e=>?_) (fun e=>?_) (fun e=>?_) (fun e=>?_) (fun e=>?_) (fun e=>?_) (fun e=>?_) fun hq2=>?_
  any_goals subst e
  ·exact absurd rfl n1
  ·exact absurd rfl m1
  ·exact absurd rfl m2
  ·exact absurd rfl m3
  ·exact absurd rfl m4
  ·exact absurd rfl m5
  ·exact absurd rfl m6
  ·exact hq2
 ·refine List.mem_append_right _ (mem_allBut.mpr ⟨e1,fun h=>?_,gn⟩)
  rcases List.mem_cons.mp h with h | h
  ·exact n2 (h▸.head _)
  ·exact hm h
theorem err_less {s₀ s:Shared} {st:LexS} {ps:Array Value} {str:List Cel} {LG:Addr} (S:TState a chars cl rest0 LG fs s.heap st ps str) (hk:KeepBut (wrT a LG) s₀.heap s.heap) :
  ∀ q∈allBut s₀.heap (gndH s₀.heap g0 LR LG) (a.lx::wrT a LG),q∈rest0++allBut s.heap (gndH s.heap g0 LR LG) (LG::(emLed a st ps rest0).map (·.1)):=pickedZ (by with_unfolding_all rfl) Z32c (sfW (sfx (sfZ (sfL (sfC (sfa (sfA (sfh (frC Z32.w Z32.p Z32.loose Z32.mean Z32.mg Z32.mb Z32.dp Z32.un Z32.gd Z32.cn Z32.cs Z32.ca Z32.ccd Z32.cll Z32.outer Z32.A₀ Z32.base Z32.h₀ Z32.L Z32.m s Z32.E) [g0]) [LR,cl,fs,LG]) [a]) [chars,str]) [rest0]) [s₀]) [st]) [ps]) S hk
theorem gnd_less {s₀ s:Shared} {LG:Addr} (hg:∀ b∈a.lx::wrT a LG,b=LG\/(g0.get? b=none/\b≠LR)) (hk:KeepBut (wrT a LG) s₀.heap s.heap):(gndH s₀.heap g0 LR LG).StaysIn (gndH s.heap g0 LR LG):=fun b o e=>by
 refine e0a3 (gndH_get.mp e) fun h1 h2 h3=>?_
 refine gndH_get.mpr ⟨h1,hk b o (fun hm=>?_) h2,h3⟩
 rcases hg b (.tail _ hm) with h | ⟨h4,h5⟩
 ·exact absurd h (Nat.ne_of_lt h1)
 ·rcases h3 with h3 | h3
  ·rw [h4] at h3;cases h3
  ·exact h5 h3
noncomputable def Z31P:FrZ->Prop:=fun V=>∀ (G:TokG V.w V.p V.loose V.mean V.mg V.mb V.dp V.un V.cs V.outer V.A₀ V.base (V.fh 0) (V.fA 0) (V.fK 0).LG (V.fa 0) (V.fC 0) (V.fA 1) (V.fA 2) (V.fA 3) (V.fL 0) (V.fk 0) (V.fN 0) (V.fg 0) (V.fK 0).b (V.fK 0).sc) (hb:(V.fK 0).b=[(V.fm 0),(V.fm 1),.While (.Name "state" (V.fK 0).p1) (outB (V.fK 0)) [] (V.fp 0)]) (S:TState (V.fa 0) (V.fC 0) (V.fA 1) (V.fL 0) (V.fK 0).LG (V.fA 3) V.s.heap (V.fx 0) (V.fW 0) ((V.fk 0) 0)) (F:Fr (V.fh 0) (V.fA 0) V.s.heap (V.fM 0)) (hk:KeepBut (wrT (V.fa 0) (V.fK 0).LG) (V.fZ 0).heap V.s.heap) (hsame:Same (V.fZ 0) V.s),Seg (model pw_rk0009_01 V.w) (ktrTop V.dp V.un V.gd V.cn V.cs (V.fA 0) V.ca V.ccd V.cll V.outer) (RTok V.base (envX V.cn V.cs (V.fA 0) V.ca V.ccd V.cll::V.outer) (V.fa 0) (V.fK 0).LG (V.fh 0) (V.fA 0) (V.fk 0)) (YTok (V.fa 0) (V.fC 0) (V.fA 1) (V.fL 0) (V.fK 0).LG (V.fA 3) (V.fh 0) (V.fA 0) (V.fk 0)) 0 (V.fZ 0) (OUT (V.fK 0)) ((execs (V.fK 0).asg (envT (V.fK 0))).wrap (K0 (V.fK 0)) (H0 (V.fK 0)) id id) [retO (V.fK 0) (V.fp 1)] V.s
@[irreducible] noncomputable def Z31:FrZ:=pickZ Z31P
set_option maxHeartbeats 4000000 in
theorem Z31c:Z31P Z31:=by
 intro G hb S F hk hsame
 have hp2:asgOf (Z31.fK 0).b=some (Z31.fK 0).asg:=by rw [hb];rfl
 have hsk:(Z31.fK 0).sc.kind=.function:=by
  obtain ⟨_,_,_,_,_,_,_,_,_,_,_,_,_,h⟩:=tok_shape G.FD
  exact h
 have zf:=G.Z.zg
 refine e1a1 zf ?_;clear zf;intro fo zf
 have b1:=G.hdp
 have b2:=G.hun
 refine e1a9 (G.ground (A:=ktrTop Z31.dp Z31.un Z31.gd Z31.cn Z31.cs (Z31.fA 0) Z31.ca Z31.ccd Z31.cll Z31.outer) rfl F S) fun ext hext g1 g2 g3 g4 g5 g6 g7 g8=>?_
 refine e3a3 (over_out (dp:=Z31.dp) (un:=Z31.un) (gd:=Z31.gd) (cn:=Z31.cn) (cs:=Z31.cs) (LR:=(Z31.fA 0)) (ca:=Z31.ca) (ccd:=Z31.ccd) (cll:=Z31.cll) (outer:=Z31.outer) (t:=(Z31.fK 0)) (p':=(Z31.fp 1))) fun d2 u2 gg2 oO hd2 hu2=>?_
 have hg:∀ b∈(Z31.fa 0).lx::wrT (Z31.fa 0) (Z31.fK 0).LG,b=(Z31.fK 0).LG\/((Z31.fh 0).get? b=none/\b≠(Z31.fA 0)):=fun b hm=>by
  by_cases h:b=(Z31.fK 0).LG
  ·exact .inl h
  ·have:=G.adr b ((List.mem_cons.mp hm).elim (fun e=>e▸.head _) fun m=>(List.mem_cons.mp m).elim (fun e=>absurd e h) fun m=>.tail _ (List.mem_append_left _ m))
   exact .inr ⟨this.2.2,this.2.1⟩
 refine seg_wrap ?_
 rw [oO]
 rcases G.fin with h0 | ⟨l,h0⟩
 ·have hnil:=turn_none h0
  rw [hnil] at g8
  refine pc_end G.FD hp2 ⟨g3,g1,g4,g5,hsk,by omega,by omega⟩ g6 g7 g8 g2 fun st' h' tk' I' ct' tb' F' N'=>?_
  rw [S.tb] at tb'
  show Seg _ _ _ _ _ _ _ (.pure (.again (OUT (Z31.fK 0)))) _ _
  refine seg_again rfl (seg_whileLoop ?_)
  rw [oO]
  refine pc_state (q:=(Z31.fA 2)) G.FD ⟨g3,F',g4,g5,hsk,by omega,by omega⟩ N' (mem_em _ (List.mem_append_left _ zf)) ?_
  rw [if_pos rfl]
  refine seg_execs_cons (seg_While fun p2=>?_)
  show Seg _ _ _ _ _ _ (INN (Z31.fK 0)) _ [retI (Z31.fK 0) p2,retO (Z31.fK 0) (Z31.fp 1)] _
  refine e3a3 (over_inn (dp:=Z31.dp) (un:=Z31.un) (gd:=Z31.gd) (cn:=Z31.cn) (cs:=Z31.cs) (LR:=(Z31.fA 0)) (ca:=Z31.ca) (ccd:=Z31.ccd) (cll:=Z31.cll) (outer:=Z31.outer) (t:=(Z31.fK 0)) (p:=p2) (p':=(Z31.fp 1))) fun d3 u3 gg3 oI2 hd3 hu3=>?_
  refine seg_whileLoop ?_
  rw [oI2]
  refine pc_buf G.FD ⟨g3,F',g4,g5,hsk,by omega,by omega⟩ N' (by rw [tb'];decide) fun tk3=>?_
  rw [tb']
  show Seg _ _ _ _ _ _ _ (leafOf (.ok .next)) (retI (Z31.fK 0) p2::[retO (Z31.fK 0) (Z31.fp 1)]) _
  refine seg_leaf (.ok .next) ?_
  show Seg _ _ _ _ _ _ (OUT (Z31.fK 0)) ((execs (Z31.fK 0).asg (envT (Z31.fK 0))).wrap (K0 (Z31.fK 0)) (H0 (Z31.fK 0)) id id) [retO (Z31.fK 0) (Z31.fp 1)] _
  refine seg_wrap ?_
  rw [oO]
  refine pc_stop G.FD hp2 ⟨g3,F',g4,g5,hsk,by omega,by omega⟩ g6 (g7.mono (mem_em (st:=st') (ps:=(Z31.fW 0)))) N' fun h2 tk4 F2 N2=>?_
  show Seg _ _ _ _ _ _ _ (.pure (.again (OUT (Z31.fK 0)))) _ _
  refine seg_again rfl (seg_whileLoop ?_)
  rw [oO]
  refine pc_none (N:=N2) G.FD ⟨g3,F2,g4,g5,hsk,by omega,by omega⟩ ?_
  show Seg _ _ _ _ _ _ _ (leafOf (.ok .next)) [retO (Z31.fK 0) (Z31.fp 1)] _
  refine seg_leaf (.ok .next) ?_
  show Seg _ _ _ _ _ _ _ (leafOf (.ok (.ret .none))) [] _
  refine seg_end _ (.inl ⟨rfl,rfl,h0,?_,⟨hsame.os,hsame.dr,hsame.gk⟩,⟨(Z31.fW 0),(N2 (225,tabObj (Z31.fW 0)) (List.mem_append_right [_,_,_,_,_,_] (.head _))).1⟩⟩)
  subst hext
  exact hk.trans (keep_seg S F2 (N2 ((Z31.fa 0).lx,instObj 390 (Z31.fa 0).dx) (.head _)).1 fun q hq=>(N2 q (mem_em _ hq)).1)
 ·refine pc_bad G.FD hp2 ⟨g3,g1,g4,g5,hsk,by omega,by omega⟩ g6 g7 g8 g2 S.ct S.tab (by rw [S.tb];decide) S.sub (by have:=S.lex.z;omega) h0 fun e dx D k gg h' tk' Fg Ug R lD gD=>?_
  show Seg _ _ _ _ _ _ _ ((do noteFrame (.ref e) (envT (Z31.fK 0));theTreesLotGoes (.ref e):Sem Unit).wrap (fun _=>.raise (.ref e)) .raise id id) _ _
  refine seg_wrap ?_
  rw [oO]
  refine wpAny_bind (note_X rfl rfl R fun h1 H1 U1=>wpAny_theTreesLotGoes ?_)
  show Seg _ _ _ _ _ _ _ (leafOf (.error (.ref e))) [retO (Z31.fK 0) (Z31.fp 1)] _
  refine seg_leaf (.error (.ref e)) ?_
  refine e3a3 (over_fun (dp:=Z31.dp) (un:=Z31.un) (gd:=Z31.gd) (cn:=Z31.cn) (cs:=Z31.cs) (LR:=(Z31.fA 0)) (ca:=Z31.ca) (ccd:=Z31.ccd) (cll:=Z31.cll) (outer:=Z31.outer) (t:=(Z31.fK 0))) fun d3 u3 gg3 oF hd3 hu3=>?_
  show Seg _ _ _ _ _ _ (FUN (Z31.fK 0)) ((Sem.bind (do
    if (<- field (.ref e) 1)==Value.none then unsupported "frame.own-activation:exception-without-traceback"
    setFlight (.ref e) (some (Z31.fK 0).LG)) fun _=>(.raise (.ref e):Sem Flow)).wrap (KO (Z31.fK 0)) (HF (Z31.fK 0)) id id) [] _
  rw [Sem.bind_eq_wrap,Sem.wrap_wrap]
  refine seg_wrap ?_
  rw [oF]
  refine flight_X H1 fun h2 H2 U2=>?_
  show Seg _ _ _ _ _ _ (FUN (Z31.fK 0)) ((leaving (envT (Z31.fK 0)) (.ref e)).wrap (fun _=>.raise (.ref e)) .raise id id) [] _
  refine seg_wrap ?_
  rw [oF]
  refine leaveHeld_X rfl H2 fun h3 R3 U3=>?_
  show Seg _ _ _ _ _ _ _ (leafOf (.error (.ref e))) [] _
  refine seg_end _ (.inr ⟨e,rfl,rfl,l,dx,D,k,(Z31.fW 0),h0,?_,lD,gD,?_,⟨hsame.os,hsame.dr,hsame.gk⟩⟩)
  ·subst hext
   refine R3.less fun q hq=>?_
   rcases List.mem_cons.mp hq with rfl | hq
   ·exact .head _
   rcases List.mem_cons.mp hq with rfl | hq
   ·exact .tail _ (.head _)
   ·exact .tail _ (.tail _ (err_less S hk q hq))
  ·exact (Heap.UpToSlots.of_keeps (gnd_less hg hk)).trans ((Heap.UpToSlots.of_keeps Fg.keep).trans (Ug.trans (U1.trans (U2.trans U3))))
theorem seg_fin (G:TokG w p loose mean mg mb dp un cs outer A₀ base g0 LR t.LG a chars cl fe fs rest0 stm N pr t.b t.sc) {x y:Stmt} {wp0:Pos} (hb:t.b=[x,y,.While (.Name "state" t.p1) (outB t) [] wp0])
  (p':Pos) (st:LexS) (ps:Array Value) (s₀ s:Shared) (mR:Str->Option Value) (S:TState a chars cl rest0 t.LG fs s.heap st ps (stm 0)) (F:Fr g0 LR s.heap mR) (hk:KeepBut (wrT a t.LG) s₀.heap s.heap) (hsame:Same s₀ s) :
  Seg (model pw_rk0009_01 w) (ktrTop dp un gd cn cs LR ca ccd cll outer) (RTok base (envX cn cs LR ca ccd cll::outer) a t.LG g0 LR stm) (YTok a chars cl rest0 t.LG fs g0 LR stm) 0 s₀ (OUT t) ((execs t.asg (envT t)).wrap (K0 t) (H0 t) id id) [retO t p'] s:=pickedZ (by with_unfolding_all rfl) Z31c (sfM (sfZ (sfW (sfx (sfp (sfm (sfg (sfN (sfK (sfk (sfL (sfC (sfa (sfA (sfh (frC w p loose mean mg mb dp un gd cn cs ca ccd cll outer A₀ base Z31.h₀ Z31.L Z31.m s Z31.E) [g0]) [LR,cl,fe,fs]) [a]) [chars]) [rest0]) [stm]) [t]) [N]) [pr]) [x,y]) [wp0,p']) [st]) [ps]) [s₀]) [mR]) G hb S F hk hsame
end
end
example:True:=by w_top off;trivial
section
open NgM01 NgM01b NgM02 NgM03 NgM09 NgM10 NgM11 NgM12 NgM15 NgM16 NgM18
noncomputable abbrev witA (a:LexA) (h5:Int) (t5:Tok):LexA:={ a with h5:=h5,t5:=t5,dn:=5 }
theorem TokS.wit {w:World} {a:LexA} {chars:List Cel} {cl:Addr} {rest:List (Addr×Obj)} {fe fs:Addr} (S:TokS w a chars cl rest fe fs) (h5:Int) (t5:Tok):TokS w (witA a h5 t5) chars cl rest fe fs where
 cl:=S.cl
 ce:=S.ce
 one:=S.one
 z:=S.z
 zs:=S.zs.rec fun _ _ _ _ _ _ _ _ _ _ _ _ _ _ _ _ _ _ h=>⟨_,_,_,_,_,_,_,_,_,_,_,_,_,_,_,_,_,_,⟨h.txt,h.fn,h.cd,h.e,h.l,h.s⟩⟩
 ze:=S.ze
theorem seg_mono {M:Model} {A:Around} {R:GenEnd} {Y Y':Protocol} (hY:∀ n s₀ v s₁ (kap kap':Resume->Shared->Prop),(∀ r s'',kap r s''->kap' r s'')->Y n s₀ v s₁ kap->Y' n s₀ v s₁ kap') :
  ∀ (n:Nat) (s₀:Shared) (c:Code) (t:Sem Fin) (fs:List Frame) (s:Shared),Seg M A R Y n s₀ c t fs s->Seg M A R Y' n s₀ c t fs s:=by
 have fin:∀ (n:Nat) (ih:∀ c t fs s'',Seg.next M A R Y n c t fs s''->Seg.next M A R Y' n c t fs s'') (s₀:Shared) (e:End) (s':Shared),SegEnd R Y n (Seg.next M A R Y n) s₀ e s'->SegEnd R Y' n (Seg.next M A R Y' n) s₀ e s':=by
  intro n ih s₀ e s' h
  cases e with
  | ret r=>exact h
  | susp v g l k c p fs=>exact ⟨h.1,hY _ _ _ _ _ _ (fun r s'' x=>ih _ _ _ _ x) h.2⟩
 intro n
 induction n with
 | zero =>
  intro s₀ c t fs s h
  rw [seg_iff] at h ⊢
  intro Γ p h1 h2
  refine e2a2 (h Γ p h1 h2) fun e s' hr he=>?_
  exact ⟨e,s',hr,fin 0 (fun _ _ _ _ x=>x) s₀ e s' he⟩
 | succ n ih =>
  intro s₀ c t fs s h
  rw [seg_iff] at h ⊢
  intro Γ p h1 h2
  refine e2a2 (h Γ p h1 h2) fun e s' hr he=>?_
  exact ⟨e,s',hr,fin (n+1) (fun c t fs s'' x=>ih s'' c t fs s'' x) s₀ e s' he⟩
noncomputable def YTokX (a:LexA) (chars:List Cel) (cl:Addr) (rest0:List (Addr×Obj)) (LG fs:Addr) (g0:Heap) (LR:Addr) (stm:Nat->List Cel):Protocol:=fun n s₀ v s₁ kap =>
 ∃ h5 t5,YTok (witA a h5 t5) chars cl rest0 LG fs g0 LR stm n s₀ v s₁ kap
noncomputable def Z21P:FrZ->Prop:=fun V=>∀ (kap kap':Resume->Shared->Prop) (hk:∀ r s'',kap r s''->kap' r s'') (h:YTok (witA (V.fa 0) (V.fI 0) (V.fT 0)) (V.fC 0) (V.fA 0) (V.fL 0) (V.fA 1) (V.fA 2) (V.fh 0) (V.fA 3) (V.fk 0) (V.fN 0) (V.fZ 0) (V.fV 0) (V.fZ 1) kap),YTokX (V.fa 0) (V.fC 0) (V.fA 0) (V.fL 0) (V.fA 1) (V.fA 2) (V.fh 0) (V.fA 3) (V.fk 0) (V.fN 0) (V.fZ 0) (V.fV 0) (V.fZ 1) kap'
@[irreducible] noncomputable def Z21:FrZ:=pickZ Z21P
theorem Z21c:Z21P Z21:=by
 intro kap kap' hk h
 refine e5a4 h fun st ps k typ cc a1 a2 a3 Q24=>?_;clear h;obtain ⟨a4,a5,a6,a7,a8,a9,a10,a11,a12,a13,a14⟩:=Q24
 exact ⟨(Z21.fI 0),(Z21.fT 0),st,ps,k,typ,cc,a1,a2,a3,a4,a5,a6,a7,a8,a9,a10,a11,a12,a13,fun s'' x y=>hk _ _ (a14 s'' x y)⟩
theorem ytok_mono {a:LexA} {chars:List Cel} {cl:Addr} {rest0:List (Addr×Obj)} {LG fs:Addr} {g0:Heap} {LR:Addr} {stm:Nat->List Cel} (h5:Int) (t5:Tok) (n:Nat) (s₀:Shared) (v:Value) (s₁:Shared) (kap kap':Resume->Shared->Prop) (hk:∀ r s'',kap r s''->kap' r s'')
  (h:YTok (witA a h5 t5) chars cl rest0 LG fs g0 LR stm n s₀ v s₁ kap):YTokX a chars cl rest0 LG fs g0 LR stm n s₀ v s₁ kap':=pickedZ (by with_unfolding_all rfl) Z21c (sfV (sfZ (sfN (sfT (sfI (sfk (sfh (sfL (sfA (sfC (sfa (frZ) [a]) [chars]) [cl,LG,fs,LR]) [rest0]) [g0]) [stm]) [h5]) [t5]) [n]) [s₀,s₁]) [v]) kap kap' hk h
section
variable {g0:Heap} {LR:Addr} {a:LexA} {chars:List Cel} {cl fe fs:Addr} {rest0:List (Addr×Obj)} {stm:Nat->List Cel} {t:TokA} {N:Nat} {pr:Arguments}
theorem TokG.wit (G:TokG w p loose mean mg mb dp un cs outer A₀ base g0 LR t.LG a chars cl fe fs rest0 stm N pr t.b t.sc) (h5:Int) (t5:Tok):TokG w p loose mean mg mb dp un cs outer A₀ base g0 LR t.LG (witA a h5 t5) chars cl fe fs rest0 stm N pr t.b t.sc :=
 ⟨G.B,G.X,G.T,G.C1,G.hk,G.hdp,G.hun,G.lt,G.Z.wit h5 t5,G.adr,G.FD,G.go,G.fin⟩
structure TInit (a:LexA) (rest0:List (Addr×Obj)) (cl:Addr) (LG fs:Addr) (h:Heap) (tn pn cnn:Nat) (io:Obj) (ps:Array Value):Prop where
 has:Has h (preLed a tn pn cnn ((a.it,io)::(225,tabObj ps)::rest0))
 ns:h.Ns LG (m0 a.lx a.it fs)
 io:IoAt io cl 0
 tab:EmTab emPos ps
 D:LexD a ((225,tabObj ps)::rest0)
 d2:a.dx<a.lx
 d3:a.lx<a.tb
 d4:a.tb<a.pb
 d5:a.pb<a.ct
noncomputable def Z20P:FrZ->Prop:=fun V=>∀ (g0:Heap) (LR:Addr) (s:Shared) (a:LexA) (rest0:List (Addr×Obj)) (t:TokA) (G:TokG V.w V.p V.loose V.mean V.mg V.mb V.dp V.un V.cs V.outer V.A₀ V.base g0 LR t.LG a (V.fC 0) (V.fA 0) (V.fA 1) (V.fA 2) rest0 (V.fk 0) (V.fN 0) (V.fg 0) t.b t.sc) (x:Stmt) (hb:t.b=[x,(V.fm 0),.While (.Name "state" t.p1) (outB t) [] (V.fp 0)]) (hN:(V.fk 0) (V.fN 0)=(V.fC 0)) (tn pn cnn:Nat) (io:Obj) (ps:Array Value) (mR:Str->Option Value) (S:TInit a rest0 (V.fA 0) t.LG (V.fA 2) s.heap tn pn cnn io ps) (F:Fr g0 LR s.heap mR),Seg (model pw_rk0009_01 V.w) (ktrTop V.dp V.un V.gd V.cn V.cs LR V.ca V.ccd V.cll V.outer) (RTok V.base (envX V.cn V.cs LR V.ca V.ccd V.cll::V.outer) a t.LG g0 LR (V.fk 0)) (YTokX a (V.fC 0) (V.fA 0) rest0 t.LG (V.fA 2) g0 LR (V.fk 0)) (V.fN 0) s (FUN t) ((model pw_rk0009_01 V.w).den (FUN t)) [] s
@[irreducible] noncomputable def Z20:FrZ:=pickZ Z20P
set_option maxHeartbeats 4000000 in
theorem Z20c:Z20P Z20:=by
 intro g0 LR s a rest0 t G x hb hN tn pn cnn io ps mR S F
 have hi:iniOf t.b=some (x,(Z20.fm 0)):=by rw [hb];rfl
 have hsk:t.sc.kind=.function:=by
  obtain ⟨_,_,_,_,_,_,_,_,_,_,_,_,_,h⟩:=tok_shape G.FD
  exact h
 have zf:=G.Z.zf
 refine e1a1 zf ?_;clear zf;intro fo zf
 have b1:=G.hdp
 have b2:=G.hun
 have hadr:∀ q∈preLed a tn pn cnn ((a.it,io)::(225,tabObj ps)::rest0),q.1≠t.LG/\q.1≠LR/\g0.get? q.1=none:=fun q hq=>G.adr q.1 (by
  have:q.1∈(preLed a tn pn cnn ((a.it,io)::(225,tabObj ps)::rest0)).map (·.1):=List.mem_map_of_mem hq
  exact this)
 refine e0a6 (ground_in (A:=ktrTop Z20.dp Z20.un Z20.gd Z20.cn Z20.cs LR Z20.ca Z20.ccd Z20.cll Z20.outer) (env:=envX Z20.cn Z20.cs LR Z20.ca Z20.ccd Z20.cll) G.B F rfl G.hk rfl G.T G.X G.lt S.ns S.has hadr) fun g1 g2 g3 g4 g5 g6=>?_
 have g7:=G.C1.keeps g6
 obtain ⟨ext,hext⟩:∃ ext,ext=allBut s.heap (gndH s.heap g0 LR t.LG) (t.LG::(preLed a tn pn cnn ((a.it,io)::(225,tabObj ps)::rest0)).map (·.1)):=⟨_,rfl⟩
 rw [<- hext] at g2
 have d1:∀ q∈(a.it,io)::(225,tabObj ps)::(rest0++ext),q.1≠a.dx:=by
  have D:a.dx∉a.tb::a.pb::a.ct::a.it::225::rest0.map (·.1):=(List.nodup_cons.mp (List.nodup_cons.mp S.D).2).1
  intro q hq
  refine (List.mem_append (s:=(a.it,io)::(225,tabObj ps)::rest0)).mp hq |>.elim (fun hq h=>D (h▸.tail _ (.tail _ (.tail _ (List.mem_map_of_mem hq))))) fun hq=>?_
  subst hext
  have:=(mem_allBut.mp (show (q.1,q.2)∈_ from hq)).2.1
  exact fun h=>this (h▸.tail _ (.tail _ (.head _)))
 refine seg_func ?_
 rw [show execs t.b (envT t)=execs [x,(Z20.fm 0),.While (.Name "state" t.p1) (outB t) [] (Z20.fp 0)] (envT t) from by rw [hb]]
 refine seg_execs_cons (seg_wrap ?_)
 refine e3a3 (over_fun (dp:=Z20.dp) (un:=Z20.un) (gd:=Z20.gd) (cn:=Z20.cn) (cs:=Z20.cs) (LR:=LR) (ca:=Z20.ca) (ccd:=Z20.ccd) (cll:=Z20.cll) (outer:=Z20.outer) (t:=t)) fun d3 u3 gg3 oF hd3 hu3=>?_
 rw [oF]
 refine pc_s0 G.FD hi ⟨g3,g1,g4,g5,hsk,by omega,by omega⟩ g2 d1 S.d2 S.d3 S.d4 S.d5 fun h1 tk1 h5 t5 F1 N1=>?_
 show Seg _ _ _ _ _ _ (FUN t) ((execs [(Z20.fm 0),.While (.Name "state" t.p1) (outB t) [] (Z20.fp 0)] (envT t)).wrap KF (HF t) id id) [] _
 refine seg_execs_cons (seg_wrap ?_)
 rw [oF]
 refine pc_s1 G.FD hi ⟨g3,F1,g4,g5,hsk,by omega,by omega⟩ N1 fun h2 tk2 F2 N2=>?_
 show Seg _ _ _ _ _ _ (FUN t) ((execs [.While (.Name "state" t.p1) (outB t) [] (Z20.fp 0)] (envT t)).wrap KF (HF t) id id) [] _
 refine seg_execs_cons (seg_While fun p'=>?_)
 show Seg _ _ _ _ _ _ (OUT t) _ [retO t p'] _
 refine e3a3 (over_out (dp:=Z20.dp) (un:=Z20.un) (gd:=Z20.gd) (cn:=Z20.cn) (cs:=Z20.cs) (LR:=LR) (ca:=Z20.ca) (ccd:=Z20.ccd) (cll:=Z20.cll) (outer:=Z20.outer) (t:=t) (p':=p')) fun d2 u2 gg2 oO hd2 hu2=>?_
 have N3:News (gndH s.heap g0 LR t.LG) t.LG h2 (emLed (witA a h5 t5) ⟨[],[],[],io,tn,pn,cnn⟩ ps (rest0++ext)):=N2
 have kb:KeepBut (wrT a t.LG) s.heap h2:=by
  refine keep_out S.has F2 (fun q hq=>?_) (fun q hq hn=>?_) (.head _)
  ·subst hext
   exact (N3 q (mem_em _ (List.mem_append_right _ hq))).1
  ·refine e0a7 (nm7 hn) fun _ n1 n2 n3 n4 n5 n6=>?_
   refine m7r hq (fun e=>?_) (fun e=>?_) (fun e=>?_) (fun e=>?_) (fun e=>?_) (fun e=>?_) (fun e=>?_) fun hq=>?_
   any_goals subst e
   ·exact (N3 _ (.head _)).1
   ·exact absurd rfl n1
   ·exact absurd rfl n2
   ·exact absurd rfl n3
   ·exact absurd rfl n4
   ·exact absurd rfl n5
   ·exact absurd rfl n6
   ·exact (N3 q (mem_em _ (List.mem_append_left _ hq))).1
 have wn:∀ b∈wrT a t.LG,b=t.LG\/(b≠LR/\g0.get? b=none):=fun b hm=>by
  by_cases h:b=t.LG
  ·exact .inl h
  ·have:=G.adr b ((List.mem_cons.mp hm).elim (fun e=>absurd e h) fun m=>.tail _ (List.mem_append_left _ m))
   exact .inr ⟨this.2.1,this.2.2⟩
 have FR:Fr g0 LR h2 mR:=fr_out F kb (fun hm=>by
  rcases wn _ hm with h | h
  ·exact absurd h (Nat.ne_of_lt G.lt)
  ·exact h.1 rfl) (fun b hm=>by
  rcases wn _ hm with rfl | h
  ·exact Heap.get?_none_of_le (Nat.le_trans F.above (Nat.le_of_lt G.lt))
  ·exact h.2)
 have I0:LexI (witA a h5 t5) (Z20.fC 0) (Z20.fA 0) ((225,tabObj ps)::rest0) ⟨[],[],[],io,tn,pn,cnn⟩ ((Z20.fk 0) (Z20.fN 0)):=by
  rw [hN]
  exact ⟨⟨S.D,let ⟨ep,h⟩:=G.Z.cl;⟨ep,.tail _ h⟩,fun x hx=>(G.Z.ce x hx).mono fun q hq=>.tail _ hq,Nat.le_trans G.Z.z (by decide)⟩,⟨[],(Z20.fC 0),rfl,rfl,.inl ⟨0,S.io,rfl⟩⟩,fun x hx=>(G.Z.ce x hx).mono fun q hq=>.tail _ hq,by simpa using G.Z.z⟩
 refine seg_mono (fun n s₀ v s₁ kap kap' hk h=>ytok_mono h5 t5 n s₀ v s₁ kap kap' hk h) (Z20.fN 0) _ _ _ _ _ ?_
 show Seg _ _ (RTok Z20.base (envX Z20.cn Z20.cs LR Z20.ca Z20.ccd Z20.cll::Z20.outer) (witA a h5 t5) t.LG g0 LR (Z20.fk 0)) (YTok (witA a h5 t5) (Z20.fC 0) (Z20.fA 0) rest0 t.LG (Z20.fA 2) g0 LR (Z20.fk 0)) _ _ _ _ _ _
 refine seg_whileLoop ?_
 rw [oO]
 refine pc_state (q:=(Z20.fA 2)) (a:=witA a h5 t5) G.FD ⟨g3,F2,g4,g5,hsk,by omega,by omega⟩ N3 (mem_em _ (List.mem_append_left _ zf)) ?_
 rw [if_pos rfl]
 refine seg_execs_cons (seg_While fun p2=>?_)
 show Seg _ _ _ _ _ _ (INN t) _ [retI t p2,retO t p'] _
 exact seg_inner (G.wit h5 t5) hb (fun p' st ps s₀ s mR S F hk hs=>seg_fin (G.wit h5 t5) hb p' st ps s₀ s mR S F hk hs) (Z20.fN 0) (Nat.le_refl _) p2 p' ⟨[],[],[],io,tn,pn,cnn⟩ ps s _ mR
  ⟨has_ext N3,F2.ns,I0,rfl,rfl,S.tab,fun z hz=>by rw [hN] at hz;exact hz⟩ FR kb ⟨rfl,rfl,GKeep.refl _⟩
theorem seg_first (G:TokG w p loose mean mg mb dp un cs outer A₀ base g0 LR t.LG a chars cl fe fs rest0 stm N pr t.b t.sc) {x y:Stmt} {wp0:Pos} (hb:t.b=[x,y,.While (.Name "state" t.p1) (outB t) [] wp0])
  (hN:stm N=chars) {tn pn cnn:Nat} {io:Obj} {ps:Array Value} {mR:Str->Option Value} (S:TInit a rest0 cl t.LG fs s.heap tn pn cnn io ps) (F:Fr g0 LR s.heap mR) :
  Seg (model pw_rk0009_01 w) (ktrTop dp un gd cn cs LR ca ccd cll outer) (RTok base (envX cn cs LR ca ccd cll::outer) a t.LG g0 LR stm) (YTokX a chars cl rest0 t.LG fs g0 LR stm) N s (FUN t) ((model pw_rk0009_01 w).den (FUN t)) [] s:=pickedZ (by with_unfolding_all rfl) Z20c (sfp (sfm (sfg (sfN (sfk (sfA (sfC (frC w p loose mean mg mb dp un gd cn cs ca ccd cll outer A₀ base Z20.h₀ Z20.L Z20.m Z20.s Z20.E) [chars]) [cl,fe,fs]) [stm]) [N]) [pr]) [y]) [wp0]) g0 LR s a rest0 t G x hb hN tn pn cnn io ps mR S F
end
end
theorem NgB31.gB31:True:=trivial
example:True:=by w_top off;trivial
section
open NgM01 NgM01b NgM02 NgM03 NgM09 NgM10 NgM11 NgM12 NgM15 NgM16 NgM18 NgB31
noncomputable def forOf (l:List Stmt):Option (List Stmt):=match l with
 | [_,_,_,_,_,.Try (.For _ _ b _ _::_) _ _ _ _,_]=>some b
 | _=>none
noncomputable abbrev gotObj (k:TokC) (x:Cel):Obj:={ cls:=.type "tuple",data:=.seq #[.str k.typ k.t1,.str k.val k.t2,.int x.row x.u4,.int x.col x.u1] }
section
variable {g0:Heap} {LR:Addr} {rest:List (Addr×Obj)} {pr:Arguments} {b bo:List Stmt} {sc:Scope} {Q:Flow->Shared->Prop} {E:Value->Shared->Prop}
theorem ldM {M:Model} {A:Around} {E:Value->Shared->Prop} {s:Shared} {env:Env} {h₀:Heap} {L:Addr} {m:Str->Option Value} {x:Str} {pos:Pos} {v:Value} {Q:Value->Shared->Prop} (F:Fr h₀ L s.heap m) (hk:env.scope.kind=.function) (hl:env.kindOf x=some .local) (hL:env.locals=L) (hv:m x=some v)
  (hd:(x==("__debug__" : Str))=false) (h:Q v s):wpAny M A (eval (.Name x pos) env) Q E s:=by
 subst hL
 exact wpAny_Name (wpAny_loadName_local hk hl F.ns hv h) hd
example:True:=by (k_with "B31" => (fail_if_success (fail_if_success (have:=gB31))));(k_with "eval Name" => k_extra "B31";(k_here;k_dflt (refine' ldM ?Y0 ?Y1 ?Y2 ?Y3 ?Y4 ?Y5 ?_;(case Y0=>assumption);(case Y1=>exact rfl);(case Y2=>exact rfl);(case Y3=>exact rfl);(case Y4=>assumption);(case Y5=>decide);k_whole)));trivial
theorem append_2 {w:World} {A:Around} {E:Value->Shared->Prop} {s:Shared} {h₀:Heap} {L x D:Addr} {ox:Obj} {m:Str->Option Value} {its:List Value} {n:Nat} {rest:List (Addr×Obj)} {c:Value} {Q:Value->Shared->Prop} (F:Fr h₀ L s.heap m) (N:News h₀ L s.heap ((x,ox)::(D,listOf its.toArray n)::rest)) (hx:x≠D) (hr:∀ p∈rest,p.1≠D) (hz:its.length≤1000)
  (h:∀ h' k,Fr h₀ L h' m->News h₀ L h' ((x,ox)::(D,listOf (its++[c]).toArray k)::rest)->Q .none { s with heap:=h' }):wpAny (model pw_rk0009_01 w) A (call (.builtin "list.append") [.ref D,c]) Q E s:=by
 refine append_K (its:=its.toArray) (n:=n) F N (.tail hx (.head hr)) (fun h' F' N'=>?_) (by rw [sizeLine_eq];simp;omega)
 rw [List.push_toArray] at N'
 exact h h' _ F' N'
example:True:=by (k_with "call builtin:list.append" => k_extra "B31";(k_here;k_dflt (refine' append_2 ?Y0 ?Y1 ?Y2 ?Y3 ?Y4 ?_;(case Y1=>assumption);(case Y0=>k_asm);(case Y2=>exact Nat.ne_of_gt (by omega));(case Y3=>assumption);(case Y4=>assumption);k_whole;intro Y5 Y6 Y7 Y8)));trivial
noncomputable def Z77P:FrZ->Prop:=fun V=>∀ (b:List Stmt) (bo:List Stmt) (sc:Scope) (k:TokC) (FD:FnDef V.w 551 "_law_run" "_law_run" (V.fg 0) b sc (.ref 550)) (hp:forOf b=some bo) (C:Cx 30 V.w V.p V.loose V.mean V.mg V.mb V.dp V.un sc V.outer V.A₀ V.base (V.fh 0) (V.fA 0) V.m V.s) (N:News (V.fh 0) (V.fA 0) V.s.heap (((V.fA 1),listOf (V.fv 0).toArray (V.fN 0))::(V.fL 0))) (h1:V.m "t" = some (.ref k.t)) (h2:V.m "got" = some (.ref (V.fA 1))) (hl:(V.fv 0).length≤1000) (z1:(k.t,tokObj k)∈(V.fL 0)) (z2:(k.td,dictOf [] 0)∈(V.fL 0)) (z3:(k.lc,locObj (V.fc 0))∈(V.fL 0)) (z4:((V.fc 0).ld,dictOf [] 0)∈(V.fL 0)) (d1:∀ q∈(V.fL 0),q.1≠(V.fA 1)) (ret:∀ (tp:Addr) (h':Heap) (tk' n':Nat),Fr (V.fh 0) (V.fA 0) h' V.m->News (V.fh 0) (V.fA 0) h' ((tp,gotObj k (V.fc 0))::((V.fA 1),listOf ((V.fv 0)++[Value.ref tp]).toArray n')::(V.fL 0))->(∀ q∈(V.fL 0),q.1<tp)->@LT.lt Nat _ (V.fA 1) tp->(V.fF 0) .next { V.s with heap:=h',toks:=tk' }),wpAny (model pw_rk0009_01 V.w) (ktrTop V.dp V.un V.gd "_law_run" sc (V.fA 0) 551 (.ref 550) V.cll V.outer) (execs bo (envX "_law_run" sc (V.fA 0) 551 (.ref 550) V.cll)) (V.fF 0) V.E V.s
@[irreducible] noncomputable def Z77:FrZ:=pickZ Z77P
set_option maxHeartbeats 4000000 in
theorem Z77c:Z77P Z77:=by
 intro b bo sc k FD hp C N h1 h2 hl z1 z2 z3 z4 d1 ret
 obtain ⟨_,_,_,_,_,_,_,_,_,ho⟩:=FD
 have e:sc=_:=fn_scope ho (by k_is)
 subst e
 have e:b=_:=fn_body ho (by k_is)
 subst e
 have e2:bo=_:=Option.some.inj (hp.symm.trans (rfl:forOf _=some _))
 subst e2
 clear hp ho
 obtain ⟨B,F,X,T,hk,hdp,hun⟩:=C
 k_steps
 all_goals exact ret _ _ _ _ (by assumption) (by assumption) (by assumption) (by assumption)
theorem pc_for {got:Addr} {its:List Value} {n:Nat} {k:TokC} {x:Cel} (FD:FnDef w 551 "_law_run" "_law_run" pr b sc (.ref 550)) (hp:forOf b=some bo) (C:Cx 30 w p loose mean mg mb dp un sc outer A₀ base g0 LR m s)
  (N:News g0 LR s.heap ((got,listOf its.toArray n)::rest)) (h1:m "t" = some (.ref k.t)) (h2:m "got" = some (.ref got)) (hl:its.length≤1000) (z1:(k.t,tokObj k)∈rest) (z2:(k.td,dictOf [] 0)∈rest) (z3:(k.lc,locObj x)∈rest) (z4:(x.ld,dictOf [] 0)∈rest) (d1:∀ q∈rest,q.1≠got)
  (ret:∀ (tp:Addr) (h':Heap) (tk' n':Nat),Fr g0 LR h' m->News g0 LR h' ((tp,gotObj k x)::(got,listOf (its++[Value.ref tp]).toArray n')::rest)->(∀ q∈rest,q.1<tp)->@LT.lt Nat _ got tp->Q .next { s with heap:=h',toks:=tk' }) :
  wpAny (model pw_rk0009_01 w) (ktrTop dp un gd "_law_run" sc LR 551 (.ref 550) cll outer) (execs bo (envX "_law_run" sc LR 551 (.ref 550) cll)) Q E s:=pickedZ (by with_unfolding_all rfl) Z77c (sfc (sfN (sfv (sfF (sfg (sfL (sfA (sfh (frC w p loose mean mg mb dp un gd Z77.cn Z77.cs Z77.ca Z77.ccd cll outer A₀ base Z77.h₀ Z77.L m s E) [g0]) [LR,got]) [rest]) [pr]) [Q]) [its]) [n]) [x]) b bo sc k FD hp C N h1 h2 hl z1 z2 z3 z4 d1 ret
end
end
example:True:=by w_top off;trivial
section
open NgM01 NgM01b NgM02 NgM03 NgM09 NgM10 NgM11 NgM12 NgM15 NgM16 NgM18
section
variable {A:Around} {E:Value->Shared->Prop} {e dx:Addr} {oe:Obj} {name:Str} {D:List DictEntry} {k:Nat} {v:Value} {Q:Value->Shared->Prop}
theorem exc_get {expr:Bool} (X:(hd.heap_1 w.params).In s.heap) (I:InstAt s.heap e oe 156 (some (dictOf D k))) (hf:findObj (hd.heap_1 w.params) 156 (some (dictOf D k)) name=some (.value v)) (hh:handedIn v=true) (h:Q v { s with toks:=s.toks+1 }) :
  wpAny (model pw_rk0009_01 w) A (getAttr (.ref e) name expr) Q E s:=by
 have f1:findIn (hd.heap_1 w.params) (.ref 156) "__getattribute__" = some (some (.builtin "BaseException.__getattribute__")):=by k_is
 have f2:findIn (hd.heap_1 w.params) (.ref 156) "__getattr__" = some none:=by k_is
 obtain ⟨hp,g,d,t,os⟩:=s
 have L0:=I.type (M:=model pw_rk0009_01 w)
 have L1:=looks_findIn (M:=model pw_rk0009_01 w) X f1
 have L2:=looks_findIn (M:=model pw_rk0009_01 w) X f2
 have L3:=looks_find (M:=model pw_rk0009_01 w) X I hf
 have hx0:(expr&&onTheHeap (Value.builtin "BaseException.__getattribute__"))=false:=by cases expr <;> rfl
 have hx2:(Value.builtin "BaseException.__getattribute__" == Value.builtin "object.__getattribute__")=false:=by decide +kernel
 have f3:=PySem.F.attrBase_Exception.ga.bind (.ref e)
 have sub:Looks (model pw_rk0009_01 w) hp (isInstance (.ref e) (.type "BaseException")) true:=I.type.andThen (looks_subIn X (by k_is))
 unfold getAttr getAttrBy
 refine wpAny_bind (wpAny_mkText (wpAny_holding (wpAny_bind (L0.at (wpAny_bind (L1.at ?_))))))
 show wpAny _ _ (if (onTheHeap (Value.ref 156)&&Value.builtin "BaseException.__getattribute__" == Value.builtin "object.__getattribute__")=true then _ else _) _ _ _
 rw [hx2,Bool.and_false,if_neg Bool.false_ne_true]
 unfold getAttrByItsOwn hookBefore
 show wpAny _ _ (typeLookup (.ref 156) "__getattr__" >>= _) _ _ _
 refine wpAny_bind (L2.at ?_)
 refine wpAny_bind (wpAny_attempt (wpAny_holding ?_))
 unfold callGetattribute
 rw [if_neg (by rw [hx0];exact Bool.false_ne_true)]
 unfold boundAndCalled
 rw [f3]
 refine wpAny_bind (wpAny_pure ?_)
 show wpAny _ _ (call (.builtin "BaseException.__getattribute__") [.ref e,.str name t]) _ _ _
 refine wpAny_call (codeAny_call_builtin PySem.F.attrBase_Exception.ga.plain PySem.F.entry_bexc_ga ?_)
 refine @check_slot (model pw_rk0009_01 w) _ _ _ "BaseException.__getattribute__" "BaseException" "__getattribute__" (.ref e) [.str name t] [] _ (by decide +kernel) (by decide +kernel) sub (PySem.F.args_bexc_ga (.ref e) (.str name t)) ?_
 unfold Builtin.«object.__getattribute__»
 refine wpAny_bind (wpAny_pure (wpAny_bind (wpAny_pure (wpAny_bind (L0.at (wpAny_bind (L3.at ?_)))))))
 refine wpAny_pure ?_
 show wpAny _ _ (handedOut v) _ _ _
 rw [handedOut_of hh]
 exact wpAny_pure h
end
end
theorem NgB33.gB33:True:=trivial
example:True:=by w_top off;trivial
section
open NgM01 NgM01b NgM02 NgM03 NgM09 NgM10 NgM11 NgM12 NgM15 NgM16 NgM18 NgB33
noncomputable def hbOf (l:List Stmt):Option (List Stmt):=match l with
 | [_,_,_,_,_,.Try _ (.ExceptHandler _ _ hb _::_) _ _ _,_]=>some hb
 | _=>none
noncomputable def retOf (l:List Stmt):Option (List Stmt):=match l with
 | [_,_,_,_,_,_,r]=>some [r]
 | _=>none
noncomputable abbrev pairObj (a b:Value):Obj:={ cls:=.type "tuple",data:=.seq #[a,b] }
section
variable {A:Around} {LR:Addr} {rest:List (Addr×Obj)} {pr:Arguments} {b bo:List Stmt} {sc:Scope} {Q:Flow->Shared->Prop} {E:Value->Shared->Prop}
theorem exc_getK {e dx:Addr} {oe:Obj} {D:List DictEntry} {k:Nat} {v:Value} {expr:Bool} {R:Value->Shared->Prop} (F:Fr h₀ LR s.heap m) (X:(hd.heap_1 w.params).In h₀) (N:News h₀ LR s.heap rest) (he:(e,oe)∈rest) (hc:oe.cls=.ref 156) (hdx:oe.dict=some dx) (hfz:notCls oe=true) (hD:(dx,dictOf D k)∈rest)
  (hl:getL "loc" D=some (some v)) (hv:handedIn v=true) (h:R v { s with toks:=s.toks+1 }):wpAny (model pw_rk0009_01 w) A (getAttr (.ref e) "loc" expr) R E s:=by
 have I:InstAt s.heap e oe 156 (some (dictOf D k)):=⟨(N _ he).1,hc,hfz,by rw [hdx];exact (N _ hD).1⟩
 exact exc_get (X.keeps F.keep) I (findObj_own (by k_is) (by k_is) (by k_is) hl) hv h
example:True:=by (k_with "B33" => (fail_if_success (fail_if_success (have:=gB33))));(k_with "eval Name" => k_extra "B33";(k_here;k_dflt (refine' ldM ?Y0 ?Y1 ?Y2 ?Y3 ?Y4 ?Y5 ?_;(case Y0=>assumption);(case Y1=>exact rfl);(case Y2=>exact rfl);(case Y3=>exact rfl);(case Y4=>assumption);(case Y5=>decide);k_whole)));(k_with "getAttr ref" => k_extra "B33";(k_here;(with_reducible show wpAny _ _ (getAttr (Value.ref _) (PySem.Str.ofString "loc") _) _ _ _);k_dflt (refine' exc_getK ?Y0 ?Y1 ?Y2 ?Y3 ?Y4 ?Y5 ?Y6 ?Y7 ?Y8 ?Y9 ?_;(case Y3=>assumption);(case Y0=>assumption);(case Y1=>k_asm);(case Y2=>k_asm);(case Y4=>assumption);(case Y5=>assumption);(case Y6=>assumption);(case Y7=>assumption);(case Y8=>assumption);(case Y9=>exact rfl);k_whole)));trivial
noncomputable def Z86P:FrZ->Prop:=fun V=>∀ (b:List Stmt) (bo:List Stmt) (sc:Scope) (e:Addr) (FD:FnDef V.w 551 "_law_run" "_law_run" (V.fg 0) b sc (.ref 550)) (hp:hbOf b=some bo) (F:Fr V.h₀ (V.fA 0) V.s.heap V.m) (X:(hd.heap_1 V.w.params).In V.h₀) (T:Top V.p V.loose V.mean V.mg V.mb V.h₀) (N:News V.h₀ (V.fA 0) V.s.heap (V.fL 0)) (h1:V.m "fault" = some (.ref e)) (h2:V.m "got" = some (.ref (V.fA 1))) (he:(e,(V.fO 0))∈(V.fL 0)) (hc:(V.fO 0).cls=.ref 156) (hdx:(V.fO 0).dict=some (V.fA 2)) (hfz:notCls (V.fO 0)=true) (hD:((V.fA 2),dictOf (V.fD 0) (V.fN 0))∈(V.fL 0)) (hl:getL "loc" (V.fD 0)=some (some (.ref (V.fc 0).lc))) (z3:((V.fc 0).lc,locObj (V.fc 0))∈(V.fL 0)) (z4:((V.fc 0).ld,dictOf [] 0)∈(V.fL 0)) (ret:∀ (r q:Addr) (h':Heap) (tk':Nat),Fr V.h₀ (V.fA 0) h' V.m->News V.h₀ (V.fA 0) h' ((r,pairObj (.ref (V.fA 1)) (.ref q))::(q,pairObj (.int (V.fc 0).row (V.fc 0).u4) (.int (V.fc 0).col (V.fc 0).u1))::(V.fL 0))->(V.fF 0) (.ret (.ref r)) { V.s with heap:=h',toks:=tk' }),wpAny (model pw_rk0009_01 V.w) (V.fR 0) (execs bo (envX "_law_run" sc (V.fA 0) 551 (.ref 550) V.cll)) (V.fF 0) V.E V.s
@[irreducible] noncomputable def Z86:FrZ:=pickZ Z86P
set_option maxHeartbeats 4000000 in
theorem Z86c:Z86P Z86:=by
 intro b bo sc e FD hp F X T N h1 h2 he hc hdx hfz hD hl z3 z4 ret
 obtain ⟨_,_,_,_,_,_,_,_,_,ho⟩:=FD
 have e:sc=_:=fn_scope ho (by k_is)
 subst e
 have e:b=_:=fn_body ho (by k_is)
 subst e
 have e2:bo=_:=Option.some.inj (hp.symm.trans (rfl:hbOf _=some _))
 subst e2
 clear hp ho
 k_steps
 all_goals exact ret _ _ _ _ (by assumption) (by assumption)
theorem pc_catch {got e dx:Addr} {oe:Obj} {D:List DictEntry} {k:Nat} {x:Cel} (FD:FnDef w 551 "_law_run" "_law_run" pr b sc (.ref 550)) (hp:hbOf b=some bo) (F:Fr h₀ LR s.heap m) (X:(hd.heap_1 w.params).In h₀) (T:Top p loose mean mg mb h₀)
  (N:News h₀ LR s.heap rest) (h1:m "fault" = some (.ref e)) (h2:m "got" = some (.ref got)) (he:(e,oe)∈rest) (hc:oe.cls=.ref 156) (hdx:oe.dict=some dx) (hfz:notCls oe=true) (hD:(dx,dictOf D k)∈rest) (hl:getL "loc" D=some (some (.ref x.lc)))
  (z3:(x.lc,locObj x)∈rest) (z4:(x.ld,dictOf [] 0)∈rest)
  (ret:∀ (r q:Addr) (h':Heap) (tk':Nat),Fr h₀ LR h' m->News h₀ LR h' ((r,pairObj (.ref got) (.ref q))::(q,pairObj (.int x.row x.u4) (.int x.col x.u1))::rest)->Q (.ret (.ref r)) { s with heap:=h',toks:=tk' }) :
  wpAny (model pw_rk0009_01 w) A (execs bo (envX "_law_run" sc LR 551 (.ref 550) cll)) Q E s:=pickedZ (by with_unfolding_all rfl) Z86c (sfc (sfN (sfD (sfO (sfF (sfg (sfL (sfA (sfR (frC w p loose mean mg mb Z86.dp Z86.un Z86.gd Z86.cn Z86.cs Z86.ca Z86.ccd cll Z86.outer Z86.A₀ Z86.base h₀ Z86.L m s E) [A]) [LR,got,dx]) [rest]) [pr]) [Q]) [oe]) [D]) [k]) [x]) b bo sc e FD hp F X T N h1 h2 he hc hdx hfz hD hl z3 z4 ret
set_option maxHeartbeats 4000000 in
theorem pc_catch0 {got e dx:Addr} {oe:Obj} {D:List DictEntry} {k:Nat} (FD:FnDef w 551 "_law_run" "_law_run" pr b sc (.ref 550)) (hp:hbOf b=some bo) (F:Fr h₀ LR s.heap m) (X:(hd.heap_1 w.params).In h₀) (T:Top p loose mean mg mb h₀)
  (N:News h₀ LR s.heap rest) (h1:m "fault" = some (.ref e)) (h2:m "got" = some (.ref got)) (he:(e,oe)∈rest) (hc:oe.cls=.ref 156) (hdx:oe.dict=some dx) (hfz:notCls oe=true) (hD:(dx,dictOf D k)∈rest) (hl:getL "loc" D=some (some .none))
  (ret:∀ (r q:Addr) (u1 u2:Tok) (h':Heap) (tk':Nat),Fr h₀ LR h' m->News h₀ LR h' ((r,pairObj (.ref got) (.ref q))::(q,pairObj (.int 0 u1) (.int 0 u2))::rest)->Q (.ret (.ref r)) { s with heap:=h',toks:=tk' }) :
  wpAny (model pw_rk0009_01 w) A (execs bo (envX "_law_run" sc LR 551 (.ref 550) cll)) Q E s:=by
 obtain ⟨_,_,_,_,_,_,_,_,_,ho⟩:=FD
 have e:sc=_:=fn_scope ho (by k_is)
 subst e
 have e:b=_:=fn_body ho (by k_is)
 subst e
 have e2:bo=_:=Option.some.inj (hp.symm.trans (rfl:hbOf _=some _))
 subst e2
 clear hp ho
 k_steps
 all_goals exact ret _ _ _ _ _ _ (by assumption) (by assumption)
end
end
example:True:=by w_top off;trivial
section
open NgM01 NgM01b NgM02 NgM03 NgM09 NgM10 NgM11 NgM12 NgM15 NgM16 NgM18
section
variable {A:Around} {LR:Addr} {env:Env} {e dx:Addr} {news:List (Addr×Obj)} {E:Value->Shared->Prop}
noncomputable def Z57P:FrZ->Prop:=fun V=>∀ (LR:Addr) (e:Addr) (l:List Env) (R:RaisedX V.base ((V.fE 0)::l) e (V.fA 0) (V.fL 0) (V.fh 0)) (hf:(V.fE 0).frame=some LR) (hn:(V.fh 0).Ns LR V.m) (hz:V.base.objs.size≤LR),Fr V.base LR (V.fh 0) V.m/\News V.base LR (V.fh 0) (V.fL 0)/\∃ oe,(V.fh 0).get? e=some oe/\oe.cls=.ref 156/\oe.dict=some (V.fA 0)/\notCls oe=true/\V.base.get? e=none/\e≠LR
@[irreducible] noncomputable def Z57:FrZ:=pickZ Z57P
theorem Z57c:Z57P Z57:=by
 intro LR e l R hf hn hz
 obtain ⟨B,a0,h1,h2,⟨f1,f2,⟨_,⟨L',o',g1,g2,g3,g4⟩,f3⟩,f4⟩,oe,h4,h5⟩:=R
 rw [hf] at g1
 cases g1
 refine e5a4 f4 fun oe' vs T oT ts he hcls hd _=>?_;clear f4
 rw [h4] at he
 cases he
 refine ⟨⟨hn,fun b o x=>f1 b o (h1 b o x),hz⟩,fun q hq=>⟨f1 _ _ (h2 q hq).1,fun x=>?_,(h2 q hq).2⟩,oe,h4,hcls.1,h5,?_,fresh_of_stays h1 f2,fun x=>?_⟩
 ·have:=(h2 q hq).1
  rw [x,g2] at this
  cases this
 ·unfold notCls
  rw [hd]
 ·subst x
  rw [h4] at g3
  cases g3
  exact g4 vs hd
theorem raised_gnd {l:List Env} {h:Heap} (R:RaisedX base (env::l) e dx news h) (hf:env.frame=some LR) (hn:h.Ns LR m) (hz:base.objs.size≤LR) :
  Fr base LR h m/\News base LR h news/\∃ oe,h.get? e=some oe/\oe.cls=.ref 156/\oe.dict=some dx/\notCls oe=true/\base.get? e=none/\e≠LR:=pickedZ (by with_unfolding_all rfl) Z57c (sfh (sfL (sfA (sfE (frC Z57.w Z57.p Z57.loose Z57.mean Z57.mg Z57.mb Z57.dp Z57.un Z57.gd Z57.cn Z57.cs Z57.ca Z57.ccd Z57.cll Z57.outer Z57.A₀ base Z57.h₀ Z57.L m Z57.s Z57.E) [env]) [dx]) [news]) [h]) LR e l R hf hn hz
theorem raised_up {l:List Env} {Q:Unit->Shared->Prop} (R:RaisedX base l e dx news s.heap) (hQ:∀ h',RaisedX base l e dx news h'->s.heap.UpToSlots h'->Q () { s with heap:=h' }):wpAny (model pw_rk0009_01 w) A (setFlight (.ref e) none) Q E s:=by
 refine e2a4 R fun B a0 h1 h2 h3 h4=>?_;clear R
 exact tame_keep (P:=fun h'=>Heap.FlyingW B l e (.ref 156) a0 h'/\s.heap.UpToSlots h') (tame_setFlight _ _) (lands_againW h3 fun h' x y=>⟨h',rfl,x,y⟩) h4 fun h' x y=>hQ h' ⟨B,a0,h1,h2,x.1,y⟩ x.2
noncomputable def Z56P:FrZ->Prop:=fun V=>(fun (base:Heap)=>(∀ (LR:Addr) (env:Env) (x:Str) (rest:List ExceptHandler) (H:HeldX base (env::V.outer) (V.fA 0) (V.fA 1) (V.fL 0) LR V.s.heap) (hf:env.frame=some LR) (hn:V.s.heap.Ns LR V.m) (hz:base.objs.size≤LR) (X:(hd.heap_1 V.w.params).In base) (hg:base.Ns mainGlobals V.mg) (hmg:V.mg x=some (.ref 156)) (henv:env.globals=mainGlobals) (hk:env.scope.kind=.function) (hx:env.kindOf x=some .globalImplicit) (hdd:(x==("__debug__" : Str))=false) (hL:env.locals=LR) (hkn:env.kindOf (V.fS 0)=some .local) (hp:(env.scope.kind==.class||(env.scope.kind==.module&&env.locals != env.globals))=false) (k:∀ h' tk oe,Fr base LR h' (fun y=>if y=(V.fS 0) then some (.ref (V.fA 0)) else V.m y)->News base LR h' (((V.fA 0),oe)::(V.fL 0))->oe.cls=.ref 156->oe.dict=some (V.fA 1)->notCls oe=true->(∀ L' mL,L'≠LR->V.s.heap.Ns L' mL->h'.Ns L' mL) ->
   wpAny (model pw_rk0009_01 V.w) ((V.fR 0).mark (some (.ref (V.fA 0)))) (execs ((V.fm 0)::(V.fB 0)) env)
    (fun f s₄=>wpAny (model pw_rk0009_01 V.w) (V.fR 0) (do bindName env (V.fS 0) .none;unbindBehindTheSuite env (V.fS 0) (V.fp 0)) (fun _ s₅=>(V.fF 0) f s₅) V.E s₄) (fun _ _=>False) { V.s with heap:=h',toks:=tk }),wpAny (model pw_rk0009_01 V.w) (V.fR 0) (noteFrame (.ref (V.fA 0)) env)
   (fun _ s₂=>wpAny (model pw_rk0009_01 V.w) (V.fR 0) (setFlight (.ref (V.fA 0)) none) (fun _ s₃ =>
    wpAny (model pw_rk0009_01 V.w) (V.fR 0) (handleBy (.ref (V.fA 0)) env (.ExceptHandler (some (.Name x (V.fp 1))) (some (V.fS 0)) ((V.fm 0)::(V.fB 0)) (V.fp 0)::rest)) (V.fF 0) V.E s₃) V.E s₂) V.E V.s:Prop)) V.base
@[irreducible] noncomputable def Z56:FrZ:=pickZ Z56P
theorem Z56c:Z56P Z56:=by
 intro LR env x rest H hf hn hz X hg hmg henv hk hx hdd hL hkn hp k
 refine again_X hf H (lands_X H fun h1 R1 U1=>?_)
 obtain ⟨F1,N1,oe1,g1,g2,g3,g4,g5,g6⟩:=raised_gnd R1 hf (U1.ns hn) hz
 have X1:=X.keeps F1.keep
 refine wpAny_handleBy_cons (codeAny_handlers_test ?_) (by intro q;cases q)
 refine Name_function_global hk hx (loadGlobal_global (env:=env) (by rw [henv];exact hg.keeps F1.keep) hmg ?_) hdd
 obtain ⟨q,bs,hdct,sn,sub,ab,col,dd,k0,k1,k2,k3,k5,hC⟩:=exc_cls X1
 refine wpAny_excMatches_sub_self hC g1 g2 (by decide +kernel) ?_
 refine codeAny_handlers_suite_as (raised_up R1 fun h2 R2 U2=>?_)
 obtain ⟨F2,N2,oe2,e1,e2,e3,e4,e5,e6⟩:=raised_gnd R2 hf (U2.ns F1.ns) hz
 have N3:News Z56.base LR h2 (((Z56.fA 0),oe2)::(Z56.fL 0)):=fun q hq=>by
  rcases List.mem_cons.mp hq with rfl | hq
  ·exact ⟨e1,e6,e5⟩
  ·exact N2 q hq
 subst hL
 refine wpAny_storeName_local hkn F2.ns (fun h3 n3 s3=>?_) hp
 exact wpAny_mono (k h3 _ oe2 (F2.set n3 s3) (N3.set s3) e2 e3 e4 fun L' mL hne x=>(U2.ns (U1.ns x)).sameBut s3 hne) (fun _ _ z=>z) fun _ _ z=>z.elim
theorem caught_X {x n:Str} {b₀:Stmt} {suite:List Stmt} {pos np:Pos} {rest:List ExceptHandler} {Q:Flow->Shared->Prop} (H:HeldX base (env::outer) e dx news LR s.heap) (hf:env.frame=some LR) (hn:s.heap.Ns LR m) (hz:base.objs.size≤LR)
  (X:(hd.heap_1 w.params).In base) (hg:base.Ns mainGlobals mg) (hmg:mg x=some (.ref 156)) (henv:env.globals=mainGlobals) (hk:env.scope.kind=.function) (hx:env.kindOf x=some .globalImplicit) (hdd:(x==("__debug__" : Str))=false)
  (hL:env.locals=LR) (hkn:env.kindOf n=some .local) (hp:(env.scope.kind==.class||(env.scope.kind==.module&&env.locals != env.globals))=false)
  (k:∀ h' tk oe,Fr base LR h' (fun y=>if y=n then some (.ref e) else m y)->News base LR h' ((e,oe)::news)->oe.cls=.ref 156->oe.dict=some dx->notCls oe=true->(∀ L' mL,L'≠LR->s.heap.Ns L' mL->h'.Ns L' mL) ->
   wpAny (model pw_rk0009_01 w) (A.mark (some (.ref e))) (execs (b₀::suite) env)
    (fun f s₄=>wpAny (model pw_rk0009_01 w) A (do bindName env n .none;unbindBehindTheSuite env n pos) (fun _ s₅=>Q f s₅) E s₄) (fun _ _=>False) { s with heap:=h',toks:=tk }) :
  wpAny (model pw_rk0009_01 w) A (noteFrame (.ref e) env)
   (fun _ s₂=>wpAny (model pw_rk0009_01 w) A (setFlight (.ref e) none) (fun _ s₃ =>
    wpAny (model pw_rk0009_01 w) A (handleBy (.ref e) env (.ExceptHandler (some (.Name x np)) (some n) (b₀::suite) pos::rest)) Q E s₃) E s₂) E s:=pickedZ (by with_unfolding_all rfl) Z56c (sfF (sfp (sfB (sfm (sfS (sfL (sfA (sfR (frC w Z56.p Z56.loose Z56.mean mg Z56.mb Z56.dp Z56.un Z56.gd Z56.cn Z56.cs Z56.ca Z56.ccd Z56.cll outer Z56.A₀ base Z56.h₀ Z56.L m s E) [A]) [e,dx]) [news]) [n]) [b₀]) [suite]) [pos,np]) [Q]) LR env x rest H hf hn hz X hg hmg henv hk hx hdd hL hkn hp k
end
end
example:True:=by w_top off;trivial
section
open NgM01 NgM01b NgM02 NgM03 NgM09 NgM10 NgM11 NgM12 NgM15 NgM16 NgM18
section
variable {g0:Heap} {LR:Addr} {pr:Arguments} {b bo:List Stmt} {sc:Scope} {E:Value->Shared->Prop}
theorem for_body {got:Addr} {its:List Value} {n:Nat} {k:TokC} {x:Cel} {Q:Flow->Shared->Prop} (FD:FnDef w 551 "_law_run" "_law_run" pr b sc (.ref 550)) (hp:forOf b=some bo) (C:Cx 30 w p loose mean mg mb dp un sc outer A₀ base g0 LR m s)
  (hgot:s.heap.get? got=some (listOf its.toArray n)) (hg0:g0.get? got=none) (hgL:got≠LR) (h1:m "t" = some (.ref k.t)) (h2:m "got" = some (.ref got)) (hl:its.length≤1000)
  (z1:s.heap.get? k.t=some (tokObj k)) (z2:s.heap.get? k.td=some (dictOf [] 0)) (z3:s.heap.get? k.lc=some (locObj x)) (z4:s.heap.get? x.ld=some (dictOf [] 0))
  (n1:∀ y∈[k.t,k.td,k.lc,x.ld],g0.get? y=none/\y≠LR/\y≠got)
  (ret:∀ (tp:Addr) (h':Heap) (tk' n':Nat),Fr g0 LR h' m->KeepBut [LR,got] s.heap h'->h'.get? got=some (listOf (its++[Value.ref tp]).toArray n')->h'.get? tp=some (gotObj k x)->s.heap.get? tp=none->Q .next { s with heap:=h',toks:=tk' }) :
  wpAny (model pw_rk0009_01 w) (ktrTop dp un gd "_law_run" sc LR 551 (.ref 550) cll outer) (execs bo (envX "_law_run" sc LR 551 (.ref 550) cll)) Q E s:=by
 have F:=C.F
 have mem:∀ y o,s.heap.get? y=some o->g0.get? y=none->y≠LR->y≠got->(y,o)∈allBut s.heap g0 [LR,got]:=fun y o h a b c=>mem_allBut.mpr ⟨h,fun m=>(List.mem_cons.mp m).elim b fun m=>c (List.mem_singleton.mp m),a⟩
 have N:News g0 LR s.heap ((got,listOf its.toArray n)::allBut s.heap g0 [LR,got]):=fun q hq=>by
  rcases List.mem_cons.mp hq with rfl | hq
  ·exact ⟨hgot,hgL,hg0⟩
  ·refine e0a3 (mem_allBut.mp (show (q.1,q.2)∈_ from hq)) fun a1 a2 a3=>?_
   exact ⟨a1,fun h=>a2 (h▸.head _),a3⟩
 refine pc_for (x:=x) FD hp C N h1 h2 hl (mem _ _ z1 (n1 _ (.head _)).1 (n1 _ (.head _)).2.1 (n1 _ (.head _)).2.2) (mem _ _ z2 (n1 _ (.tail _ (.head _))).1 (n1 _ (.tail _ (.head _))).2.1 (n1 _ (.tail _ (.head _))).2.2) (mem _ _ z3 (n1 _ (.tail _ (.tail _ (.head _)))).1 (n1 _ (.tail _ (.tail _ (.head _)))).2.1 (n1 _ (.tail _ (.tail _ (.head _)))).2.2) (mem _ _ z4 (n1 _ (.tail _ (.tail _ (.tail _ (.head _))))).1 (n1 _ (.tail _ (.tail _ (.tail _ (.head _))))).2.1 (n1 _ (.tail _ (.tail _ (.tail _ (.head _))))).2.2)
  (fun q hq h=>(mem_allBut.mp (show (q.1,q.2)∈_ from hq)).2.1 (h▸.tail _ (.head _))) fun tp h' tk' n' F' N' l1 l2=>?_
 refine ret tp h' tk' n' F' (fun y o hy e=>?_) (N' _ (.tail _ (.head _))).1 (N' _ (.head _)).1 ?_
 ·cases e0:g0.get? y with
  | some o' =>
   have:=F.keep _ _ e0
   rw [e] at this
   cases this
   exact F'.keep _ _ e0
  | none =>
   exact (N' (y,o) (.tail _ (.tail _ (mem _ _ e e0 (fun q=>hy (q▸.head _)) (fun q=>hy (q▸.tail _ (.head _))))))).1
 ·cases e:s.heap.get? tp with
  | none=>rfl
  | some o =>
   have e0:=(N' _ (.head _)).2.2
   have e1:=(N' _ (.head _)).2.1
   exact absurd (l1 (tp,o) (mem _ _ e e0 e1 (Nat.ne_of_gt l2))) (Nat.lt_irrefl _)
noncomputable def GotOk (h g0:Heap) (bad:List Addr) (stm:Nat->List Cel) (N n:Nat) (its:List Value):Prop :=
 its.length=N - n/\∀ i,i<N - n->∃ tp k x typ cc,its[i]?=some (.ref tp)/\h.get? tp=some (gotObj k x)/\tp∉bad/\g0.get? tp=none/\turn (stm (N - i))=some (.ok (typ,cc,stm (N - i - 1)))/\k.typ=typ/\k.val=catS cc/\cc.head?=some x
structure ForS (a:LexA) (chars:List Cel) (cl:Addr) (rest0:List (Addr×Obj)) (g0:Heap) (LR LG:Addr) (fs:Addr) (stm:Nat->List Cel) (N:Nat) (got ga g:Addr) (si:Shared) (n:Nat) (s:Shared) (its:List Value):Prop where
 le:n≤N
 fr:∃ mR,Fr g0 LR s.heap mR/\mR "got" = some (.ref got)
 gt:∃ n',s.heap.get? got=some (listOf its.toArray n')
 ok:GotOk s.heap g0 (LR::got::wrT a LG) stm N n its
 gen:s.heap.IsGen ga g
 kb:KeepBut (LR::got::wrT a LG) si.heap s.heap
 os:s.os=si.os
 dr:s.drawn=si.drawn
 bare:∀ (i:Nat) (x:GenState),i≠g->s.gens[i]?=some x->x.bare=true
theorem GotOk.keep {h h' g0:Heap} {bad wr:List Addr} {stm:Nat->List Cel} {N n:Nat} {its:List Value} (G:GotOk h g0 bad stm N n its) (k:KeepBut wr h h') (hb:∀ b∈wr,b∈bad):GotOk h' g0 bad stm N n its :=
 ⟨G.1,fun i hi=>let ⟨tp,kk,x,typ,cc,a1,a2,a3,r⟩:=G.2 i hi;⟨tp,kk,x,typ,cc,a1,k _ _ (fun q=>a3 (hb _ q)) a2,a3,r⟩⟩
theorem KeepBut.mono {wr wr':List Addr} {h h':Heap} (x:KeepBut wr h h') (k:∀ b∈wr,b∈wr'):KeepBut wr' h h':=fun b o n e=>x b o (fun q=>n (k b q)) e
theorem gens_set {s s₁:Shared} {g:Nat} {x:GenState} (hb:∀ (i:Nat) (y:GenState),i≠g->s.gens[i]?=some y->y.bare=true) (sm:Same (s.setGen g .running) s₁) :
  ∀ (i:Nat) (y:GenState),i≠g->(s₁.setGen g x).gens[i]?=some y->y.bare=true:=fun i y hi e=>by
 have e1:s₁.gens[i]?=some y:=by
  have:(s₁.gens.setIfInBounds g x)[i]?=some y:=e
  rwa [Array.getElem?_setIfInBounds_ne (Ne.symm hi)] at this
 by_cases hl:i<(s.setGen g .running).gens.size
 ·rw [sm.gk.2.1 i hl] at e1
  have:(s.gens.setIfInBounds g .running)[i]?=some y:=e1
  rw [Array.getElem?_setIfInBounds_ne (Ne.symm hi)] at this
  exact hb i y hi this
 ·exact sm.gk.2.2 i y (Nat.not_lt.mp hl) e1
theorem gens_all {s₁:Shared} {g:Nat} (h:∀ (i:Nat) (y:GenState),i≠g->(s₁.setGen g .finished).gens[i]?=some y->y.bare=true):∀ (i:Nat) (y:GenState),(s₁.setGen g .finished).gens[i]?=some y->y.bare=true:=fun i y e=>by
 by_cases hi:i=g
 ·subst hi
  have:(s₁.gens.setIfInBounds i .finished)[i]?=some y:=e
  rw [Array.getElem?_setIfInBounds] at this
  split at this
  ·split at this
   ·cases this;rfl
   ·cases this
  ·exact absurd rfl ‹_›
 ·exact h i y hi e
theorem turn_head {s cc r:List Cel} {typ:Str} (h:turn s=some (.ok (typ,cc,r))):∃ x c',cc=x::c'/\x∈s:=by
 unfold turn at h
 cases s with
 | nil=>cases h
 | cons x r' =>
  dsimp only at h
  split at h
  ·split at h
   ·cases h
   ·cases h;exact ⟨x,_,rfl,.head _⟩
  ·split at h
   ·split at h
    ·cases h
    ·cases h;exact ⟨x,_,rfl,.head _⟩
   ·cases h;exact ⟨x,_,rfl,.head _⟩
theorem wrT_adr {a:LexA} {LG b:Addr} {r:List Addr} (h:b∈wrT a LG):b=LG\/b∈a.lx::a.dx::a.tb::a.pb::a.ct::a.it::225::r:=(List.mem_cons.mp h).imp id fun h=>.tail _ (List.mem_append_left _ h)
theorem mem_two {α:Type} {x a b:α} {C:Prop} (h:x∈[a,b]) (h1:x=a->C) (h2:x=b->C):C:=(List.mem_cons.mp h).elim h1 fun h=>h2 (List.mem_singleton.mp h)
theorem mem_four {α:Type} {x a b c d:α} {C:Prop} (h:x∈[a,b,c,d]) (h1:x=a->C) (h2:x=b->C) (h3:x=c->C) (h4:x=d->C):C:=(List.mem_cons.mp h).elim h1 fun h=>(List.mem_cons.mp h).elim h2 fun h=>mem_two h h3 h4
theorem fm7 {α:Type} {P:α->Prop} {a b c d e f g:α} {r:List α} (h0:P a) (h1:P b) (h2:P c) (h3:P d) (h4:P e) (h5:P f) (h6:P g) (hr:∀ x∈r,P x):∀ x∈a::b::c::d::e::f::g::r,P x:=List.forall_mem_cons.mpr ⟨h0,List.forall_mem_cons.mpr ⟨h1,List.forall_mem_cons.mpr ⟨h2,List.forall_mem_cons.mpr ⟨h3,List.forall_mem_cons.mpr ⟨h4,List.forall_mem_cons.mpr ⟨h5,List.forall_mem_cons.mpr ⟨h6,hr⟩⟩⟩⟩⟩⟩⟩
theorem fm8 {α:Type} {P:α->Prop} {a b c d e f g h:α} {r:List α} (h0:P a) (h1:P b) (h2:P c) (h3:P d) (h4:P e) (h5:P f) (h6:P g) (h7:P h) (hr:∀ x∈r,P x):∀ x∈a::b::c::d::e::f::g::h::r,P x:=List.forall_mem_cons.mpr ⟨h0,fm7 h1 h2 h3 h4 h5 h6 h7 hr⟩
theorem fm9 {α:Type} {P:α->Prop} {a b c d e f g h i:α} {r:List α} (h0:P a) (h1:P b) (h2:P c) (h3:P d) (h4:P e) (h5:P f) (h6:P g) (h7:P h) (h8:P i) (hr:∀ x∈r,P x):∀ x∈a::b::c::d::e::f::g::h::i::r,P x:=List.forall_mem_cons.mpr ⟨h0,fm8 h1 h2 h3 h4 h5 h6 h7 h8 hr⟩
theorem fm10 {α:Type} {P:α->Prop} {a b c d e f g h i j:α} {r:List α} (h0:P a) (h1:P b) (h2:P c) (h3:P d) (h4:P e) (h5:P f) (h6:P g) (h7:P h) (h8:P i) (h9:P j) (hr:∀ x∈r,P x):∀ x∈a::b::c::d::e::f::g::h::i::j::r,P x:=List.forall_mem_cons.mpr ⟨h0,fm9 h1 h2 h3 h4 h5 h6 h7 h8 h9 hr⟩
theorem nm {α:Type} {x y:α} {l:List α} (h:x∉l) (hy:y∈l):x≠y:=fun e=>h (e▸hy)
theorem mem_lx {α:Type} {a b c x:α} {l:List α} (h:x∈a::l):x∈a::b::c::l:=(List.mem_cons.mp h).elim (fun e=>e▸.head _) fun h=>.tail _ (.tail _ (.tail _ h))
theorem bad1 {α:Type} {a b c d x:α} {l:List α} (h:x∈a::b::c::l):x∈a::b::c::d::l:=((List.mem_append (s:=[a,b,c])).mp h).elim (fun h=>List.mem_append_left _ h) fun h=>List.mem_append_right [a,b,c] (.tail _ h)
theorem bad2 {α:Type} {a b c d x:α} {l:List α} (h:x∈d::c::l):x∈a::b::c::d::l:=(List.mem_cons.mp h).elim (fun e=>.tail _ (.tail _ (.tail _ (e▸.head _)))) fun h=>.tail _ (.tail _ ((List.mem_cons.mp h).elim (fun e=>e▸.head _) fun h=>.tail _ (.tail _ h)))
theorem run_kind {w:World} {pr:Arguments} {b:List Stmt} {sc:Scope} (FD:FnDef w 551 "_law_run" "_law_run" pr b sc (.ref 550)):sc.kind=.function/\∀ LR cll,(envX "_law_run" sc LR 551 (.ref 550) cll).kindOf "t" = some .local:=by
 obtain ⟨_,_,_,_,_,_,_,_,_,ho⟩:=FD
 have e:sc=_:=fn_scope ho (by k_is)
 subst e
 exact ⟨rfl,fun _ _=>rfl⟩
theorem TState.keep {a:LexA} {chars:List Cel} {cl:Addr} {rest0:List (Addr×Obj)} {LG fs:Addr} {h h':Heap} {st:LexS} {ps:Array Value} {str:List Cel} {wr:List Addr} (S:TState a chars cl rest0 LG fs h st ps str) (k:KeepBut wr h h') (n:∀ b∈LG::a.lx::a.dx::a.tb::a.pb::a.ct::a.it::225::rest0.map (·.1),b∉wr):TState a chars cl rest0 LG fs h' st ps str :=
 ⟨fun q hq=>k _ _ (n _ (.tail _ (List.mem_map_of_mem (f:=(·.1)) hq))) (S.has q hq),S.ns.at' fun o e=>k _ o (n _ (.head _)) e,S.lex,S.ct,S.tb,S.tab,S.sub⟩
section
variable {a:LexA} {chars:List Cel} {cl fe fs:Addr} {rest0:List (Addr×Obj)} {stm:Nat->List Cel} {t:TokA} {N:Nat} {prT:Arguments} {dp1 un1:Nat} {gd1:Option (List Code)} {got ga g:Addr} {si:Shared}
noncomputable def Z0P:FrZ->Prop:=fun V=>∀ (s:Shared) (b:List Stmt) (FD:FnDef V.w 551 "_law_run" "_law_run" (V.fg 0) b (V.fs 0) (.ref 550)) (hp:forOf b=some (V.fB 0)) (hA1:(ktrTop V.dp V.un V.gd "_law_run" (V.fs 0) (V.fA 0) 551 (.ref 550) V.cll V.outer).in1=ktrTop (V.fN 1) (V.fN 2) (V.fG 0) "_law_run" (V.fs 0) (V.fA 0) 551 (.ref 550) V.cll V.outer) (hdp:V.dp+200<900) (hun:V.un+8 * 200<9000) (G:TokG V.w V.p V.loose V.mean V.mg V.mb (V.fN 1) (V.fN 2) (V.fs 0) V.outer V.A₀ V.base (V.fh 0) (V.fA 0) (V.fK 0).LG (V.fa 0) (V.fC 0) (V.fA 1) (V.fA 2) (V.fA 3) (V.fL 0) (V.fk 0) (V.fN 0) (V.fg 1) (V.fK 0).b (V.fK 0).sc) (hgt:(V.fh 0).get? (V.fA 4)=none/\(V.fA 4)≠(V.fA 0)/\(V.fA 4)≠(V.fK 0).LG/\∀ y∈(V.fa 0).lx::(V.fa 0).dx::(V.fa 0).tb::(V.fa 0).pb::(V.fa 0).ct::(V.fa 0).it::225::(V.fL 0).map (·.1),y≠(V.fA 4)) (hga:(V.fA 5)∉(V.fA 0)::(V.fA 4)::wrT (V.fa 0) (V.fK 0).LG) (hga2:(V.fh 0).get? (V.fA 5)=none/\(V.fA 5)≠(V.fa 0).lx) (hXb:(hd.heap_1 V.w.params).In V.base) (hend:∀ s' its,ForS (V.fa 0) (V.fC 0) (V.fA 1) (V.fL 0) (V.fh 0) (V.fA 0) (V.fK 0).LG (V.fA 3) (V.fk 0) (V.fN 0) (V.fA 4) (V.fA 5) (V.fA 6) (V.fZ 0) 0 s' its->turn ((V.fk 0) 0)=none->(∀ (i:Nat) (x:GenState),s'.gens[i]?=some x->x.bare=true)->GrownAt 225 s'.heap->(V.fr 0) (.ok .next) s') (herr:∀ s' s1 its e dx D k ps loc,ForS (V.fa 0) (V.fC 0) (V.fA 1) (V.fL 0) (V.fh 0) (V.fA 0) (V.fK 0).LG (V.fA 3) (V.fk 0) (V.fN 0) (V.fA 4) (V.fA 5) (V.fA 6) (V.fZ 0) 0 s1 its->turn ((V.fk 0) 0)=some (.error loc) ->
   HeldX V.base (envX "_law_run" (V.fs 0) (V.fA 0) 551 (.ref 550) V.cll::V.outer) e dx ((dx,dictOf D k)::(225,tabObj ps)::allBut s1.heap (gndH s1.heap (V.fh 0) (V.fA 0) (V.fK 0).LG) ((V.fa 0).lx::wrT (V.fa 0) (V.fK 0).LG)) (V.fA 0) s'.heap->D.length≤3->getL "loc" D=some (some loc) ->
   (gndH s1.heap (V.fh 0) (V.fA 0) (V.fK 0).LG).UpToSlots s'.heap->s'.os=(V.fZ 0).os->s'.drawn=(V.fZ 0).drawn->(∀ (i:Nat) (x:GenState),s'.gens[i]?=some x->x.bare=true)->(V.fr 0) (.error (.ref e)) s') (hsub:∀ n,n≤(V.fN 0)->∀ x∈(V.fk 0) n,x∈(V.fC 0)) (hfew:(V.fN 0)≤900) (gs0:GenState) (S0:ForS (V.fa 0) (V.fC 0) (V.fA 1) (V.fL 0) (V.fh 0) (V.fA 0) (V.fK 0).LG (V.fA 3) (V.fk 0) (V.fN 0) (V.fA 4) (V.fA 5) (V.fA 6) (V.fZ 0) (V.fN 0) s []) (hgs0:s.gens[(V.fA 6)]?=some gs0) (hgo0:gs0.Goes (model pw_rk0009_01 V.w) (ktrTop V.dp V.un V.gd "_law_run" (V.fs 0) (V.fA 0) 551 (.ref 550) V.cll V.outer).in1 (RTok V.base (envX "_law_run" (V.fs 0) (V.fA 0) 551 (.ref 550) V.cll::V.outer) (V.fa 0) (V.fK 0).LG (V.fh 0) (V.fA 0) (V.fk 0)) (YTokX (V.fa 0) (V.fC 0) (V.fA 1) (V.fL 0) (V.fK 0).LG (V.fA 3) (V.fh 0) (V.fA 0) (V.fk 0)) (V.fN 0) (.send .none) (s.setGen (V.fA 6) .running)),codeAny (model pw_rk0009_01 V.w) (ktrTop V.dp V.un V.gd "_law_run" (V.fs 0) (V.fA 0) 551 (.ref 550) V.cll V.outer) (.forLoop (.Name "t" (V.fp 0)) (.ref (V.fA 5)) (V.fB 0) [] (envX "_law_run" (V.fs 0) (V.fA 0) 551 (.ref 550) V.cll)) (V.fr 0) s
@[irreducible] noncomputable def Z0:FrZ:=pickZ Z0P
set_option maxHeartbeats 4000000 in
theorem Z0c:Z0P Z0:=by
 intro s b FD hp hA1 hdp hun G hgt hga hga2 hXb hend herr hsub hfew gs0 S0 hgs0 hgo0
 refine codeAny_forLoop (fun k s=>∃ n its gs,k=n+1/\ForS (Z0.fa 0) (Z0.fC 0) (Z0.fA 1) (Z0.fL 0) (Z0.fh 0) (Z0.fA 0) (Z0.fK 0).LG (Z0.fA 3) (Z0.fk 0) (Z0.fN 0) (Z0.fA 4) (Z0.fA 5) (Z0.fA 6) (Z0.fZ 0) n s its/\s.gens[(Z0.fA 6)]?=some gs /\
  gs.Goes (model pw_rk0009_01 Z0.w) (ktrTop Z0.dp Z0.un Z0.gd "_law_run" (Z0.fs 0) (Z0.fA 0) 551 (.ref 550) Z0.cll Z0.outer).in1 (RTok Z0.base (envX "_law_run" (Z0.fs 0) (Z0.fA 0) 551 (.ref 550) Z0.cll::Z0.outer) (Z0.fa 0) (Z0.fK 0).LG (Z0.fh 0) (Z0.fA 0) (Z0.fk 0)) (YTokX (Z0.fa 0) (Z0.fC 0) (Z0.fA 1) (Z0.fL 0) (Z0.fK 0).LG (Z0.fA 3) (Z0.fh 0) (Z0.fA 0) (Z0.fk 0)) n (.send .none) (s.setGen (Z0.fA 6) .running)) ?_ ((Z0.fN 0)+1) ⟨(Z0.fN 0),[],gs0,rfl,S0,hgs0,hgo0⟩
 intro _ s hq0
 refine e3a4 hq0 fun n its gs Q25=>?_;clear hq0;obtain rfl:=Q25;intro S hgs hgo
 refine e1a2 S.fr fun mR F hmg=>?_
 have wf:∀ b∈wrT (Z0.fa 0) (Z0.fK 0).LG,b≠(Z0.fA 0)/\(Z0.fh 0).get? b=none:=fun b hm=>by
  exact (wrT_adr hm).elim (fun h=>h▸⟨Nat.ne_of_gt G.lt,Heap.get?_none_of_le (Nat.le_trans F.above (Nat.le_of_lt G.lt))⟩) fun h=>(G.adr b h).2
 have ngot:(Z0.fA 4)∉wrT (Z0.fa 0) (Z0.fK 0).LG:=fun hm=>by
  exact (wrT_adr hm).elim hgt.2.2.1 fun h=>hgt.2.2.2 (Z0.fA 4) h rfl
 refine wpAny_pyNext_genX rfl (G.T.nolimit.keeps F.keep) (by k_room) S.gen hgs hgo (fun v s₁ gs' hb hY=>?_) (fun s₁ hP h' hk'=>?_) fun e s₁ hE=>?_
 ·refine e7a2 hY fun h5 t5 st ps k typ cc y1 Q26=>?_;clear hY;obtain ⟨rfl,y3,y4,y5,TS,y7,y8,y9,y10,y11,kb,sm,cont⟩:=Q26
  have F1:Fr (Z0.fh 0) (Z0.fA 0) s₁.heap mR:=fr_out F kb (fun h=>(wf _ h).1 rfl) (fun b h=>(wf b h).2)
  cases n with
  | zero=>exact (cont s₁ TS ⟨mR,F1⟩).elim
  | succ n =>
   simp only [Nat.add_sub_cancel] at y1 TS cont
   refine e2a2 (turn_head y1) fun x c' Q27=>?_;obtain rfl:=Q27;intro hxs
   have hx:x∈(Z0.fC 0):=hsub _ S.le x hxs
   refine e0a4 (G.Z.ce x hx) fun c1 c2 c3 c4=>?_
   have y5:k.lc=x.lc:=y5
   refine e0a2 (run_kind FD) fun hsk hkt=>?_
   have inr:∀ q∈(Z0.fL 0),s₁.heap.get? q.1=some q.2/\(Z0.fh 0).get? q.1=none/\q.1≠(Z0.fA 0)/\q.1≠(Z0.fA 4):=fun q hq=>by
    have m:q.1∈(Z0.fa 0).lx::(Z0.fa 0).dx::(Z0.fa 0).tb::(Z0.fa 0).pb::(Z0.fa 0).ct::(Z0.fa 0).it::225::(Z0.fL 0).map (·.1):=List.mem_append_right [_,_,_,_,_,_,_] (List.mem_map_of_mem hq)
    exact ⟨TS.has q (mem_em _ hq),(G.adr _ m).2.2,(G.adr _ m).2.1,hgt.2.2.2 _ m⟩
   have new:∀ y,s.heap.get? y=none->(Z0.fh 0).get? y=none/\y≠(Z0.fA 0)/\y≠(Z0.fA 4):=fun y h=>by
    refine ⟨?_,fun e=>?_,fun e=>?_⟩
    ·cases e0:(Z0.fh 0).get? y with
     | none=>rfl
     | some o=>rw [F.keep _ _ e0] at h;cases h
    ·refine e3a2 F.ns fun o _ _ e0 _=>?_
     rw [e,e0] at h;cases h
    ·refine e1a1 S.gt fun n' e0=>?_
     rw [e,e0] at h;cases h
   refine e1a1 S.gt fun ng egot=>?_
   refine wpAny_assign_Name (wpAny_storeName_local (hkt (Z0.fA 0) Z0.cll) F1.ns (fun h2 n2 s2=>?_) (by show ((Z0.fs 0).kind==.class||((Z0.fs 0).kind==.module&&_))=false;rw [hsk];rfl))
   have F2:Fr (Z0.fh 0) (Z0.fA 0) h2 (fun y=>if y = "t" then some (.ref k.t) else mR y):=F1.set n2 s2
   have up2:∀ y o,y≠(Z0.fA 0)->s₁.heap.get? y=some o->h2.get? y=some o:=fun y o hy e=>(s2.2 y hy).trans e
   have eg2:=up2 _ _ hgt.2.1 (kb _ _ ngot egot)
   refine for_body (x:=x) (m:=fun y=>if y = "t" then some (.ref k.t) else mR y) FD hp ⟨G.B,F2,G.X,G.T,hsk,by omega,by omega⟩ eg2 hgt.1 hgt.2.1 (if_pos rfl) (by rw [if_neg (by decide)];exact hmg) (by have:=S.ok.1;omega)
    (up2 _ _ (new _ y9).2.1 y7) (up2 _ _ (new _ y10).2.1 y8) (by rw [y5];exact up2 _ _ (inr _ c3).2.2.1 (inr _ c3).1) (up2 _ _ (inr _ c4).2.2.1 (inr _ c4).1) (fun y hy=>?_) fun tp' h' tk' n' F' KB e1 e2 e3=>?_
   ·exact mem_four hy (fun e=>e▸new _ y9) (fun e=>e▸new _ y10) (fun e=>e▸y5▸(inr _ c3).2) (fun e=>e▸(inr _ c4).2)
   ·have k1:KeepBut [(Z0.fA 0),(Z0.fA 4)] s₁.heap h':=fun y o hy e=>KB y o hy (up2 y o (fun q=>hy (q▸.head _)) e)
    have k2:KeepBut ((Z0.fA 0)::(Z0.fA 4)::wrT (Z0.fa 0) (Z0.fK 0).LG) s.heap h':=(kb.mono fun b h=>.tail _ (.tail _ h)).trans (k1.mono fun b h=>by
     rcases List.mem_cons.mp h with rfl | h
     ·exact .head _
     ·rw [List.mem_singleton.mp h];exact .tail _ (.head _))
    have hin:∀ y∈(Z0.fK 0).LG::(Z0.fa 0).lx::(Z0.fa 0).dx::(Z0.fa 0).tb::(Z0.fa 0).pb::(Z0.fa 0).ct::(Z0.fa 0).it::225::(Z0.fL 0).map (·.1),y∉[(Z0.fA 0),(Z0.fA 4)]:=fun y hy h=>by
     exact (List.mem_cons.mp hy).elim (fun e=>mem_two h (fun h=>Nat.ne_of_gt G.lt (e▸h)) (fun h=>hgt.2.2.1 (e▸h.symm))) fun hy=>mem_two h (G.adr y hy).2.1 (hgt.2.2.2 y hy)
    have tg0:(Z0.fh 0).get? tp'=none:=by
     cases e0:(Z0.fh 0).get? tp' with
     | none=>rfl
     | some o =>
      have e3:h2.get? tp'=none:=e3
      rw [F2.keep _ _ e0] at e3;cases e3
    have tbad:tp'∉(Z0.fA 0)::(Z0.fA 4)::wrT (Z0.fa 0) (Z0.fK 0).LG:=fun h=>by
     have e3:h2.get? tp'=none:=e3
     have ex:∃ o,h2.get? tp'=some o:=by
      rcases List.mem_cons.mp h with rfl | h
      ·refine e3a2 F2.ns fun o _ _ e0 _=>?_
       exact ⟨o,e0⟩
      ·rcases List.mem_cons.mp h with rfl | h
       ·exact ⟨_,eg2⟩
       ·have e1:∃ o,s₁.heap.get? tp'=some o:=by
         refine e3a2 TS.ns fun oG _ _ eG _=>?_
         exact (List.mem_cons.mp h).elim (fun e=>e▸⟨_,eG⟩) fun h=>Exists.elim (List.mem_map.mp (show tp'∈(emLed (witA (Z0.fa 0) h5 t5) st ps (Z0.fL 0)).map (·.1) from .tail _ (List.mem_append_left _ h))) fun q hq=>⟨q.2,hq.2▸TS.has q hq.1⟩
        refine e1a1 e1 ?_;clear e1;intro o e1
        exact ⟨o,up2 _ _ (wf _ h).1 e1⟩
     refine e1a1 ex ?_;clear ex;intro o ex
     rw [e3] at ex;cases ex
    have hgr:s₁.gens[(Z0.fA 6)]?=some .running:=by
     have h0:=setGen_self (x:=GenState.running) hgs
     have hl:(Z0.fA 6)<(s.setGen (Z0.fA 6) .running).gens.size:=(Array.getElem?_eq_some_iff.mp h0).1
     rw [sm.gk.2.1 (Z0.fA 6) hl];exact h0
    refine ⟨n+1,Nat.lt_succ_self _,n,its++[.ref tp'],gs',rfl,⟨Nat.le_of_succ_le S.le,⟨_,F',by rw [if_neg (by decide)];exact hmg⟩,⟨n',e1⟩,?_,?_,S.kb.trans k2,sm.os.trans S.os,sm.dr.trans S.dr,gens_set S.bare sm⟩,setGen_self hgr,?_⟩
    ·have hle:=S.le
     refine ⟨by rw [List.length_append,S.ok.1,List.length_singleton];omega,fun i hi=>?_⟩
     by_cases hc:i<(Z0.fN 0) - (n+1)
     ·refine e5a4 (S.ok.2 i hc) fun tp0 k0 x0 ty0 cc0 a1 a2 a3 r=>?_
      exact ⟨tp0,k0,x0,ty0,cc0,by rw [List.getElem?_append_left (by rw [S.ok.1];exact hc)];exact a1,k2 _ _ a3 a2,a3,r⟩
     ·have hie:i=(Z0.fN 0) - (n+1):=by omega
      have hni:(Z0.fN 0) - i=n+1:=by omega
      refine ⟨tp',k,x,typ,x::c',?_,e2,tbad,tg0,by rw [hni];exact y1,y3,y4,rfl⟩
      rw [List.getElem?_append_right (by rw [S.ok.1];omega),S.ok.1,hie,Nat.sub_self]
      rfl
    ·refine e3a2 S.gen fun o nm qn e r=>?_
     exact ⟨o,nm,qn,k2 _ _ hga e,r⟩
    ·exact cont _ (TS.keep k1 hin) ⟨_,F'⟩
 ·refine e0a5 hP fun Q28=>?_;clear hP;obtain rfl:=Q28;intro h0 kb sm Q29;refine e1a1 Q29 fun psE eP=>?_;clear Q29
  have kb:KeepBut (wrT (Z0.fa 0) (Z0.fK 0).LG) s.heap h':=fun b o hb e=>hk' b o (kb b o hb e)
  have bb:=gens_set (x:=.finished) S.bare sm
  refine wpAny_execs_nil (hend _ its ⟨S.le,⟨mR,fr_out F kb (fun h=>(wf _ h).1 rfl) (fun b h=>(wf b h).2),hmg⟩,let ⟨n',e⟩:=S.gt;⟨n',kb _ _ ngot e⟩,S.ok.keep kb fun b h=>.tail _ (.tail _ h),let ⟨o,nm,qn,e,r⟩:=S.gen;⟨o,nm,qn,kb _ _ (fun h=>hga (.tail _ (.tail _ h))) e,r⟩,
   S.kb.trans (kb.mono fun b h=>.tail _ (.tail _ h)),sm.os.trans S.os,sm.dr.trans S.dr,bb⟩ h0 (gens_all bb) ⟨psE,hk' _ _ eP⟩)
 ·obtain ⟨rfl,loc,dx,D,k,psE,h0,R,lD,gD,U,sm⟩:=hE
  have bb:=gens_set (x:=.finished) S.bare sm
  have Rs:=R
  obtain ⟨B,a0,r1,r2,⟨q1,q2,q3,q4⟩,oe,r4,r5⟩:=Rs
  refine e5a3 q4 fun oe' _ _ _ _ q5 q6 _=>?_;clear q4
  have gg:s₁.heap.IsGen (Z0.fA 5) (Z0.fA 6):=by
   refine e3a2 S.gen fun o nm qn e r=>?_
   have e0:(gndH (s.setGen (Z0.fA 6) .running).heap (Z0.fh 0) (Z0.fA 0) (Z0.fK 0).LG).get? (Z0.fA 5)=none:=by
    cases e:(gndH (s.setGen (Z0.fA 6) .running).heap (Z0.fh 0) (Z0.fA 0) (Z0.fK 0).LG).get? (Z0.fA 5) with
    | none=>rfl
    | some o' =>
     rcases (gndH_get.mp e).2.2 with h | h
     ·rw [hga2.1] at h;cases h
     ·exact absurd (h▸.head _) hga
   have hm:((Z0.fA 5),o)∈allBut (s.setGen (Z0.fA 6) .running).heap (gndH (s.setGen (Z0.fA 6) .running).heap (Z0.fh 0) (Z0.fA 0) (Z0.fK 0).LG) ((Z0.fa 0).lx::wrT (Z0.fa 0) (Z0.fK 0).LG):=mem_allBut.mpr ⟨e,fun h=>by
    rcases List.mem_cons.mp h with h | h
    ·exact hga2.2 h
    ·exact hga (.tail _ (.tail _ h)),e0⟩
   exact ⟨o,nm,qn,q1 _ _ (r2 _ (.tail _ (.tail _ hm))).1,r⟩
  refine ⟨fun b o e=>q1 _ _ (r1 _ _ (hXb b o e)),gg,⟨oe',q5,q6.1⟩,?_⟩
  ·show wpAny _ _ (noteFrame (.ref e) _) _ _ _
   refine note_X (s:=s₁.setGen (Z0.fA 6) .finished) rfl rfl R fun h1 H1 U1=>?_
   exact herr _ s its e dx D k psE loc S h0 H1 lD gD (U.trans U1) (sm.os.trans S.os) (sm.dr.trans S.dr) (gens_all bb)
theorem for_loop (FD:FnDef w 551 "_law_run" "_law_run" pr b sc (.ref 550)) (hp:forOf b=some bo)
  (hA1:(ktrTop dp un gd "_law_run" sc LR 551 (.ref 550) cll outer).in1=ktrTop dp1 un1 gd1 "_law_run" sc LR 551 (.ref 550) cll outer) (hdp:dp+200<900) (hun:un+8 * 200<9000)
  (G:TokG w p loose mean mg mb dp1 un1 sc outer A₀ base g0 LR t.LG a chars cl fe fs rest0 stm N prT t.b t.sc)
  (hgt:g0.get? got=none/\got≠LR/\got≠t.LG/\∀ y∈a.lx::a.dx::a.tb::a.pb::a.ct::a.it::225::rest0.map (·.1),y≠got)
  (hga:ga∉LR::got::wrT a t.LG) (hga2:g0.get? ga=none/\ga≠a.lx) (hXb:(hd.heap_1 w.params).In base)
  {Rr:Result->Shared->Prop} {tp:Pos}
  (hend:∀ s' its,ForS a chars cl rest0 g0 LR t.LG fs stm N got ga g si 0 s' its->turn (stm 0)=none->(∀ (i:Nat) (x:GenState),s'.gens[i]?=some x->x.bare=true)->GrownAt 225 s'.heap->Rr (.ok .next) s')
  (herr:∀ s' s1 its e dx D k ps loc,ForS a chars cl rest0 g0 LR t.LG fs stm N got ga g si 0 s1 its->turn (stm 0)=some (.error loc) ->
   HeldX base (envX "_law_run" sc LR 551 (.ref 550) cll::outer) e dx ((dx,dictOf D k)::(225,tabObj ps)::allBut s1.heap (gndH s1.heap g0 LR t.LG) (a.lx::wrT a t.LG)) LR s'.heap->D.length≤3->getL "loc" D=some (some loc) ->
   (gndH s1.heap g0 LR t.LG).UpToSlots s'.heap->s'.os=si.os->s'.drawn=si.drawn->(∀ (i:Nat) (x:GenState),s'.gens[i]?=some x->x.bare=true)->Rr (.error (.ref e)) s')
  (hsub:∀ n,n≤N->∀ x∈stm n,x∈chars) (hfew:N≤900) {gs0:GenState} (S0:ForS a chars cl rest0 g0 LR t.LG fs stm N got ga g si N s []) (hgs0:s.gens[g]?=some gs0)
  (hgo0:gs0.Goes (model pw_rk0009_01 w) (ktrTop dp un gd "_law_run" sc LR 551 (.ref 550) cll outer).in1 (RTok base (envX "_law_run" sc LR 551 (.ref 550) cll::outer) a t.LG g0 LR stm) (YTokX a chars cl rest0 t.LG fs g0 LR stm) N (.send .none) (s.setGen g .running)) :
  codeAny (model pw_rk0009_01 w) (ktrTop dp un gd "_law_run" sc LR 551 (.ref 550) cll outer) (.forLoop (.Name "t" tp) (.ref ga) bo [] (envX "_law_run" sc LR 551 (.ref 550) cll)) Rr s:=pickedZ (by with_unfolding_all rfl) Z0c (sfp (sfr (sfZ (sfG (sfN (sfK (sfk (sfL (sfC (sfa (sfs (sfB (sfg (sfA (sfh (frC w p loose mean mg mb dp un gd Z0.cn Z0.cs Z0.ca Z0.ccd cll outer A₀ base Z0.h₀ Z0.L Z0.m Z0.s Z0.E) [g0]) [LR,cl,fe,fs,got,ga,g]) [pr,prT]) [bo]) [sc]) [a]) [chars]) [rest0]) [stm]) [t]) [N,dp1,un1]) [gd1]) [si]) [Rr]) [tp]) s b FD hp hA1 hdp hun G hgt hga hga2 hXb hend herr hsub hfew gs0 S0 hgs0 hgo0
end
end
end
example:True:=by w_top off;trivial
section
open NgM01 NgM01b NgM02 NgM03 NgM09 NgM10 NgM11 NgM12 NgM15 NgM16 NgM18
section
variable {A:Around} {news:List (Addr×Obj)} {env:Env} {R:Result->Shared->Prop} {name qual:Str} {params:Arguments} {body:List Stmt} {scope:Scope} {dV kV doc pm cdv ct:Value} {an:Option Addr} {f:Addr} {fo:Obj} {args:Args} {binds:List (Str×Value)}
theorem enter_cells (B:Below A₀ base outer h₀) (F:Fr h₀ L s.heap m) (N:News h₀ L s.heap news) (hlim:h₀.NoLimit) (hA:A.frames=some (env::outer)) (hf:env.frame=some L) (hke:env.scope.kind=.function)
  (ho:s.heap.get? f=some fo) (hd:fo.data=.func (fnX name qual params body scope [] dV kV doc pm an cdv ct)) (hcd:s.heap.CodeRec cdv qual) (hroom:A.depth<recursionLimit)
  (hbind:BindsTo s (fnX name qual params body scope [] dV kV doc pm an cdv ct) args binds)
  (hkind:∀ n,∀ x∈binds,scope.names.lookup x.1=some .local\/(scope.names.lookup x.1=some .cell/\((cellsFrom n scope.names []).lookup x.1).isSome=true))
  (hnd:((cellsFrom 0 scope.names []).map (·.1)).Nodup)
  (h:∀ g L' h₁ tk cells,Fr h₀ L g m->Fr g L' h₁ (bindL (envOfC qual scope L' f cdv).kindOf binds fun _=>none)->News g L' h₁ (cells++news) ->
   CellsAre (bindC (envOfC qual scope L' f cdv).kindOf binds fun _=>none) (cellsFrom (L'+1) scope.names []) cells->Below A base (env::outer) g->h₀.StaysIn g->(∀ p∈news,p.1<L') ->
   (∀ (s':Shared) L'' m' news',Fr g L'' s'.heap m'->News g L'' s'.heap news'->Fr h₀ L s'.heap m/\News h₀ L s'.heap news') ->
   wpAny (model pw_rk0009_01 w) (A.deeper (envOfC qual scope L' f cdv)) (execs body (envOfC qual scope L' f cdv))
    (fun fl s'=>R (.ok (.ret (match fl with | .ret v=>v | _=>.none))) s')
    (fun e s'=>wpAny (model pw_rk0009_01 w) (A.deeper (envOfC qual scope L' f cdv)) (leaving (envOfC qual scope L' f cdv) e) (fun _ s''=>R (.error e) s'') (fun e' s''=>R (.error e') s'') s')
    {s with heap:=h₁,toks:=tk })
  (hco:scope.isCoroutine=false:=by rfl) (hgen:scope.isGenerator=false:=by rfl) (hk:scope.kind=.function:=by rfl):codeAny (model pw_rk0009_01 w) A (.call (.ref f) args) R s:=by
 have lv:∀ (s':Shared) L'' m' news',Fr (hideAll s.heap (news.map (·.1))) L'' s'.heap m'->News (hideAll s.heap (news.map (·.1))) L'' s'.heap news'->Fr h₀ L s'.heap m/\News h₀ L s'.heap news':=fun s' L'' m' news' F' N' =>
  (groundX (R:=fun _ s''=>Fr h₀ L s''.heap m/\News h₀ L s''.heap news') B F N hA hf hke).2.2.2 .none s' ⟨L'',m',news',F',N',fun a b=>⟨a,b⟩⟩
 refine e0a4 (groundX (R:=R) B F N hA hf hke) fun FG BG st _=>?_
 refine codeAny_call_function hroom ho hd hco hgen rfl hcd (hbind _ _ _ _ ?_)
 refine wpAny_newFunctionEnv_cells hk (hkind _) fun env' he s' x=>?_
 subst he
 refine ⟨(hlim.keeps F.keep).keeps x.toInCall.keep,codeAny_func ?_⟩
 refine e2a2 x.done fun h₁ tk Q30=>?_;obtain rfl:=Q30;intro _
 have hk₁:=x.toInCall.keep
 refine e1a2 (Cl.news (h₀:=s.heap) (Nat.le_refl _) fun n c hm=>⟨x.cell n c (lookup_of_mem_nodup (cellsFrom_names scope.names 0 (s.heap.objs.size+1) [] [] rfl▸hnd) hm),x.above n c hm⟩) fun cells NC Y=>?_
 refine h _ s.heap.objs.size h₁ tk cells FG ⟨x.toInCall.ns,fun b o e=>hk₁ b o (of_hideAll _ e),Nat.le_of_eq (hideAll_size _ _)⟩ (fun p hp=>?_) Y BG st (fun p hp=>Heap.lt_size (N p hp).1) lv
 rcases List.mem_append.mp hp with hp | hp
 ·refine ⟨(NC p hp).1,(NC p hp).2.1,?_⟩
  cases q:(hideAll s.heap (news.map (·.1))).get? p.1 with
  | none=>rfl
  | some o=>have:=of_hideAll _ q;rw [(NC p hp).2.2] at this;cases this
 ·exact ⟨hk₁ _ _ (N p hp).1,Nat.ne_of_lt (Heap.lt_size (N p hp).1),hideAll_none _ (List.mem_map_of_mem hp)⟩
end
end
example:True:=by w_top off;trivial
section
open NgM01 NgM01b NgM02 NgM03 NgM09 NgM10 NgM11 NgM12 NgM15 NgM16 NgM18
theorem rebase {A:Around} {base g:Heap} {l:List Env} (B:Below A base l g):Below A (hideAll g (l.filterMap (·.frame))) l g :=
 ⟨B.stack,fun b o e=>of_hideAll _ e,funFrames_hide B.frames fun env he a ha=>List.mem_filterMap.mpr ⟨env,he,ha⟩⟩
theorem rebase_keep {A:Around} {base g:Heap} {l:List Env} (B:Below A base l g):base.StaysIn (hideAll g (l.filterMap (·.frame))):=fun b o e=>hideAll_get _ (B.stays b o e) fun hm=>by
 rw [(B.frames.mem hm).1] at e
 cases e
theorem rebase_K {A:Around} {base g:Heap} {l:List Env} {K:Frag} (B:Below A base l g) (X:K.In base):K.In (hideAll g (l.filterMap (·.frame))):=fun b o e=>rebase_keep B b o (X b o e)
theorem rebase_size {g:Heap} {l:List Env} : (hideAll g (l.filterMap (·.frame))).objs.size=g.objs.size:=hideAll_size _ _
end
theorem NgB38.gB38:True:=trivial
example:True:=by w_top off;trivial
section
open NgM01 NgM01b NgM02 NgM03 NgM09 NgM10 NgM11 NgM12 NgM15 NgM16 NgM18 NgB38
noncomputable def Z41P:FrZ->Prop:=fun V=>∀ (c1:Addr) (cells:List (Addr×Obj)) (x:CellsAre (V.fM 0) [((V.fS 0),c1),((V.fS 1),(V.fA 0)),((V.fS 2),(V.fA 1)),((V.fS 3),(V.fA 2)),((V.fS 4),(V.fA 3))] cells),∃ o1 o2 o3 o4 o5,cells=[(c1,o1),((V.fA 0),o2),((V.fA 1),o3),((V.fA 2),o4),((V.fA 3),o5)]/\o1.data=.cell ((V.fM 0) (V.fS 0))/\o2.data=.cell ((V.fM 0) (V.fS 1))/\o3.data=.cell ((V.fM 0) (V.fS 2))/\o4.data=.cell ((V.fM 0) (V.fS 3))/\o5.data=.cell ((V.fM 0) (V.fS 4))
@[irreducible] noncomputable def Z41:FrZ:=pickZ Z41P
theorem Z41c:Z41P Z41:=by
 intro c1 cells x
 cases x with | cons h1 r =>
 cases r with | cons h2 r =>
 cases r with | cons h3 r =>
 cases r with | cons h4 r =>
 cases r with | cons h5 r =>
 cases r
 exact ⟨_,_,_,_,_,rfl,h1,h2,h3,h4,h5⟩
theorem cells_five {cm:Str->Option Value} {n1 n2 n3 n4 n5:Str} {c1 c2 c3 c4 c5:Addr} {cells:List (Addr×Obj)} (x:CellsAre cm [(n1,c1),(n2,c2),(n3,c3),(n4,c4),(n5,c5)] cells) :
  ∃ o1 o2 o3 o4 o5,cells=[(c1,o1),(c2,o2),(c3,o3),(c4,o4),(c5,o5)]/\o1.data=.cell (cm n1)/\o2.data=.cell (cm n2)/\o3.data=.cell (cm n3)/\o4.data=.cell (cm n4)/\o5.data=.cell (cm n5):=pickedZ (by with_unfolding_all rfl) Z41c (sfA (sfS (sfM (frZ) [cm]) [n1,n2,n3,n4,n5]) [c2,c3,c4,c5]) c1 cells x
section
variable {M:Model} {A:Around} {E:Value->Shared->Prop} {a:Addr} {cl:List (Str×Addr)} {x:Str} {v:Value} {news:List (Addr×Obj)} {g:Obj->List (Addr×Obj)} {c:Addr} {o:Obj} {v₀:Option Value}
theorem storeName_cell {env:Env} {name:Str} {c:Addr} {v₀:Option Value} {v:Value} {Q:Unit->Shared->Prop} (hk:env.scope.kind=.function) (hl:env.kindOf name=some .cell)
  (hc:env.cells.lookup name=some c) (hv:s.heap.IsCell c v₀)
  (h:∀ h',h'.IsCell c (some v)->Heap.SameBut c s.heap h'->Q () { s with heap:=h' }):wpAny M A (storeName env name v) Q E s:=by
 unfold storeName
 simp only [hl,hk]
 exact wpAny_bind (wpAny_cellOf hc (wpAny_cellSet hv h))
theorem storeX_C {Q:Unit->Shared->Prop} (F:Fr h₀ L s.heap m) (N:News h₀ L s.heap news) (hc:cl.lookup x=some c) (U:UpdF c o news g) (hd:o.data=.cell v₀)
  (h:∀ h' o',Fr h₀ L h' m->News h₀ L h' (g o')->o'.data=.cell (some v)->Q () { s with heap:=h' })
  (hk:cs.kind=.function:=by rfl) (hx:(envX cn cs L a ccd cl).kindOf x=some .cell:=by rfl):wpAny M A (storeName (envX cn cs L a ccd cl) x v) Q E s:=by
 refine e2a4 U.split fun own rest Q31=>?_;obtain rfl:=Q31;intro hg h1 h2
 have hmem:=N (c,o) (List.mem_append_right _ (.head _))
 refine storeName_cell hk hx hc ⟨o,hmem.1,hd⟩ fun h' hv hs=>?_
 refine e1a2 hv fun o' ho' hd'=>?_;clear hv
 refine h h' o' ⟨F.ns.sameBut hs (Ne.symm hmem.2.1),fun b ob e=>(hs.2 b (fun q=>?_)).trans (F.keep b ob e),F.above⟩ (hg o'▸N.setAt h1 h2 hs ho') hd'
 rw [q,hmem.2.2] at e;cases e
end
theorem lt_up {l:List (Addr×Obj)} {a b:Addr} (h:∀ q∈l,q.1<a) (k:a<b):∀ q∈l,q.1<b:=fun q hq=>Nat.lt_trans (h q hq) k
example:True:=by (k_with "B38" => (fail_if_success (fail_if_success (have:=gB38))));(k_with "call ref" => k_extra "B38";(k_here;k_dflt (first | (refine' mk_opts ?Y0 ?Y1 ?_;(case Y0=>exact ⟨by k_asm,by k_asm,by k_asm,by k_asm,by first | exact rfl | assumption,by ((try dsimp only [ktrTop,Around.deeper]);omega),by ((try dsimp only [ktrTop,Around.deeper]);omega)⟩);(case Y1=>k_asm);k_whole;intro Y2 Y3 Y4 Y5 Y6 Y7) | (refine' mk_lex ?Y0 ?Y1 ?_;(case Y0=>exact ⟨by k_asm,by k_asm,by k_asm,by k_asm,by first | exact rfl | assumption,by ((try dsimp only [ktrTop,Around.deeper]);omega),by ((try dsimp only [ktrTop,Around.deeper]);omega)⟩);(case Y1=>assumption);k_whole;intro Y8 Y9 Y10 Y11 Y4 Y5 Y12 Y6 Y7 Y13;refine e0a5 Y13 fun P1 P2 P3 P4 P5=>?_;clear Y13;have P6:=lt_up P1 P2;have P7:=lt_up P6 P3;have P8:=lt_up P7 P4;have P9:=lt_up P8 P5;replace P2:=ltN P2;replace P3:=ltN P3;replace P4:=ltN P4;replace P5:=ltN P5;k_lt P1;k_lt P6;k_lt P7;k_lt P8;k_lt P9))));(k_with "storeName" => k_extra "B38";(k_here;k_dflt (refine' storeX_C ?Y0 ?Y1 ?Y2 ?Y3 ?Y4 ?_ ?Y5 ?Y6;(case Y5=>rfl);(case Y6=>rfl);(case Y0=>k_asm);(case Y1=>k_asm);(case Y2=>rfl);(case Y3=>k_updF);(case Y4=>k_asm);k_whole);intro Y7 Y8 Y9 Y10 Y11;(try dsimp only at Y10);(try k_sweep)));(k_with "k_all" => k_extra "B38";assumption);trivial
noncomputable def preOf (l:List Stmt):Option (List Stmt):=match l with
 | [a,b,c,d,_,_,_]=>some [a,b,c,d]
 | _=>none
section
variable {g:Heap} {LR:Addr} {rest:List (Addr×Obj)} {pr:Arguments} {b:List Stmt} {sc:Scope} {Q:Flow->Shared->Prop} {E:Value->Shared->Prop}
noncomputable abbrev cellsR (cS cL cE cP cT:Addr):List (Str×Addr):=[("start",cS),("lexer",cL),("ended",cE),("places",cP),("text",cT)]
noncomputable abbrev preMade (a:LexA) (tn pn cn got fe fs c1 c2:Nat) (o1 o2:Obj) (ps:Array Value) (oS oL oE oP oT:Obj) (cS cL cE cP cT:Addr) (q1 q2:Str) (pr1 pr2:Arguments) (b1 b2:List Stmt) (sc1 sc2:Scope) (d1 d2 pm k1 k2:Value) (rest:List (Addr×Obj)):List (Addr×Obj) :=
 (fs,fnMade "start" q2 pr2 b2 sc2 [("start",cS),("lexer",cL),("ended",cE)] d2 pm c2 k2)::(c2,o2)::(fe,fnMade "ended" q1 pr1 b1 sc1 [] d1 pm c1 k1)::(c1,o1)::(got,listOf #[] 0)::preLed a tn pn cn ((548,tabObj ps)::(cS,oS)::(cL,oL)::(cE,oE)::(cP,oP)::(cT,oT)::rest)
noncomputable def Z40P:FrZ->Prop:=fun V=>∀ (b:List Stmt) (sc:Scope) (x0 x1 x2 x3:Stmt) (FD:FnDef V.w 551 "_law_run" "_law_run" (V.fg 0) b sc (.ref 550)) (hp:preOf b=some [x0,x1,x2,x3]) (C:Cx 60 V.w V.p V.loose V.mean V.mg V.mb V.dp V.un sc V.outer V.A₀ V.base (V.fh 0) (V.fA 0) V.m V.s) (_C1:CodeHd (V.fh 0) 550 548) (N:News (V.fh 0) (V.fA 0) V.s.heap ((548,tabObj #[])::((V.fA 5),(V.fO 4))::((V.fA 4),(V.fO 3))::((V.fA 3),(V.fO 2))::((V.fA 2),(V.fO 1))::((V.fA 1),(V.fO 0))::(V.fL 0))) (hS:(V.fO 4).data=.cell none) (hL:(V.fO 3).data=.cell none) (hE:(V.fO 2).data=.cell none) (r1:∀ q∈(V.fL 0),q.1<(V.fA 1)) (r2:∀ q∈(V.fL 0),q.1≠548) (n0 : @LT.lt Nat _ 548 (V.fA 1)) (n1 : @LT.lt Nat _ (V.fA 1) (V.fA 2)) (n2 : @LT.lt Nat _ (V.fA 2) (V.fA 3)) (n3 : @LT.lt Nat _ (V.fA 3) (V.fA 4)) (n4 : @LT.lt Nat _ (V.fA 4) (V.fA 5)) (ret:∀ (h':Heap) (tk':Nat) (a:LexA) (tn pn cn got fe fs c1 c2:Nat) (oS' oL' oE' o1 o2:Obj) (ps v1 v2:Array Value) (q1 q2:Str) (pr1 pr2:Arguments) (b1 b2:List Stmt) (sc1 sc2:Scope) (d1 d2 pm k1 k2:Value) (u1 u2:Tok),
   Fr (V.fh 0) (V.fA 0) h' (fun y=>if y = "got" then some (.ref got) else V.m y)->News (V.fh 0) (V.fA 0) h' (preMade a tn pn cn got fe fs c1 c2 o1 o2 ps oS' oL' oE' (V.fO 1) (V.fO 0) (V.fA 5) (V.fA 4) (V.fA 3) (V.fA 2) (V.fA 1) q1 q2 pr1 pr2 b1 b2 sc1 sc2 d1 d2 pm k1 k2 (V.fL 0)) ->
   RunDef V.w 2 pr1 b1 sc1->RunDef V.w 3 pr2 b2 sc2->o1.data=.fields v1->v1[1]?=some (.str q1 u1)->o2.data=.fields v2->v2[1]?=some (.str q2 u2)->oS'.data=.cell (some (.ref fs))->oL'.data=.cell (some (.ref a.lx))->oE'.data=.cell (some (.ref fe)) ->
   (∀ q∈(V.fL 0),q.1<a.dx)->(@LT.lt Nat _ a.dx a.lx/\@LT.lt Nat _ a.lx a.tb/\@LT.lt Nat _ a.tb a.pb/\@LT.lt Nat _ a.pb a.ct/\@LT.lt Nat _ a.ct got/\@LT.lt Nat _ got c1/\@LT.lt Nat _ c1 fe/\@LT.lt Nat _ fe c2/\@LT.lt Nat _ c2 fs/\@LT.lt Nat _ (V.fA 5) a.dx) ->
   wpAny (model pw_rk0009_01 V.w) (ktrTop V.dp V.un V.gd "_law_run" sc (V.fA 0) 551 (.ref 550) (cellsR (V.fA 5) (V.fA 4) (V.fA 3) (V.fA 2) (V.fA 1)) V.outer) (execs (V.fB 0) (envX "_law_run" sc (V.fA 0) 551 (.ref 550) (cellsR (V.fA 5) (V.fA 4) (V.fA 3) (V.fA 2) (V.fA 1)))) (V.fF 0) V.E { V.s with heap:=h',toks:=tk' }),wpAny (model pw_rk0009_01 V.w) (ktrTop V.dp V.un V.gd "_law_run" sc (V.fA 0) 551 (.ref 550) (cellsR (V.fA 5) (V.fA 4) (V.fA 3) (V.fA 2) (V.fA 1)) V.outer) (execs (x0::x1::x2::x3::(V.fB 0)) (envX "_law_run" sc (V.fA 0) 551 (.ref 550) (cellsR (V.fA 5) (V.fA 4) (V.fA 3) (V.fA 2) (V.fA 1)))) (V.fF 0) V.E V.s
@[irreducible] noncomputable def Z40:FrZ:=pickZ Z40P
set_option maxHeartbeats 4000000 in
theorem Z40c:Z40P Z40:=by
 intro b sc x0 x1 x2 x3 FD hp C _C1 N hS hL hE r1 r2 n0 n1 n2 n3 n4 ret
 obtain ⟨_,_,_,_,_,_,_,_,_,ho⟩:=FD
 have e:sc=_:=fn_scope ho (by k_is)
 subst e
 have e:b=_:=fn_body ho (by k_is)
 subst e
 have e2 : [x0,x1,x2,x3]=_:=Option.some.inj (hp.symm.trans (rfl:preOf _=some _))
 injection e2 with e2 e3
 injection e3 with e3 e4
 injection e4 with e4 e5
 injection e5 with e5 e6
 subst e2 e3 e4 e5
 have RD2:RunDef Z40.w 2 _ _ _:=⟨_,_,_,_,_,_,_,_,_,_,_,_,_,_,_,ho,rfl⟩
 have RD3:RunDef Z40.w 3 _ _ _:=⟨_,_,_,_,_,_,_,_,_,_,_,_,_,_,_,ho,rfl⟩
 clear hp ho
 obtain ⟨B,F,X,T,hk,hdp,hun⟩:=C
 have m2:=Nat.lt_trans n0 n1
 have m3:=Nat.lt_trans m2 n2
 have m4:=Nat.lt_trans m3 n3
 have m5:=Nat.lt_trans m4 n4
 have k2:=Nat.lt_trans n1 n2
 have k3:=Nat.lt_trans k2 n3
 have k4:=Nat.lt_trans k3 n4
 have j3:=Nat.lt_trans n2 n3
 have j4:=Nat.lt_trans j3 n4
 have i4:=Nat.lt_trans n3 n4
 have rL:∀ q∈(Z40.fL 0),q.1≠(Z40.fA 4):=lt_ne_all r1 (by omega)
 have rE:∀ q∈(Z40.fL 0),q.1≠(Z40.fA 3):=lt_ne_all r1 (by omega)
 have rS:∀ q∈(Z40.fL 0),q.1≠(Z40.fA 5):=lt_ne_all r1 (by omega)
 k_steps
 rename News (Z40.fh 0) (Z40.fA 0) _ _=>kN
 exact ret _ _ _ _ _ _ _ _ _ _ _ _ _ _ _ _ _ _ _ _ _ _ _ _ _ _ _ _ _ _ _ _ _ _ (by k_asm) kN RD2 RD3 (by assumption) (by assumption) (by assumption) (by assumption) (by assumption) (by assumption) (by assumption) (by assumption) (by refine ⟨?_,?_,?_,?_,?_,?_,?_,?_,?_,?_⟩ <;> omega)
theorem pc_pre {x0 x1 x2 x3:Stmt} {cT cP cE cL cS:Addr} {oT oP oE oL oS:Obj} (FD:FnDef w 551 "_law_run" "_law_run" pr b sc (.ref 550)) (hp:preOf b=some [x0,x1,x2,x3]) {tl:List Stmt}
  (C:Cx 60 w p loose mean mg mb dp un sc outer A₀ base g LR m s) (_C1:CodeHd g 550 548)
  (N:News g LR s.heap ((548,tabObj #[])::(cS,oS)::(cL,oL)::(cE,oE)::(cP,oP)::(cT,oT)::rest))
  (hS:oS.data=.cell none) (hL:oL.data=.cell none) (hE:oE.data=.cell none) (r1:∀ q∈rest,q.1<cT) (r2:∀ q∈rest,q.1≠548)
  (n0 : @LT.lt Nat _ 548 cT) (n1 : @LT.lt Nat _ cT cP) (n2 : @LT.lt Nat _ cP cE) (n3 : @LT.lt Nat _ cE cL) (n4 : @LT.lt Nat _ cL cS)
  (ret:∀ (h':Heap) (tk':Nat) (a:LexA) (tn pn cn got fe fs c1 c2:Nat) (oS' oL' oE' o1 o2:Obj) (ps v1 v2:Array Value) (q1 q2:Str) (pr1 pr2:Arguments) (b1 b2:List Stmt) (sc1 sc2:Scope) (d1 d2 pm k1 k2:Value) (u1 u2:Tok),
   Fr g LR h' (fun y=>if y = "got" then some (.ref got) else m y)->News g LR h' (preMade a tn pn cn got fe fs c1 c2 o1 o2 ps oS' oL' oE' oP oT cS cL cE cP cT q1 q2 pr1 pr2 b1 b2 sc1 sc2 d1 d2 pm k1 k2 rest) ->
   RunDef w 2 pr1 b1 sc1->RunDef w 3 pr2 b2 sc2->o1.data=.fields v1->v1[1]?=some (.str q1 u1)->o2.data=.fields v2->v2[1]?=some (.str q2 u2)->oS'.data=.cell (some (.ref fs))->oL'.data=.cell (some (.ref a.lx))->oE'.data=.cell (some (.ref fe)) ->
   (∀ q∈rest,q.1<a.dx)->(@LT.lt Nat _ a.dx a.lx/\@LT.lt Nat _ a.lx a.tb/\@LT.lt Nat _ a.tb a.pb/\@LT.lt Nat _ a.pb a.ct/\@LT.lt Nat _ a.ct got/\@LT.lt Nat _ got c1/\@LT.lt Nat _ c1 fe/\@LT.lt Nat _ fe c2/\@LT.lt Nat _ c2 fs/\@LT.lt Nat _ cS a.dx) ->
   wpAny (model pw_rk0009_01 w) (ktrTop dp un gd "_law_run" sc LR 551 (.ref 550) (cellsR cS cL cE cP cT) outer) (execs tl (envX "_law_run" sc LR 551 (.ref 550) (cellsR cS cL cE cP cT))) Q E { s with heap:=h',toks:=tk' }) :
  wpAny (model pw_rk0009_01 w) (ktrTop dp un gd "_law_run" sc LR 551 (.ref 550) (cellsR cS cL cE cP cT) outer) (execs (x0::x1::x2::x3::tl) (envX "_law_run" sc LR 551 (.ref 550) (cellsR cS cL cE cP cT))) Q E s:=pickedZ (by with_unfolding_all rfl) Z40c (sfB (sfO (sfF (sfg (sfL (sfA (sfh (frC w p loose mean mg mb dp un gd Z40.cn Z40.cs Z40.ca Z40.ccd Z40.cll outer A₀ base Z40.h₀ Z40.L m s E) [g]) [LR,cT,cP,cE,cL,cS]) [rest]) [pr]) [Q]) [oT,oP,oE,oL,oS]) [tl]) b sc x0 x1 x2 x3 FD hp C _C1 N hS hL hE r1 r2 n0 n1 n2 n3 n4 ret
end
end
example:True:=by w_top off;trivial
section
theorem ldM2 {M:Model} {A:Around} {E:Value->Shared->Prop} {s:Shared} {env:Env} {h₀:Heap} {L:Addr} {m:Str->Option Value} {x:Str} {pos:Pos} {v:Value} {Q:Value->Shared->Prop} (F:Fr h₀ L s.heap m) (hk:env.scope.kind=.function) (hl:env.kindOf x=some .local) (hL:env.locals=L) (hv:m x=some v)
  (hd:(x==("__debug__" : Str))=false) (h:Q v s):wpAny M A (eval (.Name x pos) env) Q E s:=by
 subst hL
 exact wpAny_Name (wpAny_loadName_local hk hl F.ns hv h) hd
noncomputable def Tx (ss:List Str) (its:List Value):Prop:=its.length=ss.length/\∀ (i:Nat) x,ss[i]?=some x->∃ t,its[i]?=some (.str x t)
theorem Tx.nil:Tx [] []:=⟨rfl,fun i x h=>by simp at h⟩
theorem Tx.cons {x:Str} {t:Tok} {ss:List Str} {its:List Value} (h:Tx ss its):Tx (x::ss) (.str x t::its) :=
 ⟨by rw [List.length_cons,List.length_cons,h.1],fun i y e=>by
  cases i with
  | zero=>simp only [List.getElem?_cons_zero,Option.some.injEq] at e ⊢;subst e;exact ⟨t,rfl⟩
  | succ i=>simp only [List.getElem?_cons_succ] at e ⊢;exact h.2 i y e⟩
noncomputable abbrev prO (a b:Value):Obj:={ cls:=.type "tuple",data:=.seq #[a,b] }
noncomputable def Sx (K:List (Addr×Obj)) (ss:List (Str×Int)) (its:List Value):Prop:=its.length=ss.length/\∀ (i:Nat) x v,ss[i]?=some (x,v)->∃ D t u,its[i]?=some (.ref D)/\(D,prO (.str x t) (.int v u))∈K
theorem Sx.nil {K:List (Addr×Obj)} : Sx K [] []:=⟨rfl,fun i x v h=>by simp at h⟩
theorem Sx.cons {K:List (Addr×Obj)} {D:Addr} {x:Str} {v:Int} {t u:Tok} {ss:List (Str×Int)} {its:List Value} (hm:(D,prO (.str x t) (.int v u))∈K) (h:Sx K ss its):Sx K ((x,v)::ss) (.ref D::its) :=
 ⟨by rw [List.length_cons,List.length_cons,h.1],fun i y z e=>by
  cases i with
  | zero=>simp only [List.getElem?_cons_zero,Option.some.injEq,Prod.mk.injEq] at e;refine e0a2 e fun Q32=>?_;clear e;obtain rfl:=Q32;intro Q33;obtain rfl:=Q33;exact ⟨D,t,u,rfl,hm⟩
  | succ i=>simp only [List.getElem?_cons_succ] at e ⊢;exact h.2 i y z e⟩
noncomputable abbrev tab_short:List (Str×Int):=[("a",7),("b",8),("f",12),("n",10),("r",13),("t",9),("v",11),("e",27),("\\",92),("\"",34),("'",39),("?",63)]
noncomputable abbrev tab_openers:List Str:=["'", "L'", "$'"]
noncomputable abbrev tab_among:List Str:=["", " ", ";", "L ", "\\", "@\"", "\n", "L"]
noncomputable abbrev tab_behind:List Str:=["", "'", "' 'z'", "z' L'\\n'"]
noncomputable abbrev tab_toosoon:List Str:=["", "\\", "'", "A", "\\n", "\\x4", "\\10", "\\u00e9"]
noncomputable abbrev tab_hex:List Str:=["0123456789abcdef", "0123456789ABCDEF"]
inductive Strs:List Expr->List Str->Prop
 | nil:Strs [] []
 | cons {x:Str} {k:Nat} {p:Pos} {es:List Expr} {xs:List Str} (h:Strs es xs):Strs (.Constant (.str x) k p::es) (x::xs)
inductive Prs:List Expr->List (Str×Int)->Prop
 | nil:Prs [] []
 | cons {x:Str} {v:Int} {k k1 k2:Nat} {p p1 p2:Pos} {es:List Expr} {xs:List (Str×Int)} (h:Prs es xs):Prs (.Tuple [.Constant (.str x) k1 p1,.Constant (.int v) k2 p2] k p::es) ((x,v)::xs)
theorem strs_args {M:Model} {A:Around} {E:Value->Shared->Prop} {env:Env} {pos:Pos} {es:List Expr} {xs:List Str} (he:Strs es xs):∀ {s:Shared} {Q:List Value->Shared->Prop},
  (∀ its tk,Tx xs its->Q its { s with toks:=tk })->wpAny M A (spliced (backTo pos (starEach es env))) Q E s:=by
 induction he with
 | nil=>exact fun h=>args_nil (h _ _ Tx.nil)
 | cons _ ih=>exact fun h=>args_cons (Constant_str (ih fun its tk ht=>h _ tk (Tx.cons ht)))
theorem Sx.mono {K K':List (Addr×Obj)} {xs:List (Str×Int)} {its:List Value} (h:Sx K xs its) (k:∀ q∈K,q∈K'):Sx K' xs its :=
 ⟨h.1,fun i x v e=>Exists.elim (h.2 i x v e) fun D h=>Exists.elim h fun t h=>Exists.elim h fun u h=>⟨D,t,u,h.1,k _ h.2⟩⟩
theorem prs_args {M:Model} {A:Around} {E:Value->Shared->Prop} {env:Env} {pos:Pos} {h₀:Heap} {L:Addr} {m:Str->Option Value} {es:List Expr} {xs:List (Str×Int)} (he:Prs es xs):∀ {s:Shared} {news:List (Addr×Obj)} {Q:List Value->Shared->Prop},Fr h₀ L s.heap m->News h₀ L s.heap news ->
  (∀ its K h' tk,Sx K xs its->Fr h₀ L h' m->News h₀ L h' (K++news)->Q its { s with heap:=h',toks:=tk })->wpAny M A (spliced (backTo pos (starEach es env))) Q E s:=by
 induction he with
 | nil=>exact fun F N h=>args_nil (h _ [] _ _ Sx.nil F N)
 | cons _ ih =>
  exact fun F N h=>args_cons (Tuple_ (args_cons (Constant_str (args_cons (wpAny_Constant_int (args_nil (kup_newTuple F N (fun D h' F' N' _=>ih F' N' fun its K h2 tk hS F2 N2 =>
   h _ (K++[(D,prO (.str _ _) (.int _ _))]) h2 tk (Sx.cons (List.mem_append_right _ (.head _)) (hS.mono fun q hq=>List.mem_append_left _ hq)) F2 (by rw [List.append_assoc];exact N2)) (Nat.le_of_ble_eq_true rfl))))))))
section
variable {news:List (Addr×Obj)} {Q E:Value->Shared->Prop}
theorem tab_c {f:Addr} {name qual:Str} {ps:Arguments} {es:List Expr} {p1 p2:Pos} {sc:Scope} {dV kV doc pm cdv ct oc:Value} {an od:Option Addr} {osl:Array (Option Value)} {P:List (Addr×Obj)->List Value->Prop}
  (hs:∀ {A env pos E h L m} {s:Shared} {news Q},Fr h L s.heap m->News h L s.heap news->(∀ its K h' tk,P K its->its.length≤100->Fr h L h' m->News h L h' (K++news)->Q its { s with heap:=h',toks:=tk })->wpAny (model pw_rk0009_01 w) A (spliced (backTo pos (starEach es env))) Q E s)
  (C:Cx 5 w p loose mean mg mb dp un cs outer A₀ base h₀ L m s) (N:News h₀ L s.heap news)
  (ret:∀ (l:Addr) its K h' tk' n,P K its->Fr h₀ L h' m->News h₀ L h' ((l,listOf its.toArray n)::(K++news))->(∀ q∈news,q.1<l)->Q (.ref l) { s with heap:=h',toks:=tk' })
  (ho:(hd.heap_1 w.params).lookup f=some ⟨oc,od,.func (fnOf name qual ps [.Return (some (.List es p1)) p2] sc dV kV doc pm an cdv ct),osl⟩) (hcd:codeIn (hd.heap_1 w.params) cdv qual=true)
  (hb:BindsTo s (fnOf name qual ps [.Return (some (.List es p1)) p2] sc dV kV doc pm an cdv ct) ⟨[],[]⟩ []) (g1:sc.isCoroutine=false) (g2:sc.isGenerator=false) (g3:sc.kind=.function) (g4:∀ x∈sc.names,x.2≠.cell) :
  wpAny (model pw_rk0009_01 w) (ktrTop dp un gd cn cs L ca ccd cll outer) (call (.ref f) []) Q E s:=by
 obtain ⟨B,F,X,T,hk,hdp,hun⟩:=C
 refine wpAny_call (code_def B F X N T rfl rfl hk ho hcd (by k_room) hb (fun y h=>nomatch h) (fun g L' h₁ FG F' N' B' X' T'=>?_) g1 g2 g3 g4)
 refine wpAny_execs_cons (wpAny_Return_some (List_ (hs F' N' fun its K h2 tk ht hz F2 N2=>newList_K F2 N2 (fun l h3 F3 N3 hl=>?_) (Nat.le_trans hz (by decide)))))
 k_steps
 exact ret l its K _ _ _ ht (by k_asm) (by k_asm) (fun q hq=>hl q (List.mem_append_right _ hq))
theorem tab_s {es:List Expr} {xs:List Str} (hs:Strs es xs) (hz:Nat.ble xs.length 100=true) {A env pos E h L m} {s:Shared} {news Q} (F:Fr h L s.heap m) (N:News h L s.heap news) (k:∀ its K h' tk,K=[]/\Tx xs its->its.length≤100->Fr h L h' m->News h L h' (K++news)->Q its { s with heap:=h',toks:=tk }) :
  wpAny (model pw_rk0009_01 w) A (spliced (backTo pos (starEach es env))) Q E s:=strs_args hs fun its tk ht=>k its [] _ tk ⟨rfl,ht⟩ (by rw [ht.1];exact Nat.le_of_ble_eq_true hz) F N
theorem tab_p {es:List Expr} {xs:List (Str×Int)} (hs:Prs es xs) (hz:Nat.ble xs.length 100=true) {A env pos E h L m} {s:Shared} {news Q} (F:Fr h L s.heap m) (N:News h L s.heap news) (k:∀ its K h' tk,Sx K xs its->its.length≤100->Fr h L h' m->News h L h' (K++news)->Q its { s with heap:=h',toks:=tk }) :
  wpAny (model pw_rk0009_01 w) A (spliced (backTo pos (starEach es env))) Q E s:=prs_args hs F N fun its K h' tk ht=>k its K h' tk ht (by rw [ht.1];exact Nat.le_of_ble_eq_true hz)
theorem openers_c (C:Cx 5 w p loose mean mg mb dp un cs outer A₀ base h₀ L m s) (N:News h₀ L s.heap news)
  (ret:∀ (l:Addr) its h' tk' n,Tx tab_openers its->Fr h₀ L h' m->News h₀ L h' ((l,listOf its.toArray n)::news)->(∀ q∈news,q.1<l)->Q (.ref l) { s with heap:=h',toks:=tk' }) :
  wpAny (model pw_rk0009_01 w) (ktrTop dp un gd cn cs L ca ccd cll outer) (call (.ref 497) []) Q E s :=
 tab_c (tab_s (by repeat constructor) rfl) C N (fun l its K h' tk n h F N hl=>ret l its h' tk n h.2 F (by rw [h.1] at N;exact N) hl) (by k_is) (by k_is) (BindsTo.of_eq rfl) rfl rfl rfl (by decide)
theorem among_c (C:Cx 5 w p loose mean mg mb dp un cs outer A₀ base h₀ L m s) (N:News h₀ L s.heap news)
  (ret:∀ (l:Addr) its h' tk' n,Tx tab_among its->Fr h₀ L h' m->News h₀ L h' ((l,listOf its.toArray n)::news)->(∀ q∈news,q.1<l)->Q (.ref l) { s with heap:=h',toks:=tk' }) :
  wpAny (model pw_rk0009_01 w) (ktrTop dp un gd cn cs L ca ccd cll outer) (call (.ref 504) []) Q E s :=
 tab_c (tab_s (by repeat constructor) rfl) C N (fun l its K h' tk n h F N hl=>ret l its h' tk n h.2 F (by rw [h.1] at N;exact N) hl) (by k_is) (by k_is) (BindsTo.of_eq rfl) rfl rfl rfl (by decide)
theorem behind_c (C:Cx 5 w p loose mean mg mb dp un cs outer A₀ base h₀ L m s) (N:News h₀ L s.heap news)
  (ret:∀ (l:Addr) its h' tk' n,Tx tab_behind its->Fr h₀ L h' m->News h₀ L h' ((l,listOf its.toArray n)::news)->(∀ q∈news,q.1<l)->Q (.ref l) { s with heap:=h',toks:=tk' }) :
  wpAny (model pw_rk0009_01 w) (ktrTop dp un gd cn cs L ca ccd cll outer) (call (.ref 511) []) Q E s :=
 tab_c (tab_s (by repeat constructor) rfl) C N (fun l its K h' tk n h F N hl=>ret l its h' tk n h.2 F (by rw [h.1] at N;exact N) hl) (by k_is) (by k_is) (BindsTo.of_eq rfl) rfl rfl rfl (by decide)
theorem toosoon_c (C:Cx 5 w p loose mean mg mb dp un cs outer A₀ base h₀ L m s) (N:News h₀ L s.heap news)
  (ret:∀ (l:Addr) its h' tk' n,Tx tab_toosoon its->Fr h₀ L h' m->News h₀ L h' ((l,listOf its.toArray n)::news)->(∀ q∈news,q.1<l)->Q (.ref l) { s with heap:=h',toks:=tk' }) :
  wpAny (model pw_rk0009_01 w) (ktrTop dp un gd cn cs L ca ccd cll outer) (call (.ref 518) []) Q E s :=
 tab_c (tab_s (by repeat constructor) rfl) C N (fun l its K h' tk n h F N hl=>ret l its h' tk n h.2 F (by rw [h.1] at N;exact N) hl) (by k_is) (by k_is) (BindsTo.of_eq rfl) rfl rfl rfl (by decide)
theorem hex_c (C:Cx 5 w p loose mean mg mb dp un cs outer A₀ base h₀ L m s) (N:News h₀ L s.heap news)
  (ret:∀ (l:Addr) its h' tk' n,Tx tab_hex its->Fr h₀ L h' m->News h₀ L h' ((l,listOf its.toArray n)::news)->(∀ q∈news,q.1<l)->Q (.ref l) { s with heap:=h',toks:=tk' }) :
  wpAny (model pw_rk0009_01 w) (ktrTop dp un gd cn cs L ca ccd cll outer) (call (.ref 525) []) Q E s :=
 tab_c (tab_s (by repeat constructor) rfl) C N (fun l its K h' tk n h F N hl=>ret l its h' tk n h.2 F (by rw [h.1] at N;exact N) hl) (by k_is) (by k_is) (BindsTo.of_eq rfl) rfl rfl rfl (by decide)
theorem short_c (C:Cx 5 w p loose mean mg mb dp un cs outer A₀ base h₀ L m s) (N:News h₀ L s.heap news)
  (ret:∀ (l:Addr) its K h' tk' n,Sx K tab_short its->Fr h₀ L h' m->News h₀ L h' ((l,listOf its.toArray n)::(K++news))->(∀ q∈news,q.1<l)->Q (.ref l) { s with heap:=h',toks:=tk' }) :
  wpAny (model pw_rk0009_01 w) (ktrTop dp un gd cn cs L ca ccd cll outer) (call (.ref 490) []) Q E s:=tab_c (tab_p (by repeat constructor) rfl) C N ret (by k_is) (by k_is) (BindsTo.of_eq rfl) rfl rfl rfl (by decide)
end
end
theorem NgB51.gB51:True:=trivial
example:True:=by w_top off;trivial
section
open NgB51
noncomputable def spRun (b:Nat) (wd:Int) (dg:Str):Nat->Nat->Str->Option Str
 | 0,_,_=>none
 | n+1,v,t=>if 0<v\/(t.length:Int)<wd then (match dg.cps[v % b]? with | some c=>spRun b wd dg n (v / b) (⟨#[c]⟩++t) | none=>none) else some t
noncomputable abbrev JSp (b:Nat) (wd:Int) (dg:Str) (news:List (Addr×Obj)) (fin:Str) (n:Nat) (m:Str->Option Value) (ns:List (Addr×Obj)):Prop :=
 ns=news/\∃ v t tv tt t2 t3 t4,m "v" = some (.int ((v:Nat):Int) tv)/\m "text" = some (.str t tt)/\m "base" = some (.int (b:Int) t2)/\m "width" = some (.int wd t3)/\m "digits" = some (.str dg t4)/\spRun b wd dg n v t=some fin/\t.length+n≤1000
section
variable {news:List (Addr×Obj)} {Q E:Value->Shared->Prop}
theorem While_sp {A:Around} {E:Value->Shared->Prop} {Q:Flow->Shared->Prop} {env:Env} {L:Addr} {test:Expr} {body:List Stmt} {pos:Pos} {bb n₀ v:Nat} {wd:Int} {dg t fin:Str} {tv tt t2 t3 t4:Tok} (F:Fr h₀ L s.heap m) (N:News h₀ L s.heap news)
  (h1:m "v" = some (.int ((v:Nat):Int) tv)) (h2:m "text" = some (.str t tt)) (h3:m "base" = some (.int (bb:Int) t2)) (h4:m "width" = some (.int wd t3)) (h5:m "digits" = some (.str dg t4)) (h6:spRun bb wd dg n₀ v t=some fin) (h7:t.length+n₀≤1000)
  (turn:∀ n m₁ news₁ h₁ tk₁,Fr h₀ L h₁ m₁->News h₀ L h₁ news₁->JSp bb wd dg news fin n m₁ news₁ ->
   wpAny (model pw_rk0009_01 w) A (isTrue test env (eval test env)) (fun b s₂ =>
    if b=true then wpAny (model pw_rk0009_01 w) A (execs body env) (WhileStep h₀ L s (JSp bb wd dg news fin) n) E s₂ else Q .next s₂) E { s with heap:=h₁,toks:=tk₁ })
  (hE:PassesOwn (model pw_rk0009_01 w) A env E:=by passes_own) :
  wpAny (model pw_rk0009_01 w) A (exec (.While test body [] pos) env) Q E s :=
 While_inv (JSp bb wd dg news fin) F N ⟨rfl,v,t,tv,tt,t2,t3,t4,h1,h2,h3,h4,h5,h6,h7⟩ turn hE
example:True:=by (k_with "B51" => (fail_if_success (fail_if_success (have:=gB51))));(k_with "exec While" => k_extra "B51";(k_here;k_dflt (refine' While_sp ?Y0 ?Y1 ?Y2 ?Y3 ?Y4 ?Y5 ?Y6 ?Y7 ?Y8 ?_;(case Y0=>k_asm);(case Y1=>k_asm);(case Y2=>exact rfl);(case Y3=>exact rfl);(case Y4=>exact rfl);(case Y5=>exact rfl);(case Y6=>exact rfl);(case Y7=>assumption);(case Y8=>assumption);k_whole);intro Y9 Y10 Y11 Y12 Y13 Y14 Y15 Y16;obtain ⟨Y17,Y18,Y19,Y20,Y21,Y22,Y23,Y24,Y25,Y26,Y27,Y28,Y29,Y30,Y31⟩:=Y16;subst Y17;k_sweep));(k_with "eval Name" => k_extra "B51";(k_here;k_dflt (refine' ldM2 ?Y0 ?Y1 ?Y2 ?Y3 ?Y4 ?Y5 ?_;(case Y0=>assumption);(case Y1=>exact rfl);(case Y2=>exact rfl);(case Y3=>exact rfl);(case Y4=>((repeat (refine (if_neg (by decide)).trans ?_));first | assumption | exact if_pos rfl));(case Y5=>decide);k_whole)));trivial
theorem len_strK {A:Around} {E:Value->Shared->Prop} {Q:Value->Shared->Prop} {x:Str} {t:Tok} (hz:x.length≤1000000) (h:∀ u v,Q (.int x.length u) { s with toks:=v }):wpAny (model pw_rk0009_01 w) A (call (.builtin "len") [.str x t]) Q E s :=
 P.len_str (by omega) (h _ _)
theorem tail_str {A:Around} {E:Value->Shared->Prop} {Q:Value->Shared->Prop} {value slice:PySem.Expr} {x:Str} {t u:Tok} {k:Int} {c:Nat} (h0:0≤k) (hc:x.cps[k.toNat]?=some c) (hz:x.length≤1000000)
  (h:∀ t',Q (.str ⟨#[c]⟩ t') { s with toks:=s.toks+1 })
  (hs:subscripted slice false (.str x t) (.int k u)=operate [.str x t,.int k u] (getItem (.str x t) (.int k u)):=by with_unfolding_all rfl) :
  wpAny (model pw_rk0009_01 w) A (subscriptTail value slice (.str x t) (.int k u)) Q E s:=by
 have hk:k.toNat<x.cps.size:=(Array.getElem?_eq_some_iff.mp hc).1
 have hz:x.cps.size≤1000000:=hz
 refine tail_any (typeIs_str _ _ _) PySem.F.slot_str_getitem.lookup (P.getItem_str (c:=c) ?_ ?_ (h _)) hs
 ·simp only [Bool.or_eq_false_iff,decide_eq_false_iff_not];omega
 ·have e:seqIndex? k x.length=some k.toNat:=by
   have hx:x.length=x.cps.size:=rfl
   simp only [seqIndex?,if_neg (Int.not_lt.mpr h0)]
   exact if_pos (by simp only [Bool.and_eq_true,decide_eq_true_eq];omega)
  rw [e];exact hc
theorem sp_yes {b n v:Nat} {wd:Int} {dg t fin:Str} (hc:0<(v:Int)\/(t.length:Int)<wd) (h:spRun b wd dg n v t=some fin) :
  ∃ n1 c,n=n1+1/\dg.cps[((v:Int).fmod b).toNat]?=some c/\0≤(v:Int).fmod b/\spRun b wd dg n1 (v / b) (⟨#[c]⟩++t)=some fin/\(v:Int).fdiv b=((v / b:Nat):Int):=by
 cases n with
 | zero=>cases h
 | succ n =>
  unfold spRun at h
  rw [if_pos (by rcases hc with h' | h';exact .inl (by omega);exact .inr h')] at h
  have e1:(v:Int).fmod b=((v % b:Nat):Int):=by rw [Int.fmod_eq_emod_of_nonneg _ (Int.natCast_nonneg b)];rfl
  have e2:(v:Int).fdiv b=((v / b:Nat):Int):=by rw [Int.fdiv_eq_ediv_of_nonneg _ (Int.natCast_nonneg b)];rfl
  cases hd:dg.cps[v % b]? with
  | none=>rw [hd] at h;cases h
  | some c =>
   rw [hd] at h
   exact ⟨n,c,rfl,by rw [e1];exact hd,by rw [e1];exact Int.natCast_nonneg _,h,e2⟩
theorem one_len (c:Nat) (t:Str):((⟨#[c]⟩:Str)++t).length=t.length+1:=by
 show ((⟨#[c]⟩:Str).cps++t.cps).size=_
 rw [Array.size_append]
 show 1+t.cps.size=t.cps.size+1
 omega
theorem sp_end {b n n1 v tk c:Nat} {x:Int} {wd:Int} {dg t fin:Str} {tv tt t2 t3 t4:Tok} {g h':Heap} {m2:Str->Option Value} (F:Fr g L h' m2) (N:News g L h' news)
  (e1:m2 "v" = some (.int x tv)) (e2:m2 "text" = some (.str (⟨#[c]⟩++t) tt)) (e3:m2 "base" = some (.int (b:Int) t2)) (e4:m2 "width" = some (.int wd t3)) (e5:m2 "digits" = some (.str dg t4)) (en:n=n1+1) (ex:x=((v:Nat):Int))
  (r:spRun b wd dg n1 v (⟨#[c]⟩++t)=some fin) (z:t.length+n≤1000):WhileStep g L s (JSp b wd dg news fin) n .next { s with heap:=h',toks:=tk }:=by
 subst en ex
 exact WhileStep.intro F N (Nat.lt_succ_self _) ⟨rfl,v,_,tv,tt,t2,t3,t4,e1,e2,e3,e4,e5,r,by rw [one_len];omega⟩
theorem sp_no {b n v:Nat} {wd:Int} {dg t fin:Str} (h1 : ¬ 0<(v:Int)) (h2 : ¬ (t.length:Int)<wd) (h:spRun b wd dg n v t=some fin):fin=t:=by
 cases n with
 | zero=>cases h
 | succ n =>
  unfold spRun at h
  rw [if_neg (by omega)] at h
  exact (Option.some.inj h).symm
example:True:=by (k_with "binaryOp FloorDiv int int" => k_extra "B51";(refine floordiv_int (by omega) ?_ (Or.inl (PyProof.noPylong_small (by omega)))));(k_with "call builtin:len" => k_extra "B51";(k_here;k_dflt (refine' len_strK ?Y0 ?_;(case Y0=>omega);k_whole;intro Y1 Y2)));(k_with "subscriptTail" => k_extra "B51";(k_here;(with_reducible show wpAny _ _ (subscriptTail _ _ (Value.str _ _) (Value.int _ _)) _ _ _);refine e2a5 (sp_yes (by first | exact .inl (by assumption) | exact .inr (by assumption)) (by assumption)) fun n1' c' en' ec' ez' er' ed'=>?_;k_dflt (refine' tail_str ?Y0 ?Y1 ?Y2 ?_ ?Y3;(case Y3=>with_unfolding_all rfl);(case Y1=>assumption);(case Y0=>assumption);(case Y2=>assumption);k_whole;intro Y4)));trivial
noncomputable def Z28P:FrZ->Prop:=fun V=>∀ (news:List (Addr×Obj)) (Q:Value->Shared->Prop) (v b n:Nat) (wd:Int) (dg fin:Str) (t1 t2 t3 t4:Tok) (C:Cx 5 V.w V.p V.loose V.mean V.mg V.mb V.dp V.un V.cs V.outer V.A₀ V.base V.h₀ V.L V.m V.s) (N:News V.h₀ V.L V.s.heap news) (hb2:2≤b) (hb3:b≤1000) (hf:spRun b wd dg n v "" = some fin) (hdz:dg.length≤1000000) (hz:("" : Str).length+n≤1000) (ret:∀ h' tk' u,Fr V.h₀ V.L h' V.m->News V.h₀ V.L h' news->Q (.str fin u) { V.s with heap:=h',toks:=tk' }),wpAny (model pw_rk0009_01 V.w) (ktrTop V.dp V.un V.gd V.cn V.cs V.L V.ca V.ccd V.cll V.outer) (call (.ref 532) [.int v t1,.int b t2,.int wd t3,.str dg t4]) Q V.E V.s
@[irreducible] noncomputable def Z28:FrZ:=pickZ Z28P
set_option maxHeartbeats 4000000 in
theorem Z28c:Z28P Z28:=by
 intro news Q v b n wd dg fin t1 t2 t3 t4 C N hb2 hb3 hf hdz hz ret
 obtain ⟨B,F,X,T,hk,hdp,hun⟩:=C
 refine wpAny_call ?_
 k_dflt ktr_enter
 k_steps
 case' refine'_31.refine'_4.refine'_17.refine'_5.refine_2.refine'_9.refine'_5.refine'_5.refine_2.refine'_5.refine'_4 => 
  have e:=sp_no (by assumption) (by assumption) (by assumption)
  subst e
  exact ret _ _ _ (by k_asm) (by k_asm)
 all_goals exact sp_end (by k_asm) (by k_asm) (by (repeat (refine (if_neg (by decide)).trans ?_));first | assumption | exact if_pos rfl) (by (repeat (refine (if_neg (by decide)).trans ?_));first | assumption | exact if_pos rfl) (by (repeat (refine (if_neg (by decide)).trans ?_));first | assumption | exact if_pos rfl) (by (repeat (refine (if_neg (by decide)).trans ?_));first | assumption | exact if_pos rfl) (by (repeat (refine (if_neg (by decide)).trans ?_));first | assumption | exact if_pos rfl) (by assumption) (by assumption) (by assumption) (by assumption)
theorem spelled_c {v b n:Nat} {wd:Int} {dg fin:Str} {t1 t2 t3 t4:Tok} (C:Cx 5 w p loose mean mg mb dp un cs outer A₀ base h₀ L m s) (N:News h₀ L s.heap news) (hb2:2≤b) (hb3:b≤1000)
  (hf:spRun b wd dg n v "" = some fin) (hdz:dg.length≤1000000) (hz:("" : Str).length+n≤1000)
  (ret:∀ h' tk' u,Fr h₀ L h' m->News h₀ L h' news->Q (.str fin u) { s with heap:=h',toks:=tk' }) :
  wpAny (model pw_rk0009_01 w) (ktrTop dp un gd cn cs L ca ccd cll outer) (call (.ref 532) [.int v t1,.int b t2,.int wd t3,.str dg t4]) Q E s:=pickedZ (by with_unfolding_all rfl) Z28c (frC w p loose mean mg mb dp un gd cn cs ca ccd cll outer A₀ base h₀ L m s E) news Q v b n wd dg fin t1 t2 t3 t4 C N hb2 hb3 hf hdz hz ret
end
end
example:True:=by w_top off;trivial
section
noncomputable def PStep (h₀:Heap) (L:Addr) (led:List (Addr×Obj)) (Inv':(Str->Option Value)->Prop) (s:Shared) (R:Result->Shared->Prop) (f:Flow) (s₃:Shared):Prop :=
 match f with
 | .next | .cont=>∃ h tk m₂,s₃={ s with heap:=h,toks:=tk }/\Fr h₀ L h m₂/\News h₀ L h led/\Inv' m₂
 | .brk=>R (.ok .next) s₃
 | .ret v=>R (.ok (.ret v)) s₃
section
variable {A:Around} {E:Value->Shared->Prop} {env:Env} {news:List (Addr×Obj)}
noncomputable def Z19P:FrZ->Prop:=fun V=>(fun (h₀:Heap) (m:Str->Option Value)=>(∀ (L:Addr) (env:Env) (ss:List (Str×Int)) (Inv:Nat->(Str->Option Value)->Prop) (hh:(V.fR 0).handled=none) (F:Fr h₀ L V.s.heap m) (N:News h₀ L V.s.heap (((V.fA 0),listOf (V.fv 0).toArray (V.fN 0))::((V.fL 1)++(V.fL 0)))) (S:Sx (V.fL 1) ss (V.fv 0)) (hL:env.locals=L) (hxi:env.kindOf (V.fS 0)=some .local) (hxc:env.kindOf (V.fS 1)=some .local) (hp:(env.scope.kind==.class||(env.scope.kind==.module&&env.locals != env.globals))=false) (h0:Inv 0 m) (step:∀ i x v t u m₁ I oI h tk (E':Value->Shared->Prop),ss[i]?=some (x,v)->Inv i m₁->Fr h₀ L h (fun y=>if y=(V.fS 1) then some (.int v u) else if y=(V.fS 0) then some (.str x t) else m₁ y)->News h₀ L h ((I,oI)::((V.fA 0),listOf (V.fv 0).toArray (V.fN 0))::((V.fL 1)++(V.fL 0))) ->
   wpAny (model pw_rk0009_01 V.w) (V.fR 0) (execs (V.fB 0) env) (PStep h₀ L ((I,oI)::((V.fA 0),listOf (V.fv 0).toArray (V.fN 0))::((V.fL 1)++(V.fL 0))) (Inv (i+1)) V.s (V.fr 0)) E' { V.s with heap:=h,toks:=tk }) (done:∀ h tk m',Fr h₀ L h m'->News h₀ L h (((V.fA 0),listOf (V.fv 0).toArray (V.fN 0))::((V.fL 1)++(V.fL 0)))->Inv ss.length m'->(V.fr 0) (.ok .next) { V.s with heap:=h,toks:=tk }),wpAny (model pw_rk0009_01 V.w) (V.fR 0) (pyIter (.ref (V.fA 0))) (fun it s₂=>codeAny (model pw_rk0009_01 V.w) (V.fR 0) (.forLoop (.Tuple [.Name (V.fS 0) (V.fp 0),.Name (V.fS 1) (V.fp 1)] (V.fN 1) (V.fp 2)) it (V.fB 0) [] env) (V.fr 0) s₂) V.E V.s:Prop)) V.h₀ V.m
@[irreducible] noncomputable def Z19:FrZ:=pickZ Z19P
theorem Z19c:Z19P Z19:=by
 intro L env ss Inv hh F N S hL hxi hxc hp h0 step done
 subst hL
 have hl:Z19.s.heap.IsList (Z19.fA 0) (Z19.fv 0).toArray:=⟨_,(N _ (.head _)).1,rfl,_,rfl⟩
 refine wpAny_pyIter_list hl ?_
 have up:∀ b o,Z19.s.heap.get? b=some o->(Z19.s.heap.push { cls:=.type "list_iterator",data:=.fields #[.ref (Z19.fA 0),.int 0 0] }).get? b=some o:=fun b o e=>Heap.get?_push_of_some _ e
 have hIL:env.locals≠Z19.s.heap.objs.size:=Nat.ne_of_lt F.ns.lt
 have hI0:Z19.h₀.get? Z19.s.heap.objs.size=none:=next_is_new F
 have off:∀ p∈((Z19.fA 0),listOf (Z19.fv 0).toArray (Z19.fN 0))::((Z19.fL 1)++(Z19.fL 0)),p.1≠Z19.s.heap.objs.size:=fun p hp=>Nat.ne_of_lt (Heap.lt_size (N p hp).1)
 have hself:(Z19.s.heap.push { cls:=.type "list_iterator",data:=.fields #[.ref (Z19.fA 0),.int 0 0] }).IsListIter Z19.s.heap.objs.size (Z19.fA 0) 0:=⟨_,Heap.get?_push_size _ rfl,rfl,rfl⟩
 have hl2:=hl.push { cls:=.type "list_iterator",data:=.fields #[.ref (Z19.fA 0),.int 0 0] }
 have F1:=F.keeps up
 have N1:=N.grown up
 generalize Z19.s.heap.push { cls:=.type "list_iterator",data:=.fields #[.ref (Z19.fA 0),.int 0 0] }=H1 at hself hl2 F1 N1
 generalize Z19.s.heap.objs.size=I at hIL hI0 off hself
 have W:=Walks.list (prog:=pw_rk0009_01) (w:=Z19.w) hh I (Z19.fA 0) (off _ (.head _)) (Z19.fv 0).toArray
 have nx:∀ {h h1:Heap} {m':Str->Option Value},Fr Z19.h₀ env.locals h m'->News Z19.h₀ env.locals h (((Z19.fA 0),listOf (Z19.fv 0).toArray (Z19.fN 0))::((Z19.fL 1)++(Z19.fL 0)))->(∀ b o,b∉[I]->h.get? b=some o->h1.get? b=some o)->Fr Z19.h₀ env.locals h1 m'/\News Z19.h₀ env.locals h1 (((Z19.fA 0),listOf (Z19.fv 0).toArray (Z19.fN 0))::((Z19.fL 1)++(Z19.fL 0))):=fun {h h1 m'} F' N' hk =>
  ⟨⟨F'.ns.at' fun o e=>hk _ o (fun hm=>hIL (List.mem_singleton.mp hm)) e,fun b o e=>hk b o (fun hm=>by rw [List.mem_singleton.mp hm,hI0] at e;cases e) (F'.keep b o e),F'.above⟩,
   fun p hp=>⟨hk _ _ (fun hm=>off p hp (List.mem_singleton.mp hm)) (N' p hp).1,(N' p hp).2⟩⟩
 refine codeAny_forLoop_any (fun k s'=>∃ h tk m' i,s'={ Z19.s with heap:=h,toks:=tk }/\(h.IsListIter I (Z19.fA 0) i/\h.IsList (Z19.fA 0) (Z19.fv 0).toArray)/\Fr Z19.h₀ env.locals h m'/\News Z19.h₀ env.locals h (((Z19.fA 0),listOf (Z19.fv 0).toArray (Z19.fN 0))::((Z19.fL 1)++(Z19.fL 0)))/\Inv i m'/\i≤(Z19.fv 0).length/\k=(Z19.fv 0).length+1 - i) ?_ ((Z19.fv 0).length+1)
  ⟨H1,Z19.s.toks,Z19.m,0,rfl,⟨hself,hl2⟩,F1,N1,h0,Nat.zero_le _,rfl⟩
 intro k s' hq0
 obtain ⟨h,tk,m',i,rfl,hst,F',N',hJ,hi,rfl⟩:=hq0
 by_cases hlt:i<(Z19.fv 0).length
 ·refine W.item i _ _ _ (by simpa using hlt) hst fun v h1 tk1 hPv hst1 hk1=>?_
  refine e0a2 (nx F' N' hk1) fun F2 N2=>?_
  obtain ⟨⟨x,wv⟩,e⟩:∃ y,ss[i]?=some y:=⟨_,List.getElem?_eq_getElem (by rw [<- S.1];exact hlt)⟩
  refine e3a2 (S.2 i x wv e) fun D t u eD mD=>?_
  have hv:v=.ref D:=by
   have:(Z19.fv 0)[i]?=some v:=by simpa using hPv
   rw [eD] at this
   exact (Option.some.inj this).symm
  subst hv
  have ht:h1.IsTuple D #[.str x t,.int wv u]:=⟨_,(N2 _ (.tail _ (List.mem_append_left _ mD))).1,rfl,_,rfl⟩
  refine wpAny_letOwnedTupleGo_listiter hst1.1 ?_
  refine wpAny_assign_Tuple hh ht rfl rfl fun h3 hx3=>?_
  replace hx3:Heap.ExtBut h1.objs.size h1 h3:=hx3
  have up3:∀ b o,h1.get? b=some o->h3.get? b=some o:=fun b o x=>hx3 b o (Nat.ne_of_lt (Heap.lt_size x)) x
  have F3:=F2.keeps up3
  have N3:=N2.grown up3
  have I3:h3.IsListIter I (Z19.fA 0) (i+1):=hst1.1.at fun o e=>up3 _ o e
  show wpAny _ (Z19.fR 0) (do holding [Value.int wv u] (assign (.Name (Z19.fS 0) (Z19.fp 0)) env (.str x t));do holding [] (assign (.Name (Z19.fS 1) (Z19.fp 1)) env (.int wv u));pure ()) _ _ _
  refine wpAny_bind (wpAny_holding (wpAny_assign_Name (wpAny_storeName_local hxi F3.ns (fun h4 hn4 hs4=>?_) hp)))
  replace hs4:Heap.SameBut env.locals h3 h4:=hs4
  have F4:=F3.set hn4 hs4
  refine wpAny_bind (wpAny_holding (wpAny_assign_Name (wpAny_storeName_local hxc F4.ns (fun h5 hn5 hs5=>wpAny_pure ?_) hp)))
  replace hs5:Heap.SameBut env.locals h4 h5:=hs5
  have F5:=F4.set hn5 hs5
  have N5:=(N3.set hs4).set hs5
  refine e1a3 I3 fun oI eI cI dI=>?_;clear I3
  have eI5:h5.get? I=some oI:=(hs5.2 _ (Ne.symm hIL)).trans ((hs4.2 _ (Ne.symm hIL)).trans eI)
  refine wpAny_mono (step i x wv t u m' I oI h5 _ _ e hJ F5 fun q hq=>?_) (fun f s3 h6=>?_) fun _ _ e=>e
  ·rcases List.mem_cons.mp hq with rfl | hq
   ·exact ⟨eI5,Ne.symm hIL,hI0⟩
   ·exact N5 q hq
  ·have go:∀ h6 tk6 m2,Fr Z19.h₀ env.locals h6 m2->News Z19.h₀ env.locals h6 ((I,oI)::((Z19.fA 0),listOf (Z19.fv 0).toArray (Z19.fN 0))::((Z19.fL 1)++(Z19.fL 0)))->Inv (i+1) m2->∃ k',k'<(Z19.fv 0).length+1 - i/\∃ h tk m' j,({ Z19.s with heap:=h6,toks:=tk6 } : Shared)={ Z19.s with heap:=h,toks:=tk }/\(h.IsListIter I (Z19.fA 0) j/\h.IsList (Z19.fA 0) (Z19.fv 0).toArray)/\Fr Z19.h₀ env.locals h m'/\News Z19.h₀ env.locals h (((Z19.fA 0),listOf (Z19.fv 0).toArray (Z19.fN 0))::((Z19.fL 1)++(Z19.fL 0)))/\Inv j m'/\j≤(Z19.fv 0).length/\k'=(Z19.fv 0).length+1 - j:=fun h6 tk6 m2 F6 N6 J6 =>
    ⟨(Z19.fv 0).length+1 - (i+1),by omega,h6,tk6,m2,i+1,rfl,⟨⟨oI,(N6 _ (.head _)).1,cI,dI⟩,⟨_,(N6 _ (.tail _ (.head _))).1,rfl,_,rfl⟩⟩,F6,fun q hq=>N6 q (.tail _ hq),J6,hlt,rfl⟩
   cases f with
   | ret v=>exact h6
   | brk=>exact h6
   | cont =>
    refine e3a4 h6 fun h6' tk6 m2 Q34=>?_;clear h6;obtain rfl:=Q34;intro F6 N6 J6
    exact go _ _ _ F6 N6 J6
   | next =>
    refine e3a4 h6 fun h6' tk6 m2 Q35=>?_;clear h6;obtain rfl:=Q35;intro F6 N6 J6
    exact go _ _ _ F6 N6 J6
 ·have hin:i=(Z19.fv 0).length:=by omega
  subst hin
  refine W.done _ _ _ (by simpa using hst) fun h1 tk1 hk1=>wpAny_execs_nil ?_
  refine e0a2 (nx F' N' hk1) fun F2 N2=>?_
  exact done h1 tk1 m' F2 N2 (by rw [<- S.1];exact hJ)
theorem pairs_iter {K:List (Addr×Obj)} {ss:List (Str×Int)} {its:List Value} {l:Addr} {n:Nat} {R:Result->Shared->Prop} {xi xc:Str} {pk pv pt:Pos} {x1:Nat} {body:List Stmt} (Inv:Nat->(Str->Option Value)->Prop) (hh:A.handled=none) (F:Fr h₀ L s.heap m) (N:News h₀ L s.heap ((l,listOf its.toArray n)::(K++news))) (S:Sx K ss its)
  (hL:env.locals=L) (hxi:env.kindOf xi=some .local) (hxc:env.kindOf xc=some .local) (hp:(env.scope.kind==.class||(env.scope.kind==.module&&env.locals != env.globals))=false) (h0:Inv 0 m)
  (step:∀ i x v t u m₁ I oI h tk (E':Value->Shared->Prop),ss[i]?=some (x,v)->Inv i m₁->Fr h₀ L h (fun y=>if y=xc then some (.int v u) else if y=xi then some (.str x t) else m₁ y)->News h₀ L h ((I,oI)::(l,listOf its.toArray n)::(K++news)) ->
   wpAny (model pw_rk0009_01 w) A (execs body env) (PStep h₀ L ((I,oI)::(l,listOf its.toArray n)::(K++news)) (Inv (i+1)) s R) E' { s with heap:=h,toks:=tk })
  (done:∀ h tk m',Fr h₀ L h m'->News h₀ L h ((l,listOf its.toArray n)::(K++news))->Inv ss.length m'->R (.ok .next) { s with heap:=h,toks:=tk }) :
  wpAny (model pw_rk0009_01 w) A (pyIter (.ref l)) (fun it s₂=>codeAny (model pw_rk0009_01 w) A (.forLoop (.Tuple [.Name xi pk,.Name xc pv] x1 pt) it body [] env) R s₂) E s:=pickedZ (by with_unfolding_all rfl) Z19c (sfB (sfp (sfS (sfr (sfN (sfA (sfv (sfL (sfR (frC w Z19.p Z19.loose Z19.mean Z19.mg Z19.mb Z19.dp Z19.un Z19.gd Z19.cn Z19.cs Z19.ca Z19.ccd Z19.cll Z19.outer Z19.A₀ Z19.base h₀ Z19.L m s E) [A]) [news,K]) [its]) [l]) [n,x1]) [R]) [xi,xc]) [pk,pv,pt]) [body]) L env ss Inv hh F N S hL hxi hxc hp h0 step done
end
end
theorem NgM53.gM53:True:=trivial
example:True:=by w_top off;trivial
section
open NgM53
theorem sp_total {b:Nat} {wd:Int} {dg:Str} (hb:2≤b) (hd:dg.length=b):∀ (n v:Nat) (t:Str),v<2 ^ n->wd≤(t.length:Int)+n->∃ fin,spRun b wd dg (n+1) v t=some fin
 | 0,v,t,h1,h2=>⟨t,by unfold spRun;rw [if_neg (by simp only [Nat.pow_zero] at h1;omega)]⟩
 | n+1,v,t,h1,h2=>by
  unfold spRun
  by_cases hc:0<v\/(t.length:Int)<wd
  ·rw [if_pos hc]
   have hlt:v % b<dg.cps.size:=by
    have:dg.cps.size=b:=hd
    rw [this];exact Nat.mod_lt _ (by omega)
   rw [Array.getElem?_eq_getElem hlt]
   refine sp_total hb hd n (v / b) _ ?_ (by rw [one_len];omega)
   refine Nat.div_lt_of_lt_mul ?_
   rw [Nat.pow_succ] at h1
   have:=Nat.mul_le_mul_right (2 ^ n) hb
   omega
  ·rw [if_neg hc];exact ⟨t,rfl⟩
theorem sp_len {b:Nat} {wd:Int} {dg fin:Str} : ∀ (n v:Nat) (t:Str),spRun b wd dg n v t=some fin->fin.length≤t.length+n
 | 0,v,t,h=>by cases h
 | n+1,v,t,h=>by
  unfold spRun at h
  split at h
  ·split at h
   ·have:=sp_len n _ _ h
    rw [one_len] at this
    omega
   ·cases h
  ·cases h;omega
theorem app_len (a b:Str):(a++b).length=a.length+b.length:=by
 show (a.cps++b.cps).size=_
 rw [Array.size_append];rfl
theorem cat_len {a b:Str} (h1:a.length≤2) (h2:b.length≤20):(a++b).length≤30:=by rw [app_len];omega
noncomputable abbrev oct8:Str := "01234567"
inductive Wr:Int->Str->Nat->Prop
 | raw {v:Nat} : v<0x110000->(v<0xD800\/0xE000≤v)->v≠10->v≠13->v≠39->v≠92->Wr 0 ⟨#[v]⟩ v
 | esc {sg:Str} {v:Nat} : (sg,(v:Int))∈tab_short->(v=10\/v=13\/v=39\/v=92)->Wr 0 ("\\" ++ sg) v
 | short {sg:Str} {v:Nat} : (sg,(v:Int))∈tab_short->Wr 1 ("\\" ++ sg) v
 | oct {wd:Int} {v:Nat} {fin:Str} : v<256->1≤wd->wd≤3->spRun 8 wd oct8 20 v "" = some fin->Wr 2 ("\\" ++ fin) v
 | hex {wd:Int} {v:Nat} {dg fin:Str} : v<256->1≤wd->wd≤2->dg∈tab_hex->spRun 16 wd dg 20 v "" = some fin->Wr 3 ("\\x" ++ fin) v
 | uni {v:Nat} {dg fin:Str} : v<65536->(v<0xD800\/0xE000≤v)->dg∈tab_hex->spRun 16 4 dg 20 v "" = some fin->Wr 4 ("\\u" ++ fin) v
theorem news_d1 {h₀ h:Heap} {L:Addr} {x y:Addr×Obj} {r:List (Addr×Obj)} (N:News h₀ L h (x::y::r)):News h₀ L h (x::r):=fun q hq=>N q (by
 rcases List.mem_cons.mp hq with rfl | h
 ·exact .head _
 ·exact .tail _ (.tail _ h))
theorem fmB (a:Int) {b:Int} (hb:0<b):0≤a.fmod b/\a.fmod b<b:=⟨Int.fmod_nonneg_of_pos a hb,Int.fmod_lt_of_pos a hb⟩
theorem fmLt {a b c:Int} (hb:0<b) (hc:b≤c):a.fmod b<c:=Int.lt_of_lt_of_le (fmB a hb).2 hc
theorem fmNn {a b:Int} (hb:0<b):0≤a.fmod b:=(fmB a hb).1
theorem fmNn2 {a b k:Int} (hb:0<b) (hk:0≤k):0≤a.fmod b+k:=by have:=fmB a hb;omega
theorem fmLt2 {a b c k:Int} (hb:0<b) (hc:b+k≤c):a.fmod b+k<c:=by have:=fmB a hb;omega
theorem short_len {x:Str} {v:Int} (h:(x,v)∈tab_short):x.length=1:=(by decide +kernel:∀ q∈tab_short,q.1.length=1) _ h
theorem short_v {x:Str} {v:Int} (h:(x,v)∈tab_short):0≤v:=(by decide +kernel:∀ q∈tab_short,0≤q.2) _ h
theorem fmC {a b c k:Int} (hb:0<b) (hc:k+b≤c):k+a.fmod b≤c:=by have:=fmB a hb;omega
section
variable {news:List (Addr×Obj)} {Q E:Value->Shared->Prop}
theorem spelled_i {b:Nat} {v wd:Int} {dg:Str} {t1 t2 t3 t4:Tok} (C:Cx 5 w p loose mean mg mb dp un cs outer A₀ base h₀ L m s) (N:News h₀ L s.heap news) (hb2:2≤b) (hb3:b≤1000) (hd:dg.length=b) (hv:0≤v) (hv2:v<70000) (hw:wd≤10)
  (ret:∀ fin h' tk' u,spRun b wd dg 20 v.toNat "" = some fin->fin.length≤20->Fr h₀ L h' m->News h₀ L h' news->Q (.str fin u) { s with heap:=h',toks:=tk' }) :
  wpAny (model pw_rk0009_01 w) (ktrTop dp un gd cn cs L ca ccd cll outer) (call (.ref 532) [.int v t1,.int (b:Int) t2,.int wd t3,.str dg t4]) Q E s:=by
 obtain ⟨v',rfl⟩:∃ v':Nat,v=v':=⟨v.toNat,(Int.toNat_of_nonneg hv).symm⟩
 refine e1a1 (sp_total (wd:=wd) hb2 hd 19 v' "" (by omega) (by show wd≤(((0:Nat):Int))+_;omega)) fun fin hf=>?_
 exact spelled_c C N hb2 hb3 hf (by omega) (Nat.le_of_ble_eq_true rfl) fun h' tk' u F' N'=>ret fin h' tk' u (by rw [Int.toNat_natCast];exact hf) (Nat.le_trans (sp_len _ _ _ hf) (by rw [Nat.le_iff_lt_add_one];exact Nat.lt_of_lt_of_le (show _<21 from Nat.le_of_ble_eq_true rfl) (Nat.le_refl _))) F' N'
theorem spelled_8 {v wd:Int} {t1 t2 t3 t4:Tok} (C:Cx 5 w p loose mean mg mb dp un cs outer A₀ base h₀ L m s) (N:News h₀ L s.heap news) (hv:0≤v) (hv2:v<70000) (hw:wd≤10)
  (ret:∀ fin h' tk' u,spRun 8 wd oct8 20 v.toNat "" = some fin->fin.length≤20->Fr h₀ L h' m->News h₀ L h' news->Q (.str fin u) { s with heap:=h',toks:=tk' }) :
  wpAny (model pw_rk0009_01 w) (ktrTop dp un gd cn cs L ca ccd cll outer) (call (.ref 532) [.int v t1,.int 8 t2,.int wd t3,.str "01234567" t4]) Q E s:=spelled_i (b:=8) C N (by decide) (by decide) (by decide +kernel) hv hv2 hw ret
theorem hex_len {dg:Str} (h:dg∈tab_hex):dg.length=16:=by
 rcases List.mem_cons.mp h with rfl | h
 ·decide +kernel
 ·rcases List.mem_cons.mp h with rfl | h
  ·decide +kernel
  ·cases h
theorem spelled_16 {v wd:Int} {dg:Str} {t1 t2 t3 t4:Tok} (C:Cx 5 w p loose mean mg mb dp un cs outer A₀ base h₀ L m s) (N:News h₀ L s.heap news) (hd:dg∈tab_hex) (hv:0≤v) (hv2:v<70000) (hw:wd≤10)
  (ret:∀ fin h' tk' u,spRun 16 wd dg 20 v.toNat "" = some fin->fin.length≤20->Fr h₀ L h' m->News h₀ L h' news->Q (.str fin u) { s with heap:=h',toks:=tk' }) :
  wpAny (model pw_rk0009_01 w) (ktrTop dp un gd cn cs L ca ccd cll outer) (call (.ref 532) [.int v t1,.int 16 t2,.int wd t3,.str dg t4]) Q E s:=spelled_i (b:=16) C N (by decide) (by decide) (hex_len hd) hv hv2 hw ret
theorem itemI {A:Around} {Q:Value->Shared->Prop} {value slice:PySem.Expr} {l:Addr} {its:List Value} {n:Nat} {k:Int} {u:Tok} {v:Value} (N:News h₀ L s.heap news) (hm:(l,listOf its.toArray n)∈news) (h0:0≤k) (hz:k≤1000000) (hx:its[k.toNat]?=some v)
  (h:Q v s) (hs:subscripted slice false (.ref l) (.int k u)=operate [.ref l,.int k u] (getItem (.ref l) (.int k u)):=by with_unfolding_all rfl) :
  wpAny (model pw_rk0009_01 w) A (subscriptTail value slice (.ref l) (.int k u)) Q E s:=by
 have hl:s.heap.IsList l its.toArray:=⟨_,(N _ hm).1,rfl,_,rfl⟩
 exact tail_any hl.typeIs slot_list_getitem.lookup (wpAny_getItem_list hl h0 (by omega) (by simpa using hx) h) hs
theorem itemT {A:Around} {Q:Value->Shared->Prop} {value slice:PySem.Expr} {l:Addr} {ss:List Str} {its:List Value} {n:Nat} {a k:Int} {u:Tok} (N:News h₀ L s.heap ((l,listOf its.toArray n)::news)) (T:Tx ss its) (hk:0<k) (hk2:k≤ss.length) (hk3:k≤100)
  (h:∀ x t,x∈ss->ss[(a.fmod k).toNat]?=some x->Q (.str x t) s) (hs:subscripted slice false (.ref l) (.int (a.fmod k) u)=operate [.ref l,.int (a.fmod k) u] (getItem (.ref l) (.int (a.fmod k) u)):=by with_unfolding_all rfl) :
  wpAny (model pw_rk0009_01 w) A (subscriptTail value slice (.ref l) (.int (a.fmod k) u)) Q E s:=by
 refine e0a2 (fmB a hk) fun b1 b2=>?_
 obtain ⟨x,hx⟩:∃ x,ss[(a.fmod k).toNat]?=some x:=⟨_,List.getElem?_eq_getElem (by omega)⟩
 refine e1a1 (T.2 _ x hx) fun t ht=>?_
 exact itemI N (.head _) b1 (by omega) ht (h x t (List.mem_of_getElem? hx) hx) hs
theorem itemS {A:Around} {Q:Value->Shared->Prop} {value slice:PySem.Expr} {l:Addr} {K:List (Addr×Obj)} {ss:List (Str×Int)} {its:List Value} {n:Nat} {a k:Int} {u:Tok} (N:News h₀ L s.heap ((l,listOf its.toArray n)::(K++news))) (T:Sx K ss its) (hk:0<k) (hk2:k≤ss.length) (hk3:k≤100)
  (h:∀ D x v t u,(x,v)∈ss->News h₀ L s.heap ((D,prO (.str x t) (.int v u))::news)->Q (.ref D) s) (hs:subscripted slice false (.ref l) (.int (a.fmod k) u)=operate [.ref l,.int (a.fmod k) u] (getItem (.ref l) (.int (a.fmod k) u)):=by with_unfolding_all rfl) :
  wpAny (model pw_rk0009_01 w) A (subscriptTail value slice (.ref l) (.int (a.fmod k) u)) Q E s:=by
 refine e0a2 (fmB a hk) fun b1 b2=>?_
 obtain ⟨⟨x,v⟩,hx⟩:∃ x,ss[(a.fmod k).toNat]?=some x:=⟨_,List.getElem?_eq_getElem (by omega)⟩
 refine e3a2 (T.2 _ x v hx) fun D t u hD mD=>?_
 refine itemI N (.head _) b1 (by omega) hD (h D x v t u (List.mem_of_getElem? hx) fun q hq=>?_) hs
 rcases List.mem_cons.mp hq with rfl | hq
 ·exact N _ (.tail _ (List.mem_append_left _ mD))
 ·exact N q (.tail _ (List.mem_append_right _ hq))
end
example:True:=by (k_with "M53" => (fail_if_success (fail_if_success (have:=gM53))));(k_with "call ref" => k_extra "M53";(k_here;k_dflt (refine' spelled_8 ?Y0 ?Y1 ?Y2 ?Y3 ?Y4 ?_;(case Y0=>exact ⟨by k_asm,by k_asm,by k_asm,by k_asm,by first | exact rfl | assumption,by ((try dsimp only [ktrTop,Around.deeper]);omega),by ((try dsimp only [ktrTop,Around.deeper]);omega)⟩);(case Y1=>k_asm);(case Y2=>first | exact fmNn (by decide) | omega);(case Y3=>first | exact fmLt (by decide) (by decide) | omega);(case Y4=>first | exact fmC (by decide) (by decide) | omega);k_whole;intro Y5 Y6 Y7 Y8 Y9 Y10 Y11 Y12)));(k_with "call ref" => k_extra "M53";(k_here;k_dflt (refine' spelled_16 ?Y0 ?Y1 ?Y2 ?Y3 ?Y4 ?Y5 ?_;(case Y0=>exact ⟨by k_asm,by k_asm,by k_asm,by k_asm,by first | exact rfl | assumption,by ((try dsimp only [ktrTop,Around.deeper]);omega),by ((try dsimp only [ktrTop,Around.deeper]);omega)⟩);(case Y1=>k_asm);(case Y2=>assumption);(case Y3=>first | exact fmNn (by decide) | exact fmNn2 (by decide) (by decide) | omega);(case Y4=>first | exact fmLt (by decide) (by decide) | exact fmLt2 (by decide) (by decide) | omega);(case Y5=>first | exact fmC (by decide) (by decide) | omega);k_whole;intro Y6 Y7 Y8 Y9 Y10 Y11 Y12 Y13)));(k_with "call ref" => k_extra "M53";(k_here;k_dflt (refine' hex_c ?Y0 ?Y1 ?_;(case Y0=>exact ⟨by k_asm,by k_asm,by k_asm,by k_asm,by first | exact rfl | assumption,by ((try dsimp only [ktrTop,Around.deeper]);omega),by ((try dsimp only [ktrTop,Around.deeper]);omega)⟩);(case Y1=>k_asm);k_whole;intro Y2 Y3 Y4 Y5 Y6 Y7 Y8 Y9 Y10)));(k_with "call ref" => k_extra "M53";(k_here;k_dflt (refine' short_c ?Y0 ?Y1 ?_;(case Y0=>exact ⟨by k_asm,by k_asm,by k_asm,by k_asm,by first | exact rfl | assumption,by ((try dsimp only [ktrTop,Around.deeper]);omega),by ((try dsimp only [ktrTop,Around.deeper]);omega)⟩);(case Y1=>k_asm);k_whole;intro Y2 Y3 Y4 Y5 Y6 Y7 Y8 Y9 Y10 Y11)));(k_with "subscriptTail Call Name nil nil BinOp ref int" => k_extra "M53";(k_here;k_dflt (refine' itemT ?Y0 ?Y1 ?Y2 ?Y3 ?Y4 ?_ ?Y5;(case Y5=>with_unfolding_all rfl);(case Y1=>assumption);(case Y0=>assumption);(case Y2=>decide);(case Y3=>decide);(case Y4=>decide);k_whole;intro Y6 Y7 Y8 Y9)));(k_with "subscriptTail Call Name nil nil BinOp ref int" => k_extra "M53";(k_here;k_dflt (refine' itemS ?Y0 ?Y1 ?Y2 ?Y3 ?Y4 ?_ ?Y5;(case Y5=>with_unfolding_all rfl);(case Y1=>assumption);(case Y0=>assumption);(case Y2=>decide);(case Y3=>decide);(case Y4=>decide);k_whole;intro Y6 Y7 Y8 Y9 Y10 Y11 Y12;have lx':=short_len Y11)));trivial
section
variable {news:List (Addr×Obj)} {Q E:Value->Shared->Prop}
noncomputable def Z35P:FrZ->Prop:=fun V=>∀ (C:Cx 30 V.w V.p V.loose V.mean V.mg V.mb V.dp V.un V.cs V.outer V.A₀ V.base V.h₀ V.L V.m V.s) (N:News V.h₀ V.L V.s.heap (V.fL 0)) (ret:∀ content v r h' tk' t u,0≤v->Wr 2 content v.toNat->content.length≤30->Fr V.h₀ V.L h' V.m->News V.h₀ V.L h' ((r,prO (.str content t) (.int v u))::(V.fL 0))->(∀ q∈(V.fL 0),q.1<r)->(V.fQ 0) (.ref r) { V.s with heap:=h',toks:=tk' }),wpAny (model pw_rk0009_01 V.w) (ktrTop V.dp V.un V.gd V.cn V.cs V.L V.ca V.ccd V.cll V.outer) (call (.ref 539) [.int 2 (V.fT 0),.int (V.fI 0) (V.fT 1),.int (V.fI 1) (V.fT 2)]) (V.fQ 0) V.E V.s
@[irreducible] noncomputable def Z35:FrZ:=pickZ Z35P
set_option maxHeartbeats 4000000 in
theorem Z35c:Z35P Z35:=by
 intro C N ret
 obtain ⟨B,F,X,T,hk,hdp,hun⟩:=C
 refine wpAny_call ?_
 k_dflt ktr_enter
 k_steps
 rename News Z35.h₀ Z35.L _ _=>kN
 have b1:=fmB (Z35.fI 0) (show (0:Int)<256 by decide)
 have b2:=fmB (Z35.fI 1) (show (0:Int)<3 by decide)
 refine ret _ _ _ _ _ _ _ ?_ ?_ ?_ (by k_asm) kN (by assumption)
 ·exact b1.1
 ·exact .oct (wd:=1+(Z35.fI 1).fmod 3) (by omega) (by omega) (by omega) (by assumption)
 ·exact cat_len (Nat.le_of_ble_eq_true rfl) (by assumption)
theorem written_2 {mm st:Int} {t1 t2 t3:Tok} (C:Cx 30 w p loose mean mg mb dp un cs outer A₀ base h₀ L m s) (N:News h₀ L s.heap news)
  (ret:∀ content v r h' tk' t u,0≤v->Wr 2 content v.toNat->content.length≤30->Fr h₀ L h' m->News h₀ L h' ((r,prO (.str content t) (.int v u))::news)->(∀ q∈news,q.1<r)->Q (.ref r) { s with heap:=h',toks:=tk' }) :
  wpAny (model pw_rk0009_01 w) (ktrTop dp un gd cn cs L ca ccd cll outer) (call (.ref 539) [.int 2 t1,.int mm t2,.int st t3]) Q E s:=pickedZ (by with_unfolding_all rfl) Z35c (sfT (sfI (sfQ (sfL (frC w p loose mean mg mb dp un gd cn cs ca ccd cll outer A₀ base h₀ L m s E) [news]) [Q]) [mm,st]) [t1,t2,t3]) C N ret
noncomputable def Z36P:FrZ->Prop:=fun V=>∀ (C:Cx 30 V.w V.p V.loose V.mean V.mg V.mb V.dp V.un V.cs V.outer V.A₀ V.base V.h₀ V.L V.m V.s) (N:News V.h₀ V.L V.s.heap (V.fL 0)) (ret:∀ content v r h' tk' t u,0≤v->Wr 3 content v.toNat->content.length≤30->Fr V.h₀ V.L h' V.m->News V.h₀ V.L h' ((r,prO (.str content t) (.int v u))::(V.fL 0))->(∀ q∈(V.fL 0),q.1<r)->(V.fQ 0) (.ref r) { V.s with heap:=h',toks:=tk' }),wpAny (model pw_rk0009_01 V.w) (ktrTop V.dp V.un V.gd V.cn V.cs V.L V.ca V.ccd V.cll V.outer) (call (.ref 539) [.int 3 (V.fT 0),.int (V.fI 0) (V.fT 1),.int (V.fI 1) (V.fT 2)]) (V.fQ 0) V.E V.s
@[irreducible] noncomputable def Z36:FrZ:=pickZ Z36P
set_option maxHeartbeats 4000000 in
theorem Z36c:Z36P Z36:=by
 intro C N ret
 obtain ⟨B,F,X,T,hk,hdp,hun⟩:=C
 refine wpAny_call ?_
 k_dflt ktr_enter
 k_steps
 rename News Z36.h₀ Z36.L _ _=>kN
 have b1:=fmB (Z36.fI 0) (show (0:Int)<256 by decide)
 have b2:=fmB (Z36.fI 1) (show (0:Int)<2 by decide)
 refine ret _ _ _ _ _ _ _ ?_ ?_ ?_ (by k_asm) (news_d1 kN) (by assumption)
 ·exact b1.1
 ·exact .hex (wd:=1+(Z36.fI 1).fmod 2) (by omega) (by omega) (by omega) (by assumption) (by assumption)
 ·exact cat_len (Nat.le_of_ble_eq_true rfl) (by assumption)
theorem written_3 {mm st:Int} {t1 t2 t3:Tok} (C:Cx 30 w p loose mean mg mb dp un cs outer A₀ base h₀ L m s) (N:News h₀ L s.heap news)
  (ret:∀ content v r h' tk' t u,0≤v->Wr 3 content v.toNat->content.length≤30->Fr h₀ L h' m->News h₀ L h' ((r,prO (.str content t) (.int v u))::news)->(∀ q∈news,q.1<r)->Q (.ref r) { s with heap:=h',toks:=tk' }) :
  wpAny (model pw_rk0009_01 w) (ktrTop dp un gd cn cs L ca ccd cll outer) (call (.ref 539) [.int 3 t1,.int mm t2,.int st t3]) Q E s:=pickedZ (by with_unfolding_all rfl) Z36c (sfT (sfI (sfQ (sfL (frC w p loose mean mg mb dp un gd cn cs ca ccd cll outer A₀ base h₀ L m s E) [news]) [Q]) [mm,st]) [t1,t2,t3]) C N ret
noncomputable def Z33P:FrZ->Prop:=fun V=>∀ (C:Cx 30 V.w V.p V.loose V.mean V.mg V.mb V.dp V.un V.cs V.outer V.A₀ V.base V.h₀ V.L V.m V.s) (N:News V.h₀ V.L V.s.heap (V.fL 0)) (ret:∀ content v r h' tk' t u,0≤v->Wr 4 content v.toNat->content.length≤30->Fr V.h₀ V.L h' V.m->News V.h₀ V.L h' ((r,prO (.str content t) (.int v u))::(V.fL 0))->(∀ q∈(V.fL 0),q.1<r)->(V.fQ 0) (.ref r) { V.s with heap:=h',toks:=tk' }),wpAny (model pw_rk0009_01 V.w) (ktrTop V.dp V.un V.gd V.cn V.cs V.L V.ca V.ccd V.cll V.outer) (call (.ref 539) [.int 4 (V.fT 0),.int (V.fI 0) (V.fT 1),.int (V.fI 1) (V.fT 2)]) (V.fQ 0) V.E V.s
@[irreducible] noncomputable def Z33:FrZ:=pickZ Z33P
set_option maxHeartbeats 4000000 in
theorem Z33c:Z33P Z33:=by
 intro C N ret
 obtain ⟨B,F,X,T,hk,hdp,hun⟩:=C
 refine wpAny_call ?_
 k_dflt ktr_enter
 k_steps
 all_goals
  rename News Z33.h₀ Z33.L _ _=>kN
  have b1:=fmB (Z33.fI 0) (show (0:Int)<63488 by decide)
  refine ret _ _ _ _ _ _ _ ?_ ?_ ?_ (by k_asm) (news_d1 kN) (by assumption)
  ·omega
  ·exact .uni (by omega) (by omega) (by assumption) (by assumption)
  ·exact cat_len (Nat.le_of_ble_eq_true rfl) (by assumption)
theorem written_4 {mm st:Int} {t1 t2 t3:Tok} (C:Cx 30 w p loose mean mg mb dp un cs outer A₀ base h₀ L m s) (N:News h₀ L s.heap news)
  (ret:∀ content v r h' tk' t u,0≤v->Wr 4 content v.toNat->content.length≤30->Fr h₀ L h' m->News h₀ L h' ((r,prO (.str content t) (.int v u))::news)->(∀ q∈news,q.1<r)->Q (.ref r) { s with heap:=h',toks:=tk' }) :
  wpAny (model pw_rk0009_01 w) (ktrTop dp un gd cn cs L ca ccd cll outer) (call (.ref 539) [.int 4 t1,.int mm t2,.int st t3]) Q E s:=pickedZ (by with_unfolding_all rfl) Z33c (sfT (sfI (sfQ (sfL (frC w p loose mean mg mb dp un gd cn cs ca ccd cll outer A₀ base h₀ L m s E) [news]) [Q]) [mm,st]) [t1,t2,t3]) C N ret
noncomputable def Z34P:FrZ->Prop:=fun V=>∀ (C:Cx 30 V.w V.p V.loose V.mean V.mg V.mb V.dp V.un V.cs V.outer V.A₀ V.base V.h₀ V.L V.m V.s) (N:News V.h₀ V.L V.s.heap (V.fL 0)) (ret:∀ content v r h' tk' t u,0≤v->Wr 1 content v.toNat->content.length≤30->Fr V.h₀ V.L h' V.m->News V.h₀ V.L h' ((r,prO (.str content t) (.int v u))::(V.fL 0))->(∀ q∈(V.fL 0),q.1<r)->(V.fQ 0) (.ref r) { V.s with heap:=h',toks:=tk' }),wpAny (model pw_rk0009_01 V.w) (ktrTop V.dp V.un V.gd V.cn V.cs V.L V.ca V.ccd V.cll V.outer) (call (.ref 539) [.int 1 (V.fT 0),.int (V.fI 0) (V.fT 1),.int (V.fI 1) (V.fT 2)]) (V.fQ 0) V.E V.s
@[irreducible] noncomputable def Z34:FrZ:=pickZ Z34P
set_option maxHeartbeats 4000000 in
theorem Z34c:Z34P Z34:=by
 intro C N ret
 obtain ⟨B,F,X,T,hk,hdp,hun⟩:=C
 refine wpAny_call ?_
 k_dflt ktr_enter
 k_steps
 rename News Z34.h₀ Z34.L _ _=>kN
 rename _∈tab_short=>kM
 refine ret _ _ _ _ _ _ _ ?_ ?_ ?_ (by k_asm) (news_d1 kN) (by assumption)
 ·exact short_v kM
 ·exact .short (by rw [Int.toNat_of_nonneg (short_v kM)];exact kM)
 ·exact cat_len (Nat.le_of_ble_eq_true rfl) (by rw [short_len kM];decide)
theorem written_1 {mm st:Int} {t1 t2 t3:Tok} (C:Cx 30 w p loose mean mg mb dp un cs outer A₀ base h₀ L m s) (N:News h₀ L s.heap news)
  (ret:∀ content v r h' tk' t u,0≤v->Wr 1 content v.toNat->content.length≤30->Fr h₀ L h' m->News h₀ L h' ((r,prO (.str content t) (.int v u))::news)->(∀ q∈news,q.1<r)->Q (.ref r) { s with heap:=h',toks:=tk' }) :
  wpAny (model pw_rk0009_01 w) (ktrTop dp un gd cn cs L ca ccd cll outer) (call (.ref 539) [.int 1 t1,.int mm t2,.int st t3]) Q E s:=pickedZ (by with_unfolding_all rfl) Z34c (sfT (sfI (sfQ (sfL (frC w p loose mean mg mb dp un gd cn cs ca ccd cll outer A₀ base h₀ L m s E) [news]) [Q]) [mm,st]) [t1,t2,t3]) C N ret
end
end
theorem NgM54.gM54:True:=trivial
theorem NgB54.gB54:True:=trivial
example:True:=by w_top off;trivial
section
open NgM53 NgM54 NgB54
theorem fmLt4 {a b:Int} (hb:0<b/\b≤5):a.fmod b≤4:=by have:=fmB a hb.1;omega
noncomputable abbrev InvW (v:Int) (tv:Tok) (i:Nat) (m:Str->Option Value):Prop :=
 m "v" = some (.int v tv)/\∀ (j:Nat) x wv,j<i->tab_short[j]?=some (x,wv)->¬ (wv=v/\(([10,13,39,92] : List Int).any fun x=>x==v)=true)
example:True:=by (k_with "B54" => (fail_if_success (fail_if_success (have:=gB54))));(k_with "exec If" => k_extra "B54";(k_here;kj_step));trivial
theorem four_nat {v:Int} (h:10=v\/13=v\/39=v\/92=v):v.toNat=10\/v.toNat=13\/v.toNat=39\/v.toNat=92:=h.imp (fun e=>(congrArg Int.toNat e).symm) (Or.imp (fun e=>(congrArg Int.toNat e).symm) (Or.imp (fun e=>(congrArg Int.toNat e).symm) (fun e=>(congrArg Int.toNat e).symm)))
section
variable {news:List (Addr×Obj)} {Q E:Value->Shared->Prop}
theorem written_for {A:Around} {E:Value->Shared->Prop} {env:Env} {K:List (Addr×Obj)} {its:List Value} {l:Addr} {n:Nat} {R:Result->Shared->Prop} {xi xc:Str} {pk pv pt:Pos} {x1:Nat} {body:List Stmt} {v:Int} {tv:Tok} (hh:A.handled=none) (F:Fr h₀ L s.heap m) (N:News h₀ L s.heap ((l,listOf its.toArray n)::(K++news))) (S:Sx K tab_short its)
  (hL:env.locals=L) (hxi:env.kindOf xi=some .local) (hxc:env.kindOf xc=some .local) (hp:(env.scope.kind==.class||(env.scope.kind==.module&&env.locals != env.globals))=false) (h0:m "v" = some (.int v tv))
  (step:∀ i x wv t u m₁ I oI h tk (E':Value->Shared->Prop),tab_short[i]?=some (x,wv)->InvW v tv i m₁->Fr h₀ L h (fun y=>if y=xc then some (.int wv u) else if y=xi then some (.str x t) else m₁ y)->News h₀ L h ((I,oI)::(l,listOf its.toArray n)::(K++news)) ->
   wpAny (model pw_rk0009_01 w) A (execs body env) (PStep h₀ L ((I,oI)::(l,listOf its.toArray n)::(K++news)) (InvW v tv (i+1)) s R) E' { s with heap:=h,toks:=tk })
  (done:∀ h tk m',Fr h₀ L h m'->News h₀ L h ((l,listOf its.toArray n)::(K++news))->InvW v tv 12 m'->R (.ok .next) { s with heap:=h,toks:=tk }) :
  wpAny (model pw_rk0009_01 w) A (pyIter (.ref l)) (fun it s₂=>codeAny (model pw_rk0009_01 w) A (.forLoop (.Tuple [.Name xi pk,.Name xc pv] x1 pt) it body [] env) R s₂) E s :=
 pairs_iter (InvW v tv) hh F N S hL hxi hxc hp ⟨h0,fun j x wv h=>absurd h (Nat.not_lt_zero _)⟩ step done
example:True:=by (k_with "exec For Tuple Call cons nil" => k_extra "B54";(k_here;k_dflt (refine wpAny_For ?_ (fun _=>rfl))));(k_with "pyIter ref" => k_extra "B54";(k_here;k_dflt (refine' written_for ?Y0 ?Y1 ?Y2 ?Y3 ?Y4 ?Y5 ?Y6 ?Y7 ?Y8 ?_ ?_;(case Y0=>exact rfl);(case Y3=>assumption);(case Y1=>assumption);(case Y2=>assumption);(case Y4=>exact rfl);(case Y5=>exact rfl);(case Y6=>exact rfl);(case Y7=>exact rfl);(case Y8=>exact rfl);k_whole)));(k_with "eval Name" => k_extra "B54";(k_here;k_dflt (refine' ldM2 ?Y0 ?Y1 ?Y2 ?Y3 ?Y4 ?Y5 ?_;(case Y0=>assumption);(case Y1=>exact rfl);(case Y2=>exact rfl);(case Y3=>exact rfl);(case Y4=>((repeat (refine (if_neg (by decide)).trans ?_));first | assumption | exact if_pos rfl | exact And.left (by assumption:InvW _ _ _ _)));(case Y5=>decide);k_whole)));trivial
theorem news_dK {h₀ h:Heap} {L:Addr} {x:Addr×Obj} {p r:List (Addr×Obj)} (Nn:News h₀ L h (x::(p++r))):News h₀ L h (x::r):=fun q hq=>Nn q (by
 rcases List.mem_cons.mp hq with rfl | h
 ·exact .head _
 ·exact .tail _ (List.mem_append_right _ h))
theorem news_d4 {h₀ h:Heap} {L:Addr} {x a b c:Addr×Obj} {p r:List (Addr×Obj)} (Nn:News h₀ L h (x::a::b::c::(p++r))):News h₀ L h (x::r):=fun q hq=>Nn q (by
 rcases List.mem_cons.mp hq with rfl | h
 ·exact .head _
 ·exact .tail _ (.tail _ (.tail _ (.tail _ (List.mem_append_right _ h)))))
theorem news_dL {h₀ h:Heap} {L:Addr} {x a:Addr×Obj} {p r:List (Addr×Obj)} (Nn:News h₀ L h (x::a::(p++r))):News h₀ L h (x::r):=fun q hq=>Nn q (by
 rcases List.mem_cons.mp hq with rfl | h
 ·exact .head _
 ·exact .tail _ (.tail _ (List.mem_append_right _ h)))
theorem add_short {A:Around} {E:Value->Shared->Prop} {Q:Value->Shared->Prop} {x:Str} {t u:Tok} {i:Nat} {wv:Int} (hi:tab_short[i]?=some (x,wv)) (h:∀ t' tk,Q (.str ("\\" ++ x) t') { s with toks:=tk }):wpAny (model pw_rk0009_01 w) A (binaryOp .Add (.str "\\" t) (.str x u)) Q E s :=
 PyProof.Rows.add_str h (by rw [short_len (List.mem_of_getElem? hi),sizeLine_eq];exact Nat.le_of_ble_eq_true rfl)
example:True:=by (k_with "binaryOp Add str str" => k_extra "B54";(k_here;k_dflt (refine' add_short ?Y0 ?_;(case Y0=>assumption);k_whole;intro Y1 Y2)));trivial
noncomputable def Z11P:FrZ->Prop:=fun V=>∀ (C:Cx 30 V.w V.p V.loose V.mean V.mg V.mb V.dp V.un V.cs V.outer V.A₀ V.base V.h₀ V.L V.m V.s) (N:News V.h₀ V.L V.s.heap (V.fL 0)) (ret:∀ content v r h' tk' t u,0≤v->Wr 0 content v.toNat->content.length≤30->Fr V.h₀ V.L h' V.m->News V.h₀ V.L h' ((r,prO (.str content t) (.int v u))::(V.fL 0))->(∀ q∈(V.fL 0),q.1<r)->(V.fQ 0) (.ref r) { V.s with heap:=h',toks:=tk' }),wpAny (model pw_rk0009_01 V.w) (ktrTop V.dp V.un V.gd V.cn V.cs V.L V.ca V.ccd V.cll V.outer) (call (.ref 539) [.int 0 (V.fT 0),.int (V.fI 0) (V.fT 1),.int (V.fI 1) (V.fT 2)]) (V.fQ 0) V.E V.s
@[irreducible] noncomputable def Z11:FrZ:=pickZ Z11P
set_option maxHeartbeats 4000000 in
theorem Z11c:Z11P Z11:=by
 intro C N ret
 obtain ⟨B,F,X,T,hk,hdp,hun⟩:=C
 refine wpAny_call ?_
 k_dflt ktr_enter
 k_steps
 ·dsimp only [PStep]
  k_steps
  rename News Z11.h₀ Z11.L _ _=>kN
  rename tab_short[_]?=some _=>hi
  rename _\/_=>hr
  rename List.any _ _=true=>ha
  rename (_:Int)=_=>he
  rename ∀ q∈_++(Z11.fL 0),q.1<_=>kl
  subst he
  have hm:=List.mem_of_getElem? hi
  refine ret _ _ _ _ _ _ _ (short_v hm) (.esc (by rw [Int.toNat_of_nonneg (short_v hm)];exact hm) ?_) (cat_len (Nat.le_of_ble_eq_true rfl) (by rw [short_len hm];decide)) (by k_asm) (news_d4 kN) fun q hq=>kl q (List.mem_append_right _ hq)
  ·simp only [List.any_cons,List.any_nil,Bool.or_false,Bool.or_eq_true,beq_iff_eq] at ha
   exact four_nat ha
 ·rename News _ _ _ (_::_)=>kN
  rename InvW _ _ _ _=>J
  rename List.any _ _=false=>ha
  rename tab_short[_]?=some _=>hi
  refine ⟨_,_,_,rfl,by k_asm,fun q hq=>kN q (.tail _ hq),(by (repeat (refine (if_neg (by decide)).trans ?_));exact J.1),fun j x' wv' hj he=>?_⟩
  intro hh
  rw [ha] at hh
  exact absurd hh.2 (by decide)
 ·rename InvW _ _ _ _=>J
  rename tab_short[_]?=some _=>hi
  rename ¬ _=>hne
  refine ⟨_,_,_,rfl,by k_asm,by k_asm,(by (repeat (refine (if_neg (by decide)).trans ?_));exact J.1),fun j x' wv' hj he=>?_⟩
  rcases Nat.lt_or_eq_of_le (Nat.le_of_lt_succ hj) with hji | hji
  ·exact J.2 j x' wv' hji he
  ·subst hji
   rw [hi] at he
   injection he with he
   injection he with _ he
   exact fun hh=>hne (he.trans hh.1)
 ·rename News Z11.h₀ Z11.L _ _=>kN
  rename InvW _ _ _ _=>J
  rename _\/_=>hr
  rename ∀ q∈_++(Z11.fL 0),q.1<_=>kl
  have b1:=fmB ((Z11.fI 0)+32) (show (0:Int)<1112064 by decide)
  have hno:∀ {n:Int} {j:Nat} {x:Str},tab_short[j]?=some (x,n)->j<12->(([10,13,39,92] : List Int).any fun x=>x==n)=true->_≠n:=fun {n j x} e hj ha hh=>J.2 j x n hj e ⟨hh.symm,by rw [hh];exact ha⟩
  refine ret _ _ _ _ _ _ _ (by omega) (.raw (by omega) (by omega) ?_ ?_ ?_ ?_) (Nat.le_of_ble_eq_true rfl) (by k_asm) (news_dL kN) fun q hq=>kl q (List.mem_append_right _ hq)
  ·have:=hno (n:=10) (j:=3) rfl (by decide) (by decide);omega
  ·have:=hno (n:=13) (j:=4) rfl (by decide) (by decide);omega
  ·have:=hno (n:=39) (j:=10) rfl (by decide) (by decide);omega
  ·have:=hno (n:=92) (j:=8) rfl (by decide) (by decide);omega
theorem written_0 {mm st:Int} {t1 t2 t3:Tok} (C:Cx 30 w p loose mean mg mb dp un cs outer A₀ base h₀ L m s) (N:News h₀ L s.heap news)
  (ret:∀ content v r h' tk' t u,0≤v->Wr 0 content v.toNat->content.length≤30->Fr h₀ L h' m->News h₀ L h' ((r,prO (.str content t) (.int v u))::news)->(∀ q∈news,q.1<r)->Q (.ref r) { s with heap:=h',toks:=tk' }) :
  wpAny (model pw_rk0009_01 w) (ktrTop dp un gd cn cs L ca ccd cll outer) (call (.ref 539) [.int 0 t1,.int mm t2,.int st t3]) Q E s:=pickedZ (by with_unfolding_all rfl) Z11c (sfT (sfI (sfQ (sfL (frC w p loose mean mg mb dp un gd cn cs ca ccd cll outer A₀ base h₀ L m s E) [news]) [Q]) [mm,st]) [t1,t2,t3]) C N ret
theorem written_c {way mm st:Int} {t1 t2 t3:Tok} (h0:0≤way) (h4:way≤4) (C:Cx 30 w p loose mean mg mb dp un cs outer A₀ base h₀ L m s) (N:News h₀ L s.heap news)
  (ret:∀ content v r h' tk' t u,0≤v->Wr way content v.toNat->content.length≤30->Fr h₀ L h' m->News h₀ L h' ((r,prO (.str content t) (.int v u))::news)->(∀ q∈news,q.1<r)->Q (.ref r) { s with heap:=h',toks:=tk' }) :
  wpAny (model pw_rk0009_01 w) (ktrTop dp un gd cn cs L ca ccd cll outer) (call (.ref 539) [.int way t1,.int mm t2,.int st t3]) Q E s:=by
 rcases (by omega:way=0\/way=1\/way=2\/way=3\/way=4) with rfl | rfl | rfl | rfl | rfl
 ·exact written_0 C N ret
 ·exact written_1 C N ret
 ·exact written_2 C N ret
 ·exact written_3 C N ret
 ·exact written_4 C N ret
end
example:True:=by (k_with "call ref" => (fail_if_success (fail_if_success (have:=gM54)));(k_here;k_dflt (refine' written_c ?Y0 ?Y1 ?Y2 ?Y3 ?_;(case Y2=>exact ⟨by k_asm,by k_asm,by k_asm,by k_asm,by first | exact rfl | assumption,by ((try dsimp only [ktrTop,Around.deeper]);omega),by ((try dsimp only [ktrTop,Around.deeper]);omega)⟩);(case Y3=>k_asm);(case Y0=>first | exact fmNn (by decide) | omega);(case Y1=>first | exact fmLt4 (by decide) | omega | assumption);k_whole;intro Y4 Y5 Y6 Y7 Y8 Y9 Y10 Y11 Y12 Y13 Y14 Y15 Y16)));trivial
end
theorem NgM55.gM55:True:=trivial
example:True:=by w_top off;trivial
section
open NgM53 NgM54 NgM55
noncomputable abbrev sgn7:Str := "zgL \"\\;"
noncomputable abbrev sgn8:Str := "zgL \"\\;8"
noncomputable abbrev sgnQ:Str := "zL8\\; \"0"
noncomputable abbrev noEsc:Str := "q89cdhsyzAEXB (.é"
inductive Ws:Str->Int->Prop
 | k0 {way:Int} {content bh:Str} {v c:Nat} : Wr way content v->(c∈sgn7.cps\/way≠3/\c∈sgn8.cps)->bh∈tab_behind->Ws (content++⟨#[c]⟩++bh) content.length
 | k1 {x:Str} : x∈tab_toosoon->Ws x (-1)
 | k2 {bh:Str} {c:Nat} : c∈noEsc.cps->bh∈tab_behind->Ws ("\\" ++ ⟨#[c]⟩++bh) 1
 | k3 {bh:Str} {c:Nat} : c∈sgnQ.cps->bh∈tab_behind->Ws ("'" ++ ⟨#[c]⟩++bh) 1
 | k4 {fin bh:Str} {v c:Nat} : v<256->spRun 8 3 oct8 20 v "" = some fin->c∈oct8.cps->bh∈tab_behind->Ws ("\\" ++ fin++⟨#[c]⟩++bh) 4
theorem news_d2 {h₀ h:Heap} {L:Addr} {x a b:Addr×Obj} {r:List (Addr×Obj)} (N:News h₀ L h (x::a::b::r)):News h₀ L h (x::r):=news_d1 (news_d1 N)
theorem bs_l:("\\" : Str).length=1:=by decide +kernel
theorem q_l:("'" : Str).length=1:=by decide +kernel
theorem beh_len {x:Str} (h:x∈tab_behind):x.length≤10:=(by decide +kernel:∀ q∈tab_behind,q.length≤10) _ h
theorem too_len {x:Str} (h:x∈tab_toosoon):x.length≤10:=(by decide +kernel:∀ q∈tab_toosoon,q.length≤10) _ h
section
variable {news:List (Addr×Obj)} {Q E:Value->Shared->Prop}
theorem tailC {A:Around} {E:Value->Shared->Prop} {Q:Value->Shared->Prop} {value slice:PySem.Expr} {x:Str} {t u:Tok} {a k:Int} (hk:0<k) (hk2:k≤(x.length:Int)) (hz:x.length≤1000000)
  (h:∀ c t',c∈x.cps->Q (.str ⟨#[c]⟩ t') { s with toks:=s.toks+1 })
  (hs:subscripted slice false (.str x t) (.int (a.fmod k) u)=operate [.str x t,.int (a.fmod k) u] (getItem (.str x t) (.int (a.fmod k) u)):=by with_unfolding_all rfl) :
  wpAny (model pw_rk0009_01 w) A (subscriptTail value slice (.str x t) (.int (a.fmod k) u)) Q E s:=by
 refine e0a2 (fmB a hk) fun b1 b2=>?_
 have hlt:(a.fmod k).toNat<x.cps.size:=by
  have:(x.cps.size:Int)=x.length:=rfl
  omega
 exact tail_str b1 (Array.getElem?_eq_getElem hlt) hz (fun t'=>h _ t' (Array.getElem_mem hlt)) hs
theorem one_l (c:Nat):(⟨#[c]⟩:Str).length=1:=rfl
theorem addS {A:Around} {E:Value->Shared->Prop} {Q:Value->Shared->Prop} {x y:Str} {t u:Tok} (hx:x.length≤1000) (hy:y.length≤1000) (h:∀ t' tk,Q (.str (x++y) t') { s with toks:=tk }):wpAny (model pw_rk0009_01 w) A (binaryOp .Add (.str x t) (.str y u)) Q E s :=
 PyProof.Rows.add_str h (by rw [sizeLine_eq];omega)
end
example:True:=by (k_with "M55" => (fail_if_success (fail_if_success (have:=gM55))));(k_with "call ref" => k_extra "M55";(k_here;k_dflt (refine' behind_c ?Y0 ?Y1 ?_;(case Y0=>exact ⟨by k_asm,by k_asm,by k_asm,by k_asm,by first | exact rfl | assumption,by ((try dsimp only [ktrTop,Around.deeper]);omega),by ((try dsimp only [ktrTop,Around.deeper]);omega)⟩);(case Y1=>k_asm);k_whole;intro Y2 Y3 Y4 Y5 Y6 Y7 Y8 Y9 Y10)));(k_with "call ref" => k_extra "M55";(k_here;k_dflt (refine' toosoon_c ?Y0 ?Y1 ?_;(case Y0=>exact ⟨by k_asm,by k_asm,by k_asm,by k_asm,by first | exact rfl | assumption,by ((try dsimp only [ktrTop,Around.deeper]);omega),by ((try dsimp only [ktrTop,Around.deeper]);omega)⟩);(case Y1=>k_asm);k_whole;intro Y2 Y3 Y4 Y5 Y6 Y7 Y8 Y9 Y10)));(k_with "call builtin:len" => k_extra "M55";(k_here;k_dflt (refine' len_strK ?Y0 ?_;(case Y0=>omega);k_whole;intro Y1 Y2)));(k_with "subscriptTail Constant" => k_extra "M55";(k_here;k_dflt (refine' tailC ?Y0 ?Y1 ?Y2 ?_ ?Y3;(case Y3=>with_unfolding_all rfl);(case Y0=>decide);(case Y1=>decide +kernel);(case Y2=>decide +kernel);k_whole;intro Y4 Y5 Y6)));(k_with "subscriptTail Name BinOp str int" => k_extra "M55";(k_here;k_dflt (refine' tailC ?Y0 ?Y1 ?Y2 ?_ ?Y3;(case Y3=>with_unfolding_all rfl);(case Y0=>decide);(case Y1=>decide +kernel);(case Y2=>decide +kernel);k_whole;intro Y4 Y5 Y6)));(k_with "subscriptTail Call Name nil nil BinOp ref int" => k_extra "M55";(k_here;k_dflt (refine' itemT ?Y0 ?Y1 ?Y2 ?Y3 ?Y4 ?_ ?Y5;(case Y5=>with_unfolding_all rfl);(case Y1=>assumption);(case Y0=>assumption);(case Y2=>decide);(case Y3=>decide);(case Y4=>decide);k_whole;intro Y6 Y7 Y8 Y9;first | have lx':=beh_len Y8 | have lx':=too_len Y8)));(k_with "binaryOp Add str str" => k_extra "M55";(k_here;k_dflt (refine' addS ?Y0 ?Y1 ?_;(case Y0=>(first | decide +kernel | (simp only [app_len,one_l];(first | done | omega)) | omega));(case Y1=>first | decide +kernel | (simp only [app_len,one_l];(first | done | omega)) | omega);k_whole;intro Y2 Y3)));trivial
section
variable {news:List (Addr×Obj)} {Q E:Value->Shared->Prop}
noncomputable def Z1P:FrZ->Prop:=fun V=>∀ (C:Cx 60 V.w V.p V.loose V.mean V.mg V.mb V.dp V.un V.cs V.outer V.A₀ V.base V.h₀ V.L V.m V.s) (N:News V.h₀ V.L V.s.heap (V.fL 0)) (ret:∀ rest stop r h' tk' t u,Ws rest stop->rest.length≤50->Fr V.h₀ V.L h' V.m->News V.h₀ V.L h' ((r,prO (.str rest t) (.int stop u))::(V.fL 0))->(∀ q∈(V.fL 0),q.1<r)->(V.fQ 0) (.ref r) { V.s with heap:=h',toks:=tk' }),wpAny (model pw_rk0009_01 V.w) (ktrTop V.dp V.un V.gd V.cn V.cs V.L V.ca V.ccd V.cll V.outer) (call (.ref 546) [.int (V.fI 0) (V.fT 0),.int (V.fI 1) (V.fT 1)]) (V.fQ 0) V.E V.s
@[irreducible] noncomputable def Z1:FrZ:=pickZ Z1P
set_option maxHeartbeats 4000000 in
theorem Z1c:Z1P Z1:=by
 intro C N ret
 obtain ⟨B,F,X,T,hk,hdp,hun⟩:=C
 refine wpAny_call ?_
 k_dflt ktr_enter
 k_steps
 ·rename News Z1.h₀ Z1.L _ _=>kN
  rename Wr _ _ _=>hw
  refine ret _ _ _ _ _ _ _ (.k0 hw (.inl (by assumption)) (by assumption)) ?_ (by k_asm) (news_d2 (news_d1 kN)) (by assumption)
  simp only [app_len,one_l];omega
 ·rename News Z1.h₀ Z1.L _ _=>kN
  rename Wr _ _ _=>hw
  refine ret _ _ _ _ _ _ _ (.k0 hw (.inr ⟨by assumption,by assumption⟩) (by assumption)) ?_ (by k_asm) (news_d2 (news_d1 kN)) (by assumption)
  simp only [app_len,one_l];omega
 ·rename News Z1.h₀ Z1.L _ _=>kN
  rename _∈tab_toosoon=>hm
  exact ret _ _ _ _ _ _ _ (.k1 hm) (Nat.le_trans (too_len hm) (by decide)) (by k_asm) (news_d2 (news_d1 kN)) (by assumption)
 ·rename News Z1.h₀ Z1.L _ _=>kN
  rename _∈tab_behind=>hm
  refine ret _ _ _ _ _ _ _ (.k2 (by assumption) hm) ?_ (by k_asm) (news_d2 kN) (by assumption)
  simp only [app_len,one_l,bs_l];omega
 ·rename News Z1.h₀ Z1.L _ _=>kN
  rename _∈tab_behind=>hm
  refine ret _ _ _ _ _ _ _ (.k3 (by assumption) hm) ?_ (by k_asm) (news_d2 kN) (by assumption)
  simp only [app_len,one_l,q_l];omega
 ·rename News Z1.h₀ Z1.L _ _=>kN
  rename _∈tab_behind=>hm
  have b1:=fmB (((Z1.fI 0).fdiv 5).fdiv 8) (show (0:Int)<256 by decide)
  refine ret _ _ _ _ _ _ _ (.k4 (v:=((((Z1.fI 0).fdiv 5).fdiv 8).fmod 256).toNat) (by omega) (by assumption) (by assumption) hm) ?_ (by k_asm) (news_d2 kN) (by assumption)
  simp only [app_len,one_l,bs_l];omega
theorem wrong_c {mm st:Int} {t1 t2:Tok} (C:Cx 60 w p loose mean mg mb dp un cs outer A₀ base h₀ L m s) (N:News h₀ L s.heap news)
  (ret:∀ rest stop r h' tk' t u,Ws rest stop->rest.length≤50->Fr h₀ L h' m->News h₀ L h' ((r,prO (.str rest t) (.int stop u))::news)->(∀ q∈news,q.1<r)->Q (.ref r) { s with heap:=h',toks:=tk' }) :
  wpAny (model pw_rk0009_01 w) (ktrTop dp un gd cn cs L ca ccd cll outer) (call (.ref 546) [.int mm t1,.int st t2]) Q E s:=pickedZ (by with_unfolding_all rfl) Z1c (sfT (sfI (sfQ (sfL (frC w p loose mean mg mb dp un gd cn cs ca ccd cll outer A₀ base h₀ L m s E) [news]) [Q]) [mm,st]) [t1,t2]) C N ret
end
example:True:=by (k_with "call ref" => k_extra "M55";(k_here;k_dflt (refine' wrong_c ?Y0 ?Y1 ?_;(case Y0=>exact ⟨by k_asm,by k_asm,by k_asm,by k_asm,by first | exact rfl | assumption,by ((try dsimp only [ktrTop,Around.deeper]);omega),by ((try dsimp only [ktrTop,Around.deeper]);omega)⟩);(case Y1=>k_asm);k_whole;intro Y2 Y3 Y4 Y5 Y6 Y7 Y8 Y9 Y10 Y11 Y12 Y13)));trivial
end
theorem NgB56.gB56:True:=trivial
example:True:=by w_top off;trivial
section
open NgB56
theorem cv_s1 (v:Nat):Txt.startswith ⟨#[39,v,39]⟩ "L" = false:=rfl
theorem cv_s2 (v:Nat):Txt.startswith ⟨#[76,39,v,39]⟩ "L" = true:=rfl
theorem cv_l1 (v:Nat):Txt.slice ⟨#[39,v,39]⟩ (some 1) (some (-1))=⟨#[v]⟩:=by
 unfold Txt.slice
 rw [show (⟨#[39,v,39]⟩:Str).length=3 from rfl,show Builtin.Str.strSliceIndices (some 1) (some (-1)) 1 3=[1] from by decide]
 rfl
theorem cv_l2 (v:Nat):Txt.slice ⟨#[76,39,v,39]⟩ (some 1) none=⟨#[39,v,39]⟩:=by
 unfold Txt.slice
 rw [show (⟨#[76,39,v,39]⟩:Str).length=4 from rfl,show Builtin.Str.strSliceIndices (some 1) none 1 4=[1,2,3] from by decide]
 rfl
theorem cv_i0 (v:Nat):Txt.item ⟨#[39,v,39]⟩ 0 = "'" := rfl
theorem cv_i1 (v:Nat):Txt.item ⟨#[39,v,39]⟩ (-1) = "'" := rfl
example:True:=by (k_with "B56" => (fail_if_success (fail_if_success (have:=gB56))));(k_with "truthy bool" => k_extra "B56";(simp only [cv_s1,cv_s2]));(k_with "storeName" => k_extra "B56";(simp only [cv_l1,cv_l2]));(k_with "compareOp Eq str str" => k_extra "B56";(simp only [cv_i0,cv_i1]));trivial
section
variable {news:List (Addr×Obj)} {Q E:Value->Shared->Prop}
noncomputable def Z54P:FrZ->Prop:=fun V=>∀ (news:List (Addr×Obj)) (Q:Value->Shared->Prop) (v:Nat) (t1:Tok) (C:Cx 30 V.w V.p V.loose V.mean V.mg V.mb V.dp V.un V.cs V.outer V.A₀ V.base V.h₀ V.L V.m V.s) (N:News V.h₀ V.L V.s.heap news) (ret:∀ r l h' tk' t u n,Fr V.h₀ V.L h' V.m->News V.h₀ V.L h' ((r,prO (.int (v:Int) t) (.ref l))::(l,listOf #[.str "char" u] n)::news)->(∀ q∈news,q.1<l)->(∀ q∈news,q.1<r)->Q (.ref r) { V.s with heap:=h',toks:=tk' }),wpAny (model pw_rk0009_01 V.w) (ktrTop V.dp V.un V.gd V.cn V.cs V.L V.ca V.ccd V.cll V.outer) (call (.ref 483) [.str ⟨#[39,v,39]⟩ t1]) Q V.E V.s
@[irreducible] noncomputable def Z54:FrZ:=pickZ Z54P
set_option maxHeartbeats 4000000 in
theorem Z54c:Z54P Z54:=by
 intro news Q v t1 C N ret
 obtain ⟨B,F,X,T,hk,hdp,hun⟩:=C
 refine wpAny_call ?_
 k_dflt ktr_enter
 k_steps
 all_goals exact ret _ _ _ _ _ _ _ (by k_asm) (by k_asm) (by assumption) (by assumption)
theorem charval_1 {v:Nat} {t1:Tok} (C:Cx 30 w p loose mean mg mb dp un cs outer A₀ base h₀ L m s) (N:News h₀ L s.heap news)
  (ret:∀ r l h' tk' t u n,Fr h₀ L h' m->News h₀ L h' ((r,prO (.int (v:Int) t) (.ref l))::(l,listOf #[.str "char" u] n)::news)->(∀ q∈news,q.1<l)->(∀ q∈news,q.1<r)->Q (.ref r) { s with heap:=h',toks:=tk' }) :
  wpAny (model pw_rk0009_01 w) (ktrTop dp un gd cn cs L ca ccd cll outer) (call (.ref 483) [.str ⟨#[39,v,39]⟩ t1]) Q E s:=pickedZ (by with_unfolding_all rfl) Z54c (frC w p loose mean mg mb dp un gd cn cs ca ccd cll outer A₀ base h₀ L m s E) news Q v t1 C N ret
noncomputable def Z53P:FrZ->Prop:=fun V=>∀ (news:List (Addr×Obj)) (Q:Value->Shared->Prop) (v:Nat) (t1:Tok) (C:Cx 30 V.w V.p V.loose V.mean V.mg V.mb V.dp V.un V.cs V.outer V.A₀ V.base V.h₀ V.L V.m V.s) (N:News V.h₀ V.L V.s.heap news) (ret:∀ r l h' tk' t u n,Fr V.h₀ V.L h' V.m->News V.h₀ V.L h' ((r,prO (.int (v:Int) t) (.ref l))::(l,listOf #[.str "char" u] n)::news)->(∀ q∈news,q.1<l)->(∀ q∈news,q.1<r)->Q (.ref r) { V.s with heap:=h',toks:=tk' }),wpAny (model pw_rk0009_01 V.w) (ktrTop V.dp V.un V.gd V.cn V.cs V.L V.ca V.ccd V.cll V.outer) (call (.ref 483) [.str ⟨#[76,39,v,39]⟩ t1]) Q V.E V.s
@[irreducible] noncomputable def Z53:FrZ:=pickZ Z53P
set_option maxHeartbeats 4000000 in
theorem Z53c:Z53P Z53:=by
 intro news Q v t1 C N ret
 obtain ⟨B,F,X,T,hk,hdp,hun⟩:=C
 refine wpAny_call ?_
 k_dflt ktr_enter
 k_steps
 all_goals exact ret _ _ _ _ _ _ _ (by k_asm) (by k_asm) (by assumption) (by assumption)
theorem charval_L {v:Nat} {t1:Tok} (C:Cx 30 w p loose mean mg mb dp un cs outer A₀ base h₀ L m s) (N:News h₀ L s.heap news)
  (ret:∀ r l h' tk' t u n,Fr h₀ L h' m->News h₀ L h' ((r,prO (.int (v:Int) t) (.ref l))::(l,listOf #[.str "char" u] n)::news)->(∀ q∈news,q.1<l)->(∀ q∈news,q.1<r)->Q (.ref r) { s with heap:=h',toks:=tk' }) :
  wpAny (model pw_rk0009_01 w) (ktrTop dp un gd cn cs L ca ccd cll outer) (call (.ref 483) [.str ⟨#[76,39,v,39]⟩ t1]) Q E s:=pickedZ (by with_unfolding_all rfl) Z53c (frC w p loose mean mg mb dp un gd cn cs ca ccd cll outer A₀ base h₀ L m s E) news Q v t1 C N ret
end
end
theorem NgM57.gM57:True:=trivial
theorem NgB57.gB57:True:=trivial
example:True:=by w_top off;trivial
section
open NgM57 NgB57
noncomputable abbrev hexS:Str := "0123456789abcdefABCDEF"
noncomputable abbrev octS:Str := "01234567"
noncomputable def hexGo (x:Str):Nat->Nat->Option Nat
 | 0,_=>none
 | n+1,p=>if p=x.length then some p else match x.cps[p]? with
  | some c=>if inS hexS ⟨#[c]⟩=true then hexGo x n (p+1) else some p
  | none=>none
noncomputable abbrev JHx (x:Str) (news:List (Addr×Obj)) (e:Nat) (n:Nat) (m:Str->Option Value) (ns:List (Addr×Obj)):Prop :=
 ns=news/\∃ p t1 t2 t3,m "pos" = some (.int ((p:Nat):Int) t1)/\m "txt" = some (.str x t2)/\m "endpos" = some (.int (x.length:Int) t3)/\hexGo x n p=some e/\p≤x.length
theorem hex_yes {x:Str} {n p e:Nat} (hp:(p:Int)≠(x.length:Int)) (h:hexGo x n p=some e):∃ n1 c,n=n1+1/\x.cps[p]?=some c/\(inS hexS ⟨#[c]⟩=true->hexGo x n1 (p+1)=some e)/\(inS hexS ⟨#[c]⟩=false->e=p):=by
 cases n with
 | zero=>cases h
 | succ n =>
  unfold hexGo at h
  rw [if_neg (fun q=>hp (by rw [q]))] at h
  cases hc:x.cps[p]? with
  | none=>rw [hc] at h;cases h
  | some c =>
   rw [hc] at h
   refine ⟨n,c,rfl,rfl,fun hi=>?_,fun hi=>?_⟩
   ·have h:(if inS hexS ⟨#[c]⟩=true then hexGo x n (p+1) else some p)=some e:=h
    rw [if_pos hi] at h;exact h
   ·have h:(if inS hexS ⟨#[c]⟩=true then hexGo x n (p+1) else some p)=some e:=h
    rw [hi] at h;exact (Option.some.inj h).symm
theorem hex_no {x:Str} {n p e:Nat} (hp:(p:Int)=(x.length:Int)) (h:hexGo x n p=some e):e=p:=by
 cases n with
 | zero=>cases h
 | succ n =>
  unfold hexGo at h
  rw [if_pos (Int.ofNat.inj hp)] at h
  exact (Option.some.inj h).symm
theorem ldL {M:Model} {A:Around} {E:Value->Shared->Prop} {s:Shared} {env:Env} {h₀:Heap} {L:Addr} {m:Str->Option Value} {x:Str} {v:Value} {Q:Value->Shared->Prop} (F:Fr h₀ L s.heap m) (hk:env.scope.kind=.function) (hl:env.kindOf x=some .local) (hL:env.locals=L) (hv:m x=some v) (h:Q v s):wpAny M A (loadName env x) Q E s:=by
 subst hL
 exact wpAny_loadName_local hk hl F.ns hv h
section
variable {news:List (Addr×Obj)} {Q E:Value->Shared->Prop}
theorem While_hx {A:Around} {E:Value->Shared->Prop} {Q:Flow->Shared->Prop} {env:Env} {L:Addr} {test:Expr} {body:List Stmt} {pos:Pos} {x:Str} {n₀ q e:Nat} {t1 t2 t3:Tok} (F:Fr h₀ L s.heap m) (N:News h₀ L s.heap news)
  (h1:m "pos" = some (.int ((q:Nat):Int) t1)) (h2:m "txt" = some (.str x t2)) (h3:m "endpos" = some (.int (x.length:Int) t3)) (h4:hexGo x n₀ q=some e) (h5:q≤x.length)
  (turn:∀ n m₁ news₁ h₁ tk₁,Fr h₀ L h₁ m₁->News h₀ L h₁ news₁->JHx x news e n m₁ news₁ ->
   wpAny (model pw_rk0009_01 w) A (isTrue test env (eval test env)) (fun b s₂ =>
    if b=true then wpAny (model pw_rk0009_01 w) A (execs body env) (WhileStep h₀ L s (JHx x news e) n) E s₂ else Q .next s₂) E { s with heap:=h₁,toks:=tk₁ })
  (hE:PassesOwn (model pw_rk0009_01 w) A env E:=by passes_own) :
  wpAny (model pw_rk0009_01 w) A (exec (.While test body [] pos) env) Q E s :=
 While_inv (JHx x news e) F N ⟨rfl,q,t1,t2,t3,h1,h2,h3,h4,h5⟩ turn hE
theorem hex_end_step {n n1 q e tk:Nat} {x:Str} {g h':Heap} {m2:Str->Option Value} {t1 t2 t3:Tok} (F:Fr g L h' m2) (N:News g L h' news) (e1:m2 "pos" = some (.int ((q:Int)+1) t1)) (e2:m2 "txt" = some (.str x t2)) (e3:m2 "endpos" = some (.int (x.length:Int) t3))
  (en:n=n1+1) (hr:hexGo x n1 (q+1)=some e) (hq:q<x.length):WhileStep g L s (JHx x news e) n .next { s with heap:=h',toks:=tk }:=by
 subst en
 exact WhileStep.intro F N (Nat.lt_succ_self _) ⟨rfl,q+1,t1,t2,t3,e1,e2,e3,hr,hq⟩
example:True:=by (k_with "B57" => (fail_if_success (fail_if_success (have:=gB57))));(k_with "exec While" => k_extra "B57";(k_here;k_dflt (refine' While_hx ?Y0 ?Y1 ?Y2 ?Y3 ?Y4 ?Y5 ?Y6 ?_;(case Y0=>k_asm);(case Y1=>k_asm);(case Y2=>exact rfl);(case Y3=>exact rfl);(case Y4=>exact rfl);(case Y5=>assumption);(case Y6=>assumption);k_whole);intro Y7 Y8 Y9 Y10 Y11 Y12 Y13 Y14;obtain ⟨Y15,Y16,Y17,Y18,Y19,Y20,Y21,Y22,Y23,Y24⟩:=Y14;subst Y15;k_sweep));(k_with "eval Name" => k_extra "B57";(k_here;k_dflt (refine' ldM2 ?Y0 ?Y1 ?Y2 ?Y3 ?Y4 ?Y5 ?_;(case Y0=>assumption);(case Y1=>exact rfl);(case Y2=>exact rfl);(case Y3=>exact rfl);(case Y4=>((repeat (refine (if_neg (by decide)).trans ?_));first | assumption | exact if_pos rfl));(case Y5=>decide);k_whole)));(k_with "subscriptTail Name Name str int" => k_extra "B57";(k_here;refine e2a4 (hex_yes (by assumption) (by assumption)) fun n1' c' en' ec' y1' y2'=>?_;k_dflt (refine' tail_str ?Y0 ?Y1 ?Y2 ?_ ?Y3;(case Y3=>with_unfolding_all rfl);(case Y1=>(rw [Int.toNat_natCast];assumption));(case Y0=>omega);(case Y2=>assumption);k_whole;intro Y4)));(k_with "loadName" => k_extra "B57";(k_here;k_dflt (refine' ldL ?Y0 ?Y1 ?Y2 ?Y3 ?Y4 ?_;(case Y0=>assumption);(case Y1=>exact rfl);(case Y2=>exact rfl);(case Y3=>exact rfl);(case Y4=>((repeat (refine (if_neg (by decide)).trans ?_));first | assumption | exact if_pos rfl));k_whole)));trivial
noncomputable def Z90P:FrZ->Prop:=fun V=>∀ (news:List (Addr×Obj)) (Q:Value->Shared->Prop) (x:Str) (n q e:Nat) (t1 t2 t3:Tok) (C:Cx 10 V.w V.p V.loose V.mean V.mg V.mb V.dp V.un V.cs V.outer V.A₀ V.base V.h₀ V.L V.m V.s) (N:News V.h₀ V.L V.s.heap news) (hz:x.length≤1000000) (hq:q≤x.length) (hf:hexGo x n q=some e) (ret:∀ h' tk' u,Fr V.h₀ V.L h' V.m->News V.h₀ V.L h' news->Q (.int (e:Int) u) { V.s with heap:=h',toks:=tk' }),wpAny (model pw_rk0009_01 V.w) (ktrTop V.dp V.un V.gd V.cn V.cs V.L V.ca V.ccd V.cll V.outer) (call (.ref 476) [.str x t1,.int (q:Int) t2,.int (x.length:Int) t3]) Q V.E V.s
@[irreducible] noncomputable def Z90:FrZ:=pickZ Z90P
set_option maxHeartbeats 4000000 in
theorem Z90c:Z90P Z90:=by
 intro news Q x n q e t1 t2 t3 C N hz hq hf ret
 obtain ⟨B,F,X,T,hk,hdp,hun⟩:=C
 refine wpAny_call ?_
 k_dflt ktr_enter
 k_steps
 ·rename inS _ _=false->_=>y2
  rename List.isEmpty _=true=>hb
  have e:=y2 (by unfold inS;rw [hb];rfl)
  subst e
  exact ret _ _ _ (by k_asm) (by k_asm)
 ·rename inS _ _=true->_=>y1
  rename List.isEmpty _=false=>hb
  rename _≠_=>hne
  exact hex_end_step (by k_asm) (by k_asm) (if_pos rfl) (by (repeat (refine (if_neg (by decide)).trans ?_));assumption) (by (repeat (refine (if_neg (by decide)).trans ?_));assumption) (by assumption) (y1 (by unfold inS;rw [hb];rfl)) (by omega)
 ·rename (_:Int)=_=>he
  have e:=hex_no he (by assumption)
  subst e
  exact ret _ _ _ (by k_asm) (by k_asm)
theorem hexend_c {x:Str} {n q e:Nat} {t1 t2 t3:Tok} (C:Cx 10 w p loose mean mg mb dp un cs outer A₀ base h₀ L m s) (N:News h₀ L s.heap news) (hz:x.length≤1000000) (hq:q≤x.length) (hf:hexGo x n q=some e)
  (ret:∀ h' tk' u,Fr h₀ L h' m->News h₀ L h' news->Q (.int (e:Int) u) { s with heap:=h',toks:=tk' }) :
  wpAny (model pw_rk0009_01 w) (ktrTop dp un gd cn cs L ca ccd cll outer) (call (.ref 476) [.str x t1,.int (q:Int) t2,.int (x.length:Int) t3]) Q E s:=pickedZ (by with_unfolding_all rfl) Z90c (frC w p loose mean mg mb dp un gd cn cs ca ccd cll outer A₀ base h₀ L m s E) news Q x n q e t1 t2 t3 C N hz hq hf ret
end
example:True:=by (k_with "call ref" => (fail_if_success (fail_if_success (have:=gM57)));(k_here;k_dflt (refine' hexend_c ?Y0 ?Y1 ?Y2 ?Y3 ?Y4 ?_;(case Y0=>exact ⟨by k_asm,by k_asm,by k_asm,by k_asm,by first | exact rfl | assumption,by ((try dsimp only [ktrTop,Around.deeper]);omega),by ((try dsimp only [ktrTop,Around.deeper]);omega)⟩);(case Y1=>k_asm);(case Y4=>assumption);(case Y2=>assumption);(case Y3=>omega);k_whole;intro Y5 Y6 Y7 Y8 Y9)));trivial
end
example:True:=by w_top off;trivial
section
theorem tc_int_2 (a b:Value):checkTypeCall "int" ⟨[a,b],[]⟩=pure ():=by kernel_rfl
theorem nc_int_2 (a b:Value):checkBuiltinCall "int.__new__" ⟨[.type "int",a,b],[]⟩=pure ():=by kernel_rfl
section
open PySem.NumText
theorem step_ok {b:Nat} : ∀ (cs:List Nat) (acc:Array Nat) (fl:Bool),(∀ c∈cs,∃ d,digit? c=some d/\d<b/\c≠95) ->
  cs.foldlM (NumText.step b) (acc,fl)=some (acc++(cs.map fun c=>(digit? c).getD 0).toArray,if cs=[] then fl else true)
 | [],acc,fl,_=>by simp
 | c::r,acc,fl,h=>by
  refine e1a3 (h c (.head _)) fun d h1 h2 h3=>?_
  rw [List.foldlM_cons]
  have e:NumText.step b (acc,fl) c=some (acc.push d,true):=by
   unfold NumText.step
   rw [if_neg (by simpa using h3),h1]
   show (if d<b then _ else _)=_
   rw [if_pos h2]
  rw [e]
  show List.foldlM (NumText.step b) (acc.push d,true) r=_
  rw [step_ok r (acc.push d) true fun y hy=>h y (.tail _ hy)]
  simp [h1]
noncomputable def DigsOk (b:Nat) (cs:List Nat):Prop:=cs≠[]/\∀ c∈cs,∃ d,digit? c=some d/\d<b/\c≠95
noncomputable def dVal (b:Nat) (cs:List Nat):Nat:=(cs.map fun c=>(digit? c).getD 0).foldl (fun a d=>a * b+d) 0
set_option tactic.hygienic true in
theorem dig_range {c d:Nat} (h:digit? c=some d):48≤c/\c≤122:=by
 unfold digit? at h
 split at h
 ·rename_i q
  simp only [Bool.and_eq_true,decide_eq_true_eq] at q
  omega
 ·split at h
  ·rename_i q
   simp only [Bool.and_eq_true,decide_eq_true_eq] at q
   omega
  ·split at h
   ·rename_i q
    simp only [Bool.and_eq_true,decide_eq_true_eq] at q
    omega
   ·cases h
theorem nb_of {c:Nat} (h:48≤c):blank c=false:=by
 unfold blank
 simp only [Bool.or_eq_false_iff,Bool.and_eq_false_iff,beq_eq_false_iff_ne,decide_eq_false_iff_not]
 omega
theorem drop_nb {cs:List Nat} (h:∀ c∈cs,48≤c):cs.dropWhile blank=cs:=by
 cases cs with
 | nil=>rfl
 | cons c r=>rw [List.dropWhile_cons,nb_of (h c (.head _))];rfl
theorem sign_nb {cs:List Nat} (h:∀ c∈cs,48≤c):sign cs=(false,cs):=by
 unfold sign
 split
 ·exact absurd (h 45 (.head _)) (by decide)
 ·exact absurd (h 43 (.head _)) (by decide)
 ·rfl
set_option tactic.hygienic true in
theorem based_b {b:Nat} {cs:List Nat} (hb:b=8\/b=16) (h:DigsOk b cs):based b cs=(b,false,cs):=by
 unfold based
 have b0:(b==0)=false:=by rcases hb with rfl | rfl <;> rfl
 split
 ·rename_i p hp
  have hne:(b==p)=false:=by
   unfold prefix? at hp
   split at hp
   ·rename_i c r
    refine e1a3 (h.2 c (.tail _ (.head _))) fun d h1 h2 h3=>?_
    have big:∀ {k e:Nat},c=k->digit? k=some e->¬ e<b->False:=fun {k e} ek he hn=>by
     subst ek
     rw [h1] at he
     cases he
     exact hn h2
    split at hp
    ·rename_i q
     simp only [Bool.or_eq_true,beq_iff_eq] at q
     cases hp
     rcases hb with rfl | rfl
     ·rfl
     ·rcases q with q | q
      ·exact (big q (show digit? 120=some 33 from rfl) (by decide)).elim
      ·exact (big q (show digit? 88=some 33 from rfl) (by decide)).elim
    ·split at hp
     ·rename_i q
      simp only [Bool.or_eq_true,beq_iff_eq] at q
      cases hp
      rcases hb with rfl | rfl
      ·rcases q with q | q
       ·exact (big q (show digit? 111=some 24 from rfl) (by decide)).elim
       ·exact (big q (show digit? 79=some 24 from rfl) (by decide)).elim
      ·rfl
     ·split at hp
      ·cases hp
       rcases hb with rfl | rfl <;> rfl
      ·cases hp
   ·cases hp
  rw [b0,hne]
  rfl
 ·rw [b0];rfl
theorem readB {b:Nat} {cs:List Nat} (hb:b=8\/b=16) (h:DigsOk b cs):(int_private% "readNumeral") 0 b cs=(int_private% "Numeral.value") ((dVal b cs:Nat):Int):=by
 have h48:∀ c∈cs,48≤c:=fun c hc=>by refine e1a2 (h.2 c hc) fun d h1 _=>?_;exact (dig_range h1).1
 rw [readNumeral_eq,drop_nb h48,sign_nb h48,based_b hb h]
 have hr:(cs.reverse.dropWhile blank).reverse=cs:=by
  rw [drop_nb (fun c hc=>h48 c (List.mem_reverse.mp hc)),List.reverse_reverse]
 show judge 0 false b false (digits? b (cs.reverse.dropWhile blank).reverse)=_
 rw [hr]
 have hd:digits? b cs=some (cs.map fun c=>(digit? c).getD 0).toArray:=by
  unfold digits?
  rw [step_ok cs #[] false h.2,if_neg h.1]
  simp
 rw [hd]
 unfold judge
 show (if (_&&(0:Nat) != 0&&_)=true then _ else _)=_
 rw [if_neg (by simp)]
 have b10:(b==10)=false:=by rcases hb with rfl | rfl <;> rfl
 rw [b10,Bool.false_and,if_neg Bool.false_ne_true]
 simp only [Bool.false_and,Bool.false_eq_true,if_false,List.foldl_toArray']
 rfl
theorem wp_textB {M:Model} {A:Around} {E:Value->Shared->Prop} {s:Shared} {Q:Value->Shared->Prop} {v:Value} {text:List Nat} {n:Int} {b:Nat}
  (hs:(text.takeWhile (· != 0)).length≤640) (hr:(int_private% "readNumeral") 0 b (text.takeWhile (· != 0))=(int_private% "Numeral.value") n)
  (ha:((text.takeWhile (· != 0)).length==text.length)=true) (h:Q (.int n s.toks) { s with toks:=s.toks+1 }) :
  wpAny M A ((int_private% "intFromText") v text b) Q E s:=by
 obtain ⟨hp,g,d,tk,os⟩:=s
 repeat (any_goals (first
  | assumption
  | (with_reducible refine wpAny_ite_true (decide_eq_true hs) ?_)
  | (with_reducible refine wpAny_ite_true (decide_eq_true ha) ?_)
  | wp_step))
 all_goals (try rw [hr])
 all_goals (try dsimp only)
 repeat (any_goals (first
  | assumption
  | (with_reducible refine wpAny_ite_true (decide_eq_true hs) ?_)
  | (with_reducible refine wpAny_ite_true (decide_eq_true ha) ?_)
  | wp_step))
theorem take_digs {b:Nat} {cs:List Nat} (h:DigsOk b cs):cs.takeWhile (· != 0)=cs:=by
 have:∀ l:List Nat,(∀ c∈l,48≤c)->l.takeWhile (· != 0)=l:=by
  intro l
  induction l with
  | nil=>intro _;rfl
  | cons c r ih =>
   intro hl
   have h1:=hl c (.head _)
   have hc:(c != 0)=true:=by simp;omega
   rw [List.takeWhile_cons,hc,ih fun y hy=>hl y (.tail _ hy)]
   rfl
 exact this cs fun c hc=>by refine e1a2 (h.2 c hc) fun d h1 _=>?_;exact (dig_range h1).1
theorem text_digs {b:Nat} {x:Str} (h:DigsOk b x.cps.toList):numTextOf x=x.cps.toList:=by
 unfold numTextOf
 rw [if_pos]
 rw [Array.all_eq_true']
 intro c hc
 refine e1a2 (h.2 c (by simpa using hc)) fun d h1 _=>?_
 have:=(dig_range h1).2
 simp
 omega
set_option maxHeartbeats 4000000 in
theorem gives_textB {x:Str} {u ub:Tok} {b:Nat} (hb:b=8\/b=16) (hl:x.length≤640) (h:DigsOk b x.cps.toList):Gives (Builtin.«int.__new__» ⟨[.type "int",.str x u,.int (b:Int) ub],[]⟩) (.int ((dVal b x.cps.toList:Nat):Int)) :=
 .of_wp fun M A E s Q hq=>by
  obtain ⟨hp,g,d,tk,os⟩:=s
  have f1:=PySem.F.conv_sub_int
  have f2:=PySem.F.madeHere_int
  have f6:typeOf (.str x u)=pure (.type "str"):=rfl
  have e1:(numTextOf x).takeWhile (· != 0)=x.cps.toList:=by rw [text_digs h,take_digs h]
  have hk:=KIN.Hid.mk (And.intro (show ((numTextOf x).takeWhile (· != 0)).length≤640 by rw [e1];exact hl) (And.intro (show (int_private% "readNumeral") 0 b ((numTextOf x).takeWhile (· != 0))=(int_private% "Numeral.value") ((dVal b x.cps.toList:Nat):Int) by rw [e1];exact readB hb h) (show (((numTextOf x).takeWhile (· != 0)).length==(numTextOf x).length)=true by rw [e1,text_digs h];simp)))
  clear hl h e1
  rcases hb with rfl | rfl
  all_goals (repeat (any_goals (first
   | assumption
   | ((with_reducible show wpAny _ _ ((int_private% "intFromText") _ _ _) _ _ _);refine wp_textB hk.out.1 hk.out.2.1 hk.out.2.2 ?_)
   | wp_step)))
  all_goals exact ⟨_,rfl,hq⟩
theorem oi_3 (obj a b:Value):argsOk "object.__init__" ⟨[obj,a,b],[]⟩:=by unfold argsOk;kernel_rfl
theorem call_textB {A:Around} {w:World} {E:Value->Shared->Prop} {s:Shared} {Q:Value->Shared->Prop} {x:Str} {u ub:Tok} {b:Nat} (hb:b=8\/b=16) (hl:x.length≤640) (h:DigsOk b x.cps.toList) (hq:Q (.int ((dVal b x.cps.toList:Nat):Int) s.toks) { s with toks:=s.toks+1 }) :
  wpAny (model pw_rk0009_01 w) A (call (.type "int") [.str x u,.int (b:Int) ub]) Q E s :=
 callType_new PySem.F.called_int PySem.F.newNe_int (tc_int_2 _ _) (nc_int_2 _ _) (fun obj=>oi_3 obj _ _) PySem.F.entry_int_new (gives_textB hb hl h).meets (show (Made.int _).post _ s from ⟨rfl,hq⟩)
end
end
theorem NgB59.gB59:True:=trivial
example:True:=by w_top off;trivial
section
open NgM57 NgB59
section
open PySem.NumText
noncomputable def WStep (h₀:Heap) (L:Addr) (s:Shared) (J:Nat->(Str->Option Value)->List (Addr×Obj)->Prop) (n:Nat) (f:Flow) (s₃:Shared):Prop :=
 (f=.next\/f=.cont)/\∃ h' tk m₂ news₂ n',s₃={ s with heap:=h',toks:=tk }/\Fr h₀ L h' m₂/\News h₀ L h' news₂/\n'<n/\J n' m₂ news₂
theorem While_invC {w:World} {A:Around} {E:Value->Shared->Prop} {Q:Flow->Shared->Prop} {s:Shared} {env:Env} {h₀:Heap} {L:Addr} {test:Expr} {body:List Stmt} {pos:Pos} {m:Str->Option Value} {news:List (Addr×Obj)} (J:Nat->(Str->Option Value)->List (Addr×Obj)->Prop) {n₀:Nat}
  (F:Fr h₀ L s.heap m) (N:News h₀ L s.heap news) (hJ:J n₀ m news)
  (turn:∀ n m₁ news₁ h₁ tk₁,Fr h₀ L h₁ m₁->News h₀ L h₁ news₁->J n m₁ news₁ ->
   wpAny (model pw_rk0009_01 w) A (isTrue test env (eval test env)) (fun b s₂ =>
    if b=true then wpAny (model pw_rk0009_01 w) A (execs body env) (WStep h₀ L s J n) E s₂ else Q .next s₂) E { s with heap:=h₁,toks:=tk₁ })
  (hE:PassesOwn (model pw_rk0009_01 w) A env E:=by passes_own) :
  wpAny (model pw_rk0009_01 w) A (exec (.While test body [] pos) env) Q E s:=by
 refine wpAny_While (codeAny_whileLoop (fun n s'=>∃ h₁ tk₁ m₁ news₁,s'={ s with heap:=h₁,toks:=tk₁ }/\Fr h₀ L h₁ m₁/\News h₀ L h₁ news₁/\J n m₁ news₁) ?_ n₀ ⟨s.heap,s.toks,m,news,rfl,F,N,hJ⟩)
 intro n s' hq0
 obtain ⟨h₁,tk₁,m₁,news₁,rfl,F₁,N₁,J₁⟩:=hq0
 refine wpAny_mono (turn n m₁ news₁ h₁ tk₁ F₁ N₁ J₁) (fun b s₂ h₂=>?_) hE
 cases b with
 | false =>
  simp only [Bool.false_eq_true,if_false] at h₂ ⊢
  exact wpAny_execs_nil h₂
 | true =>
  simp only [if_true] at h₂ ⊢
  refine wpAny_mono h₂ (fun f s₃ h₃=>?_) hE
  obtain ⟨hf,h',tk,m₂,news₂,n',rfl,F₂,N₂,hn,J₂⟩:=h₃
  rcases hf with rfl | rfl <;> exact ⟨n',hn,h',tk,m₂,news₂,rfl,F₂,N₂,J₂⟩
noncomputable def cut (x:Str) (i j:Nat):List Nat:=(x.cps.toList.drop i).take (j - i)
noncomputable def octGo (x:Str) (lim:Nat):Nat->Nat->Option Nat
 | 0,_=>none
 | n+1,p=>if p=x.length\/lim≤p then some p else match x.cps[p]? with
  | some c=>if inS octS ⟨#[c]⟩=true then octGo x lim n (p+1) else some p
  | none=>none
inductive Rep (x:Str):Nat->Nat->Str->Prop
 | lit {p c:Nat} : x.cps[p]?=some c->(⟨#[c]⟩:Str) ≠ "\\" -> Rep x p (p+1) ⟨#[c]⟩
 | oct {p e n c:Nat} : x.cps[p]?=some 92->x.cps[p+1]?=some c->inS octS ⟨#[c]⟩=true->octGo x (p+4) n (p+1)=some e->p+1≤e->e≤x.length->DigsOk 8 (cut x (p+1) e)->dVal 8 (cut x (p+1) e)<1114112->Rep x p e ⟨#[dVal 8 (cut x (p+1) e)]⟩
 | hex {p e n:Nat} : x.cps[p]?=some 92->x.cps[p+1]?=some 120->hexGo x n (p+2)=some e->p+2<e->e≤x.length->DigsOk 16 (cut x (p+2) e)->dVal 16 (cut x (p+2) e)<1114112->Rep x p e ⟨#[dVal 16 (cut x (p+2) e)]⟩
 | esc {p c v:Nat} {sg:Str} : x.cps[p]?=some 92->x.cps[p+1]?=some c->(⟨#[c]⟩:Str)=sg->(sg,(v:Int))∈tab_short->Rep x p (p+2) ⟨#[v]⟩
 | uni {p e n:Nat} : x.cps[p]?=some 92->x.cps[p+1]?=some 117->hexGo x n (p+2)=some e->p+6≤e->e≤x.length->DigsOk 16 (cut x (p+2) (p+6))->dVal 16 (cut x (p+2) (p+6))<1114112->Rep x p (p+6) ⟨#[dVal 16 (cut x (p+2) (p+6))]⟩
inductive RepAll (x:Str):Nat->Nat->List Str->Prop
 | done {n:Nat} : RepAll x (n+1) x.length []
 | step {n p p':Nat} {y:Str} {r:List Str} : Rep x p p' y->p<x.length->RepAll x n p' r->RepAll x (n+1) p (y::r)
noncomputable def repOf (l:List Stmt):Option (List Stmt):=l[4]?.bind bod
theorem tail_strY {w:World} {A:Around} {E:Value->Shared->Prop} {s:Shared} {Q:Value->Shared->Prop} {value slice:PySem.Expr} {x y:Str} {t u:Tok} {k:Int} {c:Nat} (h0:0≤k) (hc:x.cps[k.toNat]?=some c) (hz:x.length≤1000000) (hy:(⟨#[c]⟩:Str)=y)
  (h:∀ t',Q (.str y t') { s with toks:=s.toks+1 })
  (hs:subscripted slice false (.str x t) (.int k u)=operate [.str x t,.int k u] (getItem (.str x t) (.int k u)):=by with_unfolding_all rfl) :
  wpAny (model pw_rk0009_01 w) A (subscriptTail value slice (.str x t) (.int k u)) Q E s:=by
 subst hy
 exact tail_str h0 hc hz h hs
section
variable {news:List (Addr×Obj)} {E:Value->Shared->Prop} {Q:Flow->Shared->Prop} {pr:Arguments} {b bo:List Stmt} {sc:Scope}
example:True:=by (k_with "B59" => (fail_if_success (fail_if_success (have:=gB59))));(k_with "eval Name" => k_extra "B59";(k_here;k_dflt (refine' ldM2 ?Y0 ?Y1 ?Y2 ?Y3 ?Y4 ?Y5 ?_;(case Y0=>assumption);(case Y1=>exact rfl);(case Y2=>exact rfl);(case Y3=>exact rfl);(case Y4=>((repeat (refine (if_neg (by decide)).trans ?_));first | assumption | exact if_pos rfl));(case Y5=>decide);k_whole)));(k_with "loadName" => k_extra "B59";(k_here;k_dflt (refine' ldL ?Y0 ?Y1 ?Y2 ?Y3 ?Y4 ?_;(case Y0=>assumption);(case Y1=>exact rfl);(case Y2=>exact rfl);(case Y3=>exact rfl);(case Y4=>((repeat (refine (if_neg (by decide)).trans ?_));first | assumption | exact if_pos rfl));k_whole)));(k_with "subscriptTail Name Name str int" => k_extra "B59";(k_here;k_dflt (refine' tail_strY ?Y0 ?Y1 ?Y2 ?Y3 ?_ ?Y4;(case Y4=>with_unfolding_all rfl);(case Y1=>first | assumption | (rw [Int.toNat_natCast];assumption));(case Y0=>omega);(case Y2=>assumption);(case Y3=>first | assumption | exact rfl);k_whole;intro Y5)));trivial
theorem eq_no {A:Around} {w:World} {E:Value->Shared->Prop} {s:Shared} {Q:Value->Shared->Prop} {x y:Str} {t u:Tok} (hn:x≠y) (h:Q (.bool false) s):wpAny (model pw_rk0009_01 w) A (compareOp .Eq (.str x t) (.str y u)) Q E s :=
 PyProof.Rows.eq_str (by rw [beq_eq_false_iff_ne.mpr hn];exact h)
theorem append_1 {w:World} {A:Around} {E:Value->Shared->Prop} {s:Shared} {h₀:Heap} {L D:Addr} {m:Str->Option Value} {its:List Value} {n:Nat} {rest:List (Addr×Obj)} {c:Value} {Q:Value->Shared->Prop} (F:Fr h₀ L s.heap m) (N:News h₀ L s.heap ((D,listOf its.toArray n)::rest)) (hr:∀ p∈rest,p.1≠D) (hz:its.length≤1000)
  (h:∀ h' k,Fr h₀ L h' m->News h₀ L h' ((D,listOf (its++[c]).toArray k)::rest)->Q .none { s with heap:=h' }):wpAny (model pw_rk0009_01 w) A (call (.builtin "list.append") [.ref D,c]) Q E s:=by
 refine append_K (its:=its.toArray) (n:=n) F N (.head hr) (fun h' F' N'=>?_) (by rw [sizeLine_eq];simp;omega)
 rw [List.push_toArray] at N'
 exact h h' _ F' N'
example:True:=by (k_with "call builtin:list.append" => k_extra "B59";(k_here;k_dflt (refine' append_1 ?Y0 ?Y1 ?Y2 ?Y3 ?_;(case Y1=>assumption);(case Y0=>k_asm);(case Y2=>assumption);(case Y3=>assumption);k_whole;intro Y4 Y5 Y6 Y7)));(k_with "compareOp Eq str str" => k_extra "B59";(k_here;k_dflt (refine' eq_no ?Y0 ?_;(case Y0=>assumption);k_whole)));trivial
theorem inS_no {A:Around} {w:World} {E:Value->Shared->Prop} {s:Shared} {Q:Value->Shared->Prop} {x y:Str} {t u:Tok} (hn:inS x y=false) (h:Q (.bool false) s):wpAny (model pw_rk0009_01 w) A (compareOp .In (.str y u) (.str x t)) Q E s :=
 PyProof.Rows.in_str (by unfold inS at hn;rw [hn];exact h)
theorem inS_yes {A:Around} {w:World} {E:Value->Shared->Prop} {s:Shared} {Q:Value->Shared->Prop} {x y:Str} {t u:Tok} (hn:inS x y=true) (h:Q (.bool true) s):wpAny (model pw_rk0009_01 w) A (compareOp .In (.str y u) (.str x t)) Q E s :=
 PyProof.Rows.in_str (by unfold inS at hn;rw [hn];exact h)
structure MpD (w:World) (mp:Addr) (o:Obj) (kvs:List (Str×Value)):Prop where
 d:o.IsDictOf (strKind pw_rk0009_01 w) kvs
 lo:(mp==sysModules)=false
 get:∀ sg v,(sg,v)∈tab_short->∃ t,valueAt kvs sg=some (.str ⟨#[v.toNat]⟩ t)
 no:valueAt kvs "u" = none
theorem mp_in {A:Around} {w:World} {E:Value->Shared->Prop} {s:Shared} {Q:Value->Shared->Prop} {h₀:Heap} {L mp:Addr} {o:Obj} {kvs:List (Str×Value)} {news:List (Addr×Obj)} {x:Str} {t:Tok} {v:Value} (N:News h₀ L s.heap news) (hm:(mp,o)∈news) (D:MpD w mp o kvs) (hv:valueAt kvs x=some v) (h:Q (.bool true) { s with toks:=s.toks+1 }) :
  wpAny (model pw_rk0009_01 w) A (compareOp .In (.str x t) (.ref mp)) Q E s :=
 wpAny_in_of (strKind_is _ _ _ _) D.lo (kda_dict N hm D.d).mapOf (by rw [hv];exact h)
theorem mp_notin {A:Around} {w:World} {E:Value->Shared->Prop} {s:Shared} {Q:Value->Shared->Prop} {h₀:Heap} {L mp:Addr} {o:Obj} {kvs:List (Str×Value)} {news:List (Addr×Obj)} {x:Str} {t:Tok} (N:News h₀ L s.heap news) (hm:(mp,o)∈news) (D:MpD w mp o kvs) (hv:valueAt kvs x=none) (h:Q (.bool false) { s with toks:=s.toks+1 }) :
  wpAny (model pw_rk0009_01 w) A (compareOp .In (.str x t) (.ref mp)) Q E s :=
 wpAny_in_of (strKind_is _ _ _ _) D.lo (kda_dict N hm D.d).mapOf (by rw [hv];exact h)
theorem mp_item {A:Around} {w:World} {E:Value->Shared->Prop} {s:Shared} {Q:Value->Shared->Prop} {value slice:PySem.Expr} {h₀:Heap} {L mp:Addr} {o:Obj} {kvs:List (Str×Value)} {news:List (Addr×Obj)} {x:Str} {t:Tok} {v:Value} (N:News h₀ L s.heap news) (hm:(mp,o)∈news) (D:MpD w mp o kvs) (hv:valueAt kvs x=some v) (h:Q v { s with toks:=s.toks+1 })
  (hs:subscripted slice false (.ref mp) (.str x t)=operate [.ref mp,.str x t] (getItem (.ref mp) (.str x t)):=by with_unfolding_all rfl):wpAny (model pw_rk0009_01 w) A (subscriptTail value slice (.ref mp) (.str x t)) Q E s :=
 kdt_tail N hm D.d (kdt_getItem N hm D.d (strKind_is _ _ _ _) hv h) hs
example:True:=by (k_with "compareOp In str str" => k_extra "B59";(k_here;k_dflt (first | (refine' inS_no ?Y0 ?_;(case Y0=>assumption);k_whole) | (refine' inS_yes ?Y0 ?_;(case Y0=>assumption);k_whole))));(k_with "compareOp In str ref" => k_extra "B59";(k_here;k_dflt (first | (refine' mp_in ?Y0 ?Y1 ?Y2 ?Y3 ?_;(case Y0=>assumption);(case Y2=>assumption);(case Y1=>exact .tail _ (.head _));(case Y3=>assumption);k_whole) | (refine' mp_notin ?Y0 ?Y1 ?Y2 ?Y3 ?_;(case Y0=>assumption);(case Y2=>assumption);(case Y1=>exact .tail _ (.head _));(case Y3=>assumption);k_whole))));(k_with "subscriptTail Name Name ref str" => k_extra "B59";(k_here;k_dflt (refine' mp_item ?Y0 ?Y1 ?Y2 ?Y3 ?_ ?Y4;(case Y4=>with_unfolding_all rfl);(case Y0=>assumption);(case Y2=>assumption);(case Y1=>exact .tail _ (.head _));(case Y3=>assumption);k_whole)));(k_with "subscriptTail Name BinOp str int" => k_extra "B59";(k_here;k_dflt (refine' tail_strY ?Y0 ?Y1 ?Y2 ?Y3 ?_ ?Y4;(case Y4=>with_unfolding_all rfl);(case Y0=>omega);(case Y1=>assumption);(case Y2=>assumption);(case Y3=>first | assumption | exact rfl);k_whole;intro Y5)));trivial
structure RpM (x:Str) (pos:Nat) (parts mp:Addr) (m:Str->Option Value):Prop where
 pos:∃ t,m "pos" = some (.int ((pos:Nat):Int) t)
 txt:∃ t,m "txt" = some (.str x t)
 ep:∃ t,m "endpos" = some (.int (x.length:Int) t)
 parts:m "parts" = some (.ref parts)
 mp:m "mp" = some (.ref mp)
noncomputable def Z44P:FrZ->Prop:=fun V=>(fun (q:Nat)=>(∀ (b:List Stmt) (bo:List Stmt) (sc:Scope) (FD:FnDef V.w 469 "replace_escape_codes" "replace_escape_codes" (V.fg 0) b sc (.ref 468)) (hp:repOf b=some bo) (C:Cx 60 V.w V.p V.loose V.mean V.mg V.mb V.dp V.un sc V.outer V.A₀ V.base V.h₀ V.L V.m V.s) (N:News V.h₀ V.L V.s.heap (((V.fA 0),listOf (V.fv 0).toArray (V.fN 2))::(V.fL 0))) (hd:∀ q∈(V.fL 0),q.1≠(V.fA 0)) (M:RpM (V.fS 0) q (V.fA 0) (V.fA 1) V.m) (hz:(V.fS 0).length≤1000) (hi:(V.fv 0).length≤1000) (hc:(V.fS 0).cps[q]?=some (V.fN 1)) (hne:(⟨#[(V.fN 1)]⟩:Str) ≠ "\\") (ret:∀ h' tk' m' n' tc,Fr V.h₀ V.L h' m'->News V.h₀ V.L h' (((V.fA 0),listOf ((V.fv 0)++[Value.str ⟨#[(V.fN 1)]⟩ tc]).toArray n')::(V.fL 0))->RpM (V.fS 0) (q+1) (V.fA 0) (V.fA 1) m'->(V.fF 0) .next { V.s with heap:=h',toks:=tk' }),wpAny (model pw_rk0009_01 V.w) (ktrTop V.dp V.un V.gd "replace_escape_codes" sc V.L 469 (.ref 468) [] V.outer) (execs bo (envX "replace_escape_codes" sc V.L 469 (.ref 468) [])) (V.fF 0) V.E V.s:Prop)) (V.fN 0)
@[irreducible] noncomputable def Z44:FrZ:=pickZ Z44P
set_option maxHeartbeats 4000000 in
theorem Z44c:Z44P Z44:=by
 intro b bo sc FD hp C N hd M hz hi hc hne ret
 obtain ⟨_,_,_,_,_,_,_,_,_,ho⟩:=FD
 have e:sc=_:=fn_scope ho (by k_is)
 subst e
 have e:b=_:=fn_body ho (by k_is)
 subst e
 have e2:bo=_:=Option.some.inj (hp.symm.trans (rfl:repOf _=some _))
 subst e2
 clear hp ho
 obtain ⟨B,F,X,T,hk,hdp,hun⟩:=C
 obtain ⟨⟨t1,m1⟩,⟨t2,m2⟩,⟨t3,m3⟩,m4,m5⟩:=M
 have hz2:(Z44.fS 0).length≤1000000:=by omega
 k_steps
 exact ret _ _ _ _ _ (by k_asm) (by k_asm) ⟨⟨_,(by (repeat (refine (if_neg (by decide)).trans ?_));first | assumption | exact if_pos rfl)⟩,⟨_,(by (repeat (refine (if_neg (by decide)).trans ?_));first | assumption | exact if_pos rfl)⟩,⟨_,(by (repeat (refine (if_neg (by decide)).trans ?_));first | assumption | exact if_pos rfl)⟩,(by (repeat (refine (if_neg (by decide)).trans ?_));first | assumption | exact if_pos rfl),(by (repeat (refine (if_neg (by decide)).trans ?_));first | assumption | exact if_pos rfl)⟩
theorem rep_lit {x:Str} {q c n:Nat} {parts mp:Addr} {its:List Value} (FD:FnDef w 469 "replace_escape_codes" "replace_escape_codes" pr b sc (.ref 468)) (hp:repOf b=some bo) (C:Cx 60 w p loose mean mg mb dp un sc outer A₀ base h₀ L m s) (N:News h₀ L s.heap ((parts,listOf its.toArray n)::news)) (hd:∀ q∈news,q.1≠parts)
  (M:RpM x q parts mp m) (hz:x.length≤1000) (hi:its.length≤1000) (hc:x.cps[q]?=some c) (hne:(⟨#[c]⟩:Str) ≠ "\\")
  (ret:∀ h' tk' m' n' tc,Fr h₀ L h' m'->News h₀ L h' ((parts,listOf (its++[Value.str ⟨#[c]⟩ tc]).toArray n')::news)->RpM x (q+1) parts mp m'->Q .next { s with heap:=h',toks:=tk' }) :
  wpAny (model pw_rk0009_01 w) (ktrTop dp un gd "replace_escape_codes" sc L 469 (.ref 468) [] outer) (execs bo (envX "replace_escape_codes" sc L 469 (.ref 468) [])) Q E s:=pickedZ (by with_unfolding_all rfl) Z44c (sfv (sfA (sfN (sfS (sfg (sfF (sfL (frC w p loose mean mg mb dp un gd Z44.cn Z44.cs Z44.ca Z44.ccd Z44.cll outer A₀ base h₀ L m s E) [news]) [Q]) [pr]) [x]) [q,c,n]) [parts,mp]) [its]) b bo sc FD hp C N hd M hz hi hc hne ret
noncomputable def Z42P:FrZ->Prop:=fun V=>(fun (q:Nat)=>(∀ (b:List Stmt) (bo:List Stmt) (sc:Scope) (FD:FnDef V.w 469 "replace_escape_codes" "replace_escape_codes" (V.fg 0) b sc (.ref 468)) (hp:repOf b=some bo) (C:Cx 60 V.w V.p V.loose V.mean V.mg V.mb V.dp V.un sc V.outer V.A₀ V.base V.h₀ V.L V.m V.s) (N:News V.h₀ V.L V.s.heap (((V.fA 0),listOf (V.fv 0).toArray (V.fN 2))::((V.fA 1),(V.fO 0))::(V.fL 0))) (hd:∀ q∈((V.fA 1),(V.fO 0))::(V.fL 0),q.1≠(V.fA 0)) (M:RpM (V.fS 0) q (V.fA 0) (V.fA 1) V.m) (D:MpD V.w (V.fA 1) (V.fO 0) (V.ft 0)) (hz:(V.fS 0).length≤1000) (hi:(V.fv 0).length≤1000) (hc0:(V.fS 0).cps[((q:Nat):Int).toNat]?=some 92) (hc:(V.fS 0).cps[((q:Nat)+1:Int).toNat]?=some (V.fN 1)) (hsg:(⟨#[(V.fN 1)]⟩:Str)=(V.fS 1)) (hv:valueAt (V.ft 0) (V.fS 1)=some (.str ⟨#[(V.fI 0).toNat]⟩ (V.fT 0))) (hx:(V.fS 1) ≠ "x") (ho8:inS octS (V.fS 1)=false) (hlt:q+1<(V.fS 0).length) (ret:∀ h' tk' m' n' tc,Fr V.h₀ V.L h' m'->News V.h₀ V.L h' (((V.fA 0),listOf ((V.fv 0)++[Value.str ⟨#[(V.fI 0).toNat]⟩ tc]).toArray n')::((V.fA 1),(V.fO 0))::(V.fL 0))->RpM (V.fS 0) (q+2) (V.fA 0) (V.fA 1) m'->(V.fF 0) .cont { V.s with heap:=h',toks:=tk' }),wpAny (model pw_rk0009_01 V.w) (ktrTop V.dp V.un V.gd "replace_escape_codes" sc V.L 469 (.ref 468) [] V.outer) (execs bo (envX "replace_escape_codes" sc V.L 469 (.ref 468) [])) (V.fF 0) V.E V.s:Prop)) (V.fN 0)
@[irreducible] noncomputable def Z42:FrZ:=pickZ Z42P
set_option maxHeartbeats 4000000 in
theorem Z42c:Z42P Z42:=by
 intro b bo sc FD hp C N hd M D hz hi hc0 hc hsg hv hx ho8 hlt ret
 obtain ⟨_,_,_,_,_,_,_,_,_,ho⟩:=FD
 have e:sc=_:=fn_scope ho (by k_is)
 subst e
 have e:b=_:=fn_body ho (by k_is)
 subst e
 have e2:bo=_:=Option.some.inj (hp.symm.trans (rfl:repOf _=some _))
 subst e2
 clear hp ho
 obtain ⟨B,F,X,T,hk,hdp,hun⟩:=C
 obtain ⟨⟨t1,m1⟩,⟨t2,m2⟩,⟨t3,m3⟩,m4,m5⟩:=M
 have hz2:(Z42.fS 0).length≤1000000:=by omega
 have bsl:(⟨#[92]⟩:Str) = "\\" := rfl
 k_steps
 ·exact ret _ _ _ _ _ (by k_asm) (by k_asm) ⟨⟨_,(by (repeat (refine (if_neg (by decide)).trans ?_));first | assumption | exact if_pos rfl)⟩,⟨_,(by (repeat (refine (if_neg (by decide)).trans ?_));first | assumption | exact if_pos rfl)⟩,⟨_,(by (repeat (refine (if_neg (by decide)).trans ?_));first | assumption | exact if_pos rfl)⟩,(by (repeat (refine (if_neg (by decide)).trans ?_));first | assumption | exact if_pos rfl),(by (repeat (refine (if_neg (by decide)).trans ?_));first | assumption | exact if_pos rfl)⟩
 ·exfalso;omega
theorem rep_esc {x sg:Str} {q c n:Nat} {v:Int} {tv:Tok} {parts mp:Addr} {mpo:Obj} {kvs:List (Str×Value)} {its:List Value} (FD:FnDef w 469 "replace_escape_codes" "replace_escape_codes" pr b sc (.ref 468)) (hp:repOf b=some bo) (C:Cx 60 w p loose mean mg mb dp un sc outer A₀ base h₀ L m s) (N:News h₀ L s.heap ((parts,listOf its.toArray n)::(mp,mpo)::news)) (hd:∀ q∈(mp,mpo)::news,q.1≠parts)
  (M:RpM x q parts mp m) (D:MpD w mp mpo kvs) (hz:x.length≤1000) (hi:its.length≤1000) (hc0:x.cps[((q:Nat):Int).toNat]?=some 92) (hc:x.cps[((q:Nat)+1:Int).toNat]?=some c) (hsg:(⟨#[c]⟩:Str)=sg) (hv:valueAt kvs sg=some (.str ⟨#[v.toNat]⟩ tv)) (hx:sg ≠ "x") (ho8:inS octS sg=false) (hlt:q+1<x.length)
  (ret:∀ h' tk' m' n' tc,Fr h₀ L h' m'->News h₀ L h' ((parts,listOf (its++[Value.str ⟨#[v.toNat]⟩ tc]).toArray n')::(mp,mpo)::news)->RpM x (q+2) parts mp m'->Q .cont { s with heap:=h',toks:=tk' }) :
  wpAny (model pw_rk0009_01 w) (ktrTop dp un gd "replace_escape_codes" sc L 469 (.ref 468) [] outer) (execs bo (envX "replace_escape_codes" sc L 469 (.ref 468) [])) Q E s:=pickedZ (by with_unfolding_all rfl) Z42c (sfv (sft (sfO (sfA (sfT (sfI (sfN (sfS (sfg (sfF (sfL (frC w p loose mean mg mb dp un gd Z42.cn Z42.cs Z42.ca Z42.ccd Z42.cll outer A₀ base h₀ L m s E) [news]) [Q]) [pr]) [x,sg]) [q,c,n]) [v]) [tv]) [parts,mp]) [mpo]) [kvs]) [its]) b bo sc FD hp C N hd M D hz hi hc0 hc hsg hv hx ho8 hlt ret
end
end
end
theorem NgB60.gB60:True:=trivial
example:True:=by w_top off;trivial
section
open NgM57 NgB60
section
open PySem.NumText
theorem slice_cut {x:Str} {i j:Nat} (h1:i≤j) (h2:j≤x.length) {a b:Int} (ha:a=(i:Int)) (hb:b=(j:Int)):Txt.slice x (some a) (some b)=⟨(cut x i j).toArray⟩:=by
 subst ha hb
 have hl:x.cps.toList.length=x.length:=by simp [Str.length]
 have:=slice_closes (x:=x) (i:=(i:Int)) (j:=(j:Int)) ⟨Int.natCast_nonneg i,by omega,by rw [hl];omega⟩
 have e:=beq_iff_eq.mp this
 rw [e]
 congr 2
 unfold cut
 rw [Int.toNat_natCast,show ((j:Int) - (i:Int)).toNat=j - i by omega]
theorem cut_len {x:Str} {i j:Nat} : (cut x i j).length≤x.length:=by
 unfold cut
 rw [List.length_take,List.length_drop]
 have hl:x.cps.toList.length=x.length:=by simp [Str.length]
 omega
theorem call_cut {A:Around} {w:World} {E:Value->Shared->Prop} {s:Shared} {Q:Value->Shared->Prop} {x y:Str} {cs:List Nat} {u ub:Tok} {b:Nat} (hy:y=⟨cs.toArray⟩) (hb:b=8\/b=16) (hl:cs.length≤640) (h:DigsOk b cs) (hq:Q (.int ((dVal b cs:Nat):Int) s.toks) { s with toks:=s.toks+1 }) :
  wpAny (model pw_rk0009_01 w) A (call (.type "int") [.str y u,.int (b:Int) ub]) Q E s:=by
 subst hy
 exact call_textB hb (by show cs.toArray.size≤640;simpa using hl) (by simpa using h) (by simpa using hq)
theorem call_cut8 {A:Around} {w:World} {E:Value->Shared->Prop} {s:Shared} {Q:Value->Shared->Prop} {y:Str} {cs:List Nat} {u ub:Tok} (hy:y=⟨cs.toArray⟩) (hl:cs.length≤640) (h:DigsOk 8 cs) (hq:Q (.int ((dVal 8 cs:Nat):Int) s.toks) { s with toks:=s.toks+1 }) :
  wpAny (model pw_rk0009_01 w) A (call (.type "int") [.str y u,.int 8 ub]) Q E s:=call_cut (x:=y) (b:=8) hy (.inl rfl) hl h hq
theorem call_cut16 {A:Around} {w:World} {E:Value->Shared->Prop} {s:Shared} {Q:Value->Shared->Prop} {y:Str} {cs:List Nat} {u ub:Tok} (hy:y=⟨cs.toArray⟩) (hl:cs.length≤640) (h:DigsOk 16 cs) (hq:Q (.int ((dVal 16 cs:Nat):Int) s.toks) { s with toks:=s.toks+1 }) :
  wpAny (model pw_rk0009_01 w) A (call (.type "int") [.str y u,.int 16 ub]) Q E s:=call_cut (x:=y) (b:=16) hy (.inr rfl) hl h hq
section
variable {news:List (Addr×Obj)} {E:Value->Shared->Prop} {pr:Arguments} {b bo:List Stmt} {sc:Scope}
theorem hexend_2 {x:Str} {n q e:Nat} {t1 t2 t3:Tok} {Q:Value->Shared->Prop} (C:Cx 10 w p loose mean mg mb dp un cs outer A₀ base h₀ L m s) (N:News h₀ L s.heap news) (hz:x.length≤1000000) (hq:q+2≤x.length) (hf:hexGo x n (q+2)=some e)
  (ret:∀ h' tk' u,Fr h₀ L h' m->News h₀ L h' news->Q (.int (e:Int) u) { s with heap:=h',toks:=tk' }) :
  wpAny (model pw_rk0009_01 w) (ktrTop dp un gd cn cs L ca ccd cll outer) (call (.ref 476) [.str x t1,.int ((q:Int)+2) t2,.int (x.length:Int) t3]) Q E s:=hexend_c (q:=q+2) C N hz hq hf ret
example:True:=by (k_with "B60" => (fail_if_success (fail_if_success (have:=gB60))));(k_with "eval Name" => k_extra "B60";(k_here;k_dflt (refine' ldM2 ?Y0 ?Y1 ?Y2 ?Y3 ?Y4 ?Y5 ?_;(case Y0=>assumption);(case Y1=>exact rfl);(case Y2=>exact rfl);(case Y3=>exact rfl);(case Y4=>((repeat (refine (if_neg (by decide)).trans ?_));first | assumption | exact if_pos rfl));(case Y5=>decide);k_whole)));(k_with "loadName" => k_extra "B60";(k_here;k_dflt (refine' ldL ?Y0 ?Y1 ?Y2 ?Y3 ?Y4 ?_;(case Y0=>assumption);(case Y1=>exact rfl);(case Y2=>exact rfl);(case Y3=>exact rfl);(case Y4=>((repeat (refine (if_neg (by decide)).trans ?_));first | assumption | exact if_pos rfl));k_whole)));(k_with "subscriptTail Name Name str int" => k_extra "B60";(k_here;k_dflt (refine' tail_strY ?Y0 ?Y1 ?Y2 ?Y3 ?_ ?Y4;(case Y4=>with_unfolding_all rfl);(case Y1=>first | assumption | (rw [Int.toNat_natCast];assumption));(case Y0=>omega);(case Y2=>assumption);(case Y3=>first | assumption | exact rfl);k_whole;intro Y5)));(k_with "call builtin:list.append" => k_extra "B60";(k_here;k_dflt (refine' append_1 ?Y0 ?Y1 ?Y2 ?Y3 ?_;(case Y1=>assumption);(case Y0=>k_asm);(case Y2=>assumption);(case Y3=>assumption);k_whole;intro Y4 Y5 Y6 Y7)));(k_with "compareOp Eq str str" => k_extra "B60";(k_here;k_dflt (refine' eq_no ?Y0 ?_;(case Y0=>assumption);k_whole)));(k_with "compareOp In str str" => k_extra "B60";(k_here;k_dflt (first | (refine' inS_no ?Y0 ?_;(case Y0=>assumption);k_whole) | (refine' inS_yes ?Y0 ?_;(case Y0=>assumption);k_whole))));(k_with "compareOp In str ref" => k_extra "B60";(k_here;k_dflt (first | (refine' mp_in ?Y0 ?Y1 ?Y2 ?Y3 ?_;(case Y0=>assumption);(case Y2=>assumption);(case Y1=>exact .tail _ (.head _));(case Y3=>assumption);k_whole) | (refine' mp_notin ?Y0 ?Y1 ?Y2 ?Y3 ?_;(case Y0=>assumption);(case Y2=>assumption);(case Y1=>exact .tail _ (.head _));(case Y3=>assumption);k_whole))));(k_with "subscriptTail Name Name ref str" => k_extra "B60";(k_here;k_dflt (refine' mp_item ?Y0 ?Y1 ?Y2 ?Y3 ?_ ?Y4;(case Y4=>with_unfolding_all rfl);(case Y0=>assumption);(case Y2=>assumption);(case Y1=>exact .tail _ (.head _));(case Y3=>assumption);k_whole)));(k_with "subscriptTail Name BinOp str int" => k_extra "B60";(k_here;k_dflt (refine' tail_strY ?Y0 ?Y1 ?Y2 ?Y3 ?_ ?Y4;(case Y4=>with_unfolding_all rfl);(case Y0=>omega);(case Y1=>assumption);(case Y2=>assumption);(case Y3=>first | assumption | exact rfl);k_whole;intro Y5)));(k_with "call ref" => k_extra "B60";(k_here;k_dflt (refine' hexend_2 ?Y0 ?Y1 ?Y2 ?Y3 ?Y4 ?_;(case Y0=>exact ⟨by k_asm,by k_asm,by k_asm,by k_asm,by first | exact rfl | assumption,by ((try dsimp only [ktrTop,Around.deeper]);omega),by ((try dsimp only [ktrTop,Around.deeper]);omega)⟩);(case Y1=>k_asm);(case Y4=>assumption);(case Y2=>assumption);(case Y3=>omega);k_whole;intro Y5 Y6 Y7 Y8 Y9)));(k_with "call type:int" => k_extra "B60";(k_here;k_dflt (first | (refine' call_cut16 ?Y0 ?Y1 ?Y2 ?_;(case Y0=>assumption);(case Y1=>assumption);(case Y2=>assumption);k_whole) | (refine' call_cut8 ?Y0 ?Y1 ?Y2 ?_;(case Y0=>assumption);(case Y1=>assumption);(case Y2=>assumption);k_whole))));(k_with "call builtin:chr" => k_extra "B60";(k_here;k_dflt (refine' chr_of_range ?Y0 ?Y1 ?_;(case Y0=>omega);(case Y1=>omega);k_whole)));trivial
noncomputable def Z25P:FrZ->Prop:=fun V=>(fun (q:Nat)=>(∀ (b:List Stmt) (bo:List Stmt) (sc:Scope) (FD:FnDef V.w 469 "replace_escape_codes" "replace_escape_codes" (V.fg 0) b sc (.ref 468)) (hp:repOf b=some bo) (C:Cx 60 V.w V.p V.loose V.mean V.mg V.mb V.dp V.un sc V.outer V.A₀ V.base V.h₀ V.L V.m V.s) (N:News V.h₀ V.L V.s.heap (((V.fA 0),listOf (V.fv 0).toArray (V.fN 2))::((V.fA 1),(V.fO 0))::(V.fL 0))) (hd:∀ q∈((V.fA 1),(V.fO 0))::(V.fL 0),q.1≠(V.fA 0)) (M:RpM (V.fS 0) q (V.fA 0) (V.fA 1) V.m) (D:MpD V.w (V.fA 1) (V.fO 0) (V.ft 0)) (hz:(V.fS 0).length≤600) (hi:(V.fv 0).length≤1000) (hc0:(V.fS 0).cps[((q:Nat):Int).toNat]?=some 92) (hc:(V.fS 0).cps[((q:Nat)+1:Int).toNat]?=some 117) (hg:hexGo (V.fS 0) (V.fN 4) (q+2)=some (V.fN 3)) (h6:q+6≤(V.fN 3)) (hel:(V.fN 3)≤(V.fS 0).length) (hdg:DigsOk 16 (cut (V.fS 0) (q+2) (q+6))) (hv:dVal 16 (cut (V.fS 0) (q+2) (q+6))<1114112) (ret:∀ h' tk' m' n' tc,Fr V.h₀ V.L h' m'->News V.h₀ V.L h' (((V.fA 0),listOf ((V.fv 0)++[Value.str ⟨#[dVal 16 (cut (V.fS 0) (q+2) (q+6))]⟩ tc]).toArray n')::((V.fA 1),(V.fO 0))::(V.fL 0))->RpM (V.fS 0) (q+6) (V.fA 0) (V.fA 1) m'->(V.fF 0) .cont { V.s with heap:=h',toks:=tk' }),wpAny (model pw_rk0009_01 V.w) (ktrTop V.dp V.un V.gd "replace_escape_codes" sc V.L 469 (.ref 468) [] V.outer) (execs bo (envX "replace_escape_codes" sc V.L 469 (.ref 468) [])) (V.fF 0) V.E V.s:Prop)) (V.fN 0)
@[irreducible] noncomputable def Z25:FrZ:=pickZ Z25P
set_option maxHeartbeats 4000000 in
theorem Z25c:Z25P Z25:=by
 intro b bo sc FD hp C N hd M D hz hi hc0 hc hg h6 hel hdg hv ret
 obtain ⟨_,_,_,_,_,_,_,_,_,ho⟩:=FD
 have e0:sc=_:=fn_scope ho (by k_is)
 subst e0
 have e0:b=_:=fn_body ho (by k_is)
 subst e0
 have e2:bo=_:=Option.some.inj (hp.symm.trans (rfl:repOf _=some _))
 subst e2
 clear hp ho
 obtain ⟨B,F,X,T,hk,hdp,hun⟩:=C
 obtain ⟨⟨t1,m1⟩,⟨t2,m2⟩,⟨t3,m3⟩,m4,m5⟩:=M
 have hz2:(Z25.fS 0).length≤1000000:=by omega
 have bsl:(⟨#[92]⟩:Str) = "\\" := rfl
 have ul:(⟨#[117]⟩:Str) = "u" := rfl
 have u8:inS octS "u" = false:=by decide +kernel
 have un9:=D.no
 have cl:=cut_len (x:=(Z25.fS 0)) (i:=(Z25.fN 0)+2) (j:=(Z25.fN 0)+6)
 have cl2:(cut (Z25.fS 0) ((Z25.fN 0)+2) ((Z25.fN 0)+6)).length≤640:=by omega
 have sl:=slice_cut (x:=(Z25.fS 0)) (i:=(Z25.fN 0)+2) (j:=(Z25.fN 0)+6) (by omega) (by omega) (a:=((Z25.fN 0):Int)+2) (b:=((Z25.fN 0):Int)+6) (by omega) (by omega)
 k_steps
 ·exact ret _ _ _ _ _ (by k_asm) (by k_asm) ⟨⟨_,(by (repeat (refine (if_neg (by decide)).trans ?_));first | assumption | exact if_pos rfl)⟩,⟨_,(by (repeat (refine (if_neg (by decide)).trans ?_));first | assumption | exact if_pos rfl)⟩,⟨_,(by (repeat (refine (if_neg (by decide)).trans ?_));first | assumption | exact if_pos rfl)⟩,(by (repeat (refine (if_neg (by decide)).trans ?_));first | assumption | exact if_pos rfl),(by (repeat (refine (if_neg (by decide)).trans ?_));first | assumption | exact if_pos rfl)⟩
 all_goals (exfalso;omega)
theorem rep_uni {x:Str} {q c n e r:Nat} {parts mp:Addr} {mpo:Obj} {kvs:List (Str×Value)} {its:List Value} {Q:Flow->Shared->Prop} (FD:FnDef w 469 "replace_escape_codes" "replace_escape_codes" pr b sc (.ref 468)) (hp:repOf b=some bo) (C:Cx 60 w p loose mean mg mb dp un sc outer A₀ base h₀ L m s) (N:News h₀ L s.heap ((parts,listOf its.toArray n)::(mp,mpo)::news)) (hd:∀ q∈(mp,mpo)::news,q.1≠parts)
  (M:RpM x q parts mp m) (D:MpD w mp mpo kvs) (hz:x.length≤600) (hi:its.length≤1000) (hc0:x.cps[((q:Nat):Int).toNat]?=some 92) (hc:x.cps[((q:Nat)+1:Int).toNat]?=some 117) (hg:hexGo x r (q+2)=some e) (h6:q+6≤e) (hel:e≤x.length) (hdg:DigsOk 16 (cut x (q+2) (q+6))) (hv:dVal 16 (cut x (q+2) (q+6))<1114112)
  (ret:∀ h' tk' m' n' tc,Fr h₀ L h' m'->News h₀ L h' ((parts,listOf (its++[Value.str ⟨#[dVal 16 (cut x (q+2) (q+6))]⟩ tc]).toArray n')::(mp,mpo)::news)->RpM x (q+6) parts mp m'->Q .cont { s with heap:=h',toks:=tk' }) :
  wpAny (model pw_rk0009_01 w) (ktrTop dp un gd "replace_escape_codes" sc L 469 (.ref 468) [] outer) (execs bo (envX "replace_escape_codes" sc L 469 (.ref 468) [])) Q E s:=pickedZ (by with_unfolding_all rfl) Z25c (sfF (sfv (sft (sfO (sfA (sfN (sfS (sfg (sfL (frC w p loose mean mg mb dp un gd Z25.cn Z25.cs Z25.ca Z25.ccd Z25.cll outer A₀ base h₀ L m s E) [news]) [pr]) [x]) [q,c,n,e,r]) [parts,mp]) [mpo]) [kvs]) [its]) [Q]) b bo sc FD hp C N hd M D hz hi hc0 hc hg h6 hel hdg hv ret
noncomputable def Z24P:FrZ->Prop:=fun V=>(fun (q:Nat)=>(∀ (b:List Stmt) (bo:List Stmt) (sc:Scope) (FD:FnDef V.w 469 "replace_escape_codes" "replace_escape_codes" (V.fg 0) b sc (.ref 468)) (hp:repOf b=some bo) (C:Cx 60 V.w V.p V.loose V.mean V.mg V.mb V.dp V.un sc V.outer V.A₀ V.base V.h₀ V.L V.m V.s) (N:News V.h₀ V.L V.s.heap (((V.fA 0),listOf (V.fv 0).toArray (V.fN 2))::((V.fA 1),(V.fO 0))::(V.fL 0))) (hd:∀ q∈((V.fA 1),(V.fO 0))::(V.fL 0),q.1≠(V.fA 0)) (M:RpM (V.fS 0) q (V.fA 0) (V.fA 1) V.m) (D:MpD V.w (V.fA 1) (V.fO 0) (V.ft 0)) (hz:(V.fS 0).length≤600) (hi:(V.fv 0).length≤1000) (hc0:(V.fS 0).cps[((q:Nat):Int).toNat]?=some 92) (hc:(V.fS 0).cps[((q:Nat)+1:Int).toNat]?=some 120) (hg:hexGo (V.fS 0) (V.fN 4) (q+2)=some (V.fN 3)) (h6:q+2<(V.fN 3)) (hel:(V.fN 3)≤(V.fS 0).length) (hdg:DigsOk 16 (cut (V.fS 0) (q+2) (V.fN 3))) (hv:dVal 16 (cut (V.fS 0) (q+2) (V.fN 3))<1114112) (ret:∀ h' tk' m' n' tc,Fr V.h₀ V.L h' m'->News V.h₀ V.L h' (((V.fA 0),listOf ((V.fv 0)++[Value.str ⟨#[dVal 16 (cut (V.fS 0) (q+2) (V.fN 3))]⟩ tc]).toArray n')::((V.fA 1),(V.fO 0))::(V.fL 0))->RpM (V.fS 0) (V.fN 3) (V.fA 0) (V.fA 1) m'->(V.fF 0) .cont { V.s with heap:=h',toks:=tk' }),wpAny (model pw_rk0009_01 V.w) (ktrTop V.dp V.un V.gd "replace_escape_codes" sc V.L 469 (.ref 468) [] V.outer) (execs bo (envX "replace_escape_codes" sc V.L 469 (.ref 468) [])) (V.fF 0) V.E V.s:Prop)) (V.fN 0)
@[irreducible] noncomputable def Z24:FrZ:=pickZ Z24P
set_option maxHeartbeats 4000000 in
theorem Z24c:Z24P Z24:=by
 intro b bo sc FD hp C N hd M D hz hi hc0 hc hg h6 hel hdg hv ret
 obtain ⟨_,_,_,_,_,_,_,_,_,ho⟩:=FD
 have e0:sc=_:=fn_scope ho (by k_is)
 subst e0
 have e0:b=_:=fn_body ho (by k_is)
 subst e0
 have e2:bo=_:=Option.some.inj (hp.symm.trans (rfl:repOf _=some _))
 subst e2
 clear hp ho
 obtain ⟨B,F,X,T,hk,hdp,hun⟩:=C
 obtain ⟨⟨t1,m1⟩,⟨t2,m2⟩,⟨t3,m3⟩,m4,m5⟩:=M
 have hz2:(Z24.fS 0).length≤1000000:=by omega
 have bsl:(⟨#[92]⟩:Str) = "\\" := rfl
 have ul:(⟨#[120]⟩:Str) = "x" := rfl
 have u8:inS octS "x" = false:=by decide +kernel
 have cl:=cut_len (x:=(Z24.fS 0)) (i:=(Z24.fN 0)+2) (j:=(Z24.fN 3))
 have cl2:(cut (Z24.fS 0) ((Z24.fN 0)+2) (Z24.fN 3)).length≤640:=by omega
 have sl:=slice_cut (x:=(Z24.fS 0)) (i:=(Z24.fN 0)+2) (j:=(Z24.fN 3)) (by omega) (by omega) (a:=((Z24.fN 0):Int)+2) (b:=((Z24.fN 3):Int)) (by omega) rfl
 k_steps
 ·exact ret _ _ _ _ _ (by k_asm) (by k_asm) ⟨⟨_,(by (repeat (refine (if_neg (by decide)).trans ?_));first | assumption | exact if_pos rfl)⟩,⟨_,(by (repeat (refine (if_neg (by decide)).trans ?_));first | assumption | exact if_pos rfl)⟩,⟨_,(by (repeat (refine (if_neg (by decide)).trans ?_));first | assumption | exact if_pos rfl)⟩,(by (repeat (refine (if_neg (by decide)).trans ?_));first | assumption | exact if_pos rfl),(by (repeat (refine (if_neg (by decide)).trans ?_));first | assumption | exact if_pos rfl)⟩
 all_goals (exfalso;omega)
theorem rep_hex {x:Str} {q c n e r:Nat} {parts mp:Addr} {mpo:Obj} {kvs:List (Str×Value)} {its:List Value} {Q:Flow->Shared->Prop} (FD:FnDef w 469 "replace_escape_codes" "replace_escape_codes" pr b sc (.ref 468)) (hp:repOf b=some bo) (C:Cx 60 w p loose mean mg mb dp un sc outer A₀ base h₀ L m s) (N:News h₀ L s.heap ((parts,listOf its.toArray n)::(mp,mpo)::news)) (hd:∀ q∈(mp,mpo)::news,q.1≠parts)
  (M:RpM x q parts mp m) (D:MpD w mp mpo kvs) (hz:x.length≤600) (hi:its.length≤1000) (hc0:x.cps[((q:Nat):Int).toNat]?=some 92) (hc:x.cps[((q:Nat)+1:Int).toNat]?=some 120) (hg:hexGo x r (q+2)=some e) (h6:q+2<e) (hel:e≤x.length) (hdg:DigsOk 16 (cut x (q+2) e)) (hv:dVal 16 (cut x (q+2) e)<1114112)
  (ret:∀ h' tk' m' n' tc,Fr h₀ L h' m'->News h₀ L h' ((parts,listOf (its++[Value.str ⟨#[dVal 16 (cut x (q+2) e)]⟩ tc]).toArray n')::(mp,mpo)::news)->RpM x e parts mp m'->Q .cont { s with heap:=h',toks:=tk' }) :
  wpAny (model pw_rk0009_01 w) (ktrTop dp un gd "replace_escape_codes" sc L 469 (.ref 468) [] outer) (execs bo (envX "replace_escape_codes" sc L 469 (.ref 468) [])) Q E s:=pickedZ (by with_unfolding_all rfl) Z24c (sfF (sfv (sft (sfO (sfA (sfN (sfS (sfg (sfL (frC w p loose mean mg mb dp un gd Z24.cn Z24.cs Z24.ca Z24.ccd Z24.cll outer A₀ base h₀ L m s E) [news]) [pr]) [x]) [q,c,n,e,r]) [parts,mp]) [mpo]) [kvs]) [its]) [Q]) b bo sc FD hp C N hd M D hz hi hc0 hc hg h6 hel hdg hv ret
end
end
end
theorem NgB61.gB61:True:=trivial
example:True:=by w_top off;trivial
section
open NgM57 NgB61
section
open PySem.NumText
section
variable {news:List (Addr×Obj)} {E:Value->Shared->Prop} {pr:Arguments} {b bo:List Stmt} {sc:Scope}
example:True:=by (k_with "B61" => (fail_if_success (fail_if_success (have:=gB61))));(k_with "eval Name" => k_extra "B61";(k_here;k_dflt (refine' ldM2 ?Y0 ?Y1 ?Y2 ?Y3 ?Y4 ?Y5 ?_;(case Y0=>assumption);(case Y1=>exact rfl);(case Y2=>exact rfl);(case Y3=>exact rfl);(case Y4=>((repeat (refine (if_neg (by decide)).trans ?_));first | assumption | exact if_pos rfl));(case Y5=>decide);k_whole)));(k_with "loadName" => k_extra "B61";(k_here;k_dflt (refine' ldL ?Y0 ?Y1 ?Y2 ?Y3 ?Y4 ?_;(case Y0=>assumption);(case Y1=>exact rfl);(case Y2=>exact rfl);(case Y3=>exact rfl);(case Y4=>((repeat (refine (if_neg (by decide)).trans ?_));first | assumption | exact if_pos rfl));k_whole)));(k_with "subscriptTail Name Name str int" => k_extra "B61";(k_here;k_dflt (refine' tail_strY ?Y0 ?Y1 ?Y2 ?Y3 ?_ ?Y4;(case Y4=>with_unfolding_all rfl);(case Y1=>first | assumption | (rw [Int.toNat_natCast];assumption));(case Y0=>omega);(case Y2=>assumption);(case Y3=>first | assumption | exact rfl);k_whole;intro Y5)));(k_with "call builtin:list.append" => k_extra "B61";(k_here;k_dflt (refine' append_1 ?Y0 ?Y1 ?Y2 ?Y3 ?_;(case Y1=>assumption);(case Y0=>k_asm);(case Y2=>assumption);(case Y3=>assumption);k_whole;intro Y4 Y5 Y6 Y7)));(k_with "compareOp Eq str str" => k_extra "B61";(k_here;k_dflt (refine' eq_no ?Y0 ?_;(case Y0=>assumption);k_whole)));(k_with "compareOp In str str" => k_extra "B61";(k_here;k_dflt (first | (refine' inS_no ?Y0 ?_;(case Y0=>assumption);k_whole) | (refine' inS_yes ?Y0 ?_;(case Y0=>assumption);k_whole))));(k_with "compareOp In str ref" => k_extra "B61";(k_here;k_dflt (first | (refine' mp_in ?Y0 ?Y1 ?Y2 ?Y3 ?_;(case Y0=>assumption);(case Y2=>assumption);(case Y1=>exact .tail _ (.head _));(case Y3=>assumption);k_whole) | (refine' mp_notin ?Y0 ?Y1 ?Y2 ?Y3 ?_;(case Y0=>assumption);(case Y2=>assumption);(case Y1=>exact .tail _ (.head _));(case Y3=>assumption);k_whole))));(k_with "subscriptTail Name Name ref str" => k_extra "B61";(k_here;k_dflt (refine' mp_item ?Y0 ?Y1 ?Y2 ?Y3 ?_ ?Y4;(case Y4=>with_unfolding_all rfl);(case Y0=>assumption);(case Y2=>assumption);(case Y1=>exact .tail _ (.head _));(case Y3=>assumption);k_whole)));(k_with "subscriptTail Name BinOp str int" => k_extra "B61";(k_here;k_dflt (refine' tail_strY ?Y0 ?Y1 ?Y2 ?Y3 ?_ ?Y4;(case Y4=>with_unfolding_all rfl);(case Y0=>omega);(case Y1=>assumption);(case Y2=>assumption);(case Y3=>first | assumption | exact rfl);k_whole;intro Y5)));(k_with "call ref" => k_extra "B61";(k_here;k_dflt (refine' hexend_2 ?Y0 ?Y1 ?Y2 ?Y3 ?Y4 ?_;(case Y0=>exact ⟨by k_asm,by k_asm,by k_asm,by k_asm,by first | exact rfl | assumption,by ((try dsimp only [ktrTop,Around.deeper]);omega),by ((try dsimp only [ktrTop,Around.deeper]);omega)⟩);(case Y1=>k_asm);(case Y4=>assumption);(case Y2=>assumption);(case Y3=>omega);k_whole;intro Y5 Y6 Y7 Y8 Y9)));(k_with "call type:int" => k_extra "B61";(k_here;k_dflt (first | (refine' call_cut16 ?Y0 ?Y1 ?Y2 ?_;(case Y0=>assumption);(case Y1=>assumption);(case Y2=>assumption);k_whole) | (refine' call_cut8 ?Y0 ?Y1 ?Y2 ?_;(case Y0=>assumption);(case Y1=>assumption);(case Y2=>assumption);k_whole))));(k_with "call builtin:chr" => k_extra "B61";(k_here;k_dflt (refine' chr_of_range ?Y0 ?Y1 ?_;(case Y0=>omega);(case Y1=>omega);k_whole)));trivial
noncomputable abbrev JOc (x:Str) (q e:Nat) (parts mp:Addr) (led:List (Addr×Obj)) (n:Nat) (m:Str->Option Value) (ns:List (Addr×Obj)):Prop :=
 ns=led/\RpM x q parts mp m/\∃ r t,m "end" = some (.int ((r:Nat):Int) t)/\octGo x (q+4) n r=some e/\r≤x.length
theorem oct_yes {x:Str} {n p e lim:Nat} (h:octGo x lim n p=some e) (hp:(p:Int)≠(x.length:Int)) (hl:(p:Int)<(lim:Int)):∃ n1 c,n=n1+1/\x.cps[p]?=some c/\(inS octS ⟨#[c]⟩=true->octGo x lim n1 (p+1)=some e)/\(inS octS ⟨#[c]⟩=false->e=p):=by
 cases n with
 | zero=>cases h
 | succ n =>
  unfold octGo at h
  rw [if_neg (by omega)] at h
  cases hc:x.cps[p]? with
  | none=>rw [hc] at h;cases h
  | some c =>
   rw [hc] at h
   refine ⟨n,c,rfl,rfl,fun hi=>?_,fun hi=>?_⟩
   ·have h:(if inS octS ⟨#[c]⟩=true then octGo x lim n (p+1) else some p)=some e:=h
    rw [if_pos hi] at h;exact h
   ·have h:(if inS octS ⟨#[c]⟩=true then octGo x lim n (p+1) else some p)=some e:=h
    rw [hi] at h;exact (Option.some.inj h).symm
theorem oct_no {x:Str} {n p e lim:Nat} (h:octGo x lim n p=some e) (hp:(p:Int)=(x.length:Int)\/¬ (p:Int)<(lim:Int)):e=p:=by
 cases n with
 | zero=>cases h
 | succ n =>
  unfold octGo at h
  rw [if_pos (by omega)] at h
  exact (Option.some.inj h).symm
theorem While_oc {A:Around} {E:Value->Shared->Prop} {Q:Flow->Shared->Prop} {env:Env} {test:Expr} {body:List Stmt} {pos:Pos} {x:Str} {n₀ q r e:Nat} {parts mp:Addr} {t:Tok} (F:Fr h₀ L s.heap m) (N:News h₀ L s.heap news)
  (h0:RpM x q parts mp m) (h4:octGo x (q+4) n₀ r=some e) {ri:Int} (h1:m "end" = some (.int ri t)) (hri:ri=(r:Int)) (h5:r≤x.length)
  (turn:∀ n m₁ news₁ h₁ tk₁,Fr h₀ L h₁ m₁->News h₀ L h₁ news₁->JOc x q e parts mp news n m₁ news₁ ->
   wpAny (model pw_rk0009_01 w) A (isTrue test env (eval test env)) (fun b s₂ =>
    if b=true then wpAny (model pw_rk0009_01 w) A (execs body env) (WhileStep h₀ L s (JOc x q e parts mp news) n) E s₂ else Q .next s₂) E { s with heap:=h₁,toks:=tk₁ })
  (hE:PassesOwn (model pw_rk0009_01 w) A env E:=by passes_own) :
  wpAny (model pw_rk0009_01 w) A (exec (.While test body [] pos) env) Q E s :=
 While_inv (JOc x q e parts mp news) F N ⟨rfl,h0,r,t,hri▸h1,h4,h5⟩ turn hE
theorem oct_step {n n1 q r e tk:Nat} {x:Str} {parts mp:Addr} {g h':Heap} {m2:Str->Option Value} {t:Tok} {led:List (Addr×Obj)} (F:Fr g L h' m2) (N:News g L h' led) (M:RpM x q parts mp m2) (e1:m2 "end" = some (.int ((r:Int)+1) t))
  (en:n=n1+1) (hr:octGo x (q+4) n1 (r+1)=some e) (hq:r<x.length):WhileStep g L s (JOc x q e parts mp led) n .next { s with heap:=h',toks:=tk }:=by
 subst en
 exact WhileStep.intro F N (Nat.lt_succ_self _) ⟨rfl,M,r+1,t,e1,hr,hq⟩
example:True:=by (k_with "exec While" => k_extra "B61";(k_here;k_dflt (refine' While_oc ?Y0 ?Y1 ?Y2 ?Y3 ?Y4 ?Y5 ?Y6 ?_ ?Y7;(case Y7=>assumption);(case Y0=>k_asm);(case Y1=>k_asm);(case Y2=>exact ⟨⟨_,(by (repeat (refine (if_neg (by decide)).trans ?_));first | assumption | exact if_pos rfl)⟩,⟨_,(by (repeat (refine (if_neg (by decide)).trans ?_));first | assumption | exact if_pos rfl)⟩,⟨_,(by (repeat (refine (if_neg (by decide)).trans ?_));first | assumption | exact if_pos rfl)⟩,(by (repeat (refine (if_neg (by decide)).trans ?_));first | assumption | exact if_pos rfl),(by (repeat (refine (if_neg (by decide)).trans ?_));first | assumption | exact if_pos rfl)⟩);(case Y3=>assumption);(case Y4=>exact if_pos rfl);(case Y5=>omega);(case Y6=>omega);k_whole);intro Y8 Y9 Y10 Y11 Y12 Y13 Y14 Y15;obtain ⟨Y16,⟨⟨Y17,Y18⟩,⟨Y19,Y20⟩,⟨Y21,Y22⟩,Y23,Y24⟩,Y25,Y26,Y27,Y28,Y29⟩:=Y15;subst Y16;k_sweep));(k_with "subscriptTail Name Name str int" => k_extra "B61";(k_here;rename octGo _ _ _ _=some _=>ho';rename (_:Int)≠_=>hn';refine e2a4 (oct_yes ho' hn' (by omega)) fun n1' c' en' ec' y1' y2'=>?_;k_dflt (refine' tail_str ?Y0 ?Y1 ?Y2 ?_ ?Y3;(case Y3=>with_unfolding_all rfl);(case Y1=>(rw [Int.toNat_natCast];assumption));(case Y0=>omega);(case Y2=>assumption);k_whole;intro Y4)));(k_with "compareOp In str str" => k_extra "B61";(k_here;k_dflt (refine PyProof.Rows.in_str ?_)));(k_with "compareOp In str str" => k_extra "B61";(k_here;k_dflt (refine' inS_yes ?Y0 ?_;(case Y0=>assumption);k_whole)));trivial
noncomputable def Z6P:FrZ->Prop:=fun V=>(fun (q:Nat)=>(∀ (b:List Stmt) (bo:List Stmt) (sc:Scope) (FD:FnDef V.w 469 "replace_escape_codes" "replace_escape_codes" (V.fg 0) b sc (.ref 468)) (hp:repOf b=some bo) (C:Cx 60 V.w V.p V.loose V.mean V.mg V.mb V.dp V.un sc V.outer V.A₀ V.base V.h₀ V.L V.m V.s) (N:News V.h₀ V.L V.s.heap (((V.fA 0),listOf (V.fv 0).toArray (V.fN 2))::((V.fA 1),(V.fO 0))::(V.fL 0))) (hd:∀ q∈((V.fA 1),(V.fO 0))::(V.fL 0),q.1≠(V.fA 0)) (M:RpM (V.fS 0) q (V.fA 0) (V.fA 1) V.m) (D:MpD V.w (V.fA 1) (V.fO 0) (V.ft 0)) (hz:(V.fS 0).length≤600) (hi:(V.fv 0).length≤1000) (hc0:(V.fS 0).cps[((q:Nat):Int).toNat]?=some 92) (hc:(V.fS 0).cps[((q:Nat)+1:Int).toNat]?=some (V.fN 1)) (h8:inS octS ⟨#[(V.fN 1)]⟩=true) (hg:octGo (V.fS 0) (q+4) (V.fN 4) (q+1)=some (V.fN 3)) (h6:q+1≤(V.fN 3)) (hel:(V.fN 3)≤(V.fS 0).length) (hdg:DigsOk 8 (cut (V.fS 0) (q+1) (V.fN 3))) (hv:dVal 8 (cut (V.fS 0) (q+1) (V.fN 3))<1114112) (hlt:q+1<(V.fS 0).length) (hE:PassesOwn (model pw_rk0009_01 V.w) (ktrTop V.dp V.un V.gd "replace_escape_codes" sc V.L 469 (.ref 468) [] V.outer) (envX "replace_escape_codes" sc V.L 469 (.ref 468) []) V.E) (ret:∀ h' tk' m' n' tc,Fr V.h₀ V.L h' m'->News V.h₀ V.L h' (((V.fA 0),listOf ((V.fv 0)++[Value.str ⟨#[dVal 8 (cut (V.fS 0) (q+1) (V.fN 3))]⟩ tc]).toArray n')::((V.fA 1),(V.fO 0))::(V.fL 0))->RpM (V.fS 0) (V.fN 3) (V.fA 0) (V.fA 1) m'->(V.fF 0) .cont { V.s with heap:=h',toks:=tk' }),wpAny (model pw_rk0009_01 V.w) (ktrTop V.dp V.un V.gd "replace_escape_codes" sc V.L 469 (.ref 468) [] V.outer) (execs bo (envX "replace_escape_codes" sc V.L 469 (.ref 468) [])) (V.fF 0) V.E V.s:Prop)) (V.fN 0)
@[irreducible] noncomputable def Z6:FrZ:=pickZ Z6P
set_option maxHeartbeats 4000000 in
theorem Z6c:Z6P Z6:=by
 intro b bo sc FD hp C N hd M D hz hi hc0 hc h8 hg h6 hel hdg hv hlt hE ret
 obtain ⟨_,_,_,_,_,_,_,_,_,ho⟩:=FD
 have e0:sc=_:=fn_scope ho (by k_is)
 subst e0
 have e0:b=_:=fn_body ho (by k_is)
 subst e0
 have e2:bo=_:=Option.some.inj (hp.symm.trans (rfl:repOf _=some _))
 subst e2
 clear hp ho
 obtain ⟨B,F,X,T,hk,hdp,hun⟩:=C
 obtain ⟨⟨t1,m1⟩,⟨t2,m2⟩,⟨t3,m3⟩,m4,m5⟩:=M
 have hz2:(Z6.fS 0).length≤1000000:=by omega
 have bsl:(⟨#[92]⟩:Str) = "\\" := rfl
 have cl:=cut_len (x:=(Z6.fS 0)) (i:=(Z6.fN 0)+1) (j:=(Z6.fN 3))
 have cl2:(cut (Z6.fS 0) ((Z6.fN 0)+1) (Z6.fN 3)).length≤640:=by omega
 have sl:=slice_cut (x:=(Z6.fS 0)) (i:=(Z6.fN 0)+1) (j:=(Z6.fN 3)) (by omega) (by omega) (a:=((Z6.fN 0):Int)+1) (b:=((Z6.fN 3):Int)) (by omega) rfl
 k_steps
 ·rename inS _ _=false->_=>y2
  rename List.isEmpty _=true=>hb
  have e9:=y2 (by unfold inS;rw [hb];rfl)
  subst e9
  k_steps
  exact ret _ _ _ _ _ (by k_asm) (by k_asm) ⟨⟨_,(by (repeat (refine (if_neg (by decide)).trans ?_));first | assumption | exact if_pos rfl)⟩,⟨_,(by (repeat (refine (if_neg (by decide)).trans ?_));first | assumption | exact if_pos rfl)⟩,⟨_,(by (repeat (refine (if_neg (by decide)).trans ?_));first | assumption | exact if_pos rfl)⟩,(by (repeat (refine (if_neg (by decide)).trans ?_));first | assumption | exact if_pos rfl),(by (repeat (refine (if_neg (by decide)).trans ?_));first | assumption | exact if_pos rfl)⟩
 ·rename inS _ _=true->_=>y1
  rename List.isEmpty _=false=>hb
  rename (_:Int)≠_=>hne
  exact oct_step (by k_asm) (by k_asm) ⟨⟨_,(by (repeat (refine (if_neg (by decide)).trans ?_));first | assumption | exact if_pos rfl)⟩,⟨_,(by (repeat (refine (if_neg (by decide)).trans ?_));first | assumption | exact if_pos rfl)⟩,⟨_,(by (repeat (refine (if_neg (by decide)).trans ?_));first | assumption | exact if_pos rfl)⟩,(by (repeat (refine (if_neg (by decide)).trans ?_));first | assumption | exact if_pos rfl),(by (repeat (refine (if_neg (by decide)).trans ?_));first | assumption | exact if_pos rfl)⟩ (by (repeat (refine (if_neg (by decide)).trans ?_));first | assumption | exact if_pos rfl) (by assumption) (y1 (by unfold inS;rw [hb];rfl)) (by omega)
 ·have e9:=oct_no (by assumption) (.inr (by omega))
  subst e9
  k_steps
  exact ret _ _ _ _ _ (by k_asm) (by k_asm) ⟨⟨_,(by (repeat (refine (if_neg (by decide)).trans ?_));first | assumption | exact if_pos rfl)⟩,⟨_,(by (repeat (refine (if_neg (by decide)).trans ?_));first | assumption | exact if_pos rfl)⟩,⟨_,(by (repeat (refine (if_neg (by decide)).trans ?_));first | assumption | exact if_pos rfl)⟩,(by (repeat (refine (if_neg (by decide)).trans ?_));first | assumption | exact if_pos rfl),(by (repeat (refine (if_neg (by decide)).trans ?_));first | assumption | exact if_pos rfl)⟩
 ·have e9:=oct_no (by assumption) (.inl (by assumption))
  subst e9
  k_steps
  exact ret _ _ _ _ _ (by k_asm) (by k_asm) ⟨⟨_,(by (repeat (refine (if_neg (by decide)).trans ?_));first | assumption | exact if_pos rfl)⟩,⟨_,(by (repeat (refine (if_neg (by decide)).trans ?_));first | assumption | exact if_pos rfl)⟩,⟨_,(by (repeat (refine (if_neg (by decide)).trans ?_));first | assumption | exact if_pos rfl)⟩,(by (repeat (refine (if_neg (by decide)).trans ?_));first | assumption | exact if_pos rfl),(by (repeat (refine (if_neg (by decide)).trans ?_));first | assumption | exact if_pos rfl)⟩
 ·exfalso;omega
theorem rep_oct {x:Str} {q c n e r:Nat} {parts mp:Addr} {mpo:Obj} {kvs:List (Str×Value)} {its:List Value} {Q:Flow->Shared->Prop} (FD:FnDef w 469 "replace_escape_codes" "replace_escape_codes" pr b sc (.ref 468)) (hp:repOf b=some bo) (C:Cx 60 w p loose mean mg mb dp un sc outer A₀ base h₀ L m s) (N:News h₀ L s.heap ((parts,listOf its.toArray n)::(mp,mpo)::news)) (hd:∀ q∈(mp,mpo)::news,q.1≠parts)
  (M:RpM x q parts mp m) (D:MpD w mp mpo kvs) (hz:x.length≤600) (hi:its.length≤1000) (hc0:x.cps[((q:Nat):Int).toNat]?=some 92) (hc:x.cps[((q:Nat)+1:Int).toNat]?=some c) (h8:inS octS ⟨#[c]⟩=true) (hg:octGo x (q+4) r (q+1)=some e) (h6:q+1≤e) (hel:e≤x.length) (hdg:DigsOk 8 (cut x (q+1) e)) (hv:dVal 8 (cut x (q+1) e)<1114112) (hlt:q+1<x.length) (hE:PassesOwn (model pw_rk0009_01 w) (ktrTop dp un gd "replace_escape_codes" sc L 469 (.ref 468) [] outer) (envX "replace_escape_codes" sc L 469 (.ref 468) []) E)
  (ret:∀ h' tk' m' n' tc,Fr h₀ L h' m'->News h₀ L h' ((parts,listOf (its++[Value.str ⟨#[dVal 8 (cut x (q+1) e)]⟩ tc]).toArray n')::(mp,mpo)::news)->RpM x e parts mp m'->Q .cont { s with heap:=h',toks:=tk' }) :
  wpAny (model pw_rk0009_01 w) (ktrTop dp un gd "replace_escape_codes" sc L 469 (.ref 468) [] outer) (execs bo (envX "replace_escape_codes" sc L 469 (.ref 468) [])) Q E s:=pickedZ (by with_unfolding_all rfl) Z6c (sfF (sfv (sft (sfO (sfA (sfN (sfS (sfg (sfL (frC w p loose mean mg mb dp un gd Z6.cn Z6.cs Z6.ca Z6.ccd Z6.cll outer A₀ base h₀ L m s E) [news]) [pr]) [x]) [q,c,n,e,r]) [parts,mp]) [mpo]) [kvs]) [its]) [Q]) b bo sc FD hp C N hd M D hz hi hc0 hc h8 hg h6 hel hdg hv hlt hE ret
end
end
end
example:True:=by w_top off;trivial
section
section
open PySem.NumText
noncomputable abbrev JRp (x:Str) (parts mp:Addr) (mpo:Obj) (news:List (Addr×Obj)) (fin:List Str) (n:Nat) (m:Str->Option Value) (ns:List (Addr×Obj)):Prop :=
 ∃ q k rem,∃ l:List (Str×Tok),ns=(parts,listOf (strValues l).toArray k)::(mp,mpo)::news/\RpM x q parts mp m/\l.map (·.1)++rem=fin/\RepAll x n q rem/\l.length+n≤900
theorem rep_lt {x:Str} {n q:Nat} {rem:List Str} (h:RepAll x n q rem) (hq:(q:Int)≠(x.length:Int)):∃ n' p' y r,n=n'+1/\rem=y::r/\Rep x q p' y/\q<x.length/\RepAll x n' p' r:=by
 cases h with
 | done=>exact absurd rfl hq
 | step h1 h2 h3=>exact ⟨_,_,_,_,rfl,rfl,h1,h2,h3⟩
theorem rep_eq {x:Str} {n q:Nat} {rem:List Str} (h:RepAll x n q rem) (hq:(q:Int)=(x.length:Int)):rem=[]:=by
 cases h with
 | done=>rfl
 | step h1 h2 h3=>omega
theorem short_no {sg:Str} {v:Int} (h:(sg,v)∈tab_short):sg ≠ "x" /\ inS octS sg=false:=(by decide +kernel:∀ q∈tab_short,q.1 ≠ "x" /\ inS octS q.1=false) _ h
theorem strValues_snoc (l:List (Str×Tok)) (y:Str) (t:Tok):strValues l++[Value.str y t]=strValues (l++[(y,t)]):=by unfold strValues;rw [List.map_append];rfl
theorem strValues_len (l:List (Str×Tok)):(strValues l).length=l.length:=by unfold strValues;rw [List.length_map]
section
variable {s0:Shared} {news:List (Addr×Obj)} {E:Value->Shared->Prop} {pr:Arguments} {b bo:List Stmt} {sc:Scope}
theorem wstep {x:Str} {parts mp:Addr} {mpo:Obj} {fin r:List Str} {n n' k tk q:Nat} {l:List (Str×Tok)} {y:Str} {tc:Tok} {h':Heap} {m':Str->Option Value} {f:Flow} (hf:f=.next\/f=.cont) (en:n=n'+1) (F:Fr h₀ L h' m') (N:News h₀ L h' ((parts,listOf (strValues l++[Value.str y tc]).toArray k)::(mp,mpo)::news))
  (M:RpM x q parts mp m') (e:l.map (·.1)++y::r=fin) (RA:RepAll x n' q r) (hi:l.length+n≤900):WStep h₀ L s0 (JRp x parts mp mpo news fin) n f { s0 with heap:=h',toks:=tk }:=by
 subst en
 rw [strValues_snoc] at N
 exact ⟨hf,h',tk,m',_,n',rfl,F,N,Nat.lt_succ_self _,q,k,r,l++[(y,tc)],rfl,M,by rw [List.map_append,List.append_assoc];exact e,RA,by rw [List.length_append,List.length_singleton];omega⟩
noncomputable def Z76P:FrZ->Prop:=fun V=>(fun (q:Nat)=>(∀ (rem:List Str) (l:List (Str×Tok)) (FD:FnDef V.w 469 "replace_escape_codes" "replace_escape_codes" (V.fg 0) (V.fB 0) (V.fs 0) (.ref 468)) (hp:repOf (V.fB 0)=some (V.fB 1)) (C:Cx 60 V.w V.p V.loose V.mean V.mg V.mb V.dp V.un (V.fs 0) V.outer V.A₀ V.base V.h₀ V.L V.m { (V.fZ 0) with heap:=(V.fh 0),toks:=(V.fN 3) }) (N:News V.h₀ V.L (V.fh 0) (((V.fA 0),listOf (strValues l).toArray (V.fN 1))::((V.fA 1),(V.fO 0))::(V.fL 0))) (hd:∀ q∈((V.fA 1),(V.fO 0))::(V.fL 0),q.1≠(V.fA 0)) (M:RpM (V.fS 0) q (V.fA 0) (V.fA 1) V.m) (D:MpD V.w (V.fA 1) (V.fO 0) (V.ft 0)) (hz:(V.fS 0).length≤600) (e:l.map (·.1)++rem=(V.fy 0)) (RA:RepAll (V.fS 0) (V.fN 2) q rem) (hi:l.length+(V.fN 2)≤900) (hq:(q:Int)≠((V.fS 0).length:Int)) (hE:PassesOwn (model pw_rk0009_01 V.w) (ktrTop V.dp V.un V.gd "replace_escape_codes" (V.fs 0) V.L 469 (.ref 468) [] V.outer) (envX "replace_escape_codes" (V.fs 0) V.L 469 (.ref 468) []) V.E),wpAny (model pw_rk0009_01 V.w) (ktrTop V.dp V.un V.gd "replace_escape_codes" (V.fs 0) V.L 469 (.ref 468) [] V.outer) (execs (V.fB 1) (envX "replace_escape_codes" (V.fs 0) V.L 469 (.ref 468) [])) (WStep V.h₀ V.L (V.fZ 0) (JRp (V.fS 0) (V.fA 0) (V.fA 1) (V.fO 0) (V.fL 0) (V.fy 0)) (V.fN 2)) V.E { (V.fZ 0) with heap:=(V.fh 0),toks:=(V.fN 3) } : Prop)) (V.fN 0)
@[irreducible] noncomputable def Z76:FrZ:=pickZ Z76P
theorem Z76c:Z76P Z76:=by
 intro rem l FD hp C N hd M D hz e RA hi hq hE
 refine e4a5 (rep_lt RA hq) fun n' p' y r en Q36=>?_;obtain rfl:=Q36;intro R hlt RA'
 have hi2:(strValues l).length≤1000:=by rw [strValues_len];omega
 cases R with
 | lit hc hne=>exact rep_lit FD hp C N hd M (by omega) hi2 hc hne fun h' tk' m' n'' tc F' N' M'=>wstep (.inl rfl) en F' N' M' e RA' hi
 | esc hc0 hc hsg hm =>
  refine e1a1 (D.get _ _ hm) fun tv hv=>?_
  have hl2:(Z76.fN 0)+1<(Z76.fS 0).length:=(Array.getElem?_eq_some_iff.mp hc).1
  exact rep_esc FD hp C N hd M D (by omega) hi2 hc0 hc hsg hv (short_no hm).1 (short_no hm).2 hl2 fun h' tk' m' n'' tc F' N' M'=>wstep (.inr rfl) en F' N' M' e RA' hi
 | oct hc0 hc h8 hg h6 hel hdg hv =>
  have hl2:(Z76.fN 0)+1<(Z76.fS 0).length:=(Array.getElem?_eq_some_iff.mp hc).1
  exact rep_oct (e:=p') FD hp C N hd M D hz hi2 hc0 hc h8 hg h6 hel hdg hv hl2 hE fun h' tk' m' n'' tc F' N' M'=>wstep (.inr rfl) en F' N' M' e RA' hi
 | hex hc0 hc hg h6 hel hdg hv=>exact rep_hex (c:=0) FD hp C N hd M D hz hi2 hc0 hc hg h6 hel hdg hv fun h' tk' m' n'' tc F' N' M'=>wstep (.inr rfl) en F' N' M' e RA' hi
 | uni hc0 hc hg h6 hel hdg hv=>exact rep_uni (c:=0) FD hp C N hd M D hz hi2 hc0 hc hg h6 hel hdg hv fun h' tk' m' n'' tc F' N' M'=>wstep (.inr rfl) en F' N' M' e RA' hi
theorem rep_any {x:Str} {q k n:Nat} {h1:Heap} {tk1:Nat} {parts mp:Addr} {mpo:Obj} {kvs:List (Str×Value)} {fin rem:List Str} {l:List (Str×Tok)} (FD:FnDef w 469 "replace_escape_codes" "replace_escape_codes" pr b sc (.ref 468)) (hp:repOf b=some bo) (C:Cx 60 w p loose mean mg mb dp un sc outer A₀ base h₀ L m { s0 with heap:=h1,toks:=tk1 }) (N:News h₀ L h1 ((parts,listOf (strValues l).toArray k)::(mp,mpo)::news)) (hd:∀ q∈(mp,mpo)::news,q.1≠parts)
  (M:RpM x q parts mp m) (D:MpD w mp mpo kvs) (hz:x.length≤600) (e:l.map (·.1)++rem=fin) (RA:RepAll x n q rem) (hi:l.length+n≤900) (hq:(q:Int)≠(x.length:Int))
  (hE:PassesOwn (model pw_rk0009_01 w) (ktrTop dp un gd "replace_escape_codes" sc L 469 (.ref 468) [] outer) (envX "replace_escape_codes" sc L 469 (.ref 468) []) E) :
  wpAny (model pw_rk0009_01 w) (ktrTop dp un gd "replace_escape_codes" sc L 469 (.ref 468) [] outer) (execs bo (envX "replace_escape_codes" sc L 469 (.ref 468) [])) (WStep h₀ L s0 (JRp x parts mp mpo news fin) n) E { s0 with heap:=h1,toks:=tk1 }:=pickedZ (by with_unfolding_all rfl) Z76c (sfy (sft (sfO (sfA (sfh (sfN (sfS (sfs (sfB (sfg (sfL (sfZ (frC w p loose mean mg mb dp un gd Z76.cn Z76.cs Z76.ca Z76.ccd Z76.cll outer A₀ base h₀ L m Z76.s E) [s0]) [news]) [pr]) [b,bo]) [sc]) [x]) [q,k,n,tk1]) [h1]) [parts,mp]) [mpo]) [kvs]) [fin]) rem l FD hp C N hd M D hz e RA hi hq hE
end
end
end
theorem NgB63.gB63:True:=trivial
example:True:=by w_top off;trivial
section
open NgB63
section
open PySem.NumText
section
variable {s0:Shared} {news:List (Addr×Obj)} {Q E:Value->Shared->Prop}
theorem While_rp {A:Around} {E:Value->Shared->Prop} {Q:Flow->Shared->Prop} {env:Env} {test:Expr} {body:List Stmt} {pos:Pos} {x:Str} {n₀ k:Nat} {parts mp:Addr} {mpo:Obj} {fin:List Str} {n1 n2 n3:Tok} (F:Fr h₀ L s.heap m) (N:News h₀ L s.heap ((parts,listOf #[] k)::(mp,mpo)::news))
  (a1:m "pos" = some (.int 0 n1)) (a2:m "txt" = some (.str x n2)) (a3:m "endpos" = some (.int (x.length:Int) n3)) (a4:m "parts" = some (.ref parts)) (a5:m "mp" = some (.ref mp)) (RA:RepAll x n₀ 0 fin) (hn:n₀≤900)
  (turn:∀ n m₁ news₁ h₁ tk₁,Fr h₀ L h₁ m₁->News h₀ L h₁ news₁->JRp x parts mp mpo news fin n m₁ news₁ ->
   wpAny (model pw_rk0009_01 w) A (isTrue test env (eval test env)) (fun b s₂ =>
    if b=true then wpAny (model pw_rk0009_01 w) A (execs body env) (WStep h₀ L s (JRp x parts mp mpo news fin) n) E s₂ else Q .next s₂) E { s with heap:=h₁,toks:=tk₁ })
  (hE:PassesOwn (model pw_rk0009_01 w) A env E:=by passes_own) :
  wpAny (model pw_rk0009_01 w) A (exec (.While test body [] pos) env) Q E s :=
 While_invC (JRp x parts mp mpo news fin) F N ⟨0,k,fin,[],rfl,⟨⟨n1,a1⟩,⟨n2,a2⟩,⟨n3,a3⟩,a4,a5⟩,rfl,RA,by simpa using hn⟩ turn hE
noncomputable abbrev mpKv (t1 t2 t3 t4 t5 t6 t7 t8 t9 t10 t11 t12:Tok):List (Str×Value):=[("a",Value.str "\x07" t1),("b",Value.str "\x08" t2),("f",Value.str "\x0c" t3),("n",Value.str "\n" t4),("r",Value.str "\r" t5),("t",Value.str "\t" t6),("v",Value.str "\x0b" t7),("e",Value.str "\x1b" t8),("\\",Value.str "\\" t9),("\"",Value.str "\"" t10),("'",Value.str "'" t11),("?",Value.str "?" t12)]
theorem val_yes {a k:Str} {y z:Str} {t:Tok} {r:List (Str×Value)} (h:a=k) (e:y=z):∃ t',valueAt ((a,.str y t)::r) k=some (.str z t'):=by
 subst e
 unfold valueAt
 rw [List.find?_cons_of_pos (by simpa using h)]
 exact ⟨_,rfl⟩
theorem val_no {a k:Str} {v:Value} {y:Str} {r:List (Str×Value)} (h:a≠k) (q:∃ t,valueAt r k=some (.str y t)):∃ t,valueAt ((a,v)::r) k=some (.str y t):=by
 unfold valueAt
 rw [List.find?_cons_of_neg (by simpa using h)]
 exact q
theorem val_none {a k:Str} {v:Value} {r:List (Str×Value)} (h:a≠k) (q:valueAt r k=none):valueAt ((a,v)::r) k=none:=by
 unfold valueAt
 rw [List.find?_cons_of_neg (by simpa using h)]
 exact q
noncomputable def Z5P:FrZ->Prop:=fun V=>∀ (sg:Str) (v:Int) (h:(sg,v)∈tab_short),∃ t,valueAt (mpKv (V.fT 0) (V.fT 1) (V.fT 2) (V.fT 3) (V.fT 4) (V.fT 5) (V.fT 6) (V.fT 7) (V.fT 8) (V.fT 9) (V.fT 10) (V.fT 11)) sg=some (.str ⟨#[v.toNat]⟩ t)
@[irreducible] noncomputable def Z5:FrZ:=pickZ Z5P
theorem Z5c:Z5P Z5:=by
 intro sg v h
 let P:Str×Int->Prop:=fun q=>∃ t,valueAt (mpKv (Z5.fT 0) (Z5.fT 1) (Z5.fT 2) (Z5.fT 3) (Z5.fT 4) (Z5.fT 5) (Z5.fT 6) (Z5.fT 7) (Z5.fT 8) (Z5.fT 9) (Z5.fT 10) (Z5.fT 11)) q.1=some (.str ⟨#[q.2.toNat]⟩ t)
 exact (show ∀ q∈tab_short,P q from fc (P:=P) ⟨(Z5.fT 0),by kernel_rfl⟩ (fc (P:=P) ⟨(Z5.fT 1),by kernel_rfl⟩ (fc (P:=P) ⟨(Z5.fT 2),by kernel_rfl⟩ (fc (P:=P) ⟨(Z5.fT 3),by kernel_rfl⟩ (fc (P:=P) ⟨(Z5.fT 4),by kernel_rfl⟩ (fc (P:=P) ⟨(Z5.fT 5),by kernel_rfl⟩ (fc (P:=P) ⟨(Z5.fT 6),by kernel_rfl⟩ (fc (P:=P) ⟨(Z5.fT 7),by kernel_rfl⟩ (fc (P:=P) ⟨(Z5.fT 8),by kernel_rfl⟩ (fc (P:=P) ⟨(Z5.fT 9),by kernel_rfl⟩ (fc (P:=P) ⟨(Z5.fT 10),by kernel_rfl⟩ (fc (P:=P) ⟨(Z5.fT 11),by kernel_rfl⟩ (List.forall_mem_nil _))))))))))))) (sg,v) h
theorem mp_get (t1 t2 t3 t4 t5 t6 t7 t8 t9 t10 t11 t12:Tok) (sg:Str) (v:Int) (h:(sg,v)∈tab_short):∃ t,valueAt (mpKv t1 t2 t3 t4 t5 t6 t7 t8 t9 t10 t11 t12) sg=some (.str ⟨#[v.toNat]⟩ t):=pickedZ (by with_unfolding_all rfl) Z5c (sfT (frZ) [t1,t2,t3,t4,t5,t6,t7,t8,t9,t10,t11,t12]) sg v h
theorem mp_none (t1 t2 t3 t4 t5 t6 t7 t8 t9 t10 t11 t12:Tok):valueAt (mpKv t1 t2 t3 t4 t5 t6 t7 t8 t9 t10 t11 t12) "u" = none:=by
 iterate 12 refine val_none (by decide +kernel) ?_
 rfl
theorem mpD_ex {mp:Addr} {o:Obj} {k1 k2 k3 k4 k5 k6 k7 k8 k9 k10 k11 k12 t1 t2 t3 t4 t5 t6 t7 t8 t9 t10 t11 t12:Tok} (d:o.IsDictOf (strKind pw_rk0009_01 w) (strPairs [(.str "a" k1,.str "\x07" t1),(.str "b" k2,.str "\x08" t2),(.str "f" k3,.str "\x0c" t3),(.str "n" k4,.str "\n" t4),(.str "r" k5,.str "\r" t5),(.str "t" k6,.str "\t" t6),(.str "v" k7,.str "\x0b" t7),(.str "e" k8,.str "\x1b" t8),(.str "\\" k9,.str "\\" t9),(.str "\"" k10,.str "\"" t10),(.str "'" k11,.str "'" t11),(.str "?" k12,.str "?" t12)])) (lo:(mp==sysModules)=false):∃ kvs,MpD w mp o kvs:=⟨mpKv t1 t2 t3 t4 t5 t6 t7 t8 t9 t10 t11 t12,d,lo,mp_get _ _ _ _ _ _ _ _ _ _ _ _,mp_none _ _ _ _ _ _ _ _ _ _ _ _⟩
theorem lt_ne_cons {a P:Addr} {o:Obj} {news:List (Addr×Obj)} (h1:∀ x∈news,x.1<P) (h2:a<P):∀ q∈(a,o)::news,q.1≠P:=fun q hq=>by
 rcases List.mem_cons.mp hq with rfl | h
 ·exact Nat.ne_of_lt h2
 ·exact Nat.ne_of_lt (h1 q h)
theorem joinK {A:Around} {Q:Value->Shared->Prop} {l:List (Str×Tok)} {D:Addr} {k:Nat} {rest:List (Addr×Obj)} {t:Tok} (N:News h₀ L s.heap ((D,listOf (strValues l).toArray k)::rest)) (hl:l.length≤900) (h1:∀ y∈l.map (·.1),y.length≤1)
  (h:∀ t' k,Q (.str (Txt.join "" (l.map (·.1))) t') { s with toks:=k }):wpAny (model pw_rk0009_01 w) A (call (.builtin "str.join") [.str "" t,.ref D]) Q E s:=by
 refine SC.join ⟨_,(N _ (.head _)).1,rfl,_,rfl⟩ rfl ?_ h
 unfold JoinOk
 rw [PySem.StrLaws.joinFits h1 (by rw [List.length_map,show ("" : Str).length=0 from rfl];omega)]
 rfl
example:True:=by (k_with "B63" => (fail_if_success (fail_if_success (have:=gB63))));(k_with "exec While" => k_extra "B63";(k_here;k_dflt (refine' While_rp ?Y0 ?Y1 ?Y2 ?Y3 ?Y4 ?Y5 ?Y6 ?Y7 ?Y8 ?_;(case Y0=>assumption);(case Y1=>assumption);(case Y2=>((repeat (refine (if_neg (by decide)).trans ?_));first | assumption | exact if_pos rfl | exact rfl));(case Y3=>((repeat (refine (if_neg (by decide)).trans ?_));first | assumption | exact if_pos rfl | exact rfl));(case Y4=>((repeat (refine (if_neg (by decide)).trans ?_));first | assumption | exact if_pos rfl | exact rfl));(case Y5=>((repeat (refine (if_neg (by decide)).trans ?_));first | assumption | exact if_pos rfl | exact rfl));(case Y6=>((repeat (refine (if_neg (by decide)).trans ?_));first | assumption | exact if_pos rfl | exact rfl));(case Y7=>assumption);(case Y8=>assumption);k_whole);(refine e1a1 (mpD_ex (by assumption) (by assumption)) fun kvs' D'=>?_);((rename Obj.IsDictOf _ _ _=>hzz);clear hzz);intro Y9 Y10 Y11 Y12 Y13 Y14 Y15 Y16;refine e4a5 Y16 fun q' k' rem' l' e' M' ef' RA' hi'=>?_;clear Y16;subst e';have M2':=M';obtain ⟨⟨Y17,Y18⟩,⟨Y19,Y20⟩,⟨Y21,Y22⟩,Y23,Y24⟩:=M2';k_sweep));(k_with "eval Name" => k_extra "B63";(k_here;k_dflt (refine' ldM2 ?Y0 ?Y1 ?Y2 ?Y3 ?Y4 ?Y5 ?_;(case Y0=>assumption);(case Y1=>exact rfl);(case Y2=>exact rfl);(case Y3=>exact rfl);(case Y4=>((repeat (refine (if_neg (by decide)).trans ?_));first | assumption | exact if_pos rfl));(case Y5=>decide);k_whole)));(k_with "execs cons" => k_extra "B63";(k_here;first | k_gentoks | ((with_reducible refine wpAny_execs_cons ?_);(try dsimp only))));(k_with "call builtin:len" => k_extra "B63";(k_here;k_dflt (refine' len_strK ?Y0 ?_;(case Y0=>omega);k_whole;intro Y1 Y2)));trivial
theorem join_end {A:Around} {Q:Value->Shared->Prop} {x:Str} {n q k:Nat} {fin rem:List Str} {l:List (Str×Tok)} {D:Addr} {rest:List (Addr×Obj)} {t:Tok} (N:News h₀ L s.heap ((D,listOf (strValues l).toArray k)::rest)) (ef:l.map (·.1)++rem=fin) (RA:RepAll x n q rem) (hq:(q:Int)=(x.length:Int)) (hi:l.length+n≤900) (h1:∀ y∈fin,y.length≤1)
  (h:∀ t' k,Q (.str (Txt.join "" fin) t') { s with toks:=k }):wpAny (model pw_rk0009_01 w) A (call (.builtin "str.join") [.str "" t,.ref D]) Q E s:=by
 obtain rfl:=rep_eq RA hq
 rw [List.append_nil] at ef
 subst ef
 exact joinK N (by omega) h1 h
example:True:=by (k_with "call builtin:str.join" => k_extra "B63";(k_here;k_dflt (refine' join_end ?Y0 ?Y1 ?Y2 ?Y3 ?Y4 ?Y5 ?_;(case Y0=>assumption);(case Y1=>assumption);(case Y2=>assumption);(case Y3=>assumption);(case Y4=>assumption);(case Y5=>assumption);k_whole;intro Y6 Y7)));trivial
noncomputable def Z4P:FrZ->Prop:=fun V=>∀ (news:List (Addr×Obj)) (Q:Value->Shared->Prop) (x:Str) (n:Nat) (fin:List Str) (t1:Tok) (C:Cx 90 V.w V.p V.loose V.mean V.mg V.mb V.dp V.un V.cs V.outer V.A₀ V.base V.h₀ V.L V.m V.s) (N:News V.h₀ V.L V.s.heap news) (hz:x.length≤600) (RA:RepAll x n 0 fin) (hn:n≤900) (h1:∀ y∈fin,y.length≤1) (ret:∀ h' tk' u,Fr V.h₀ V.L h' V.m->News V.h₀ V.L h' news->Q (.str (Txt.join "" fin) u) { V.s with heap:=h',toks:=tk' }),wpAny (model pw_rk0009_01 V.w) (ktrTop V.dp V.un V.gd V.cn V.cs V.L V.ca V.ccd V.cll V.outer) (call (.ref 469) [.str x t1]) Q V.E V.s
@[irreducible] noncomputable def Z4:FrZ:=pickZ Z4P
set_option maxHeartbeats 4000000 in
theorem Z4c:Z4P Z4:=by
 intro news Q x n fin t1 C N hz RA hn h1 ret
 obtain ⟨B,F,X,T,hk,hdp,hun⟩:=C
 refine wpAny_call ?_
 k_dflt ktr_enter
 iterate 72 (first | (k_unfold;(try dsimp only)) | (k_end;wrow_close) | walk1 | (dsimp only;walk1) | (leave1;try dsimp only))
 split
 ·(try dsimp only)
  k_dflt (refine' rep_any ?FD ?hp ?C ?N ?hd ?M ?D ?hz ?e ?RA ?hi ?hq ?hE)
  (case D=>with_reducible assumption)
  (case FD=>exact ⟨_,_,_,_,_,_,_,_,_,by k_is⟩)
  (case hp=>exact rfl)
  (case N=>k_asm)
  (case hd=>exact lt_ne_cons (by assumption) (by assumption))
  (case M=>assumption)
  (case RA=>assumption)
  (case e=>assumption)
  (case hi=>assumption)
  (case hz=>assumption)
  (case hq=>rename _=true=>hb;simpa using hb)
  (case hE=>passes_own)
  (case C=>exact ⟨by k_asm,by k_asm,by k_asm,by k_asm,by first | exact rfl | assumption,by ((try dsimp only [ktrTop,Around.deeper]);omega),by ((try dsimp only [ktrTop,Around.deeper]);omega)⟩)
 ·rename ¬ _=>hb
  simp only [bne_iff_ne,ne_eq,Decidable.not_not] at hb
  (try dsimp only)
  k_steps
  rename News _ _ _ (_::_::_)=>kN9
  exact ret _ _ _ (by k_asm) (fun q hq=>kN9 q (.tail _ (.tail _ hq)))
theorem replace_c {x:Str} {n:Nat} {fin:List Str} {t1:Tok} (C:Cx 90 w p loose mean mg mb dp un cs outer A₀ base h₀ L m s) (N:News h₀ L s.heap news) (hz:x.length≤600) (RA:RepAll x n 0 fin) (hn:n≤900) (h1:∀ y∈fin,y.length≤1)
  (ret:∀ h' tk' u,Fr h₀ L h' m->News h₀ L h' news->Q (.str (Txt.join "" fin) u) { s with heap:=h',toks:=tk' }) :
  wpAny (model pw_rk0009_01 w) (ktrTop dp un gd cn cs L ca ccd cll outer) (call (.ref 469) [.str x t1]) Q E s:=pickedZ (by with_unfolding_all rfl) Z4c (frC w p loose mean mg mb dp un gd cn cs ca ccd cll outer A₀ base h₀ L m s E) news Q x n fin t1 C N hz RA hn h1 ret
end
end
end
example:True:=by w_top off;trivial
section
section
open PySem.NumText
theorem dVal_snoc (b:Nat) (l:List Nat) (c:Nat):dVal b (l++[c])=dVal b l * b+(digit? c).getD 0:=by
 unfold dVal
 rw [List.map_append,List.foldl_append]
 rfl
theorem sp_digs {b:Nat} {wd:Int} {dg fin:Str} (hb:0<b) (hd:∀ i c,dg.cps[i]?=some c->digit? c=some i):∀ (n v:Nat) (t:Str),spRun b wd dg n v t=some fin ->
  ∃ pre:List Nat,fin.cps.toList=pre++t.cps.toList/\(∀ c∈pre,c∈dg.cps)/\dVal b pre=v/\wd≤(t.length:Int)+pre.length/\∀ k:Nat,v<b ^ k->wd≤(t.length:Int)+k->pre.length≤k
 | 0,v,t,h=>by cases h
 | n+1,v,t,h=>by
  unfold spRun at h
  by_cases hc:0<v\/(t.length:Int)<wd
  ·rw [if_pos hc] at h
   cases hg:dg.cps[v % b]? with
   | none=>rw [hg] at h;cases h
   | some c =>
    rw [hg] at h
    refine e1a5 (sp_digs hb hd n (v / b) _ h) fun pre e1 e2 e3 e4 e5=>?_
    have hl:((⟨#[c]⟩:Str)++t).length=1+t.length:=by rw [one_len];omega
    have ht:((⟨#[c]⟩:Str)++t).cps.toList=c::t.cps.toList:=by
     show ((#[c] : Array Nat)++t.cps).toList=_
     rw [Array.toList_append];rfl
    rw [hl] at e4 e5
    refine ⟨pre++[c],?_,?_,?_,?_,?_⟩
    ·rw [e1,ht,List.append_assoc];rfl
    ·intro x hx
     rcases List.mem_append.mp hx with hx | hx
     ·exact e2 x hx
     ·rw [List.mem_singleton] at hx;subst hx
      exact Array.mem_of_getElem? hg
    ·rw [dVal_snoc,e3,hd _ _ hg]
     show v / b * b+v % b=v
     have:=Nat.div_add_mod v b
     rw [Nat.mul_comm] at this
     exact this
    ·rw [List.length_append,List.length_singleton];omega
    ·intro k hk hw
     rw [List.length_append,List.length_singleton]
     cases k with
     | zero=>simp only [Nat.pow_zero] at hk;omega
     | succ k =>
      have:v / b<b ^ k:=Nat.div_lt_of_lt_mul (by rw [Nat.pow_succ,Nat.mul_comm] at hk;exact hk)
      have:=e5 k this (by omega)
      omega
  ·rw [if_neg hc] at h
   cases h
   exact ⟨[],rfl,(fun x hx=>by cases hx),(by show 0=v;omega),(by simp only [List.length_nil];omega),fun k _ _=>Nat.zero_le _⟩
end
end
example:True:=by w_top off;trivial
section
section
open PySem.NumText
theorem cps_at {x:Str} {a:List Nat} {c:Nat} {r:List Nat} (h:x.cps.toList=a++c::r):x.cps[a.length]?=some c:=by
 rw [<- Array.getElem?_toList,h,List.getElem?_append_right (Nat.le_refl _),Nat.sub_self];rfl
theorem cps_len {x:Str} {a:List Nat} (h:x.cps.toList=a):x.length=a.length:=by
 show x.cps.size=_
 rw [<- Array.length_toList,h]
theorem hex_run {x:Str} {c:Nat} {r:List Nat} (hc:inS hexS ⟨#[c]⟩=false):∀ (ds a:List Nat) (n:Nat),x.cps.toList=a++(ds++c::r)->(∀ d∈ds,inS hexS ⟨#[d]⟩=true)->ds.length<n->hexGo x n a.length=some (a.length+ds.length)
 | [],a,0,h,hd,hn=>absurd hn (by omega)
 | [],a,n+1,h,hd,hn=>by
  have hl:=cps_len h
  have hg:=cps_at (by simpa using h:x.cps.toList=a++c::r)
  unfold hexGo
  rw [if_neg (by rw [hl];simp),hg]
  show (if inS hexS ⟨#[c]⟩=true then _ else _)=_
  rw [hc];rfl
 | d::ds,a,0,h,hd,hn=>absurd hn (by omega)
 | d::ds,a,n+1,h,hd,hn=>by
  have hl:=cps_len h
  have hg:=cps_at (by simpa using h:x.cps.toList=a++d::(ds++c::r))
  have ih:=hex_run (r:=r) hc ds (a++[d]) n (by rw [h];simp) (fun y hy=>hd y (.tail _ hy)) (by rw [List.length_cons] at hn;omega)
  unfold hexGo
  rw [if_neg (by rw [hl];simp),hg]
  show (if inS hexS ⟨#[d]⟩=true then _ else _)=_
  rw [if_pos (hd d (.head _))]
  rw [List.length_append,List.length_singleton] at ih
  rw [ih,List.length_cons]
  congr 1;omega
theorem oct_run {x:Str} {c lim:Nat} {r:List Nat} (hc:inS octS ⟨#[c]⟩=false):∀ (ds a:List Nat) (n:Nat),x.cps.toList=a++(ds++c::r)->(∀ d∈ds,inS octS ⟨#[d]⟩=true)->ds.length<n->a.length+ds.length≤lim->octGo x lim n a.length=some (a.length+ds.length)
 | [],a,0,h,hd,hn,hm=>absurd hn (by omega)
 | [],a,n+1,h,hd,hn,hm=>by
  have hg:=cps_at (by simpa using h:x.cps.toList=a++c::r)
  unfold octGo
  by_cases hb:a.length=x.length\/lim≤a.length
  ·rw [if_pos hb];rfl
  ·rw [if_neg hb,hg]
   show (if inS octS ⟨#[c]⟩=true then _ else _)=_
   rw [hc];rfl
 | d::ds,a,0,h,hd,hn,hm=>absurd hn (by omega)
 | d::ds,a,n+1,h,hd,hn,hm=>by
  have hl:=cps_len h
  have hg:=cps_at (by simpa using h:x.cps.toList=a++d::(ds++c::r))
  rw [List.length_cons] at hn hm
  have ih:=oct_run (r:=r) (lim:=lim) hc ds (a++[d]) n (by rw [h];simp) (fun y hy=>hd y (.tail _ hy)) (by omega) (by rw [List.length_append,List.length_singleton];omega)
  unfold octGo
  rw [if_neg (by rw [hl];simp;omega),hg]
  show (if inS octS ⟨#[d]⟩=true then _ else _)=_
  rw [if_pos (hd d (.head _))]
  rw [List.length_append,List.length_singleton] at ih
  rw [ih,List.length_cons]
  congr 1;omega
theorem cut_run {x:Str} {a ds r:List Nat} (h:x.cps.toList=a++(ds++r)):cut x a.length (a.length+ds.length)=ds:=by
 unfold cut
 rw [h,List.drop_left,Nat.add_sub_cancel_left,List.take_left]
end
end
example:True:=by w_top off;trivial
section
section
open PySem.NumText
noncomputable def dgOk (b:Nat) (all:Str) (q:Str):Bool:=q.cps.size==b&&(List.range b).all (fun i=>match q.cps[i]? with | some c=>digit? c==some i | none=>true)&&q.cps.toList.all (fun c=>inS all ⟨#[c]⟩&&match digit? c with | some d=>decide (d<b)&&decide (c≠95) | none=>false)
theorem dg_facts {b:Nat} {all q:Str} (h:dgOk b all q=true):(∀ i c,q.cps[i]?=some c->digit? c=some i)/\(∀ c∈q.cps,inS all ⟨#[c]⟩=true)/\∀ c∈q.cps,∃ d,digit? c=some d/\d<b/\c≠95:=by
 unfold dgOk at h
 rw [Bool.and_eq_true,Bool.and_eq_true,beq_iff_eq,List.all_eq_true,List.all_eq_true] at h
 refine e0a2 h fun Q37 h3=>?_;clear h;refine e0a2 Q37 fun h1 h2=>?_;clear Q37
 refine ⟨fun i c hc=>?_,fun c hc=>?_,fun c hc=>?_⟩
 ·have hi:i<b:=by
   rw [<- h1];exact (Array.getElem?_eq_some_iff.mp hc).1
  have:=h2 i (List.mem_range.mpr hi)
  rw [hc] at this
  simpa using this
 ·have:=h3 c (by simpa using hc)
  rw [Bool.and_eq_true] at this
  exact this.1
 ·have:=h3 c (by simpa using hc)
  rw [Bool.and_eq_true] at this
  have h4:=this.2
  cases hd:digit? c with
  | none=>rw [hd] at h4;cases h4
  | some d =>
   rw [hd] at h4
   simp only [Bool.and_eq_true,decide_eq_true_eq] at h4
   exact ⟨d,rfl,h4.1,h4.2⟩
theorem dg_hex:∀ q∈tab_hex,dgOk 16 hexS q=true:=by decide +kernel
theorem dg_oct:dgOk 8 octS oct8=true:=by decide +kernel
theorem app_list (a b:Str):(a++b).cps.toList=a.cps.toList++b.cps.toList:=by
 show (a.cps++b.cps).toList=_
 rw [Array.toList_append]
theorem len_list (a:Str):a.length=a.cps.toList.length:=rfl
theorem digs_ok {b:Nat} {all q:Str} {ds:List Nat} (h:dgOk b all q=true) (hs:∀ c∈ds,c∈q.cps) (hn:1≤ds.length):DigsOk b ds :=
 ⟨by intro e;rw [e] at hn;exact absurd hn (by decide),fun c hc=>(dg_facts h).2.2 c (hs c hc)⟩
theorem q_no8:inS octS ⟨#[39]⟩=false:=by decide +kernel
theorem q_no16:inS hexS ⟨#[39]⟩=false:=by decide +kernel
end
end
example:True:=by w_top off;trivial
section
section
open PySem.NumText
theorem bs_is:("\\" : Str)=⟨#[92]⟩:=by decide +kernel
theorem short_one {sg:Str} {v:Int} (h:(sg,v)∈tab_short):(⟨#[sg.cps.toList.headD 0]⟩:Str)=sg:=(by decide +kernel:∀ q∈tab_short,(⟨#[q.1.cps.toList.headD 0]⟩:Str)=q.1) _ h
theorem shift {x:Str} {a l r:List Nat} {c:Nat} (h:x.cps.toList=a++((c::l)++r)):x.cps.toList=(a++[c])++(l++r):=by rw [h];simp
theorem rep_raw {x:Str} {v:Nat} {a r:List Nat} (hx:x.cps.toList=a++v::r) (hv:v≠92):Rep x a.length (a.length+1) ⟨#[v]⟩ :=
 .lit (cps_at hx) (by rw [bs_is];intro e;injection e with e;simp at e;exact hv e)
theorem rep_short {x sg:Str} {v:Nat} {a r:List Nat} (hm:(sg,(v:Int))∈tab_short) (hx:x.cps.toList=a++(("\\" ++ sg).cps.toList++r)):Rep x a.length (a.length+("\\" ++ sg).length) ⟨#[v]⟩:=by
 have h1:=short_one hm
 have hl:("\\" ++ sg).length=2:=by rw [app_len,<- h1,bs_is];rfl
 rw [hl]
 have h2:("\\" ++ sg).cps.toList=92::[sg.cps.toList.headD 0]:=by rw [app_list,<- h1,bs_is];rfl
 rw [h2] at hx
 have h3:=cps_at (by simpa using shift hx:x.cps.toList=(a++[92])++sg.cps.toList.headD 0::r)
 rw [List.length_append,List.length_singleton] at h3
 exact .esc (cps_at (by simpa using hx:x.cps.toList=a++92::(sg.cps.toList.headD 0::r))) h3 h1 hm
noncomputable def Z84P:FrZ->Prop:=fun V=>∀ (hv:(V.fN 0)<256) (hw:1≤(V.fI 0)) (hw3:(V.fI 0)≤3) (hs:spRun 8 (V.fI 0) oct8 20 (V.fN 0) "" = some (V.fS 1)) (hx:(V.fS 0).cps.toList=(V.fl 0)++(("\\" ++ (V.fS 1)).cps.toList++39::(V.fl 1))),Rep (V.fS 0) (V.fl 0).length ((V.fl 0).length+("\\" ++ (V.fS 1)).length) ⟨#[(V.fN 0)]⟩
@[irreducible] noncomputable def Z84:FrZ:=pickZ Z84P
theorem Z84c:Z84P Z84:=by
 intro hv hw hw3 hs hx
 have hf:=dg_facts dg_oct
 refine e1a5 (sp_digs (by decide) hf.1 20 (Z84.fN 0) "" hs) fun pre e1 e2 e3 e4 e5=>?_
 have e1:(Z84.fS 1).cps.toList=pre:=by rw [e1];exact List.append_nil _
 have hz:("" : Str).length=0:=rfl
 rw [hz] at e4 e5
 have hp3:pre.length≤3:=e5 3 (by omega) (by omega)
 have hl:("\\" ++ (Z84.fS 1)).length=1+pre.length:=by rw [app_len,len_list (Z84.fS 1),e1,bs_is];rfl
 rw [hl]
 have h2:("\\" ++ (Z84.fS 1)).cps.toList=92::pre:=by rw [app_list,e1,bs_is];rfl
 rw [h2] at hx
 have hx2:=shift hx
 have hcut:=cut_run hx2
 have hgo:=oct_run (lim:=(Z84.fl 0).length+4) q_no8 pre ((Z84.fl 0)++[92]) 20 hx2 (fun d hd=>hf.2.1 d (e2 d hd)) (by omega) (by rw [List.length_append,List.length_singleton];omega)
 have hxl:=cps_len hx
 rw [List.length_append,List.length_append,List.length_cons,List.length_cons] at hxl
 rw [List.length_append,List.length_singleton] at hgo hcut
 have hlen:1≤pre.length:=by omega
 cases pre with
 | nil=>exact absurd hlen (by decide)
 | cons c ds =>
  have h3:=cps_at (by simpa using hx2:(Z84.fS 0).cps.toList=((Z84.fl 0)++[92])++c::(ds++39::(Z84.fl 1)))
  rw [List.length_append,List.length_singleton] at h3
  have hd:DigsOk 8 (cut (Z84.fS 0) ((Z84.fl 0).length+1) ((Z84.fl 0).length+1+(c::ds).length)):=by rw [hcut];exact digs_ok dg_oct e2 (by omega)
  have:=Rep.oct (x:=(Z84.fS 0)) (cps_at (by simpa using hx:(Z84.fS 0).cps.toList=(Z84.fl 0)++92::(c::(ds++39::(Z84.fl 1))))) h3 (hf.2.1 c (e2 c (.head _))) hgo (by omega) (by omega) hd (by rw [hcut,e3];omega)
  rw [hcut,e3] at this
  rw [<- Nat.add_assoc]
  exact this
theorem rep_octW {x fin:Str} {wd:Int} {v:Nat} {a r:List Nat} (hv:v<256) (hw:1≤wd) (hw3:wd≤3) (hs:spRun 8 wd oct8 20 v "" = some fin) (hx:x.cps.toList=a++(("\\" ++ fin).cps.toList++39::r)):Rep x a.length (a.length+("\\" ++ fin).length) ⟨#[v]⟩:=pickedZ (by with_unfolding_all rfl) Z84c (sfl (sfN (sfI (sfS (frZ) [x,fin]) [wd]) [v]) [a,r]) hv hw hw3 hs hx
end
end
example:True:=by w_top off;trivial
section
section
open PySem.NumText
theorem bx_is:("\\x" : Str)=⟨#[92,120]⟩:=by decide +kernel
theorem bu_is:("\\u" : Str)=⟨#[92,117]⟩:=by decide +kernel
theorem rep_hexW {x fin dg:Str} {wd:Int} {v:Nat} {a r:List Nat} (hv:v<256) (hw:1≤wd) (hw3:wd≤2) (hg:dg∈tab_hex) (hs:spRun 16 wd dg 20 v "" = some fin) (hx:x.cps.toList=a++(("\\x" ++ fin).cps.toList++39::r)):Rep x a.length (a.length+("\\x" ++ fin).length) ⟨#[v]⟩:=by
 have hf:=dg_facts (dg_hex _ hg)
 refine e1a5 (sp_digs (by decide) hf.1 20 v "" hs) fun pre e1 e2 e3 e4 e5=>?_
 have e1:fin.cps.toList=pre:=by rw [e1];exact List.append_nil _
 have hz:("" : Str).length=0:=rfl
 rw [hz] at e4 e5
 have hp3:pre.length≤2:=e5 2 (by omega) (by omega)
 have hl:("\\x" ++ fin).length=2+pre.length:=by rw [app_len,len_list fin,e1,bx_is];rfl
 rw [hl]
 have h2:("\\x" ++ fin).cps.toList=92::120::pre:=by rw [app_list,e1,bx_is];rfl
 rw [h2] at hx
 have hx2:=shift (shift hx)
 have hcut:=cut_run hx2
 have hgo:=hex_run q_no16 pre (a++[92]++[120]) 20 hx2 (fun d hd=>hf.2.1 d (e2 d hd)) (by omega)
 have h3:=cps_at (by simpa using shift hx:x.cps.toList=(a++[92])++120::(pre++39::r))
 have hxl:=cps_len hx
 simp only [List.length_append,List.length_cons,List.length_nil] at hgo hcut h3 hxl
 have hlen:1≤pre.length:=by omega
 have hd:DigsOk 16 (cut x (a.length+2) (a.length+2+pre.length)):=by
  have hcut:cut x (a.length+2) (a.length+2+pre.length)=pre:=hcut
  rw [hcut];exact digs_ok (dg_hex _ hg) e2 hlen
 have hcut:cut x (a.length+2) (a.length+2+pre.length)=pre:=hcut
 have hgo:hexGo x 20 (a.length+2)=some (a.length+2+pre.length):=hgo
 have:=Rep.hex (x:=x) (cps_at (by simpa using hx:x.cps.toList=a++92::(120::(pre++39::r)))) h3 hgo (by omega) (by omega) hd (by rw [hcut,e3];omega)
 rw [hcut,e3] at this
 rw [<- Nat.add_assoc]
 exact this
theorem rep_uniW {x fin dg:Str} {v:Nat} {a r:List Nat} (hv:v<65536) (hg:dg∈tab_hex) (hs:spRun 16 4 dg 20 v "" = some fin) (hx:x.cps.toList=a++(("\\u" ++ fin).cps.toList++39::r)):Rep x a.length (a.length+("\\u" ++ fin).length) ⟨#[v]⟩:=by
 have hf:=dg_facts (dg_hex _ hg)
 refine e1a5 (sp_digs (by decide) hf.1 20 v "" hs) fun pre e1 e2 e3 e4 e5=>?_
 have e1:fin.cps.toList=pre:=by rw [e1];exact List.append_nil _
 have hz:("" : Str).length=0:=rfl
 rw [hz] at e4 e5
 have hp3:pre.length≤4:=e5 4 (by omega) (by omega)
 have hp4:pre.length=4:=by omega
 have hl:("\\u" ++ fin).length=6:=by rw [app_len,len_list fin,e1,bu_is,hp4];rfl
 rw [hl]
 have h2:("\\u" ++ fin).cps.toList=92::117::pre:=by rw [app_list,e1,bu_is];rfl
 rw [h2] at hx
 have hx2:=shift (shift hx)
 have hcut:=cut_run hx2
 have hgo:=hex_run q_no16 pre (a++[92]++[117]) 20 hx2 (fun d hd=>hf.2.1 d (e2 d hd)) (by omega)
 have h3:=cps_at (by simpa using shift hx:x.cps.toList=(a++[92])++117::(pre++39::r))
 have hxl:=cps_len hx
 simp only [List.length_append,List.length_cons,List.length_nil,hp4] at hgo hcut h3 hxl
 have hcut:cut x (a.length+2) (a.length+6)=pre:=hcut
 have hgo:hexGo x 20 (a.length+2)=some (a.length+6):=hgo
 have hd:DigsOk 16 (cut x (a.length+2) (a.length+6)):=by
  rw [hcut];exact digs_ok (dg_hex _ hg) e2 (by omega)
 have:=Rep.uni (x:=x) (cps_at (by simpa using hx:x.cps.toList=a++92::(117::(pre++39::r)))) h3 hgo (by omega) (by omega) hd (by rw [hcut,e3];omega)
 rw [hcut,e3] at this
 exact this
theorem wr_rep {way:Int} {content x:Str} {v:Nat} {a r:List Nat} (h:Wr way content v) (hx:x.cps.toList=a++(content.cps.toList++39::r)):Rep x a.length (a.length+content.length) ⟨#[v]⟩:=by
 cases h with
 | raw h1 h2 h3 h4 h5 h6=>exact rep_raw hx h6
 | esc hm _=>exact rep_short hm hx
 | short hm=>exact rep_short hm hx
 | oct h1 h2 h3 h4=>exact rep_octW h1 h2 h3 h4 hx
 | hex h1 h2 h3 h4 h5=>exact rep_hexW h1 h2 h3 h4 h5 hx
 | uni h1 h2 h3 h4=>exact rep_uniW h1 h3 h4 hx
end
end
example:True:=by w_top off;trivial
section
section
open PySem.NumText
theorem q_is:("'" : Str)=⟨#[39]⟩:=by decide +kernel
theorem L_is:("L" : Str)=⟨#[76]⟩:=by decide +kernel
theorem wr_all {way:Int} {content x:Str} {v:Nat} (h:Wr way content v) (hx:x.cps.toList=39::(content.cps.toList++[39])):RepAll x 4 0 [⟨#[39]⟩,⟨#[v]⟩,⟨#[39]⟩]:=by
 have hl:=cps_len hx
 simp only [List.length_append,List.length_cons,List.length_nil] at hl
 have hcl:content.length=content.cps.toList.length:=rfl
 have h1:Rep x 0 1 ⟨#[39]⟩:=rep_raw (a:=[]) hx (by decide)
 have h2:=wr_rep (a:=[39]) h hx
 have h3:=rep_raw (x:=x) (a:=39::content.cps.toList) (v:=39) (r:=[]) (by rw [hx];simp) (by decide)
 simp only [List.length_cons,List.length_nil] at h2 h3
 rw [show content.cps.toList.length+1=0+1+content.length by omega] at h3
 exact .step h1 (by omega) (.step h2 (by omega) (.step h3 (by omega) (by
  rw [show 0+1+content.length+1=x.length by omega];exact .done)))
theorem wr_allL {way:Int} {content x:Str} {v:Nat} (h:Wr way content v) (hx:x.cps.toList=76::39::(content.cps.toList++[39])):RepAll x 5 0 [⟨#[76]⟩,⟨#[39]⟩,⟨#[v]⟩,⟨#[39]⟩]:=by
 have hl:=cps_len hx
 simp only [List.length_append,List.length_cons,List.length_nil] at hl
 have hcl:content.length=content.cps.toList.length:=rfl
 have h0:Rep x 0 1 ⟨#[76]⟩:=rep_raw (a:=[]) hx (by decide)
 have h1:Rep x 1 2 ⟨#[39]⟩:=rep_raw (a:=[76]) hx (by decide)
 have h2:=wr_rep (a:=[76,39]) h hx
 have h3:=rep_raw (x:=x) (a:=76::39::content.cps.toList) (v:=39) (r:=[]) (by rw [hx];simp) (by decide)
 simp only [List.length_cons,List.length_nil] at h2 h3
 rw [show content.cps.toList.length+1+1=0+1+1+content.length by omega] at h3
 exact .step h0 (by omega) (.step h1 (by omega) (.step h2 (by omega) (.step h3 (by omega) (by
  rw [show 0+1+1+content.length+1=x.length by omega];exact .done))))
theorem join3 (v:Nat):Txt.join "" [⟨#[39]⟩,⟨#[v]⟩,⟨#[39]⟩]=⟨#[39,v,39]⟩:=by rfl
theorem join4 (v:Nat):Txt.join "" [⟨#[76]⟩,⟨#[39]⟩,⟨#[v]⟩,⟨#[39]⟩]=⟨#[76,39,v,39]⟩:=by rfl
end
end
theorem NgB39.gB39:True:=trivial
example:True:=by w_top off;trivial
section
open NgB39
noncomputable def chOf (l:List Stmt):Option (Expr×Scope):=l[4]?.bind fun x=>(stp x).1[0]?.bind xlc
theorem itemAt {A:Around} {w:World} {E:Value->Shared->Prop} {s:Shared} {h₀:Heap} {L:Addr} {news:List (Addr×Obj)} {Q:Value->Shared->Prop} {value slice:PySem.Expr} {l:Addr} {its:List Value} {n:Nat} {k:Nat} {u:Tok} {v:Value} (N:News h₀ L s.heap news) (hm:(l,listOf its.toArray n)∈news) (hx:its[k]?=some v) (hz:k≤1000000)
  (h:Q v s) (hs:subscripted slice false (.ref l) (.int (k:Int) u)=operate [.ref l,.int (k:Int) u] (getItem (.ref l) (.int (k:Int) u)):=by with_unfolding_all rfl) :
  wpAny (model pw_rk0009_01 w) A (subscriptTail value slice (.ref l) (.int (k:Int) u)) Q E s:=by
 have hl:s.heap.IsList l its.toArray:=⟨_,(N _ hm).1,rfl,_,rfl⟩
 refine tail_any hl.typeIs slot_list_getitem.lookup (wpAny_getItem_list hl (Int.natCast_nonneg k) (by omega) (by rw [Int.toNat_natCast];simpa using hx) h) hs
noncomputable abbrev celLed (x:Cel):List (Addr×Obj):=[(x.c,instObj 183 x.dc),(x.dc,dictOf (celDict x) 2),(x.lc,locObj x),(x.ld,dictOf [] 0)]
theorem celLed_in (x:Cel) (r:List (Addr×Obj)):CelIn (celLed x++r) x:=⟨.head _,.tail _ (.head _),.tail _ (.tail _ (.head _)),.tail _ (.tail _ (.tail _ (.head _)))⟩
structure PlaceIn (K:List (Addr×Obj)) (plvs:List Value) (pls:List (Int×Int)):Prop where
 len:plvs.length=pls.length
 at_:∀ (k:Nat) r c,pls[k]?=some (r,c)->∃ q u1 u2,plvs[k]?=some (.ref q)/\(q,pairObj (.int r u1) (.int c u2))∈K
section
variable {g:Heap} {LR:Addr} {news:List (Addr×Obj)} {pr:Arguments} {b:List Stmt} {sc:Scope}
example:True:=by (k_with "B39" => (fail_if_success (fail_if_success (have:=gB39))));(k_with "k_mem" => k_extra "B39";(first | assumption | exact List.Mem.head _ | (apply List.Mem.tail;k_mem)));(k_with "subscriptTail Name Name ref int" => k_extra "B39";(k_here;(with_reducible show wpAny _ _ (subscriptTail _ _ (Value.ref _) (Value.int _ _)) _ _ _);k_dflt (refine' itemAt ?Y0 ?Y1 ?Y2 ?Y3 ?_ ?Y4;(case Y4=>with_unfolding_all rfl);(case Y0=>k_asm);(case Y1=>k_mem);(case Y2=>assumption);(case Y3=>omega);k_whole)));(k_with "subscriptTail Name Name str int" => k_extra "B39";(k_here;(with_reducible show wpAny _ _ (subscriptTail _ _ (Value.str _ _) (Value.int _ _)) _ _ _);k_dflt (refine' tail_str ?Y0 ?Y1 ?Y2 ?_ ?Y3;(case Y3=>with_unfolding_all rfl);(case Y1=>assumption);(case Y0=>omega);(case Y2=>assumption);k_whole;intro Y4)));trivial
noncomputable def Z16P:FrZ->Prop:=fun V=>∀ (b:List Stmt) (sc:Scope) (T:Str) (e:Expr) (sc2:Scope) (FD:FnDef V.w 551 "_law_run" "_law_run" (V.fg 0) b sc (.ref 550)) (hp:chOf b=some (e,sc2)) (B:Cx 60 V.w V.p V.loose V.mean V.mg V.mb V.dp V.un sc V.outer V.A₀ V.base (V.fh 0) (V.fA 0) V.m V.s) (N:News (V.fh 0) (V.fA 0) V.s.heap (((V.fA 8),(V.fO 0))::((V.fA 9),(V.fO 1))::((V.fA 10),LCg.lst (V.fv 1))::(V.fL 0))) (hC:LCg.NsObj (V.fO 1) (V.fM 0)) (hk:(V.fM 0) "k" = some (.int ((V.fN 1):Int) (V.fT 1))) (mT:((V.fA 1),(V.fO 2))∈(V.fL 0)) (dT:(V.fO 2).data=.cell (some (.str T (V.fT 0)))) (mP:((V.fA 2),(V.fO 3))∈(V.fL 0)) (dP:(V.fO 3).data=.cell (some (.ref (V.fA 6)))) (mp:((V.fA 6),listOf (V.fv 0).toArray (V.fN 0))∈(V.fL 0)) (mq:((V.fA 7),pairObj (.int (V.fI 0) (V.fT 2)) (.int (V.fI 1) (V.fT 3)))∈(V.fL 0)) (hT:T.cps[(((V.fN 1):Nat):Int).toNat]?=some (V.fN 2)) (hz:T.length≤1000000) (hq:(V.fv 0)[(V.fN 1)]?=some (.ref (V.fA 7))) (hkz:(V.fN 1)≤1000000) (ret:∀ (x:Cel) (h':Heap) (tk':Nat),x.x=⟨#[(V.fN 2)]⟩->x.row=(V.fI 0)->x.col=(V.fI 1)->Fr (V.fh 0) (V.fA 0) h' V.m->News (V.fh 0) (V.fA 0) h' (celLed x++((V.fA 8),(V.fO 0))::((V.fA 9),(V.fO 1))::((V.fA 10),LCg.lst (V.fv 1))::(V.fL 0))->LCg.Off3 (V.fA 8) (V.fA 9) (V.fA 10) (celLed x)->(V.fQ 0) (.ref x.c) { V.s with heap:=h',toks:=tk' }),wpAny (model pw_rk0009_01 V.w) (ktrTop V.dp V.un V.gd "_law_run" sc (V.fA 0) 551 (.ref 550) (cellsR (V.fA 5) (V.fA 4) (V.fA 3) (V.fA 2) (V.fA 1)) V.outer) (eval e (compEnvC sc2 [("text",(V.fA 1)),("places",(V.fA 2))] (V.fA 9) (envX "_law_run" sc (V.fA 0) 551 (.ref 550) (cellsR (V.fA 5) (V.fA 4) (V.fA 3) (V.fA 2) (V.fA 1))))) (V.fQ 0) V.E V.s
@[irreducible] noncomputable def Z16:FrZ:=pickZ Z16P
set_option maxHeartbeats 4000000 in
theorem Z16c:Z16P Z16:=by
 intro b sc T e sc2 FD hp B N hC hk mT dT mP dP mp mq hT hz hq hkz ret
 obtain ⟨_,_,_,_,_,_,_,_,_,ho⟩:=FD
 have e1:sc=_:=fn_scope ho (by k_is)
 subst e1
 have e1:b=_:=fn_body ho (by k_is)
 subst e1
 have e2:(e,sc2)=_:=Option.some.inj (hp.symm.trans (rfl:chOf _=some _))
 injection e2 with e2 e3
 subst e2 e3
 clear hp ho
 obtain ⟨B,F,X,T,hkd,hdp,hun⟩:=B
 k_steps
 rename News (Z16.fh 0) (Z16.fA 0) _ _=>kN
 refine ret ⟨_,_,_,_,_,_,_,_,_,_,_,_,_,_,_,_⟩ _ _ rfl rfl rfl (by k_asm) kN ?_
 refine ⟨⟨?_,?_,?_⟩,⟨?_,?_,?_⟩,⟨?_,?_,?_⟩,⟨?_,?_,?_⟩,trivial⟩ <;> k_ne
theorem chars_turn {cT cP cE cL cS pl q I C D:Addr} {oI oC oT oP:Obj} {T:Str} {tT t tq1 tq2:Tok} {plvs ys:List Value} {n k c:Nat} {row col:Int} {m₂:Str->Option Value} {e:Expr} {sc2:Scope} {Q E:Value->Shared->Prop} (FD:FnDef w 551 "_law_run" "_law_run" pr b sc (.ref 550)) (hp:chOf b=some (e,sc2))
  (B:Cx 60 w p loose mean mg mb dp un sc outer A₀ base g LR m s)
  (N:News g LR s.heap ((I,oI)::(C,oC)::(D,LCg.lst ys)::news)) (hC:LCg.NsObj oC m₂) (hk:m₂ "k" = some (.int (k:Int) t))
  (mT:(cT,oT)∈news) (dT:oT.data=.cell (some (.str T tT))) (mP:(cP,oP)∈news) (dP:oP.data=.cell (some (.ref pl))) (mp:(pl,listOf plvs.toArray n)∈news) (mq:(q,pairObj (.int row tq1) (.int col tq2))∈news)
  (hT:T.cps[((k:Nat):Int).toNat]?=some c) (hz:T.length≤1000000) (hq:plvs[k]?=some (.ref q)) (hkz:k≤1000000)
  (ret:∀ (x:Cel) (h':Heap) (tk':Nat),x.x=⟨#[c]⟩->x.row=row->x.col=col->Fr g LR h' m->News g LR h' (celLed x++(I,oI)::(C,oC)::(D,LCg.lst ys)::news)->LCg.Off3 I C D (celLed x)->Q (.ref x.c) { s with heap:=h',toks:=tk' }) :
  wpAny (model pw_rk0009_01 w) (ktrTop dp un gd "_law_run" sc LR 551 (.ref 550) (cellsR cS cL cE cP cT) outer) (eval e (compEnvC sc2 [("text",cT),("places",cP)] C (envX "_law_run" sc LR 551 (.ref 550) (cellsR cS cL cE cP cT)))) Q E s:=pickedZ (by with_unfolding_all rfl) Z16c (sfQ (sfM (sfI (sfN (sfv (sfT (sfO (sfg (sfL (sfA (sfh (frC w p loose mean mg mb dp un gd Z16.cn Z16.cs Z16.ca Z16.ccd Z16.cll outer A₀ base Z16.h₀ Z16.L m s E) [g]) [LR,cT,cP,cE,cL,cS,pl,q,I,C,D]) [news]) [pr]) [oI,oC,oT,oP]) [tT,t,tq1,tq2]) [plvs,ys]) [n,k,c]) [row,col]) [m₂]) [Q]) b sc T e sc2 FD hp B N hC hk mT dT mP dP mp mq hT hz hq hkz ret
structure CelsOk (T:Str) (pls:List (Int×Int)) (K:List (Addr×Obj)) (i:Nat) (cels:List Cel):Prop where
 len:cels.length=i
 ins:∀ x∈cels,CelIn K x
 at_:∀ (j:Nat) x,cels[j]?=some x->∃ c,T.cps[j]?=some c/\x.x=⟨#[c]⟩/\pls[j]?=some (x.row,x.col)
theorem CelsOk.snoc {T:Str} {pls:List (Int×Int)} {K:List (Addr×Obj)} {i c:Nat} {cels:List Cel} {x:Cel} (O:CelsOk T pls K i cels) (h1:T.cps[i]?=some c) (h2:x.x=⟨#[c]⟩) (h3:pls[i]?=some (x.row,x.col)):CelsOk T pls (celLed x++K) (i+1) (cels++[x]) where
 len:=by rw [List.length_append,O.len];rfl
 ins:=fun y hy=>by
  rcases List.mem_append.mp hy with hy | hy
  ·exact (O.ins y hy).mono fun q hq=>List.mem_append_right _ hq
  ·rw [List.mem_singleton.mp hy];exact celLed_in _ _
 at_:=fun j y hj=>by
  by_cases hl:j<cels.length
  ·rw [List.getElem?_append_left hl] at hj;exact O.at_ j y hj
  ·rw [List.getElem?_append_right (Nat.not_lt.mp hl)] at hj
   have hj2:j=i:=by
    have:=(List.getElem?_eq_some_iff.mp hj).1
    simp only [List.length_singleton] at this
    have:=O.len
    omega
   subst hj2
   rw [O.len,Nat.sub_self] at hj
   simp only [List.getElem?_cons_zero,Option.some.injEq] at hj
   subst hj
   exact ⟨c,h1,h2,h3⟩
theorem off3_app {I C D:Addr} : ∀ {l r:List (Addr×Obj)},LCg.Off3 I C D l->LCg.Off3 I C D r->LCg.Off3 I C D (l++r)
 | [],_,_,h=>h
 | _::_,_,x,h=>⟨x.1,off3_app x.2 h⟩
theorem chars_rest {cT cP cE cL cS pl:Addr} {oT oP:Obj} {T:Str} {tT:Tok} {plvs:List Value} {pls:List (Int×Int)} {n:Nat} {news0:List (Addr×Obj)} {e:Expr} {sc2:Scope} {Fin:List Value->List (Addr×Obj)->Prop} (FD:FnDef w 551 "_law_run" "_law_run" pr b sc (.ref 550)) (hp:chOf b=some (e,sc2))
  (B:Below A₀ base outer g) (X:(hd.heap_1 w.params).In g) (Tp:Top p loose mean mg mb g) (hkd:sc.kind=.function) (hdp:dp+60<900) (hun:un+8 * 60<9000)
  (mT:(cT,oT)∈news0) (dT:oT.data=.cell (some (.str T tT))) (mP:(cP,oP)∈news0) (dP:oP.data=.cell (some (.ref pl))) (mp:(pl,listOf plvs.toArray n)∈news0) (PI:PlaceIn news0 plvs pls) (hz:T.length≤1000000) (hl:pls.length=T.length)
  (fin:∀ cels news,CelsOk T pls news T.length cels->(∀ q∈news0,q∈news)->Fin (cels.map Cel.ref) news) :
  ∀ (k i:Nat) (cels:List Cel) (news:List (Addr×Obj)),i+k=T.length->CelsOk T pls news i cels->(∀ q∈news0,q∈news) ->
   LCg.CompRest pw_rk0009_01 w (ktrTop dp un gd "_law_run" sc LR 551 (.ref 550) (cellsR cS cL cE cP cT) outer) g LR m (envX "_law_run" sc LR 551 (.ref 550) (cellsR cS cL cE cP cT)) e "k" sc2 [("text",cT),("places",cP)] s (fun _=>True)
    (fun i v=>∃ t,v=.int (0+(i:Int)) t) Fin k i (cels.map Cel.ref) news
 | 0,i,cels,news,hi,O,sub=>.zero (fin cels news (by rw [Nat.add_zero] at hi;rw [<- hi];exact O) sub)
 | k+1,i,cels,news,hi,O,sub=>by
  refine .succ fun v I oI C' oC D m₂ h tk E' hP hC hx F N off ne=>?_
  refine e1a1 hP fun t Q38=>?_;clear hP;obtain rfl:=Q38
  rw [Int.zero_add] at hx
  have hlt:i<T.cps.size:=by show i<T.length;omega
  obtain ⟨r,c,hrc⟩:∃ r c,pls[i]?=some (r,c):=⟨_,_,List.getElem?_eq_getElem (by rw [hl];exact hlt)⟩
  refine e3a2 (PI.at_ i r c hrc) fun q u1 u2 hq mq=>?_
  have hc:T.cps[i]?=some T.cps[i]:=Array.getElem?_eq_getElem hlt
  refine chars_turn (s:={ s with heap:=h,toks:=tk }) (c:=T.cps[i]) FD hp ⟨B,F,X,Tp,hkd,hdp,hun⟩ N hC hx (sub _ mT) dT (sub _ mP) dP (sub _ mp) (sub _ mq) (by rw [Int.toNat_natCast];exact hc) hz hq (by omega)
   fun x h' tk' e1 e2 e3 F' N' o'=>?_
  refine .intro F' N' (celLed x++news) (fun q hq=>?_) (off3_app o' off) trivial ?_
  ·rcases List.mem_cons.mp hq with h | hq
   ·exact h▸List.mem_append_right _ (.head _)
   rcases List.mem_cons.mp hq with h | hq
   ·exact h▸List.mem_append_right _ (.tail _ (.head _))
   rcases List.mem_cons.mp hq with h | hq
   ·exact h▸List.mem_append_right _ (.tail _ (.tail _ (.head _)))
   rcases List.mem_append.mp hq with h | h
   ·exact List.mem_append_left _ h
   ·exact List.mem_append_right _ (.tail _ (.tail _ (.tail _ h)))
  ·have:=chars_rest (cS:=cS) (cL:=cL) (cE:=cE) FD hp B X Tp hkd hdp hun mT dT mP dP mp PI hz hl fin k (i+1) (cels++[x]) (celLed x++news) (by omega) (O.snoc hc e1 (by rw [hrc,e2,e3])) fun q hq=>List.mem_append_right _ (sub q hq)
   rw [List.map_append] at this
   exact this
noncomputable def chSt (l:List Stmt):Option Stmt:=match l with
 | [_,_,_,_,x,_,_]=>some x
 | _=>none
example:True:=by (k_with "eval Name" => k_extra "B39";(k_here;k_dflt (refine' PySem.W.LCgL.ld_global ?Y0 ?Y1 ?Y2 ?Y3 ?_;(case Y0=>k_asm);(case Y1=>k_asm);(case Y2=>k_asm);(case Y3=>k_is);k_whole)));trivial
set_option maxHeartbeats 4000000 in
theorem pc_chars {cT cP cE cL cS pl:Addr} {oT oP:Obj} {T:Str} {tT:Tok} {plvs:List Value} {pls:List (Int×Int)} {n:Nat} {x:Stmt} {Q:Flow->Shared->Prop} {E:Value->Shared->Prop} (FD:FnDef w 551 "_law_run" "_law_run" pr b sc (.ref 550)) (hp:chSt b=some x)
  (C:Cx 60 w p loose mean mg mb dp un sc outer A₀ base g LR m s) (N:News g LR s.heap news)
  (mT:(cT,oT)∈news) (dT:oT.data=.cell (some (.str T tT))) (mP:(cP,oP)∈news) (dP:oP.data=.cell (some (.ref pl))) (mp:(pl,listOf plvs.toArray n)∈news) (PI:PlaceIn news plvs pls) (hz:T.length≤1000) (hl:pls.length=T.length)
  (ret:∀ D cels news' h' tk',CelsOk T pls news' T.length cels->(∀ q∈news,q∈news')->Fr g LR h' (fun y=>if y = "chars" then some (.ref D) else m y)->News g LR h' ((D,LCg.lst (cels.map Cel.ref))::news')->LCg.Off1 D news'->Q .next { s with heap:=h',toks:=tk' }) :
  wpAny (model pw_rk0009_01 w) (ktrTop dp un gd "_law_run" sc LR 551 (.ref 550) (cellsR cS cL cE cP cT) outer) (exec x (envX "_law_run" sc LR 551 (.ref 550) (cellsR cS cL cE cP cT))) Q E s:=by
 have FD0:=FD
 obtain ⟨_,_,_,_,_,_,_,_,_,ho⟩:=FD
 have e1:sc=_:=fn_scope ho (by k_is)
 subst e1
 have e1:b=_:=fn_body ho (by k_is)
 subst e1
 have e2:x=_:=Option.some.inj (hp.symm.trans (rfl:chSt _=some _))
 subst e2
 clear hp ho
 have C0:=C
 obtain ⟨B,F,X,Tp,hkd,hdp,hun⟩:=C
 refine LCg.Assign_ListComp_U (F₀:=F) (by rfl) (by with_unfolding_all rfl) (cl:=[("text",cT),("places",cP)]) (by with_unfolding_all rfl) (by decide) (by rfl) (by decide) (by rfl) (by rfl) (by rfl) ?_
 iterate 13 walk1
 refine LCg.CompSrc.range (n:=T.length) (by rfl) (by k_asm) (by k_asm) (by assumption) (small_one (by omega) (by omega) (by omega) (by omega)) (by rw [rangeSize_nat,Int.sub_zero,Int.toNat_natCast]) (by rw [sizeLine_eq];omega) fun g'=>?_
 refine chars_rest (s:=⟨g',_,_,_,_⟩) (news0:=news) (cS:=cS) (cL:=cL) (cE:=cE) FD0 rfl B X Tp hkd hdp hun mT dT mP dP mp PI (by omega) hl (fun cels news' O sub D h tk F' N' o1=>ret D cels news' h tk O sub F' N' o1) T.length 0 [] news (Nat.zero_add _) ⟨rfl,(fun _ h=>nomatch h),fun j x h=>by simp at h⟩ fun _ h=>h
end
end
theorem NgB40.gB40:True:=trivial
example:True:=by w_top off;trivial
section
open NgB40
noncomputable def itOf (l:List Stmt):Option Expr:=l[5]?.bind fun x=>(stp x).2.1[0]?.bind fun y=>(stp y).1[1]?
noncomputable abbrev itObj (ch:Addr):Obj:={ cls:=.type "list_iterator",data:=.fields #[.ref ch,.int 0 0] }
theorem iter_listK {A:Around} {w:World} {E:Value->Shared->Prop} {s:Shared} {h₀:Heap} {L ch:Addr} {m:Str->Option Value} {news:List (Addr×Obj)} {ys:List Value} {Q:Value->Shared->Prop} (F:Fr h₀ L s.heap m) (N:News h₀ L s.heap news) (hm:(ch,LCg.lst ys)∈news)
  (h:∀ it h',Fr h₀ L h' m->News h₀ L h' ((it,itObj ch)::news)->(∀ q∈news,q.1<it)->@LT.lt Nat _ L it->Q (.ref it) { s with heap:=h' }):wpAny (model pw_rk0009_01 w) A (call (.builtin "iter") [.ref ch]) Q E s:=by
 have hl:s.heap.IsList ch ys.toArray:=⟨_,(N _ hm).1,rfl,_,rfl⟩
 refine call_function_entry (by decide +kernel) (by decide +kernel) kdk_entry_iter (kdk_args_iter _) ?_
 unfold Builtin.«iter»
 refine wpAny_bind (m:=someArgs "iter" 1 2 _) (wpAny_of_eq (a:=[Value.ref ch]) (by first | rfl | kernel_rfl!) ?_)
 dsimp only
 refine wpAny_bind (wpAny_pyIter_list hl ?_)
 refine wpAny_pure ⟨_,rfl,h _ _ (F.keeps fun _ _ e=>Heap.get?_push_of_some _ e) (fun q hq=>?_) (fun q hq=>Heap.lt_size (N q hq).1) F.ns.lt⟩
 rcases List.mem_cons.mp hq with rfl | hq
 ·exact ⟨Heap.get?_push_size _ rfl,Nat.ne_of_gt F.ns.lt,next_is_new F⟩
 ·exact ⟨Heap.get?_push_of_some _ (N q hq).1,(N q hq).2⟩
section
variable {g:Heap} {LR:Addr} {news:List (Addr×Obj)} {pr:Arguments} {b:List Stmt} {sc:Scope}
example:True:=by (k_with "B40" => (fail_if_success (fail_if_success (have:=gB40))));(k_with "k_mem" => k_extra "B40";(first | assumption | exact List.Mem.head _ | (apply List.Mem.tail;k_mem)));(k_with "eval Name" => k_extra "B40";(k_here;k_dflt (refine' ldM2 ?Y0 ?Y1 ?Y2 ?Y3 ?Y4 ?Y5 ?_;(case Y0=>assumption);(case Y1=>exact rfl);(case Y2=>exact rfl);(case Y3=>exact rfl);(case Y4=>assumption);(case Y5=>decide);k_whole)));(k_with "call builtin:iter" => k_extra "B40";(k_here;k_dflt (refine' iter_listK ?Y0 ?Y1 ?Y2 ?_;(case Y0=>k_asm);(case Y1=>k_asm);(case Y2=>k_mem);k_whole;intro Y3 Y4 Y5 Y6 Y7 Y8)));(k_with "call ref" => k_extra "B40";(k_here;k_dflt (refine' tok_call ?Y0 ?Y1 ?_;(case Y0=>exact ⟨by k_asm,by k_asm,by k_asm,by k_asm,by first | exact rfl | assumption,by ((try dsimp only [ktrTop,Around.deeper]);omega),by ((try dsimp only [ktrTop,Around.deeper]);omega)⟩);(case Y1=>k_asm);k_whole;intro Y2 Y3 Y4 Y5 Y6 Y7 Y8 Y9 Y10 Y11 Y12 Y13 Y14 Y15 Y16 Y17 Y18)));trivial
set_option maxHeartbeats 4000000 in
theorem pc_iter {cT cP cE cL cS lx fs ch:Addr} {oL oS:Obj} {ys:List Value} {e:Expr} {Q E:Value->Shared->Prop} (FD:FnDef w 551 "_law_run" "_law_run" pr b sc (.ref 550)) (hp:itOf b=some e)
  (C:Cx 60 w p loose mean mg mb dp un sc outer A₀ base g LR m s) (N:News g LR s.heap news) (hch:m "chars" = some (.ref ch))
  (mL:(cL,oL)∈news) (dL:oL.data=.cell (some (.ref lx))) (mS:(cS,oS)∈news) (dS:oS.data=.cell (some (.ref fs))) (mc:(ch,LCg.lst ys)∈news) (hy:ys.length≤1000)
  (ret:∀ it LG oG h' tk' prT bT scT t1 t2 ga,FnDef w 208 "tokenize" TokW prT bT scT (.ref 207)->Fr g LR h' m->News g LR h' ((ga,genObjOf s.gens.size "tokenize" TokW t1 t2)::(LG,oG)::(it,itObj ch)::news) ->
   h'.Ns LG (m0 lx it fs)->(∀ q∈news,q.1<it)->@LT.lt Nat _ it LG->@LT.lt Nat _ LR LG->@LT.lt Nat _ LG ga ->
   Q (.ref ga) { s with heap:=h',gens:=s.gens.push (.fresh (.func bT (envOf TokW scT LG 208 (.ref 207)))),toks:=tk' }) :
  wpAny (model pw_rk0009_01 w) (ktrTop dp un gd "_law_run" sc LR 551 (.ref 550) (cellsR cS cL cE cP cT) outer) (eval e (envX "_law_run" sc LR 551 (.ref 550) (cellsR cS cL cE cP cT))) Q E s:=by
 obtain ⟨_,_,_,_,_,_,_,_,_,ho⟩:=FD
 have e1:sc=_:=fn_scope ho (by k_is)
 subst e1
 have e1:b=_:=fn_body ho (by k_is)
 subst e1
 have e2:e=_:=Option.some.inj (hp.symm.trans (rfl:itOf _=some _))
 subst e2
 clear hp ho
 obtain ⟨B,F,X,T,hkd,hdp,hun⟩:=C
 k_steps
 rename ∀ q∈_::_,_=>kl
 exact ret _ _ _ _ _ _ _ _ _ _ _ (by assumption) (by k_asm) (by k_asm) (by assumption) (by assumption) (kl _ (.head _)) (by assumption) (by assumption)
end
end
example:True:=by w_top off;trivial
section
structure RunIn (w:World) (a:LexA) (chars:List Cel) (ch got fe fs:Addr) (tn pn cn:Nat) (ps:Array Value) (news:List (Addr×Obj)):Prop where
 lx:(a.lx,instObj 390 a.dx)∈news
 dx:(a.dx,dictOf (preDict a) 4)∈news
 tb:(a.tb,listOf #[] tn)∈news
 pb:(a.pb,listOf #[] pn)∈news
 ct:(a.ct,listOf #[] cn)∈news
 tab:(225,tabObj ps)∈news
 ets:EmTab emPos ps
 mgot:(got,listOf #[] 0)∈news
 mch:(ch,LCg.lst (chars.map Cel.ref))∈news
 chn:ch≠a.tb/\ch≠a.pb/\ch≠a.ct/\ch≠got
 ord : @LT.lt Nat _ 225 a.dx/\@LT.lt Nat _ a.dx a.lx/\@LT.lt Nat _ a.lx a.tb/\@LT.lt Nat _ a.tb a.pb/\@LT.lt Nat _ a.pb a.ct/\@LT.lt Nat _ a.ct got
 ce:∀ x∈chars,CelIn news x
 one:∀ x∈chars,x.x.length=1
 z:chars.length≤900
 zs:StartP w a news fe fs
 ze:EndP w news fe
noncomputable abbrev fine (a:LexA) (ps:Array Value) (o:Obj):Prop:=o≠instObj 390 a.dx/\o≠dictOf (preDict a) 4/\(∀ n,o≠listOf #[] n)/\o≠tabObj ps
noncomputable abbrev badA (a:LexA) (LR LG got it:Addr):List Addr:=[LR,got,LG,a.lx,a.dx,a.tb,a.pb,a.ct,it,225]
section
variable {g h h':Heap} {LR LG it:Addr} {a:LexA} {chars:List Cel} {ch got fe fs:Addr} {tn pn cn:Nat} {ps:Array Value} {news:List (Addr×Obj)}
theorem RunIn.mem (R:RunIn w a chars ch got fe fs tn pn cn ps news) (N:News g LR h' news) (h1:∀ q∈news,q.1<it) (h2 : @LT.lt Nat _ it LG) {q:Addr×Obj} (hq:q∈news) (hf:fine a ps q.2):q∈allBut h' g (badA a LR LG got it):=by
 have z:=N q hq
 refine mem_allBut.mpr ⟨z.1,fun hm=>?_,z.2.2⟩
 have same:∀ {o:Obj} {b:Addr},(b,o)∈news->q.1=b->q.2=o:=fun hb e=>by
  have z2:=(N _ hb).1
  have z1:=z.1
  rw [e,z2] at z1
  exact (Option.some.inj z1).symm
 refine e0a4 hf fun f1 f2 f3 f4=>?_;clear hf
 have lt1:=ltN (h1 q hq)
 refine m10 hm (fun e=>?_) (fun e=>?_) (fun e=>?_) (fun e=>?_) (fun e=>?_) (fun e=>?_) (fun e=>?_) (fun e=>?_) (fun e=>?_) (fun e=>?_) 
 ·exact z.2.1 e
 ·exact f3 _ (same R.mgot e)
 ·rw [e] at lt1;omega
 ·exact f1 (same R.lx e)
 ·exact f2 (same R.dx e)
 ·exact f3 _ (same R.tb e)
 ·exact f3 _ (same R.pb e)
 ·exact f3 _ (same R.ct e)
 ·rw [e] at lt1;omega
 ·exact f4 (same R.tab e)
theorem fine_inst {C d:Addr} (h:C≠390):fine a ps (instObj C d):=by
 refine ⟨fun e=>h ?_,fun e=>?_,fun n e=>?_,fun e=>?_⟩
 ·exact Value.ref.inj (congrArg Obj.cls e)
 ·have:=congrArg Obj.data e;cases this
 ·have:=congrArg Obj.data e;cases this
 ·have:=congrArg Obj.data e;cases this
theorem fine_loc {x:Cel} : fine a ps (locObj x):=by
 refine ⟨fun e=>?_,fun e=>?_,fun n e=>?_,fun e=>?_⟩
 ·have:=Value.ref.inj (congrArg Obj.cls e);revert this;decide
 ·have:=congrArg Obj.data e;cases this
 ·have:=congrArg Obj.data e;cases this
 ·have:=congrArg Obj.data e;cases this
theorem fine_dict {es:List DictEntry} {n:Nat} (h:n≠4):fine a ps (dictOf es n):=by
 refine ⟨fun e=>?_,fun e=>h ?_,fun n e=>?_,fun e=>?_⟩
 ·have:=congrArg Obj.data e;cases this
 ·have:=congrArg Obj.data e;injection this
 ·have:=congrArg Obj.data e;cases this
 ·have:=congrArg Obj.data e;cases this
theorem fine_fn {o:Obj} {fd:FuncData} (h:o.data=.func fd):fine a ps o:=by
 refine ⟨fun e=>?_,fun e=>?_,fun n e=>?_,fun e=>?_⟩ <;> (rw [e] at h;cases h)
theorem fine_cell {o:Obj} {v:Option Value} (h:o.data=.cell v):fine a ps o:=by
 refine ⟨fun e=>?_,fun e=>?_,fun n e=>?_,fun e=>?_⟩ <;> (rw [e] at h;cases h)
theorem fine_code {o:Obj} {vs:Array Value} {q:Str} {t:Tok} (het:EmTab emPos ps) (h:o.data=.fields vs) (h1:vs[1]?=some (.str q t)):fine a ps o:=by
 refine ⟨fun e=>?_,fun e=>?_,fun n e=>?_,fun e=>?_⟩
 ·rw [e] at h;cases h
 ·rw [e] at h;cases h
 ·rw [e] at h;cases h
 ·rw [e] at h
  injection h with h
  subst h
  rcases het with rfl | ⟨c',rfl⟩ <;> cases h1
theorem RunIn.tokS (R:RunIn w a chars ch got fe fs tn pn cn ps news) (N:News g LR h' news) (h1:∀ q∈news,q.1<it) (h2 : @LT.lt Nat _ it LG):TokS w { a with it:=it } chars ch (allBut h' g (badA a LR LG got it)) fe fs where
 cl:=by
  have z:=N _ R.mch
  refine ⟨(chars.map Cel.ref).length,mem_allBut.mpr ⟨z.1,fun hm=>?_,z.2.2⟩⟩
  have lt1:=ltN (h1 _ R.mch)
  have diff:∀ {o:Obj} {b:Addr},(b,o)∈news->(∀ vs n,o.data≠.seq vs n)->ch≠b:=fun {o b} hb ho e=>by
   subst e
   have z2:=(N _ hb).1
   have z1:=z.1
   rw [z2] at z1
   have e2:o=LCg.lst (chars.map Cel.ref):=Option.some.inj z1
   exact ho (chars.map Cel.ref).toArray (chars.map Cel.ref).length (congrArg Obj.data e2)
  refine m10 hm (fun e=>?_) (fun e=>?_) (fun e=>?_) (fun e=>?_) (fun e=>?_) (fun e=>?_) (fun e=>?_) (fun e=>?_) (fun e=>?_) (fun e=>?_) 
  ·exact z.2.1 e
  ·exact R.chn.2.2.2 e
  ·rw [e] at lt1;omega
  ·exact diff R.lx (fun _ _ e=>by cases e) e
  ·exact diff R.dx (fun _ _ e=>by cases e) e
  ·exact R.chn.1 e
  ·exact R.chn.2.1 e
  ·exact R.chn.2.2.1 e
  ·rw [e] at lt1;omega
  ·exact diff R.tab (fun _ _ e=>by cases e) e
 ce:=fun x hx=>⟨R.mem N h1 h2 (R.ce x hx).1 (fine_inst (by decide)),R.mem N h1 h2 (R.ce x hx).2.1 (fine_dict (by decide)),R.mem N h1 h2 (R.ce x hx).2.2.1 fine_loc,R.mem N h1 h2 (R.ce x hx).2.2.2 (fine_dict (by decide))⟩
 one:=R.one
 z:=R.z
 zs:=by
  obtain ⟨c',cE,cL,cS,oE,oL,oS,oc,vs,nm,qual,pr,b,sc,doc,pm,ctv,tq,S⟩:=R.zs
  exact ⟨c',cE,cL,cS,oE,oL,oS,oc,vs,nm,qual,pr,b,sc,doc,pm,ctv,tq,S.txt,R.mem N h1 h2 S.fn (fine_fn rfl),⟨R.mem N h1 h2 S.cd.1 (fine_code R.ets S.cd.2.1 S.cd.2.2),S.cd.2⟩,⟨R.mem N h1 h2 S.e.1 (fine_cell S.e.2),S.e.2⟩,⟨R.mem N h1 h2 S.l.1 (fine_cell S.l.2),S.l.2⟩,⟨R.mem N h1 h2 S.s.1 (fine_cell S.s.2),S.s.2⟩⟩
 ze:=by
  obtain ⟨c',oc,vs,nm,qual,pr,b,sc,doc,pm,ctv,tq,S⟩:=R.ze
  exact ⟨c',oc,vs,nm,qual,pr,b,sc,doc,pm,ctv,tq,S.txt,R.mem N h1 h2 S.fn (fine_fn rfl),⟨R.mem N h1 h2 S.cd.1 (fine_code R.ets S.cd.2.1 S.cd.2.2),S.cd.2⟩⟩
theorem nm_cons {x y:Addr} {l:List Addr} (h:x≠y) (g:x∉l):x∉y::l:=fun m=>(List.mem_cons.mp m).elim h g
theorem nd_cons {x:Addr} {l:List Addr} (h:x∉l) (g:l.Nodup):(x::l).Nodup:=List.nodup_cons.mpr ⟨h,g⟩
theorem lexD_of (ord : @LT.lt Nat _ 225 a.dx/\@LT.lt Nat _ a.dx a.lx/\@LT.lt Nat _ a.lx a.tb/\@LT.lt Nat _ a.tb a.pb/\@LT.lt Nat _ a.pb a.ct/\@LT.lt Nat _ a.ct got) (hi : @LT.lt Nat _ a.ct it):LexD { a with it:=it } ((225,tabObj ps)::allBut h' g (badA a LR LG got it)):=by
 unfold LexD
 refine e0a6 ord fun o1 o2 o3 o4 o5 o6=>?_;clear ord
 have ne:∀ {x y:Addr},@LT.lt Nat _ x y->x≠y:=fun h e=>by rw [e] at h;exact Nat.lt_irrefl _ h
 have off:∀ b∈badA a LR LG got it,b∉(allBut h' g (badA a LR LG got it)).map (·.1):=fun b hb hm=>by
  refine e1a2 (List.mem_map.mp hm) fun q hq e=>?_
  exact (mem_allBut.mp (show (q.1,q.2)∈_ from hq)).2.1 (e▸hb)
 have q1:=off a.lx (.tail _ (.tail _ (.tail _ (.head _))))
 have q2:=off a.dx (.tail _ (.tail _ (.tail _ (.tail _ (.head _)))))
 have q3:=off a.tb (.tail _ (.tail _ (.tail _ (.tail _ (.tail _ (.head _))))))
 have q4:=off a.pb (.tail _ (.tail _ (.tail _ (.tail _ (.tail _ (.tail _ (.head _)))))))
 have q5:=off a.ct (.tail _ (.tail _ (.tail _ (.tail _ (.tail _ (.tail _ (.tail _ (.head _))))))))
 have q6:=off it (.tail _ (.tail _ (.tail _ (.tail _ (.tail _ (.tail _ (.tail _ (.tail _ (.head _)))))))))
 have q7:=off 225 (.tail _ (.tail _ (.tail _ (.tail _ (.tail _ (.tail _ (.tail _ (.tail _ (.tail _ (.head _))))))))))
 have i1:=Nat.lt_trans o5 hi
 have i2:=Nat.lt_trans o4 i1
 have i3:=Nat.lt_trans o3 i2
 have i4:=Nat.lt_trans o2 i3
 have i5:=Nat.lt_trans o1 i4
 have c1:=Nat.lt_trans o4 o5
 have c2:=Nat.lt_trans o3 c1
 have c3:=Nat.lt_trans o2 c2
 have b1:=Nat.lt_trans o3 o4
 have b2:=Nat.lt_trans o2 b1
 have b3:=Nat.lt_trans o2 o3
 have u1:=Nat.lt_trans o1 o2
 have u2:=Nat.lt_trans u1 o3
 have u3:=Nat.lt_trans u2 o4
 have u4:=Nat.lt_trans u3 o5
 exact nd_cons (nm_cons (ne o2).symm (nm_cons (ne o3) (nm_cons (ne b1) (nm_cons (ne c2) (nm_cons (ne i3) (nm_cons (ne u1).symm q1))))))
  (nd_cons (nm_cons (ne b3) (nm_cons (ne b2) (nm_cons (ne c3) (nm_cons (ne i4) (nm_cons (ne o1).symm q2)))))
  (nd_cons (nm_cons (ne o4) (nm_cons (ne c1) (nm_cons (ne i2) (nm_cons (ne u2).symm q3))))
  (nd_cons (nm_cons (ne o5) (nm_cons (ne i1) (nm_cons (ne u3).symm q4)))
  (nd_cons (nm_cons (ne hi) (nm_cons (ne u4).symm q5))
  (nd_cons (nm_cons (ne i5).symm q6) (nd_cons q7 (nodup_allBut _ _ _)))))))
end
end
example:True:=by w_top off;trivial
section
inductive Lexed:List Cel->List (Str×List Cel)->Option Value->Prop
 | done {s:List Cel} : turn s=none->Lexed s [] none
 | bad {s:List Cel} {l:Value} : turn s=some (.error l)->Lexed s [] (some l)
 | step {s r cc:List Cel} {typ:Str} {ts:List (Str×List Cel)} {e:Option Value} : turn s=some (.ok (typ,cc,r))->Lexed r ts e->Lexed s ((typ,cc)::ts) e
theorem Lexed.stm {s:List Cel} {ts:List (Str×List Cel)} {e:Option Value} (h:Lexed s ts e):∃ stm:Nat->List Cel,stm ts.length=s/\(∀ (i:Nat) typ cc,ts[i]?=some (typ,cc)->turn (stm (ts.length - i))=some (.ok (typ,cc,stm (ts.length - i - 1)))) /\
  turn (stm 0)=e.map Except.error/\∀ n,n≤ts.length->∀ x∈stm n,x∈s:=by
 induction h with
 | done h=>exact ⟨fun _=>_,rfl,fun i typ cc q=>by simp at q,h,fun _ _ _ hx=>hx⟩
 | bad h=>exact ⟨fun _=>_,rfl,fun i typ cc q=>by simp at q,h,fun _ _ _ hx=>hx⟩
 | @step s r cc typ ts e h _ ih =>
  refine e1a4 ih fun stm h1 h2 h3 h4=>?_;clear ih
  refine ⟨fun n=>if n=ts.length+1 then s else stm n,if_pos rfl,fun i typ' cc' q=>?_,?_,fun n hn x hx=>?_⟩
  ·cases i with
   | zero =>
    simp only [List.getElem?_cons_zero,Option.some.injEq,Prod.mk.injEq] at q
    refine e0a2 q fun Q39=>?_;clear q;obtain rfl:=Q39;intro Q40;obtain rfl:=Q40
    simp only [List.length_cons,Nat.sub_zero,if_pos,Nat.add_sub_cancel,if_neg (Nat.ne_of_lt (Nat.lt_succ_self ts.length))]
    rw [h1]
    exact h
   | succ i =>
    simp only [List.getElem?_cons_succ] at q
    have hi:=(List.getElem?_eq_some_iff.mp q).1
    have:=h2 i typ' cc' q
    simp only [List.length_cons]
    rw [if_neg (by omega),if_neg (by omega),show ts.length+1 - (i+1)=ts.length - i by omega]
    exact this
  ·show turn (if 0=ts.length+1 then s else stm 0)=_
   rw [if_neg (by omega)];exact h3
  ·simp only at hx
   split at hx
   ·exact hx
   ·rw [<- turn_sub h];exact List.mem_append_right _ (h4 n (by simp only [List.length_cons] at hn;omega) x hx)
theorem locOf_in (s:List Cel):locOf s=.none\/∃ x∈s,locOf s=.ref x.lc:=by
 cases s with
 | nil=>exact .inl rfl
 | cons x r=>exact .inr ⟨x,.head _,rfl⟩
noncomputable def Z88P:FrZ->Prop:=fun V=>∀ (s:List Cel) (l:Value) (h:lexC s=.error l),l=.none\/∃ x∈s,l=.ref x.lc
@[irreducible] noncomputable def Z88:FrZ:=pickZ Z88P
set_option tactic.hygienic true in
theorem Z88c:Z88P Z88:=by
 intro s l h
 unfold lexC at h
 split at h
 ·rename_i l' hm
  cases h
  unfold lcMid at hm
  split at hm
  ·split at hm
   ·cases hm
   ·cases hm
    rcases locOf_in (accS "\\" s) with h | ⟨x,hx,h⟩
    ·exact .inl h
    ·exact .inr ⟨x,accS_sub _ _ _ hx,h⟩
  ·split at hm
   ·cases hm;exact .inl rfl
   ·cases hm
 ·rename_i c r hm
  split at h
  ·cases h
  ·cases h
   have:=lcMid_sub hm
   rcases locOf_in r with h | ⟨x,hx,h⟩
   ·exact .inl h
   ·exact .inr ⟨x,by rw [<- this];exact List.mem_append_right _ hx,h⟩
theorem lexC_err {s:List Cel} {l:Value} (h:lexC s=.error l):l=.none\/∃ x∈s,l=.ref x.lc:=pickedZ (by with_unfolding_all rfl) Z88c (frZ) s l h
set_option tactic.hygienic true in
theorem turn_err {s:List Cel} {l:Value} (h:turn s=some (.error l)):l=.none\/∃ x∈s,l=.ref x.lc:=by
 unfold turn at h
 cases s with
 | nil=>cases h
 | cons y r' =>
  dsimp only at h
  split at h
  ·split at h
   ·rename_i hl
    cases h
    rcases lexC_err hl with h | ⟨x,hx,h⟩
    ·exact .inl h
    ·exact .inr ⟨x,.tail _ hx,h⟩
   ·cases h
  ·split at h
   ·split at h
    ·rename_i hl
     cases h
     rcases lexC_err hl with h | ⟨x,hx,h⟩
     ·exact .inl h
     ·exact .inr ⟨x,.tail _ (accS_sub _ _ _ hx),h⟩
    ·cases h
   ·cases h
end
example:True:=by w_top off;trivial
section
theorem run_shape {w:World} {pr:Arguments} {b:List Stmt} {sc:Scope} (FD:FnDef w 551 "_law_run" "_law_run" pr b sc (.ref 550)) :
  ∃ s0 s1 s2 s3 s4 tp e bo fp np b0 hb hp0 tpos r,b=[s0,s1,s2,s3,s4,.Try [.For (.Name "t" tp) e bo [] fp] [.ExceptHandler (some (.Name "CompilerError" np)) (some "fault") (b0::hb) hp0] [] [] tpos,r]/\sc.kind=.function /\
   ∀ LR cll,(envX "_law_run" sc LR 551 (.ref 550) cll).kindOf "CompilerError" = some .globalImplicit/\(envX "_law_run" sc LR 551 (.ref 550) cll).kindOf "fault" = some .local/\∀ x,foldedSetIterable e (envX "_law_run" sc LR 551 (.ref 550) cll) x=pure x:=by
 obtain ⟨_,_,_,_,_,_,_,_,_,ho⟩:=FD
 have e:sc=_:=fn_scope ho (by k_is)
 subst e
 have e:b=_:=fn_body ho (by k_is)
 subst e
 exact ⟨_,_,_,_,_,_,_,_,_,_,_,_,_,_,_,rfl,rfl,fun _ _=>⟨rfl,rfl,fun _=>rfl⟩⟩
noncomputable abbrev wrO (a:LexA) (got:Addr):List Addr:=[got,a.lx,a.dx,a.tb,a.pb,a.ct,225]
noncomputable def GotAll (h:Heap) (toks:List (Str×List Cel)) (its:List Value):Prop :=
 its.length=toks.length/\∀ (i:Nat) typ cc,toks[i]?=some (typ,cc)->∃ tp k x,its[i]?=some (.ref tp)/\cc.head?=some x/\k.typ=typ/\k.val=catS cc/\h.get? tp=some (gotObj k x)
structure OutR (base:Heap) (L₁:Addr) (m₁:Str->Option Value) (a:LexA) (got:Addr) (news:List (Addr×Obj)) (toks:List (Str×List Cel)) (h:Heap) (its:List Value):Prop where
 bs:base.StaysIn h
 nw:∀ q∈news,q.1∉wrO a got->h.get? q.1=some q.2
 gr:GrownAt 225 h
 fr:h.Ns L₁ m₁
 gt:∃ n',h.get? got=some (listOf its.toArray n')
 ok:GotAll h toks its
section
variable {g h:Heap} {bad:List Addr} {stm:Nat->List Cel} {toks:List (Str×List Cel)} {its:List Value}
theorem gotAll_of (G:GotOk h g bad stm toks.length 0 its) (hs:∀ (i:Nat) typ cc,toks[i]?=some (typ,cc)->turn (stm (toks.length - i))=some (.ok (typ,cc,stm (toks.length - i - 1)))):GotAll h toks its:=by
 refine ⟨G.1,fun i typ cc e=>?_⟩
 have hi:=(List.getElem?_eq_some_iff.mp e).1
 refine e5a8 (G.2 i hi) fun tp k x typ' cc' a1 a2 a3 a4 a5 a6 a7 a8=>?_
 have:=hs i typ cc e
 rw [a5] at this
 injection this with this
 injection this with this
 injection this with e1 this
 injection this with e2 this
 subst e1 e2
 exact ⟨tp,k,x,a1,a8,a6,a7,a2⟩
end
section
variable {g:Heap} {LR:Addr} {news:List (Addr×Obj)} {pr:Arguments} {b:List Stmt} {sc:Scope} {a:LexA} {chars:List Cel} {ch got fe fs:Addr} {tn pn cn:Nat} {ps:Array Value} {toks:List (Str×List Cel)} {fin:Option Value} {L₁:Addr} {m₁:Str->Option Value} {cT cP cE cL cS:Addr} {oL oS:Obj} {Q:Flow->Shared->Prop} {E:Value->Shared->Prop} {s0 s1 s2 s3 s4 b0 r:Stmt} {tp fp np hp0 tpos:Pos} {e:Expr} {bo hb:List Stmt}
noncomputable abbrev CatR (base:Heap) (L₁:Addr) (m₁:Str->Option Value) (a:LexA) (chars:List Cel) (got:Addr) (news:List (Addr×Obj)) (toks:List (Str×List Cel)) (l:Value) (h:Heap) (its:List Value) (rr:Addr):Prop :=
 OutR base L₁ m₁ a got news toks h its/\∃ q,h.get? rr=some (pairObj (.ref got) (.ref q))/\((l=.none/\∃ u1 u2,h.get? q=some (pairObj (.int 0 u1) (.int 0 u2)))\/∃ x∈chars,l=.ref x.lc/\h.get? q=some (pairObj (.int x.row x.u4) (.int x.col x.u1)))
noncomputable def Z3P:FrZ->Prop:=fun V=>∀ (b:List Stmt) (toks:List (Str×List Cel)) (fin:Option Value) (s1:Stmt) (e:Expr) (FD:FnDef V.w 551 "_law_run" "_law_run" (V.fg 0) b (V.fs 0) (.ref 550)) (hbb:b=[(V.fm 0),s1,(V.fm 1),(V.fm 2),(V.fm 3),.Try [.For (.Name "t" (V.fp 0)) e (V.fB 0) [] (V.fp 1)] [.ExceptHandler (some (.Name "CompilerError" (V.fp 2))) (some "fault") ((V.fm 4)::(V.fB 1)) (V.fp 3)] [] [] (V.fp 4),(V.fm 5)]) (hsk:(V.fs 0).kind=.function) (hkn:(envX "_law_run" (V.fs 0) (V.fA 0) 551 (.ref 550) (cellsR (V.fA 10) (V.fA 9) (V.fA 8) (V.fA 7) (V.fA 6))).kindOf "CompilerError" = some .globalImplicit/\(envX "_law_run" (V.fs 0) (V.fA 0) 551 (.ref 550) (cellsR (V.fA 10) (V.fA 9) (V.fA 8) (V.fA 7) (V.fA 6))).kindOf "fault" = some .local/\∀ x,foldedSetIterable e (envX "_law_run" (V.fs 0) (V.fA 0) 551 (.ref 550) (cellsR (V.fA 10) (V.fA 9) (V.fA 8) (V.fA 7) (V.fA 6))) x=pure x) (C:Cx 300 V.w V.p V.loose V.mean V.mg V.mb V.dp V.un (V.fs 0) V.outer V.A₀ V.base (V.fh 0) (V.fA 0) V.m V.s) (KB:(hd.heap_1 V.w.params).In V.base) (TB:Top V.p V.loose V.mean V.mg V.mb V.base) (hz:V.base.objs.size≤(V.fA 0)) (CH:CodeHd (V.fh 0) 550 548) (N:News (V.fh 0) (V.fA 0) V.s.heap (V.fL 0)) (R:RunIn V.w (V.fa 0) (V.fC 0) (V.fA 1) (V.fA 2) (V.fA 3) (V.fA 4) (V.fN 0) (V.fN 1) (V.fN 2) (V.fW 0) (V.fL 0)) (mc:V.m "chars" = some (.ref (V.fA 1))) (mgt:V.m "got" = some (.ref (V.fA 2))) (mL:((V.fA 9),(V.fO 0))∈(V.fL 0)) (dL:(V.fO 0).data=.cell (some (.ref (V.fa 0).lx))) (mS:((V.fA 10),(V.fO 1))∈(V.fL 0)) (dS:(V.fO 1).data=.cell (some (.ref (V.fA 4)))) (f1:V.base.get? (V.fA 5)=none) (f2:(V.fA 5)≠(V.fA 0)) (f3:(V.fh 0).Ns (V.fA 5) (V.fM 0)) (LX:Lexed (V.fC 0) toks fin) (hN:toks.length≤900) (bare:∀ (i:Nat) (x:GenState),V.s.gens[i]?=some x->x.bare=true) (ret0:∀ s' its m',fin=none->OutR V.base (V.fA 5) (V.fM 0) (V.fa 0) (V.fA 2) (V.fL 0) toks s'.heap its->Fr (V.fh 0) (V.fA 0) s'.heap m'->m' "got" = some (.ref (V.fA 2))->s'.os=V.s.os->s'.drawn=V.s.drawn->(∀ (i:Nat) (x:GenState),s'.gens[i]?=some x->x.bare=true)->(V.fF 0) .next s') (retE:∀ s' its l rr,fin=some l->CatR V.base (V.fA 5) (V.fM 0) (V.fa 0) (V.fC 0) (V.fA 2) (V.fL 0) toks l s'.heap its rr->s'.os=V.s.os->s'.drawn=V.s.drawn->(∀ (i:Nat) (x:GenState),s'.gens[i]?=some x->x.bare=true)->(V.fF 0) (.ret (.ref rr)) s'),wpAny (model pw_rk0009_01 V.w) (ktrTop V.dp V.un V.gd "_law_run" (V.fs 0) (V.fA 0) 551 (.ref 550) (cellsR (V.fA 10) (V.fA 9) (V.fA 8) (V.fA 7) (V.fA 6)) V.outer) (exec (.Try [.For (.Name "t" (V.fp 0)) e (V.fB 0) [] (V.fp 1)] [.ExceptHandler (some (.Name "CompilerError" (V.fp 2))) (some "fault") ((V.fm 4)::(V.fB 1)) (V.fp 3)] [] [] (V.fp 4)) (envX "_law_run" (V.fs 0) (V.fA 0) 551 (.ref 550) (cellsR (V.fA 10) (V.fA 9) (V.fA 8) (V.fA 7) (V.fA 6)))) (V.fF 0) V.E V.s
@[irreducible] noncomputable def Z3:FrZ:=pickZ Z3P
set_option maxHeartbeats 4000000 in
theorem Z3c:Z3P Z3:=by
 intro b toks fin s1 e FD hbb hsk hkn C KB TB hz CH N R mc mgt mL dL mS dS f1 f2 f3 LX hN bare ret0 retE
 refine e1a4 LX.stm fun stm st1 st2 st3 st4=>?_
 have hit:itOf b=some e:=by rw [hbb];rfl
 have hfor:forOf b=some (Z3.fB 0):=by rw [hbb];rfl
 have hhb:hbOf b=some ((Z3.fm 4)::(Z3.fB 1)):=by rw [hbb];rfl
 have hdp:=C.hdp
 have hun:=C.hun
 refine wpAny_Try_except (wpAny_execs_cons (wpAny_For ?_ hkn.2.2))
 refine pc_iter FD hit ⟨C.B,C.F,C.X,C.T,C.hk,by omega,by omega⟩ N mc mL dL mS dS R.mch (by rw [List.length_map];have:=R.z;omega) fun it LG oG h' tk' prT bT scT t1 t2 ga FDT F' N' ns' l1 l2 l3 l4=>?_
 obtain ⟨p1,p2,p3,x,y,ex,yp,ep,wp1,wp0,asg,hbT,hco,hkT⟩:=tok_shape FDT
 have Nn:News (Z3.fh 0) (Z3.fA 0) h' (Z3.fL 0):=fun q hq=>N' q (.tail _ (.tail _ (.tail _ hq)))
 have Z:=R.tokS Nn l1 l2
 have hIt:=N' _ (.tail _ (.tail _ (.head _)))
 have hGa:=N' _ (.head _)
 generalize hr0:allBut h' (Z3.fh 0) (badA (Z3.fa 0) (Z3.fA 0) LG (Z3.fA 2) it)=rest0 at Z
 have inr:∀ q∈rest0,h'.get? q.1=some q.2/\q.1∉badA (Z3.fa 0) (Z3.fA 0) LG (Z3.fA 2) it/\(Z3.fh 0).get? q.1=none:=fun q hq=>by
  rw [<- hr0] at hq
  exact mem_allBut.mp (show (q.1,q.2)∈_ from hq)
 have ltI:∀ {q:Addr×Obj},q∈(Z3.fL 0)->q.1≠LG/\q.1≠it:=fun {q} hq=>⟨Nat.ne_of_lt (Nat.lt_trans (l1 q hq) l2),Nat.ne_of_lt (l1 q hq)⟩
 have adr:∀ x∈(Z3.fa 0).lx::(Z3.fa 0).dx::(Z3.fa 0).tb::(Z3.fa 0).pb::(Z3.fa 0).ct::it::225::rest0.map (·.1),x≠LG/\x≠(Z3.fA 0)/\(Z3.fh 0).get? x=none:=fm7 ⟨(ltI R.lx).1,(Nn _ R.lx).2⟩ ⟨(ltI R.dx).1,(Nn _ R.dx).2⟩ ⟨(ltI R.tb).1,(Nn _ R.tb).2⟩ ⟨(ltI R.pb).1,(Nn _ R.pb).2⟩ ⟨(ltI R.ct).1,(Nn _ R.ct).2⟩
  ⟨Nat.ne_of_lt l2,hIt.2⟩ ⟨(ltI R.tab).1,(Nn _ R.tab).2⟩ (List.forall_mem_map.mpr fun q hq=>⟨nm (inr q hq).2.1 (.tail _ (.tail _ (.head _))),nm (inr q hq).2.1 (.head _),(inr q hq).2.2⟩)
 have hG:Z3.s.heap=Z3.s.heap:=rfl
 refine wpAny_pyIter_gen (g:=Z3.s.gens.size) ⟨_,_,_,hGa.1,rfl,rfl,rfl⟩ ?_
 have G:∀ d u,d+200<900->u+8 * 200<9000->TokG Z3.w Z3.p Z3.loose Z3.mean Z3.mg Z3.mb d u (Z3.fs 0) Z3.outer Z3.A₀ Z3.base (Z3.fh 0) (Z3.fA 0) LG { (Z3.fa 0) with it:=it } (Z3.fC 0) (Z3.fA 1) (Z3.fA 3) (Z3.fA 4) rest0 stm toks.length prT bT scT:=fun d u hd hu =>
  ⟨C.B,C.X,C.T,CH,hsk,hd,hu,l3,Z,adr,FDT,fun n hn=>?_,?_⟩
 rotate_left
 ·obtain ⟨⟨typ,cc⟩,e⟩:∃ y,toks[toks.length - (n+1)]?=some y:=⟨_,List.getElem?_eq_getElem (by omega)⟩
  have:=st2 _ typ cc e
  rw [show toks.length - (toks.length - (n+1))=n+1 by omega] at this
  exact ⟨typ,cc,this⟩
 ·cases fin with
  | none=>exact .inl st3
  | some l=>exact .inr ⟨l,st3⟩
 refine e0a6 R.ord fun o1 o2 o3 o4 o5 o6=>?_
 have gotI:=ltN (l1 _ R.mgot)
 have q5:=Nat.lt_trans o5 o6
 have q4:=Nat.lt_trans o4 q5
 have q3:=Nat.lt_trans o3 q4
 have q2:=Nat.lt_trans o2 q3
 have q1:=Nat.lt_trans o1 q2
 have gl:=Nat.lt_trans gotI (Nat.lt_trans l2 l4)
 have off:∀ q∈(Z3.fL 0),q.1∉wrO (Z3.fa 0) (Z3.fA 2)->∀ x∈(Z3.fa 0).lx::(Z3.fA 0)::(Z3.fA 2)::wrT { (Z3.fa 0) with it:=it } LG,q.1≠x:=fun q hq hn =>
  fm10 (nm hn (.tail _ (.head _))) (Nn q hq).2.1 (nm hn (.head _)) (ltI hq).1 (nm hn (.tail _ (.tail _ (.head _)))) (nm hn (.tail _ (.tail _ (.tail _ (.head _))))) (nm hn (.tail _ (.tail _ (.tail _ (.tail _ (.head _)))))) (nm hn (.tail _ (.tail _ (.tail _ (.tail _ (.tail _ (.head _))))))) (ltI hq).2 (nm hn (.tail _ (.tail _ (.tail _ (.tail _ (.tail _ (.tail _ (.head _)))))))) (List.forall_mem_nil _)
 have keepN:∀ h1,KeepBut ((Z3.fA 0)::(Z3.fA 2)::wrT { (Z3.fa 0) with it:=it } LG) h' h1->∀ q∈(Z3.fL 0),q.1∉wrO (Z3.fa 0) (Z3.fA 2)->h1.get? q.1=some q.2:=fun h1 k q hq hn=>k _ _ (fun hm=>off q hq hn _ (.tail _ hm) rfl) (Nn q hq).1
 have hcl:((Z3.fs 0).kind==.class||((Z3.fs 0).kind==.module&&((Z3.fA 0) != mainGlobals)))=false:=by rw [hsk];rfl
 refine for_loop (t:=⟨LG,scT,p1,p2,p3,yp,ep,wp1,ex,asg,bT⟩) (a:={ (Z3.fa 0) with it:=it }) (chars:=(Z3.fC 0)) (cl:=(Z3.fA 1)) (fe:=(Z3.fA 3)) (fs:=(Z3.fA 4)) (rest0:=rest0) (stm:=stm) (N:=toks.length) (got:=(Z3.fA 2)) (ga:=ga) (g:=Z3.s.gens.size) (si:={ Z3.s with heap:=h',gens:=Z3.s.gens.push (.fresh (.func bT (envOf TokW scT LG 208 (.ref 207)))),toks:=tk' }) FD hfor rfl (by omega) (by omega) (G _ _ ?_ ?_) ⟨?_,?_,?_,?_⟩ ?_ ⟨?_,?_⟩ KB ?_ ?_ ?_ hN (gs0:=.fresh (.func bT (envOf TokW scT LG 208 (.ref 207)))) ?_ ?_ ?_
 ·show Z3.dp+200<900
  omega
 ·show Z3.un+1+8 * 200<9000
  omega
 ·exact (Nn _ R.mgot).2.2
 ·exact (Nn _ R.mgot).2.1
 ·exact (ltI R.mgot).1
 ·exact fm7 (Nat.ne_of_lt q3) (Nat.ne_of_lt q2) (Nat.ne_of_lt q4) (Nat.ne_of_lt q5) (Nat.ne_of_lt o6) (Nat.ne_of_gt gotI) (Nat.ne_of_lt q1) (List.forall_mem_map.mpr fun q hq=>nm (inr q hq).2.1 (.tail _ (.head _)))
 ·exact fun hm=>fm9 (P:=fun x=>ga≠x) (Nat.ne_of_gt (Nat.lt_trans l3 l4)) (Nat.ne_of_gt gl) (Nat.ne_of_gt l4) (Nat.ne_of_gt (Nat.lt_trans q2 gl)) (Nat.ne_of_gt (Nat.lt_trans q4 gl)) (Nat.ne_of_gt (Nat.lt_trans q5 gl)) (Nat.ne_of_gt (Nat.lt_trans o6 gl)) (Nat.ne_of_gt (Nat.lt_trans l2 l4)) (Nat.ne_of_gt (Nat.lt_trans q1 gl)) (List.forall_mem_nil _) _ hm rfl
 ·exact hGa.2.2
 ·exact Nat.ne_of_gt (Nat.lt_trans q3 gl)
 ·intro s' its S hnone gb gr
  refine wpAny_execs_nil (wpAny_execs_nil ?_)
  refine e1a2 S.fr fun m' F1 hg1=>?_
  have hfin:fin=none:=by
   rw [hnone] at st3
   cases fin with
   | none=>rfl
   | some l=>cases st3
  exact ret0 s' its m' hfin ⟨fun b o e=>F1.keep b o (C.B.stays b o e),keepN _ S.kb,gr,f3.keeps F1.keep,S.gt,gotAll_of S.ok st2⟩ F1 hg1 S.os S.dr gb
 ·intro s' s1 its e dx D k psE loc S hbad H lD gD U os dr gb
  have hfin:fin=some loc:=by
   rw [hbad] at st3
   cases fin with
   | none=>cases st3
   | some l =>
    injection st3 with h
    injection h with h
    rw [h]
  refine e1a2 S.fr fun mR F1 hg1=>?_
  have nsR:(gndH s1.heap (Z3.fh 0) (Z3.fA 0) LG).Ns (Z3.fA 0) mR:=F1.ns.at' fun o e=>gndH_get.mpr ⟨l3,e,.inr rfl⟩
  have ns1:(gndH s1.heap (Z3.fh 0) (Z3.fA 0) LG).Ns (Z3.fA 5) (Z3.fM 0):=f3.at' fun o e=>gndH_get.mpr ⟨Nat.lt_of_lt_of_le (Heap.lt_size e) (Nat.le_trans F1.above (Nat.le_of_lt l3)),F1.keep _ _ e,.inl (by rw [e];rfl)⟩
  have hmg:Z3.mg "CompilerError" = some (.ref 156):=mg_of KB TB.g (by k_is)
  have inX:∀ {y:Addr} {o:Obj},s1.heap.get? y=some o->y∉(Z3.fa 0).lx::wrT { (Z3.fa 0) with it:=it } LG->(Z3.fh 0).get? y=none->y≠(Z3.fA 0)->(y,o)∈allBut s1.heap (gndH s1.heap (Z3.fh 0) (Z3.fA 0) LG) ((Z3.fa 0).lx::wrT { (Z3.fa 0) with it:=it } LG):=fun {y o} e hn hg hl=>by
   refine mem_allBut.mpr ⟨e,hn,?_⟩
   cases q:(gndH s1.heap (Z3.fh 0) (Z3.fA 0) LG).get? y with
   | none=>rfl
   | some o' =>
    rcases (gndH_get.mp q).2.2 with h | h
    ·rw [hg] at h;cases h
    ·exact absurd h hl
  have inN:∀ q∈(Z3.fL 0),q.1∉wrO (Z3.fa 0) (Z3.fA 2)->(q.1,q.2)∈allBut s1.heap (gndH s1.heap (Z3.fh 0) (Z3.fA 0) LG) ((Z3.fa 0).lx::wrT { (Z3.fa 0) with it:=it } LG):=fun q hq hn=>inX (keepN _ S.kb q hq hn) (fun hm=>off q hq hn _ (mem_lx hm) rfl) (Nn q hq).2.2 (Nn q hq).2.1
  have inR:∀ q∈rest0,(q.1,q.2)∈allBut s1.heap (gndH s1.heap (Z3.fh 0) (Z3.fA 0) LG) ((Z3.fa 0).lx::wrT { (Z3.fa 0) with it:=it } LG):=fun q hq =>
   inX (S.kb _ _ (fun hm=>(inr q hq).2.1 (bad1 hm)) (inr q hq).1) (fun hm=>(inr q hq).2.1 (bad2 hm)) (inr q hq).2.2 (nm (inr q hq).2.1 (.head _))
  have klx:s1.heap.get? (Z3.fa 0).lx=some (instObj 390 (Z3.fa 0).dx):=S.kb _ _ (fun hm=>fm9 (P:=fun x=>(Z3.fa 0).lx≠x) (Nn _ R.lx).2.1 (Nat.ne_of_lt q3) (ltI R.lx).1 (Nat.ne_of_gt o2) (Nat.ne_of_lt o3) (Nat.ne_of_lt (Nat.lt_trans o3 o4)) (Nat.ne_of_lt (Nat.lt_trans (Nat.lt_trans o3 o4) o5)) (ltI R.lx).2 (Nat.ne_of_gt (Nat.lt_trans o1 o2)) (List.forall_mem_nil _) _ hm rfl) (Nn _ R.lx).1
  have inG:∀ {n':Nat},s1.heap.get? (Z3.fA 2)=some (listOf its.toArray n')->((Z3.fA 2),listOf its.toArray n')∈allBut s1.heap (gndH s1.heap (Z3.fh 0) (Z3.fA 0) LG) ((Z3.fa 0).lx::wrT { (Z3.fa 0) with it:=it } LG):=fun {n'} eg =>
   inX eg (fun hm=>fm8 (P:=fun x=>(Z3.fA 2)≠x) (Nat.ne_of_gt q3) (ltI R.mgot).1 (Nat.ne_of_gt q2) (Nat.ne_of_gt q4) (Nat.ne_of_gt q5) (Nat.ne_of_gt o6) (ltI R.mgot).2 (Nat.ne_of_gt q1) (List.forall_mem_nil _) _ hm rfl) (Nn _ R.mgot).2.2 (Nn _ R.mgot).2.1
  refine flight_X H fun h2 H2 U2=>?_
  refine caught_X (m:=mR) H2 rfl ((U.trans U2).ns nsR) hz KB TB.g hmg rfl hsk hkn.1 (by decide) rfl hkn.2.1 hcl fun h3 tk3 oe F3 N3 c3 d3 z3 fr3=>?_
  refine e3a3 (fr3 (Z3.fA 5) (Z3.fM 0) f2 ((U.trans U2).ns ns1)) fun oL1 es1 ep1 eL1 dL1 rL1=>?_
  have N4:News Z3.base (Z3.fA 0) h3 (((Z3.fA 5),oL1)::(e,oe)::(dx,dictOf D k)::(225,tabObj psE)::allBut s1.heap (gndH s1.heap (Z3.fh 0) (Z3.fA 0) LG) ((Z3.fa 0).lx::wrT { (Z3.fa 0) with it:=it } LG)):=fun q hq=>by
   rcases List.mem_cons.mp hq with rfl | hq
   ·exact ⟨eL1,f2,f1⟩
   ·exact N3 q hq
  have out:∀ h4 h5 m4,Fr Z3.base (Z3.fA 0) h4 m4->News Z3.base (Z3.fA 0) h4 (((Z3.fA 5),oL1)::(e,oe)::(dx,dictOf D k)::(225,tabObj psE)::allBut s1.heap (gndH s1.heap (Z3.fh 0) (Z3.fA 0) LG) ((Z3.fa 0).lx::wrT { (Z3.fa 0) with it:=it } LG))->Heap.SameBut (Z3.fA 0) h4 h5->OutR Z3.base (Z3.fA 5) (Z3.fM 0) (Z3.fa 0) (Z3.fA 2) (Z3.fL 0) toks h5 its:=fun h4 h5 m4 F4 N4 sb=>by
   have mv:∀ {y:Addr} {o:Obj},(y,o)∈allBut s1.heap (gndH s1.heap (Z3.fh 0) (Z3.fA 0) LG) ((Z3.fa 0).lx::wrT { (Z3.fa 0) with it:=it } LG)->h5.get? y=some o:=fun {y o} hy=>by
    have z:=N4 (y,o) (.tail _ (.tail _ (.tail _ (.tail _ hy))))
    exact (sb.2 _ z.2.1).trans z.1
   refine ⟨fun b o eb=>(sb.2 b fun q=>?_).trans (F4.keep b o eb),fun q hq hn=>mv (inN q hq hn),⟨psE,?_⟩,⟨oL1,es1,ep1,?_,dL1,rL1⟩,?_,?_⟩
   ·have:=Heap.lt_size eb
    rw [q] at this
    exact absurd hz (Nat.not_le.mpr this)
   ·have z:=N4 (225,tabObj psE) (.tail _ (.tail _ (.tail _ (.head _))))
    exact (sb.2 _ z.2.1).trans z.1
   ·have z:=N4 ((Z3.fA 5),oL1) (.head _)
    exact (sb.2 _ z.2.1).trans z.1
   ·refine e1a1 S.gt fun n' eg=>?_
    exact ⟨n',mv (inG eg)⟩
   ·refine gotAll_of (g:=(Z3.fh 0)) (bad:=(Z3.fA 0)::(Z3.fA 2)::wrT { (Z3.fa 0) with it:=it } LG) (stm:=stm) ⟨S.ok.1,fun i hi=>?_⟩ st2
    refine e5a5 (S.ok.2 i hi) fun tp0 kk x ty cc a1 a2 a3 a4 rr=>?_
    refine ⟨tp0,kk,x,ty,cc,a1,mv (inX a2 (fun hm=>?_) a4 fun e=>a3 (e▸.head _)),a3,a4,rr⟩
    rcases List.mem_cons.mp hm with e | hm
    ·rw [e,klx] at a2
     have:=congrArg Obj.data (Option.some.inj a2)
     cases this
    ·exact a3 (.tail _ (.tail _ hm))
  rcases turn_err hbad with rfl | ⟨x,hx,rfl⟩
  ·refine pc_catch0 (got:=(Z3.fA 2)) FD hhb F3 KB TB N4 (if_pos rfl) ((if_neg (by decide)).trans hg1) (.tail _ (.head _)) c3 d3 z3 (.tail _ (.tail _ (.head _))) gD fun rr q u1 u2 h4 tk4 F4 N5=>?_
   refine wpAny_nameGoes_keeps hkn.2.1 F4.ns hcl fun h5 v ns5 sb5=>?_
   have z1:=N5 _ (.head _)
   have z2:=N5 _ (.tail _ (.head _))
   exact retE _ its _ rr hfin ⟨out h4 h5 _ F4 (fun q hq=>N5 q (.tail _ (.tail _ hq))) sb5,q,(sb5.2 _ z1.2.1).trans z1.1,.inl ⟨rfl,u1,u2,(sb5.2 _ z2.2.1).trans z2.1⟩⟩ os dr gb
  ·have hx:=st4 0 (Nat.zero_le _) x hx
   refine e0a4 (Z.ce x hx) fun y1 y2 y3 y4=>?_
   refine pc_catch (got:=(Z3.fA 2)) (x:=x) FD hhb F3 KB TB N4 (if_pos rfl) ((if_neg (by decide)).trans hg1) (.tail _ (.head _)) c3 d3 z3 (.tail _ (.tail _ (.head _))) gD (.tail _ (.tail _ (.tail _ (.tail _ (inR _ y3))))) (.tail _ (.tail _ (.tail _ (.tail _ (inR _ y4))))) fun rr q h4 tk4 F4 N5=>?_
   refine wpAny_nameGoes_keeps hkn.2.1 F4.ns hcl fun h5 v ns5 sb5=>?_
   have z1:=N5 _ (.head _)
   have z2:=N5 _ (.tail _ (.head _))
   exact retE _ its _ rr hfin ⟨out h4 h5 _ F4 (fun q hq=>N5 q (.tail _ (.tail _ hq))) sb5,q,(sb5.2 _ z1.2.1).trans z1.1,.inr ⟨x,hx,rfl,(sb5.2 _ z2.2.1).trans z2.1⟩⟩ os dr gb
 ·exact st4
 ·refine ⟨Nat.le_refl _,⟨Z3.m,F',mgt⟩,⟨0,(Nn _ R.mgot).1⟩,⟨(Nat.sub_self _).symm,fun i hi=>absurd hi (by omega)⟩,⟨_,_,_,hGa.1,rfl,rfl,rfl⟩,fun b o _ e=>e,rfl,rfl,fun i x hi e=>?_⟩
  have e:(Z3.s.gens.push (.fresh (.func bT (envOf TokW scT LG 208 (.ref 207)))))[i]?=some x:=e
  rw [Array.getElem?_push,if_neg hi] at e
  exact bare i x e
 ·show (Z3.s.gens.push _)[Z3.s.gens.size]?=_
  rw [Array.getElem?_push,if_pos rfl]
 ·refine ⟨rfl,seg_first (t:=⟨LG,scT,p1,p2,p3,yp,ep,wp1,ex,asg,bT⟩) (a:={ (Z3.fa 0) with it:=it }) (dp:=Z3.dp) (un:=Z3.un+1) (io:=itObj (Z3.fA 1)) (tn:=(Z3.fN 0)) (pn:=(Z3.fN 1)) (cnn:=(Z3.fN 2)) (ps:=(Z3.fW 0)) (G _ _ (by omega) (by omega)) hbT st1 ⟨?_,ns',⟨rfl,rfl⟩,R.ets,hr0▸lexD_of R.ord (ltN (l1 _ R.ct)),o2,o3,o4,o5⟩ F'⟩
  exact fm7 (P:=fun q:Addr×Obj=>h'.get? q.1=some q.2) (Nn _ R.lx).1 (Nn _ R.dx).1 (Nn _ R.tb).1 (Nn _ R.pb).1 (Nn _ R.ct).1 hIt.1 (Nn _ R.tab).1 (fun q hq=>(inr q hq).1)
theorem pc_try (FD:FnDef w 551 "_law_run" "_law_run" pr b sc (.ref 550)) (hbb:b=[s0,s1,s2,s3,s4,.Try [.For (.Name "t" tp) e bo [] fp] [.ExceptHandler (some (.Name "CompilerError" np)) (some "fault") (b0::hb) hp0] [] [] tpos,r])
  (hsk:sc.kind=.function) (hkn:(envX "_law_run" sc LR 551 (.ref 550) (cellsR cS cL cE cP cT)).kindOf "CompilerError" = some .globalImplicit/\(envX "_law_run" sc LR 551 (.ref 550) (cellsR cS cL cE cP cT)).kindOf "fault" = some .local/\∀ x,foldedSetIterable e (envX "_law_run" sc LR 551 (.ref 550) (cellsR cS cL cE cP cT)) x=pure x)
  (C:Cx 300 w p loose mean mg mb dp un sc outer A₀ base g LR m s) (KB:(hd.heap_1 w.params).In base) (TB:Top p loose mean mg mb base) (hz:base.objs.size≤LR) (CH:CodeHd g 550 548)
  (N:News g LR s.heap news) (R:RunIn w a chars ch got fe fs tn pn cn ps news) (mc:m "chars" = some (.ref ch)) (mgt:m "got" = some (.ref got))
  (mL:(cL,oL)∈news) (dL:oL.data=.cell (some (.ref a.lx))) (mS:(cS,oS)∈news) (dS:oS.data=.cell (some (.ref fs)))
  (f1:base.get? L₁=none) (f2:L₁≠LR) (f3:g.Ns L₁ m₁) (LX:Lexed chars toks fin) (hN:toks.length≤900) (bare:∀ (i:Nat) (x:GenState),s.gens[i]?=some x->x.bare=true)
  (ret0:∀ s' its m',fin=none->OutR base L₁ m₁ a got news toks s'.heap its->Fr g LR s'.heap m'->m' "got" = some (.ref got)->s'.os=s.os->s'.drawn=s.drawn->(∀ (i:Nat) (x:GenState),s'.gens[i]?=some x->x.bare=true)->Q .next s')
  (retE:∀ s' its l rr,fin=some l->CatR base L₁ m₁ a chars got news toks l s'.heap its rr->s'.os=s.os->s'.drawn=s.drawn->(∀ (i:Nat) (x:GenState),s'.gens[i]?=some x->x.bare=true)->Q (.ret (.ref rr)) s') :
  wpAny (model pw_rk0009_01 w) (ktrTop dp un gd "_law_run" sc LR 551 (.ref 550) (cellsR cS cL cE cP cT) outer) (exec (.Try [.For (.Name "t" tp) e bo [] fp] [.ExceptHandler (some (.Name "CompilerError" np)) (some "fault") (b0::hb) hp0] [] [] tpos) (envX "_law_run" sc LR 551 (.ref 550) (cellsR cS cL cE cP cT))) Q E s:=pickedZ (by with_unfolding_all rfl) Z3c (sfB (sfp (sfm (sfF (sfO (sfM (sfW (sfN (sfC (sfa (sfs (sfg (sfL (sfA (sfh (frC w p loose mean mg mb dp un gd Z3.cn Z3.cs Z3.ca Z3.ccd Z3.cll outer A₀ base Z3.h₀ Z3.L m s E) [g]) [LR,ch,got,fe,fs,L₁,cT,cP,cE,cL,cS]) [news]) [pr]) [sc]) [a]) [chars]) [tn,pn,cn]) [ps]) [m₁]) [oL,oS]) [Q]) [s0,s2,s3,s4,b0,r]) [tp,fp,np,hp0,tpos]) [bo,hb]) b toks fin s1 e FD hbb hsk hkn C KB TB hz CH N R mc mgt mL dL mS dS f1 f2 f3 LX hN bare ret0 retE
end
end
theorem NgB44.gB44:True:=trivial
example:True:=by w_top off;trivial
section
open NgB44
section
variable {A:Around} {LR:Addr} {rest:List (Addr×Obj)} {pr:Arguments} {b bo:List Stmt} {sc:Scope} {Q:Flow->Shared->Prop} {E:Value->Shared->Prop}
example:True:=by (k_with "eval Name" => (fail_if_success (fail_if_success (have:=gB44)));(k_here;k_dflt (refine' ldM2 ?Y0 ?Y1 ?Y2 ?Y3 ?Y4 ?Y5 ?_;(case Y0=>assumption);(case Y1=>exact rfl);(case Y2=>exact rfl);(case Y3=>exact rfl);(case Y4=>assumption);(case Y5=>decide);k_whole)));trivial
set_option maxHeartbeats 4000000 in
theorem pc_ret {got:Addr} (FD:FnDef w 551 "_law_run" "_law_run" pr b sc (.ref 550)) (hp:retOf b=some bo) (F:Fr h₀ LR s.heap m) (X:(hd.heap_1 w.params).In h₀) (T:Top p loose mean mg mb h₀)
  (N:News h₀ LR s.heap rest) (h2:m "got" = some (.ref got))
  (ret:∀ (r:Addr) (h':Heap) (tk':Nat),Fr h₀ LR h' m->News h₀ LR h' ((r,pairObj (.ref got) .none)::rest)->Q (.ret (.ref r)) { s with heap:=h',toks:=tk' }) :
  wpAny (model pw_rk0009_01 w) A (execs bo (envX "_law_run" sc LR 551 (.ref 550) cll)) Q E s:=by
 obtain ⟨_,_,_,_,_,_,_,_,_,ho⟩:=FD
 have e:sc=_:=fn_scope ho (by k_is)
 subst e
 have e:b=_:=fn_body ho (by k_is)
 subst e
 have e2:bo=_:=Option.some.inj (hp.symm.trans (rfl:retOf _=some _))
 subst e2
 clear hp ho
 k_steps
 all_goals exact ret _ _ _ (by assumption) (by assumption)
end
theorem loc_inj {x y:Cel} (h:locObj x=locObj y):x.row=y.row/\x.col=y.col:=by
 have h0:(some (some (Value.int x.col x.u1)):Option (Option Value))=some (some (.int y.col y.u1)):=congrArg (fun o:Obj=>o.slots[0]?) h
 have h3:(some (some (Value.int x.row x.u4)):Option (Option Value))=some (some (.int y.row y.u4)):=congrArg (fun o:Obj=>o.slots[3]?) h
 injection h0 with h0
 injection h0 with h0
 injection h0 with h0
 injection h3 with h3
 injection h3 with h3
 injection h3 with h3
 exact ⟨h3,h0⟩
structure CelT (T:Str) (pls:List (Int×Int)) (cels:List Cel):Prop where
 len:cels.length=T.length
 at_:∀ (j:Nat) x,cels[j]?=some x->∃ c,T.cps[j]?=some c/\x.x=⟨#[c]⟩/\pls[j]?=some (x.row,x.col)
 inj:∀ x∈cels,∀ y∈cels,x.lc=y.lc->x.row=y.row/\x.col=y.col
theorem PlaceIn.mono {K K':List (Addr×Obj)} {plvs:List Value} {pls:List (Int×Int)} (P:PlaceIn K plvs pls) (k:∀ q∈K,q∈K'):PlaceIn K' plvs pls :=
 ⟨P.len,fun i r c e=>let ⟨q,u1,u2,a1,a2⟩:=P.at_ i r c e;⟨q,u1,u2,a1,k _ a2⟩⟩
theorem off1_mem {D:Addr} : ∀ {l:List (Addr×Obj)},LCg.Off1 D l->∀ q∈l,q.1≠D
 | [],_,_,h=>nomatch h
 | _::_,x,q,h=>by
  rcases List.mem_cons.mp h with rfl | h
  ·exact x.1
  ·exact off1_mem x.2 q h
structure RunEnd (cels:List Cel) (h:Heap) (toks:List (Str×List Cel)) (fin:Option Value) (its:List Value) (got rr:Addr):Prop where
 gt:∃ n',h.get? got=some (listOf its.toArray n')
 ok:GotAll h toks its
 rr:∃ sv,h.get? rr=some (pairObj (.ref got) sv)/\((fin=none/\sv=.none)\/(fin=some .none/\∃ q u1 u2,sv=.ref q/\h.get? q=some (pairObj (.int 0 u1) (.int 0 u2)))\/∃ x∈cels,fin=some (.ref x.lc)/\∃ q,sv=.ref q/\h.get? q=some (pairObj (.int x.row x.u4) (.int x.col x.u1)))
theorem OutR.step {base h h':Heap} {L₁ LR:Addr} {m₁ mR:Str->Option Value} {a:LexA} {got:Addr} {news:List (Addr×Obj)} {toks:List (Str×List Cel)} {its:List Value} (O:OutR base L₁ m₁ a got news toks h its) (k:KeepBut [LR] h h') (hz:base.objs.size≤LR) (hn:h.Ns LR mR) (h2:∀ q∈news,q.1≠LR) (h3 : @Ne Nat 225 LR) (h4:L₁≠LR) (h5:got≠LR):OutR base L₁ m₁ a got news toks h' its where
 bs:=fun b o e=>k b o (fun hm=>by
  rw [List.mem_singleton.mp hm] at e
  exact absurd hz (Nat.not_le.mpr (Heap.lt_size e))) (O.bs b o e)
 nw:=fun q hq hn=>k _ _ (fun hm=>h2 q hq (List.mem_singleton.mp hm)) (O.nw q hq hn)
 gr:=let ⟨ps,e⟩:=O.gr;⟨ps,k _ _ (fun hm=>h3 (List.mem_singleton.mp hm)) e⟩
 fr:=O.fr.at' fun o e=>k _ o (fun hm=>h4 (List.mem_singleton.mp hm)) e
 gt:=let ⟨n',e⟩:=O.gt;⟨n',k _ _ (fun hm=>h5 (List.mem_singleton.mp hm)) e⟩
 ok:=⟨O.ok.1,fun i typ cc e=>let ⟨tp,kk,x,a1,a2,a3,a4,a5⟩:=O.ok.2 i typ cc e;⟨tp,kk,x,a1,a2,a3,a4,k _ _ (fun hm=>by
  refine e3a3 hn fun o es ep e1 e2 _=>?_;clear hn
  rw [List.mem_singleton.mp hm,e1] at a5
  rw [Option.some.inj a5] at e2
  cases e2) a5⟩⟩
inductive Run551 (w:World) (T:Str) (tT:Tok) (pl:Addr):Prop
 | mk (oc:Value) (od:Option Addr) (pr:Arguments) (b:List Stmt) (sc:Scope) (dV kV doc pm:Value) (an:Option Addr) (ct:Value) (osl:Array (Option Value)) (c0:(hd.heap_1 w.params).lookup 551=some ⟨oc,od,.func (fnOf "_law_run" "_law_run" pr b sc dV kV doc pm an (.ref 550) ct),osl⟩) (c1:sc.isCoroutine=false) (c2:sc.isGenerator=false) (c3:sc.kind=.function) (c4:(∀ s',BindsTo s' (fnOf "_law_run" "_law_run" pr b sc dV kV doc pm an (.ref 550) ct) ⟨[.str T tT,.ref pl],[]⟩ [("text",.str T tT),("places",.ref pl)])) (c5:(∀ n,∀ x∈([("text",.str T tT),("places",.ref pl)] : List (Str×Value)),sc.names.lookup x.1=some .local\/(sc.names.lookup x.1=some .cell/\((cellsFrom n sc.names []).lookup x.1).isSome=true))) (c6:((cellsFrom 0 sc.names []).map (·.1)).Nodup) (c7:(∀ L',envOfC "_law_run" sc L' 551 (.ref 550)=envX "_law_run" sc L' 551 (.ref 550) (cellsR (L'+5) (L'+4) (L'+3) (L'+2) (L'+1)))) (c8:(∀ L',cellsFrom (L'+1) sc.names []=cellsR (L'+5) (L'+4) (L'+3) (L'+2) (L'+1))) (c9:(∀ L',bindC (envX "_law_run" sc L' 551 (.ref 550) (cellsR (L'+5) (L'+4) (L'+3) (L'+2) (L'+1))).kindOf [("text",.str T tT),("places",.ref pl)] (fun _=>none) "text" = some (.str T tT) /\
    bindC (envX "_law_run" sc L' 551 (.ref 550) (cellsR (L'+5) (L'+4) (L'+3) (L'+2) (L'+1))).kindOf [("text",.str T tT),("places",.ref pl)] (fun _=>none) "places" = some (.ref pl) /\
    bindC (envX "_law_run" sc L' 551 (.ref 550) (cellsR (L'+5) (L'+4) (L'+3) (L'+2) (L'+1))).kindOf [("text",.str T tT),("places",.ref pl)] (fun _=>none) "ended" = none /\
    bindC (envX "_law_run" sc L' 551 (.ref 550) (cellsR (L'+5) (L'+4) (L'+3) (L'+2) (L'+1))).kindOf [("text",.str T tT),("places",.ref pl)] (fun _=>none) "lexer" = none /\
    bindC (envX "_law_run" sc L' 551 (.ref 550) (cellsR (L'+5) (L'+4) (L'+3) (L'+2) (L'+1))).kindOf [("text",.str T tT),("places",.ref pl)] (fun _=>none) "start" = none))
theorem run551 (w:World) (T:Str) (tT:Tok) (pl:Addr):Run551 w T tT pl :=
  ⟨_,_,_,_,_,_,_,_,_,_,_,_,(by k_is),rfl,rfl,rfl,fun s'=>BindsTo.of_eq rfl,fun n=>List.forall_mem_cons.mpr ⟨.inr ⟨rfl,rfl⟩,List.forall_mem_cons.mpr ⟨.inr ⟨rfl,rfl⟩,fun _ h=>nomatch h⟩⟩,by decide +kernel,fun _=>rfl,fun _=>rfl,fun _=>⟨rfl,rfl,rfl,rfl,rfl⟩⟩
section
variable {rest:List (Addr×Obj)} {Q E:Value->Shared->Prop}
noncomputable def Z7P:FrZ->Prop:=fun V=>∀ (dp:Nat) (un:Nat) (gd:Option (List Code)) (cn:Str) (cs:Scope) (ca:Addr) (ccd:Value) (cll:List (Str×Addr)) (L:Addr) (G:List Cel->List (Str×List Cel)->Option Value->Prop) (C:Cx 500 V.w V.p V.loose V.mean V.mg V.mb dp un cs [] V.A₀ V.base V.h₀ L V.m V.s) (XB:(hd.heap_1 V.w.params).In V.base) (TB:Top V.p V.loose V.mean V.mg V.mb V.base) (C1:CodeHd V.h₀ 550 548) (N:News V.h₀ L V.s.heap ((548,tabObj #[])::(V.fL 0))) (r2:∀ q∈(V.fL 0),q.1≠548) (tab:(225,tabObj (V.fW 0))∈(V.fL 0)) (ets:EmTab emPos (V.fW 0)) (mp:((V.fA 0),listOf (V.fv 0).toArray (V.fN 0))∈(V.fL 0)) (PI:PlaceIn (V.fL 0) (V.fv 0) (V.fi 0)) (hz:(V.fS 0).length≤800) (hl:(V.fi 0).length=(V.fS 0).length) (bare:∀ (i:Nat) (x:GenState),V.s.gens[i]?=some x->x.bare=true) (LX:∀ cels,CelT (V.fS 0) (V.fi 0) cels->∃ toks fin,Lexed cels toks fin/\toks.length≤900/\G cels toks fin) (ret:∀ s' cels toks fin its got rr ps',CelT (V.fS 0) (V.fi 0) cels->G cels toks fin->RunEnd cels s'.heap toks fin its got rr->Fr V.h₀ L s'.heap V.m->(∀ q∈(V.fL 0),@Ne Nat q.1 225->s'.heap.get? q.1=some q.2)->s'.heap.get? 548=some (tabObj ps')->GrownAt 225 s'.heap ->
   s'.os=V.s.os->s'.drawn=V.s.drawn->(∀ (i:Nat) (x:GenState),s'.gens[i]?=some x->x.bare=true)->(V.fQ 0) (.ref rr) s'),wpAny (model pw_rk0009_01 V.w) (ktrTop dp un gd cn cs L ca ccd cll []) (call (.ref 551) [.str (V.fS 0) (V.fT 0),.ref (V.fA 0)]) (V.fQ 0) V.E V.s
@[irreducible] noncomputable def Z7:FrZ:=pickZ Z7P
set_option maxHeartbeats 4000000 in
theorem Z7c:Z7P Z7:=by
 intro dp un gd cn cs ca ccd cll L G C XB TB C1 N r2 tab ets mp PI hz hl bare LX ret
 obtain ⟨B,F,X,Tp,hk,hdp,hun⟩:=C
 obtain ⟨oc,od,pr,b,sc,dV,kV,doc,pm,an,ct,osl,ho,g1,g2,g3,g4,g5,g6,g7,g8,g9⟩:=run551 Z7.w (Z7.fS 0) (Z7.fT 0) (Z7.fA 0)
 have FD:FnDef Z7.w 551 "_law_run" "_law_run" pr b sc (.ref 550):=⟨oc,od,dV,kV,doc,pm,an,ct,osl,ho⟩
 have X1:=X.keeps F.keep
 have hcd:codeIn (hd.heap_1 Z7.w.params) (.ref 550) "_law_run" = true:=by k_is
 refine wpAny_call (enter_cells B F N Tp.nolimit rfl rfl hk (X1 _ _ ho) rfl (codeRec_of X1 hcd) (by k_room) (g4 _) g5 g6 (fun g L' h₁ tk cells FG F' N' Y B' st l1 lv=>?_) g1 g2 g3)
 rw [g8,g7] at Y
 refine e5a6 (cells_five Y) fun oS oL oE oP oT Q41=>?_;obtain rfl:=Q41;intro dS dL dE dP dT
 refine e0a5 (g9 L') fun y1 y2 y3 y4 y5=>?_
 rw [y5] at dS
 rw [y4] at dL
 rw [y3] at dE
 rw [y2] at dP
 rw [y1] at dT
 rw [g7]
 obtain ⟨d2,u2,gg2,oO,hd2,hu2⟩:∃ d u gg,(ktrTop dp un gd cn cs L ca ccd cll []).deeper (envX "_law_run" sc L' 551 (.ref 550) (cellsR (L'+5) (L'+4) (L'+3) (L'+2) (L'+1)))=ktrTop d u gg "_law_run" sc L' 551 (.ref 550) (cellsR (L'+5) (L'+4) (L'+3) (L'+2) (L'+1)) [envX cn cs L ca ccd cll]/\d≤dp+20/\u≤un+60 :=
  ⟨_,_,_,rfl,Nat.add_le_add_left (Nat.le_of_ble_eq_true rfl) _,Nat.add_le_add_left (Nat.le_of_ble_eq_true rfl) _⟩
 rw [oO]
 refine e8a1 (run_shape FD) fun s0 s1 s2 s3 s4 tp e bo Q42=>?_;refine e7a3 Q42 fun fp np b0 hb hp0 tpos r Q43=>?_;clear Q42;obtain rfl:=Q43;intro hsk hkn
 have N1:News g L' h₁ ((548,tabObj #[])::(L'+5,oS)::(L'+4,oL)::(L'+3,oE)::(L'+2,oP)::(L'+1,oT)::(Z7.fL 0)):=fun q hq=>N' q (mem_swap (A:=[_]) (B:=[_,_,_,_,_]) hq)
 have l548 : @LT.lt Nat _ 548 L':=ltN (l1 _ (.head _))
 have BB:=rebase B'
 refine pc_pre FD rfl ⟨BB,F',X.keeps st,Tp.keeps st,g3,by omega,by omega⟩ (C1.keeps st) N1 dS dL dE (fun q hq=>Nat.lt_succ_of_lt (l1 q (.tail _ hq))) r2 (by omega) (by omega) (by omega) (by omega) (by omega)
  fun h2 tk2 a tn pn cnn got fe fs c1 c2 oS' oL' oE' o1 o2 ps5 v1 v2 q1 q2 pr1 pr2 b1 b2 sc1 sc2 d1 d2' pm5 k1 k2 u1 u2' F2 N2 RD2 RD3 e1 e2 e3 e4 e5 e6 e7 lt5 ord=>?_
 have mem7:∀ q∈(548,tabObj ps5)::(L'+5,oS')::(L'+4,oL')::(L'+3,oE')::(L'+2,oP)::(L'+1,oT)::(Z7.fL 0),q∈preMade a tn pn cnn got fe fs c1 c2 o1 o2 ps5 oS' oL' oE' oP oT (L'+5) (L'+4) (L'+3) (L'+2) (L'+1) q1 q2 pr1 pr2 b1 b2 sc1 sc2 d1 d2' pm5 k1 k2 (Z7.fL 0):=fun q hq =>
  List.mem_append_right [_,_,_,_,_,_,_,_,_,_] hq
 have memR:∀ q∈(Z7.fL 0),q∈preMade a tn pn cnn got fe fs c1 c2 o1 o2 ps5 oS' oL' oE' oP oT (L'+5) (L'+4) (L'+3) (L'+2) (L'+1) q1 q2 pr1 pr2 b1 b2 sc1 sc2 d1 d2' pm5 k1 k2 (Z7.fL 0):=fun q hq =>
  mem7 q (.tail _ (.tail _ (.tail _ (.tail _ (.tail _ (.tail _ hq))))))
 refine wpAny_execs_cons (pc_chars FD rfl ⟨BB,F2,X.keeps st,Tp.keeps st,g3,by omega,by omega⟩ N2 (mem7 _ (by simp)) dT (mem7 _ (by simp)) dP (memR _ mp) (PI.mono memR) (by omega) hl fun D cels news' h3 tk3 O sub F3 N3 off=>?_)
 have CT:CelT (Z7.fS 0) (Z7.fi 0) cels:=⟨O.len,O.at_,fun x hx y hy e=>loc_inj (by
  have z1:=(N3 _ (.tail _ (O.ins x hx).2.2.1)).1
  have z2:=(N3 _ (.tail _ (O.ins y hy).2.2.1)).1
  simp only at z1 z2
  rw [e,z2] at z1
  exact (Option.some.inj z1).symm)⟩
 refine e2a3 (LX cels CT) fun toks fin LX1 hN hG=>?_
 have ne:∀ {x y:Addr},@LT.lt Nat _ x y->x≠y:=fun h e=>by rw [e] at h;exact Nat.lt_irrefl _ h
 refine e0a10 ord fun q1' q2' q3' q4' q5' q6' q7' q8' q9' q10'=>?_;clear ord
 have o225:=ltN (lt5 _ tab)
 have sub':∀ q∈preMade a tn pn cnn got fe fs c1 c2 o1 o2 ps5 oS' oL' oE' oP oT (L'+5) (L'+4) (L'+3) (L'+2) (L'+1) q1 q2 pr1 pr2 b1 b2 sc1 sc2 d1 d2' pm5 k1 k2 (Z7.fL 0),q∈(D,LCg.lst (cels.map Cel.ref))::news':=fun q hq=>.tail _ (sub q hq)
 have mfs:=sub' _ (.head _)
 have mc2:=sub' _ (.tail _ (.head _))
 have mfe:=sub' _ (.tail _ (.tail _ (.head _)))
 have mc1:=sub' _ (.tail _ (.tail _ (.tail _ (.head _))))
 have mgot:=sub' _ (.tail _ (.tail _ (.tail _ (.tail _ (.head _)))))
 have mlx:=sub' _ (.tail _ (.tail _ (.tail _ (.tail _ (.tail _ (.head _))))))
 have mdx:=sub' _ (.tail _ (.tail _ (.tail _ (.tail _ (.tail _ (.tail _ (.head _)))))))
 have mtb:=sub' _ (.tail _ (.tail _ (.tail _ (.tail _ (.tail _ (.tail _ (.tail _ (.head _))))))))
 have mpb:=sub' _ (.tail _ (.tail _ (.tail _ (.tail _ (.tail _ (.tail _ (.tail _ (.tail _ (.head _)))))))))
 have mct:=sub' _ (.tail _ (.tail _ (.tail _ (.tail _ (.tail _ (.tail _ (.tail _ (.tail _ (.tail _ (.head _))))))))))
 have m548:=sub' _ (mem7 _ (.head _))
 have mcS:=sub' _ (mem7 _ (.tail _ (.head _)))
 have mcL:=sub' _ (mem7 _ (.tail _ (.tail _ (.head _))))
 have mcE:=sub' _ (mem7 _ (.tail _ (.tail _ (.tail _ (.head _)))))
 have offN:∀ {q:Addr×Obj},q∈preMade a tn pn cnn got fe fs c1 c2 o1 o2 ps5 oS' oL' oE' oP oT (L'+5) (L'+4) (L'+3) (L'+2) (L'+1) q1 q2 pr1 pr2 b1 b2 sc1 sc2 d1 d2' pm5 k1 k2 (Z7.fL 0)->D≠q.1:=fun {q} hq e=>off1_mem off q (sub q hq) e.symm
 have RI:RunIn Z7.w a cels D got fe fs tn pn cnn (Z7.fW 0) ((D,LCg.lst (cels.map Cel.ref))::news') :=
  {lx:=mlx,dx:=mdx,tb:=mtb,pb:=mpb,ct:=mct,tab:=sub' _ (memR _ tab),ets:=ets,mgot:=mgot,mch:=.head _,
   chn:=⟨offN (.tail _ (.tail _ (.tail _ (.tail _ (.tail _ (.tail _ (.tail _ (.head _)))))))),offN (.tail _ (.tail _ (.tail _ (.tail _ (.tail _ (.tail _ (.tail _ (.tail _ (.head _))))))))),offN (.tail _ (.tail _ (.tail _ (.tail _ (.tail _ (.tail _ (.tail _ (.tail _ (.tail _ (.head _)))))))))),offN (.tail _ (.tail _ (.tail _ (.tail _ (.head _)))))⟩,
   ord:=⟨o225,q1',q2',q3',q4',q5'⟩,
   ce:=fun x hx=>(O.ins x hx).mono fun q hq=>.tail _ hq,
   one:=fun x hx=>by
    refine e1a1 (List.getElem?_of_mem hx) fun j hj=>?_
    refine e1a3 (O.at_ j x hj) fun c _ e _=>?_
    rw [e];rfl,
   z:=by rw [O.len];omega,
   zs:=⟨c2,L'+3,L'+4,L'+5,oE',oL',oS',o2,v2, "start",q2,pr2,b2,sc2,d2',pm5,k2,u2',⟨RD3,mfs,⟨mc2,e3,e4⟩,⟨mcE,e7⟩,⟨mcL,e6⟩,⟨mcS,e5⟩⟩⟩,
   ze:=⟨c1,o1,v1, "ended",q1,pr1,b1,sc1,d1,pm5,k1,u1,⟨RD2,mfe,⟨mc1,e1,e2⟩⟩⟩ }
 have hLL : @LT.lt Nat _ L L':=Nat.lt_of_lt_of_le FG.ns.lt F'.above
 have hzB:(hideAll g ([envX cn cs L ca ccd cll].filterMap (·.frame))).objs.size≤L':=by rw [rebase_size];exact F'.above
 have nb:∀ {b:Addr} {o:Obj},Z7.h₀.get? b=some o->b∉([envX cn cs L ca ccd cll].filterMap (·.frame)):=fun {b o} e hm=>by
  have:b=L:=by simpa using hm
  rw [this,Heap.get?_none_of_le F.above] at e
  cases e
 have r4:=Nat.lt_trans q1' q2'
 have r3:=Nat.lt_trans r4 q3'
 have r2:=Nat.lt_trans r3 q4'
 have r1:=Nat.lt_trans r2 q5'
 have d548 : @LT.lt Nat _ 548 a.dx:=by omega
 have law:∀ h its,OutR (hideAll g ([envX cn cs L ca ccd cll].filterMap (·.frame))) L Z7.m a got ((D,LCg.lst (cels.map Cel.ref))::news') toks h its->Fr Z7.h₀ L h Z7.m/\(∀ q∈(Z7.fL 0),@Ne Nat q.1 225->h.get? q.1=some q.2)/\h.get? 548=some (tabObj ps5):=fun h its O1=>by
  refine ⟨⟨O1.fr,fun b o e=>O1.bs b o (hideAll_get _ (st b o e) (nb e)),F.above⟩,fun q hq hn=>O1.nw q (sub' _ (memR _ hq)) fun hm=>?_,O1.nw _ m548 fun hm=>?_⟩
  ·have lq:=ltN (lt5 _ hq)
   exact fm7 (P:=fun x=>q.1≠x) (Nat.ne_of_lt (Nat.lt_trans lq r1)) (Nat.ne_of_lt (Nat.lt_trans lq q1')) (Nat.ne_of_lt lq) (Nat.ne_of_lt (Nat.lt_trans lq r4)) (Nat.ne_of_lt (Nat.lt_trans lq r3)) (Nat.ne_of_lt (Nat.lt_trans lq r2)) hn (List.forall_mem_nil _) _ hm rfl
  ·exact fm7 (P:=fun x=>548≠x) (Nat.ne_of_lt (Nat.lt_trans d548 r1)) (Nat.ne_of_lt (Nat.lt_trans d548 q1')) (Nat.ne_of_lt d548) (Nat.ne_of_lt (Nat.lt_trans d548 r4)) (Nat.ne_of_lt (Nat.lt_trans d548 r3)) (Nat.ne_of_lt (Nat.lt_trans d548 r2)) (by decide) (List.forall_mem_nil _) _ hm rfl
 refine wpAny_execs_cons (pc_try (L₁:=L) (m₁:=Z7.m) FD rfl g3 (hkn _ _) ⟨BB,F3,X.keeps st,Tp.keeps st,g3,by omega,by omega⟩ (rebase_K B' XB) (TB.keeps (rebase_keep B')) hzB (C1.keeps st) N3 RI (if_pos rfl) ((if_neg (by decide)).trans (if_pos rfl)) mcL e6 mcS e5
  (hideAll_none _ (by simp)) (ne hLL) FG.ns LX1 hN bare (fun s' its m' hf O1 F4 hg4 os dr gb=>?_) fun s' its l rr hf CR os dr gb=>?_)
 ·have NA:News g L' s'.heap (allBut s'.heap g [L']):=fun q hq=>by
   refine e0a3 (mem_allBut.mp (show (q.1,q.2)∈_ from hq)) fun a1 a2 a3=>?_
   exact ⟨a1,fun e=>a2 (e▸.head _),a3⟩
  refine pc_ret FD rfl F4 (X.keeps st) (Tp.keeps st) NA hg4 fun rr h5 tk5 F5 N5=>?_
  have kp:KeepBut [L'] s'.heap h5:=fun b o hb e=>by
   cases eg:g.get? b with
   | some o' =>
    have:=F4.keep _ _ eg
    rw [e] at this
    cases this
    exact F5.keep _ _ eg
   | none=>exact (N5 (b,o) (.tail _ (mem_allBut.mpr ⟨e,hb,eg⟩))).1
  have O2:=O1.step kp hzB F4.ns (fun q hq=>(N3 q hq).2.1) (ne (show @LT.lt Nat _ 225 L' by have:=ltN (l1 _ (.tail _ tab));exact this)) (ne hLL) ((N3 _ mgot).2.1)
  refine e0a3 (law h5 its O2) fun w1 w2 w3=>?_
  exact ret _ cels toks fin its got rr ps5 CT hG ⟨O2.gt,O2.ok,⟨.none,(N5 _ (.head _)).1,.inl ⟨hf,rfl⟩⟩⟩ w1 w2 w3 O2.gr os dr gb
 ·obtain ⟨O2,q,z1,z2⟩:=CR
  refine e0a3 (law _ its O2) fun w1 w2 w3=>?_
  refine ret _ cels toks fin its got rr ps5 CT hG ⟨O2.gt,O2.ok,⟨.ref q,z1,?_⟩⟩ w1 w2 w3 O2.gr os dr gb
  rcases z2 with ⟨rfl,u1,u2,e⟩ | ⟨x,hx,rfl,e⟩
  ·exact .inr (.inl ⟨hf,q,u1,u2,rfl,e⟩)
  ·exact .inr (.inr ⟨x,hx,hf,q,rfl,e⟩)
theorem run_c {T:Str} {tT:Tok} {pl:Addr} {plvs:List Value} {pls:List (Int×Int)} {n:Nat} {ps:Array Value} {G:List Cel->List (Str×List Cel)->Option Value->Prop}
  (C:Cx 500 w p loose mean mg mb dp un cs [] A₀ base h₀ L m s) (XB:(hd.heap_1 w.params).In base) (TB:Top p loose mean mg mb base) (C1:CodeHd h₀ 550 548)
  (N:News h₀ L s.heap ((548,tabObj #[])::rest)) (r2:∀ q∈rest,q.1≠548) (tab:(225,tabObj ps)∈rest) (ets:EmTab emPos ps)
  (mp:(pl,listOf plvs.toArray n)∈rest) (PI:PlaceIn rest plvs pls) (hz:T.length≤800) (hl:pls.length=T.length) (bare:∀ (i:Nat) (x:GenState),s.gens[i]?=some x->x.bare=true)
  (LX:∀ cels,CelT T pls cels->∃ toks fin,Lexed cels toks fin/\toks.length≤900/\G cels toks fin)
  (ret:∀ s' cels toks fin its got rr ps',CelT T pls cels->G cels toks fin->RunEnd cels s'.heap toks fin its got rr->Fr h₀ L s'.heap m->(∀ q∈rest,@Ne Nat q.1 225->s'.heap.get? q.1=some q.2)->s'.heap.get? 548=some (tabObj ps')->GrownAt 225 s'.heap ->
   s'.os=s.os->s'.drawn=s.drawn->(∀ (i:Nat) (x:GenState),s'.gens[i]?=some x->x.bare=true)->Q (.ref rr) s') :
  wpAny (model pw_rk0009_01 w) (ktrTop dp un gd cn cs L ca ccd cll []) (call (.ref 551) [.str T tT,.ref pl]) Q E s:=pickedZ (by with_unfolding_all rfl) Z7c (sfW (sfN (sfi (sfv (sfA (sfT (sfS (sfQ (sfL (frC w p loose mean mg mb Z7.dp Z7.un Z7.gd Z7.cn Z7.cs Z7.ca Z7.ccd Z7.cll Z7.outer A₀ base h₀ Z7.L m s E) [rest]) [Q]) [T]) [tT]) [pl]) [plvs]) [pls]) [n]) [ps]) dp un gd cn cs ca ccd cll L G C XB TB C1 N r2 tab ets mp PI hz hl bare LX ret
end
end
example:True:=by w_top off;trivial
section
section
theorem accB_cons (v:Str) (x:Cel) (r:List Cel):accB v (x::r)=inS v x.x:=rfl
theorem accn_run {v:Str} {q:List Cel} : ∀ (n:Nat) (ds:List Cel),(∀ x∈ds,inS v x.x=true)->ds.length≤n->(ds.length=n\/accB v q=false)->accCn n v (ds++q)=ds/\accSn n v (ds++q)=q
 | 0,[],_,_,_=>⟨rfl,rfl⟩
 | 0,d::ds,_,h,_=>absurd h (by simp)
 | n+1,[],h1,h2,h3=>by
  have hb:accB v q=false:=h3.resolve_left (by simp)
  have ih:=accn_run n [] h1 (Nat.zero_le _) (.inr hb)
  have e1:accC v q=[]:=by unfold accC;rw [hb];rfl
  have e2:accS v q=q:=by unfold accS;rw [hb];rfl
  rw [List.nil_append] at ih ⊢
  rw [accCn,accSn,e1,e2]
  exact ih
 | n+1,d::ds,h1,h2,h3=>by
  have ih:=accn_run n ds (fun x hx=>h1 x (.tail _ hx)) (by simpa using h2) (h3.imp (fun h=>by simpa using h) id)
  have hb:accB v (d::ds++q)=true:=h1 d (.head _)
  have e1:accC v (d::ds++q)=[d]:=by unfold accC;rw [hb];rfl
  have e2:accS v (d::ds++q)=ds++q:=by unfold accS;rw [hb];rfl
  rw [accCn,accSn,e1,e2,ih.1,ih.2]
  exact ⟨rfl,rfl⟩
noncomputable abbrev Sp (cs:List Cel) (l:List Nat):Prop:=cs.map (·.x)=l.map (fun c=>(⟨#[c]⟩:Str))
theorem Sp.mem {cs:List Cel} {l:List Nat} (h:Sp cs l) {x:Cel} (hx:x∈cs):∃ c∈l,x.x=⟨#[c]⟩:=by
 have:x.x∈cs.map (·.x):=List.mem_map.mpr ⟨x,hx,rfl⟩
 rw [h] at this
 refine e1a2 (List.mem_map.mp this) fun c hc e=>?_
 exact ⟨c,hc,e.symm⟩
theorem Sp.len {cs:List Cel} {l:List Nat} (h:Sp cs l):cs.length=l.length:=by
 have:=congrArg List.length h
 simpa using this
theorem Sp.cons {cs:List Cel} {c:Nat} {l:List Nat} (h:Sp cs (c::l)):∃ x r,cs=x::r/\x.x=⟨#[c]⟩/\Sp r l:=by
 cases cs with
 | nil=>cases h
 | cons x r =>
  unfold Sp at h
  simp only [List.map_cons,List.cons.injEq] at h
  exact ⟨x,r,rfl,h.1,h.2⟩
noncomputable def Z62P:FrZ->Prop:=fun V=>∀ (r:List Cel) (c:Nat) (hb:(V.fc 0).x=⟨#[92]⟩) (hx:(V.fc 1).x=⟨#[c]⟩) (h:(inS setS ⟨#[c]⟩=true/\r=[])\/(inS setS ⟨#[c]⟩=false/\inS setO ⟨#[c]⟩=true/\(∀ y∈r,inS setO y.x=true)/\r.length≤2/\(r.length=2\/accB setO (V.fC 0)=false))
  \/ (c=120/\(∀ y∈r,inS setX y.x=true)/\r.length≤2/\accB setX (V.fC 0)=false)\/(c=117/\(∀ y∈r,inS setX y.x=true)/\r.length=4)),lcMid ((V.fc 0)::(V.fc 1)::r++(V.fC 0))=.ok ((V.fc 0)::(V.fc 1)::r,(V.fC 0))
@[irreducible] noncomputable def Z62:FrZ:=pickZ Z62P
theorem Z62c:Z62P Z62:=by
 intro r c hb hx h
 have b1:accB "\\" ((Z62.fc 0)::(Z62.fc 1)::r++(Z62.fC 0))=true:=by
  show inS "\\" (Z62.fc 0).x=true
  rw [hb];decide +kernel
 have b2:accS "\\" ((Z62.fc 0)::(Z62.fc 1)::r++(Z62.fC 0))=(Z62.fc 1)::(r++(Z62.fC 0)):=by unfold accS;rw [b1];rfl
 have b3:accC "\\" ((Z62.fc 0)::(Z62.fc 1)::r++(Z62.fC 0))=[(Z62.fc 0)]:=by unfold accC;rw [b1];rfl
 have b4:∀ v,accB v ((Z62.fc 1)::(r++(Z62.fC 0)))=inS v ⟨#[c]⟩:=fun v=>by rw [accB_cons,hx]
 unfold lcMid
 rw [b1,if_pos rfl,b2,b3]
 unfold escOk escC escS
 rcases h with ⟨h1,rfl⟩ | ⟨h0,h1,h2,h3,h4⟩ | ⟨rfl,h2,h3,h4⟩ | ⟨rfl,h2,h3⟩
 ·have e1:accC setS ((Z62.fc 1)::([]++(Z62.fC 0)))=[(Z62.fc 1)]:=by unfold accC;rw [b4,h1];rfl
  have e2:accS setS ((Z62.fc 1)::([]++(Z62.fC 0)))=(Z62.fC 0):=by unfold accS;rw [b4,h1];rfl
  have b5:accB setS ((Z62.fc 1)::([]++(Z62.fC 0)))=true:=by rw [b4,h1]
  rw [e1,e2,b5]
  rfl
 ·have hr:=accn_run (v:=setO) (q:=(Z62.fC 0)) 3 ((Z62.fc 1)::r) (fun y hy=>by
   rcases List.mem_cons.mp hy with rfl | hy
   ·rw [hx];exact h1
   ·exact h2 y hy) (by rw [List.length_cons];omega) (h4.imp (fun h=>by rw [List.length_cons,h]) id)
  rw [List.cons_append] at hr
  simp only [b4,h1,h0,Bool.true_or,Bool.or_true,if_true,Bool.false_eq_true,if_false,hr.1,hr.2]
  rfl
 ·have hr:=accn_run (v:=setX) (q:=(Z62.fC 0)) 2 r h2 h3 (.inr h4)
  have s1:inS setS ⟨#[120]⟩=false:=by decide +kernel
  have s2:inS setO ⟨#[120]⟩=false:=by decide +kernel
  have s3:inS "x" ⟨#[120]⟩=true:=by decide +kernel
  have e1:accC "x" ((Z62.fc 1)::(r++(Z62.fC 0)))=[(Z62.fc 1)]:=by unfold accC;rw [b4,s3];rfl
  have e2:accS "x" ((Z62.fc 1)::(r++(Z62.fC 0)))=r++(Z62.fC 0):=by unfold accS;rw [b4,s3];rfl
  simp only [b4,s1,s2,s3,Bool.true_or,Bool.or_true,if_true,Bool.false_eq_true,if_false,e1,e2,hr.1,hr.2]
  rfl
 ·have hr:=accn_run (v:=setX) (q:=(Z62.fC 0)) 4 r h2 (by omega) (.inl h3)
  have s1:inS setS ⟨#[117]⟩=false:=by decide +kernel
  have s2:inS setO ⟨#[117]⟩=false:=by decide +kernel
  have s4:inS "x" ⟨#[117]⟩=false:=by decide +kernel
  have s3:inS "u" ⟨#[117]⟩=true:=by decide +kernel
  have e1:accC "u" ((Z62.fc 1)::(r++(Z62.fC 0)))=[(Z62.fc 1)]:=by unfold accC;rw [b4,s3];rfl
  have e2:accS "u" ((Z62.fc 1)::(r++(Z62.fC 0)))=r++(Z62.fC 0):=by unfold accS;rw [b4,s3];rfl
  simp only [b4,s1,s2,s3,s4,Bool.true_or,Bool.or_true,if_true,Bool.false_eq_true,if_false,e1,e2,hr.1,hr.2]
  rfl
theorem mid_esc {b x:Cel} {r q:List Cel} {c:Nat} (hb:b.x=⟨#[92]⟩) (hx:x.x=⟨#[c]⟩) (h:(inS setS ⟨#[c]⟩=true/\r=[])\/(inS setS ⟨#[c]⟩=false/\inS setO ⟨#[c]⟩=true/\(∀ y∈r,inS setO y.x=true)/\r.length≤2/\(r.length=2\/accB setO q=false))
  \/ (c=120/\(∀ y∈r,inS setX y.x=true)/\r.length≤2/\accB setX q=false)\/(c=117/\(∀ y∈r,inS setX y.x=true)/\r.length=4)):lcMid (b::x::r++q)=.ok (b::x::r,q):=pickedZ (by with_unfolding_all rfl) Z62c (sfC (sfc (frZ) [b,x]) [q]) r c hb hx h
end
end
example:True:=by w_top off;trivial
section
section
theorem sub_ne {a v:Nat} (h:v≠a):Builtin.Str.subAt ⟨#[a]⟩ ⟨#[v]⟩ 0=false:=by
 have h2 : ¬ a=v:=fun e=>h e.symm
 simp [Builtin.Str.subAt,PySem.Str.length,h2]
theorem inS_ne {a v:Nat} (h:v≠a):inS ⟨#[a]⟩ ⟨#[v]⟩=false:=by
 have s0:=sub_ne h
 have hl:(⟨#[v]⟩:Str).length=1:=rfl
 unfold inS
 rw [show (⟨#[a]⟩:Str).length=1 from rfl]
 simp [Builtin.Str.occurrences,List.range',s0,hl]
theorem Sp.nil {cs:List Cel} (h:Sp cs []):cs=[]:=by
 unfold Sp at h
 simpa using h
theorem short_S0:∀ q∈tab_short,inS setS q.1=true:=by decide +kernel
theorem short_S {sg:Str} {v:Int} (h:(sg,v)∈tab_short):inS setS sg=true:=by
 have:=short_S0 (sg,v) h
 exact this
theorem oct_noS:∀ c∈oct8.cps.toList,inS setS ⟨#[c]⟩=false:=by decide +kernel
theorem mid_short {sg:Str} {v:Int} {cs q:List Cel} (hm:(sg,v)∈tab_short) (hs:Sp cs ("\\" ++ sg).cps.toList):lcMid (cs++q)=.ok (cs,q):=by
 have h1:=short_one hm
 have h2:("\\" ++ sg).cps.toList=92::[sg.cps.toList.headD 0]:=by rw [app_list,<- h1,bs_is];rfl
 rw [h2] at hs
 refine e2a3 hs.cons fun b r Q44=>?_;obtain rfl:=Q44;intro hb hs
 refine e2a3 hs.cons fun x r Q45=>?_;obtain rfl:=Q45;intro hx hs
 obtain rfl:=hs.nil
 exact mid_esc hb hx (.inl ⟨by rw [h1];exact short_S hm,rfl⟩)
theorem lcMid_wr {way:Int} {content:Str} {v:Nat} {cs q:List Cel} (h:Wr way content v) (hs:Sp cs content.cps.toList) (h8:way=2->accB setO q=false) (h16:way=3->accB setX q=false):lcMid (cs++q)=.ok (cs,q):=by
 cases h with
 | raw h1 h2 h3 h4 h5 h6 =>
  refine e2a3 (Sp.cons (c:=v) (l:=[]) hs) fun x r Q46=>?_;obtain rfl:=Q46;intro hx hs
  obtain rfl:=hs.nil
  have b1:accB "\\" ([x]++q)=false:=by
   show inS "\\" x.x=false
   rw [hx,bs_is];exact inS_ne h6
  unfold lcMid
  rw [b1]
  rfl
 | esc hm _=>exact mid_short hm hs
 | short hm=>exact mid_short hm hs
 | oct h1 h2 h3 h4 =>
  have hf:=dg_facts dg_oct
  refine e1a5 (sp_digs (by decide) hf.1 20 v "" h4) fun pre e1 e2 e3 e4 e5=>?_
  have hz:("" : Str).length=0:=rfl
  rw [hz] at e4 e5
  have hp3:pre.length≤3:=e5 3 (by omega) (by omega)
  rw [app_list,e1,bs_is,show ("" : Str).cps.toList=[] from rfl,List.append_nil] at hs
  refine e2a3 (Sp.cons (c:=92) (l:=pre) hs) fun b r Q47=>?_;obtain rfl:=Q47;intro hb hs
  cases pre with
  | nil=>simp only [List.length_nil] at e4;omega
  | cons c ds =>
   refine e2a3 hs.cons fun x r Q48=>?_;obtain rfl:=Q48;intro hx hs
   have hc:=e2 c (.head _)
   refine mid_esc hb hx (.inr (.inl ⟨oct_noS c (by simpa using hc),hf.2.1 c hc,fun y hy=>?_,by rw [hs.len];rw [List.length_cons] at hp3;omega,.inr (h8 rfl)⟩))
   refine e1a2 (hs.mem hy) fun d hd e=>?_
   rw [e];exact hf.2.1 d (e2 d (.tail _ hd))
 | hex h1 h2 h3 h4 h5 =>
  have hf:=dg_facts (dg_hex _ h4)
  refine e1a5 (sp_digs (by decide) hf.1 20 v "" h5) fun pre e1 e2 e3 e4 e5=>?_
  have hz:("" : Str).length=0:=rfl
  rw [hz] at e4 e5
  have hp3:pre.length≤2:=e5 2 (by omega) (by omega)
  rw [app_list,e1,bx_is,show ("" : Str).cps.toList=[] from rfl,List.append_nil] at hs
  refine e2a3 (Sp.cons (c:=92) (l:=120::pre) hs) fun b r Q49=>?_;obtain rfl:=Q49;intro hb hs
  refine e2a3 hs.cons fun x r Q0=>?_;obtain rfl:=Q0;intro hx hs
  refine mid_esc hb hx (.inr (.inr (.inl ⟨rfl,fun y hy=>?_,by rw [hs.len];exact hp3,h16 rfl⟩)))
  refine e1a2 (hs.mem hy) fun d hd e=>?_
  rw [e];exact hf.2.1 d (e2 d hd)
 | uni h1 h2 h3 h4 =>
  have hf:=dg_facts (dg_hex _ h3)
  refine e1a5 (sp_digs (by decide) hf.1 20 v "" h4) fun pre e1 e2 e3 e4 e5=>?_
  have hz:("" : Str).length=0:=rfl
  rw [hz] at e4 e5
  have hp3:pre.length≤4:=e5 4 (by omega) (by omega)
  rw [app_list,e1,bu_is,show ("" : Str).cps.toList=[] from rfl,List.append_nil] at hs
  refine e2a3 (Sp.cons (c:=92) (l:=117::pre) hs) fun b r Q1=>?_;obtain rfl:=Q1;intro hb hs
  refine e2a3 hs.cons fun x r Q2=>?_;obtain rfl:=Q2;intro hx hs
  refine mid_esc hb hx (.inr (.inr (.inr ⟨rfl,fun y hy=>?_,by rw [hs.len];omega⟩)))
  refine e1a2 (hs.mem hy) fun d hd e=>?_
  rw [e];exact hf.2.1 d (e2 d hd)
end
end
example:True:=by w_top off;trivial
section
section
theorem lexC_wr {way:Int} {content:Str} {v:Nat} {cs q:List Cel} {y:Cel} (h:Wr way content v) (hs:Sp cs content.cps.toList) (hy:y.x=⟨#[39]⟩):lexC (cs++y::q)=.ok (cs++[y],q):=by
 have h8:accB setO (y::q)=false:=by show inS setO y.x=false;rw [hy];decide +kernel
 have h16:accB setX (y::q)=false:=by show inS setX y.x=false;rw [hy];decide +kernel
 have hq:accB "'" (y::q)=true:=by show inS "'" y.x=true;rw [hy];decide +kernel
 unfold lexC
 rw [lcMid_wr h hs (fun _=>h8) (fun _=>h16)]
 show (if accB "'" (y::q)=true then _ else _)=_
 rw [if_pos hq]
 unfold accC accS
 rw [hq]
 rfl
theorem turn_q {way:Int} {content:Str} {v:Nat} {cs q:List Cel} {x y:Cel} (h:Wr way content v) (hs:Sp cs content.cps.toList) (hx:x.x = "'") (hy:y.x=⟨#[39]⟩):turn (x::(cs++y::q))=some (.ok ("CHAR",x::(cs++[y]),q)):=by
 have hb:(x.x==("'" : Str))=true:=by rw [hx];decide +kernel
 show (if (x.x==("'" : Str))=true then _ else _)=_
 rw [if_pos hb,lexC_wr h hs hy]
theorem turn_L {way:Int} {content:Str} {v:Nat} {cs q:List Cel} {x o y:Cel} (h:Wr way content v) (hs:Sp cs content.cps.toList) (hx:x.x = "L" \/ x.x = "$") (ho:o.x=⟨#[39]⟩) (hy:y.x=⟨#[39]⟩):turn (x::o::(cs++y::q))=some (.ok ("CHAR",x::o::(cs++[y]),q)):=by
 have hb:(x.x==("'" : Str))=false:=by rcases hx with hx | hx <;> (rw [hx];decide +kernel)
 have hc:inS "L$" x.x=true:=by rcases hx with hx | hx <;> (rw [hx];decide +kernel)
 have hq:accB "'" (o::(cs++y::q))=true:=by show inS "'" o.x=true;rw [ho];decide +kernel
 have e1:accC "'" (o::(cs++y::q))=[o]:=by unfold accC;rw [hq];rfl
 have e2:accS "'" (o::(cs++y::q))=cs++y::q:=by unfold accS;rw [hq];rfl
 show (if (x.x==("'" : Str))=true then _ else if (inS "L$" x.x&&accB "'" (o::(cs++y::q)))=true then _ else _)=_
 rw [hb,if_neg (by decide),hc,hq,if_pos (by decide),e1,e2,lexC_wr h hs hy]
 rfl
theorem turn_one {x:Cel} {q:List Cel} (h1:(x.x==("'" : Str))=false) (h2:(inS "L$" x.x&&accB "'" q)=false):turn (x::q)=some (.ok ("ONE",[x],q)):=by
 show (if (x.x==("'" : Str))=true then _ else if (inS "L$" x.x&&accB "'" q)=true then _ else _)=_
 rw [h1,if_neg (by decide),h2,if_neg (by decide)]
end
end
example:True:=by w_top off;trivial
section
section
theorem Sp.app {cs:List Cel} {a b:List Nat} (h:Sp cs (a++b)):∃ c1 c2,cs=c1++c2/\Sp c1 a/\Sp c2 b:=by
 unfold Sp at h ⊢
 rw [List.map_append] at h
 refine e2a3 (List.map_eq_append_iff.mp h) fun c1 c2 e h1 h2=>?_
 exact ⟨c1,c2,e,h1,h2⟩
theorem sgn8_no:∀ c∈sgn8.cps.toList,inS setO ⟨#[c]⟩=false/\inS "'" ⟨#[c]⟩=false:=by decide +kernel
theorem sgn7_no:∀ c∈sgn7.cps.toList,inS setO ⟨#[c]⟩=false/\inS "'" ⟨#[c]⟩=false/\inS setX ⟨#[c]⟩=false:=by decide +kernel
theorem lexC_k0 {way:Int} {content bh:Str} {v c:Nat} {cs:List Cel} (h:Wr way content v) (hc:c∈sgn7.cps\/way≠3/\c∈sgn8.cps) (hs:Sp cs (content++⟨#[c]⟩++bh).cps.toList):lexC cs=.error (locOf (cs.drop content.length)):=by
 rw [app_list,app_list,List.append_assoc] at hs
 refine e2a3 hs.app fun c1 c2 Q3=>?_;obtain rfl:=Q3;intro h1 h2
 refine e2a3 (Sp.cons (c:=c) (l:=bh.cps.toList) h2) fun x r Q4=>?_;obtain rfl:=Q4;intro hx hr
 have hq:accB "'" (x::r)=false:=by
  show inS "'" x.x=false
  rw [hx]
  rcases hc with hc | ⟨_,hc⟩
  ·exact (sgn7_no c (by simpa using hc)).2.1
  ·exact (sgn8_no c (by simpa using hc)).2
 have h8:accB setO (x::r)=false:=by
  show inS setO x.x=false
  rw [hx]
  rcases hc with hc | ⟨_,hc⟩
  ·exact (sgn7_no c (by simpa using hc)).1
  ·exact (sgn8_no c (by simpa using hc)).1
 have h16:way=3->accB setX (x::r)=false:=fun e=>by
  show inS setX x.x=false
  rw [hx]
  rcases hc with hc | ⟨hn,hc⟩
  ·exact (sgn7_no c (by simpa using hc)).2.2
  ·exact absurd e hn
 unfold lexC
 rw [lcMid_wr h h1 (fun _=>h8) h16]
 show (if accB "'" (x::r)=true then _ else _)=_
 rw [if_neg (by rw [hq];decide),len_list content,<- h1.len,List.drop_left]
theorem noEsc_no:∀ c∈noEsc.cps.toList,(inS setS ⟨#[c]⟩||inS setO ⟨#[c]⟩||inS "x" ⟨#[c]⟩||inS "u" ⟨#[c]⟩||inS "U" ⟨#[c]⟩)=false:=by decide +kernel
theorem sgnQ_no:∀ c∈sgnQ.cps.toList,inS "'" ⟨#[c]⟩=false:=by decide +kernel
theorem lexC_k2 {bh:Str} {c:Nat} {cs:List Cel} (hc:c∈noEsc.cps) (hs:Sp cs ("\\" ++ ⟨#[c]⟩++bh).cps.toList):lexC cs=.error (locOf (cs.drop 1)):=by
 rw [app_list,app_list,bs_is] at hs
 refine e2a3 (Sp.cons (c:=92) (l:=c::bh.cps.toList) hs) fun b r Q5=>?_;obtain rfl:=Q5;intro hb hs
 refine e2a3 hs.cons fun x r Q6=>?_;obtain rfl:=Q6;intro hx hs
 have b1:accB "\\" (b::x::r)=true:=by show inS "\\" b.x=true;rw [hb];decide +kernel
 have e2:accS "\\" (b::x::r)=x::r:=by unfold accS;rw [b1];rfl
 have e3:escOk (x::r)=false:=by
  show (inS setS x.x||inS setO x.x||inS "x" x.x||inS "u" x.x||inS "U" x.x)=false
  rw [hx];exact noEsc_no c (by simpa using hc)
 unfold lexC lcMid
 rw [b1,if_pos rfl,e2,e3,if_neg (by decide)]
 rfl
theorem lexC_k3 {bh:Str} {c:Nat} {cs:List Cel} (hc:c∈sgnQ.cps) (hs:Sp cs ("'" ++ ⟨#[c]⟩++bh).cps.toList):lexC cs=.error (locOf (cs.drop 1)):=by
 rw [app_list,app_list,q_is] at hs
 refine e2a3 (Sp.cons (c:=39) (l:=c::bh.cps.toList) hs) fun b r Q7=>?_;obtain rfl:=Q7;intro hb hs
 refine e2a3 hs.cons fun x r Q8=>?_;obtain rfl:=Q8;intro hx hs
 have b1:accB "\\" (b::x::r)=false:=by show inS "\\" b.x=false;rw [hb];decide +kernel
 have hq:accB "'" (x::r)=false:=by show inS "'" x.x=false;rw [hx];exact sgnQ_no c (by simpa using hc)
 unfold lexC lcMid
 rw [b1,if_neg (by decide)]
 show (if accB "'" (x::r)=true then _ else _)=_
 rw [if_neg (by rw [hq];decide)]
 rfl
theorem oct8_noq:∀ c∈oct8.cps.toList,inS "'" ⟨#[c]⟩=false:=by decide +kernel
theorem lexC_k4 {fin bh:Str} {v c:Nat} {cs:List Cel} (hv:v<256) (hsp:spRun 8 3 oct8 20 v "" = some fin) (hc:c∈oct8.cps) (hs:Sp cs ("\\" ++ fin++⟨#[c]⟩++bh).cps.toList):lexC cs=.error (locOf (cs.drop 4)):=by
 have hf:=dg_facts dg_oct
 refine e1a5 (sp_digs (by decide) hf.1 20 v "" hsp) fun pre e1 e2 e3 e4 e5=>?_
 have hz:("" : Str).length=0:=rfl
 rw [hz] at e4 e5
 have hp3:pre.length≤3:=e5 3 (by omega) (by omega)
 have hp4:pre.length=3:=by omega
 rw [app_list,app_list,app_list,e1,bs_is,show ("" : Str).cps.toList=[] from rfl,List.append_nil] at hs
 refine e2a3 (Sp.app (a:=92::pre) (b:=c::bh.cps.toList) (by simpa using hs)) fun c1 c3 Q9=>?_;obtain rfl:=Q9;intro h1 h3
 refine e2a3 h3.cons fun y r2 Q10=>?_;obtain rfl:=Q10;intro hy _
 refine e2a3 h1.cons fun b r Q11=>?_;obtain rfl:=Q11;intro hb h1
 cases pre with
 | nil=>simp at hp4
 | cons d ds =>
  refine e2a3 h1.cons fun x r Q12=>?_;obtain rfl:=Q12;intro hx h1
  have hl:=h1.len
  rw [List.length_cons] at hp4
  have hd:=e2 d (.head _)
  have hm:=mid_esc (q:=y::r2) hb hx (r:=r) (.inr (.inl ⟨oct_noS d (by simpa using hd),hf.2.1 d hd,fun z hz=>by
   refine e1a2 (h1.mem hz) fun k hk e=>?_
   rw [e];exact hf.2.1 k (e2 k (.tail _ hk)),by omega,.inl (by omega)⟩))
  have hq:accB "'" (y::r2)=false:=by show inS "'" y.x=false;rw [hy];exact oct8_noq c (by simpa using hc)
  unfold lexC
  rw [hm]
  show (if accB "'" (y::r2)=true then _ else _)=_
  rw [if_neg (by rw [hq];decide),show (4:Nat)=(b::x::r).length by rw [List.length_cons,List.length_cons];omega,List.drop_left]
end
end
example:True:=by w_top off;trivial
section
section
theorem lexC_end {cs:List Cel} (h:lcMid cs=.ok (cs,[])):lexC cs=.error (locOf []):=by
 unfold lexC
 rw [h]
 rfl
theorem lexC_k1 {x:Str} {cs:List Cel} (hx:x∈tab_toosoon) (hs:Sp cs x.cps.toList):lexC cs=.error (locOf []):=by
 simp only [List.mem_cons,List.mem_nil_iff,or_false] at hx
 rcases hx with rfl | rfl | rfl | rfl | rfl | rfl | rfl | rfl
 ·obtain rfl:=Sp.nil (show Sp cs [] from hs);rfl
 ·refine e2a3 (Sp.cons (c:=92) (l:=[]) hs) fun b r Q13=>?_;obtain rfl:=Q13;intro hb hs
  obtain rfl:=hs.nil
  have b1:accB "\\" [b]=true:=by show inS "\\" b.x=true;rw [hb];decide +kernel
  have e2:accS "\\" [b]=[]:=by unfold accS;rw [b1];rfl
  unfold lexC lcMid
  rw [b1,if_pos rfl,e2]
  rfl
 ·refine e2a3 (Sp.cons (c:=39) (l:=[]) hs) fun b r Q14=>?_;obtain rfl:=Q14;intro hb hs
  obtain rfl:=hs.nil
  have b1:accB "\\" [b]=false:=by show inS "\\" b.x=false;rw [hb];decide +kernel
  exact lexC_end (by unfold lcMid;rw [b1];rfl)
 ·refine e2a3 (Sp.cons (c:=65) (l:=[]) hs) fun b r Q15=>?_;obtain rfl:=Q15;intro hb hs
  obtain rfl:=hs.nil
  have b1:accB "\\" [b]=false:=by show inS "\\" b.x=false;rw [hb];decide +kernel
  exact lexC_end (by unfold lcMid;rw [b1];rfl)
 ·refine e2a3 (Sp.cons (c:=92) (l:=[110]) hs) fun b r Q16=>?_;obtain rfl:=Q16;intro hb hs
  refine e2a3 hs.cons fun y r Q17=>?_;obtain rfl:=Q17;intro hy hs
  obtain rfl:=hs.nil
  exact lexC_end (by simpa using mid_esc (q:=[]) (r:=[]) hb hy (.inl ⟨by decide +kernel,rfl⟩))
 ·refine e2a3 (Sp.cons (c:=92) (l:=[120,52]) hs) fun b r Q18=>?_;obtain rfl:=Q18;intro hb hs
  refine e2a3 hs.cons fun y r Q19=>?_;obtain rfl:=Q19;intro hy hs
  have hm:=mid_esc (q:=[]) (r:=r) hb hy (.inr (.inr (.inl ⟨rfl,fun z hz=>by
   refine e1a2 (hs.mem hz) fun d hd e=>?_
   rw [e];exact (by decide +kernel:∀ d∈[52],inS setX ⟨#[d]⟩=true) d hd,by rw [hs.len];decide,rfl⟩)))
  rw [List.append_nil] at hm
  exact lexC_end hm
 ·refine e2a3 (Sp.cons (c:=92) (l:=[49,48]) hs) fun b r Q20=>?_;obtain rfl:=Q20;intro hb hs
  refine e2a3 hs.cons fun y r Q21=>?_;obtain rfl:=Q21;intro hy hs
  have hm:=mid_esc (q:=[]) (r:=r) hb hy (.inr (.inl ⟨by decide +kernel,by decide +kernel,fun z hz=>by
   refine e1a2 (hs.mem hz) fun d hd e=>?_
   rw [e];exact (by decide +kernel:∀ d∈[48],inS setO ⟨#[d]⟩=true) d hd,by rw [hs.len];decide,.inr rfl⟩))
  rw [List.append_nil] at hm
  exact lexC_end hm
 ·refine e2a3 (Sp.cons (c:=92) (l:=[117,48,48,101,57]) hs) fun b r Q22=>?_;obtain rfl:=Q22;intro hb hs
  refine e2a3 hs.cons fun y r Q23=>?_;obtain rfl:=Q23;intro hy hs
  have hm:=mid_esc (q:=[]) (r:=r) hb hy (.inr (.inr (.inr ⟨rfl,fun z hz=>by
   refine e1a2 (hs.mem hz) fun d hd e=>?_
   rw [e];exact (by decide +kernel:∀ d∈[48,48,101,57],inS setX ⟨#[d]⟩=true) d hd,by rw [hs.len];decide⟩)))
  rw [List.append_nil] at hm
  exact lexC_end hm
end
end
example:True:=by w_top off;trivial
section
/-! the law's own text,and loops by an invariant over map and ledger -/
noncomputable def lawDef:Option (Arguments×List Stmt×Scope):=pw_rk0009_01.main.body.getLast?.bind sdf
noncomputable def LawIs (b:List Stmt) (sc:Scope):Prop:=∃ a,lawDef=some (a,b,sc)
noncomputable abbrev cellsW (cP cS:Addr):List (Str×Addr):=[("places",cP),("step",cS)]
noncomputable def stAt (b:List Stmt) (n:Nat):Option Stmt:=b[n]?
noncomputable def forBo (b:List Stmt):Option (List Stmt):=match stAt b 2 with
 | some (.For _ _ bo _ _)=>some bo
 | _=>none
noncomputable def inFor (bo:List Stmt):Option (List Stmt):=match stAt bo 4 with
 | some (.For _ _ ib _ _)=>some ib
 | _=>none
noncomputable def TurnJ (h₀:Heap) (L I:Addr) (io:Obj) (J:(Str->Option Value)->List (Addr×Obj)->Prop) (s₁:Shared) (Q:Flow->Shared->Prop) (f:Flow) (s₂:Shared):Prop :=
 match f with
 | .ret v=>Q (.ret v) s₂
 | .brk=>Q .next s₂
 | _=>∃ h' tk m' news',s₂={ s₁ with heap:=h',toks:=tk }/\Fr h₀ L h' m'/\News h₀ L h' ((I,io)::news')/\(∀ p∈news',p.1≠I)/\J m' news'
section
variable {prog:Program} {A:Around} {E:Value->Shared->Prop} {Q:Flow->Shared->Prop} {env:Env} {news:List (Addr×Obj)} {x:Str} {body:List Stmt}
noncomputable def Z71P:FrZ->Prop:=fun V=>∀ (P:Nat->Value->Prop) (St:Nat->Heap->Prop) (J:Nat->(Str->Option Value)->List (Addr×Obj)->Prop) (W:Walks (V.fP 0) V.w (V.fR 0) (V.fA 0) [(V.fA 0)] [(V.fA 0)] (V.fN 0) P St) (hL:(V.fE 0).locals≠(V.fA 0)) (hI:V.h₀.get? (V.fA 0)=none) (off:∀ p∈(V.fL 0),p.1≠(V.fA 0)) (hst:St 0 V.s.heap) (F:Fr V.h₀ (V.fE 0).locals V.s.heap V.m) (N:News V.h₀ (V.fE 0).locals V.s.heap (V.fL 0)) (j0:J 0 V.m (V.fL 0)) (live:∀ i h,St i h->∃ o,h.get? (V.fA 0)=some o) (turn:∀ i v m₁ news₁ h tk io,i<(V.fN 0)->P i v->J i m₁ news₁->(∀ p∈news₁,p.1≠(V.fA 0))->Fr V.h₀ (V.fE 0).locals h (fun y=>if y=(V.fS 0) then some v else m₁ y)->News V.h₀ (V.fE 0).locals h (((V.fA 0),io)::news₁) ->
   wpAny (model (V.fP 0) V.w) (V.fR 0) (execs (V.fB 0) (V.fE 0)) (TurnJ V.h₀ (V.fE 0).locals (V.fA 0) io (J (i+1)) V.s (V.fF 0)) V.E { V.s with heap:=h,toks:=tk }) (done:∀ h tk m' news',Fr V.h₀ (V.fE 0).locals h m'->News V.h₀ (V.fE 0).locals h news'->J (V.fN 0) m' news'->(V.fF 0) .next { V.s with heap:=h,toks:=tk }),LoopAtV (V.fP 0) V.w (V.fR 0) V.h₀ (V.fE 0) (V.fS 0) (V.fB 0) (V.fF 0) V.E (.ref (V.fA 0)) V.s
@[irreducible] noncomputable def Z71:FrZ:=pickZ Z71P
theorem Z71c:Z71P Z71:=by
 intro P St J W hL hI off hst F N j0 live turn done
 refine ⟨(Z71.fA 0),[(Z71.fA 0)],[(Z71.fA 0)],(Z71.fN 0),P,St,Z71.m,(Z71.fL 0),J,rfl,W,fun h=>hL (List.mem_singleton.mp h),fun b hb=>by rw [List.mem_singleton.mp hb];exact hI,fun p hp h=>off p hp (List.mem_singleton.mp h),hst,F,N,j0,?_,fun h' tk m' news' F' N' _ hJ=>done h' tk m' news' F' N' hJ⟩
 intro i v m₁ news₁ s₁ own hq0 hi hP hJ hoff hown hget hall hst₁ F₁ N₁
 refine e2a1 hq0 fun h tk Q24=>?_;clear hq0;obtain rfl:=Q24
 refine e1a1 (live _ _ hst₁) fun io hio=>?_
 have hmem:=hall (Z71.fA 0) (List.mem_singleton.mpr rfl) hI io hio
 have N₂:News Z71.h₀ (Z71.fE 0).locals h (((Z71.fA 0),io)::news₁):=fun p hp=>by
  rcases List.mem_cons.mp hp with rfl | hp
  ·exact N₁ _ (List.mem_append_left _ hmem)
  ·exact N₁ _ (List.mem_append_right _ hp)
 refine wpAny_mono (turn i v m₁ news₁ h tk io hi hP hJ (fun p hp e=>hoff p hp (List.mem_singleton.mpr e)) F₁ N₂) (fun f s₂ p=>?_) fun _ _ e=>e
 have fin:(∃ h' tk' m' news',s₂={ Z71.s with heap:=h',toks:=tk' }/\Fr Z71.h₀ (Z71.fE 0).locals h' m'/\News Z71.h₀ (Z71.fE 0).locals h' (((Z71.fA 0),io)::news')/\(∀ p∈news',p.1≠(Z71.fA 0))/\J (i+1) m' news')->LoopStepU Z71.h₀ (Z71.fE 0).locals [(Z71.fA 0)] own (J (i+1)) { Z71.s with heap:=h,toks:=tk } .next s₂:=by
  intro hq0
  refine e4a5 hq0 fun h' tk' m' news' e F' N' ho r=>?_;clear hq0
  refine ⟨rfl,h',tk',m',news',e,F',fun p hp=>?_,fun p hp hI=>ho p hp (List.mem_singleton.mp hI),r⟩
  rcases List.mem_append.mp hp with hp | hp
  ·have h1:p.1=(Z71.fA 0):=List.mem_singleton.mp (hown p hp)
   have h2:h.get? p.1=some p.2:=hget p hp
   rw [h1,hio] at h2
   have e:p=((Z71.fA 0),io):=Prod.ext h1 (Option.some.inj h2).symm
   rw [e]
   exact N' _ (.head _)
  ·exact N' _ (.tail _ hp)
 cases f with
 | ret v=>exact .ret p
 | brk=>exact .brk p
 | next=>exact .next (fin p)
 | cont=>exact .cont (fin p)
theorem atJ {I:Addr} {n:Nat} {P:Nat->Value->Prop} {St:Nat->Heap->Prop} (J:Nat->(Str->Option Value)->List (Addr×Obj)->Prop) (W:Walks prog w A I [I] [I] n P St) (hL:env.locals≠I) (hI:h₀.get? I=none)
  (off:∀ p∈news,p.1≠I) (hst:St 0 s.heap) (F:Fr h₀ env.locals s.heap m) (N:News h₀ env.locals s.heap news) (j0:J 0 m news) (live:∀ i h,St i h->∃ o,h.get? I=some o)
  (turn:∀ i v m₁ news₁ h tk io,i<n->P i v->J i m₁ news₁->(∀ p∈news₁,p.1≠I)->Fr h₀ env.locals h (fun y=>if y=x then some v else m₁ y)->News h₀ env.locals h ((I,io)::news₁) ->
   wpAny (model prog w) A (execs body env) (TurnJ h₀ env.locals I io (J (i+1)) s Q) E { s with heap:=h,toks:=tk })
  (done:∀ h tk m' news',Fr h₀ env.locals h m'->News h₀ env.locals h news'->J n m' news'->Q .next { s with heap:=h,toks:=tk }) :
  LoopAtV prog w A h₀ env x body Q E (.ref I) s:=pickedZ (by with_unfolding_all rfl) Z71c (sfN (sfA (sfB (sfS (sfL (sfE (sfF (sfR (sfP (frC w Z71.p Z71.loose Z71.mean Z71.mg Z71.mb Z71.dp Z71.un Z71.gd Z71.cn Z71.cs Z71.ca Z71.ccd Z71.cll Z71.outer Z71.A₀ Z71.base h₀ Z71.L m s E) [prog]) [A]) [Q]) [env]) [news]) [x]) [body]) [I]) [n]) P St J W hL hI off hst F N j0 live turn done
theorem range_J {r:Addr} {a₀ b₀ c:Int} {t₀ u₀ v₀:Tok} {n:Nat} (J:Nat->(Str->Option Value)->List (Addr×Obj)->Prop)
  (hh:A.handled=none) (hr:IsRange s.heap r a₀ b₀ c t₀ u₀ v₀) (hsmall:Builtin.Range.small a₀ b₀ c=true) (hn:Builtin.Range.rangeSize a₀ b₀ c=(n:Int)) (F:Fr h₀ env.locals s.heap m) (N:News h₀ env.locals s.heap news) (j0:J 0 m news)
  (turn:∀ (I:Addr) i t m₁ news₁ h tk io,(∀ p∈news,p.1<I)->i<n->J i m₁ news₁->(∀ p∈news₁,p.1≠I)->Fr h₀ env.locals h (fun y=>if y=x then some (.int (a₀+(i:Int) * c) t) else m₁ y)->News h₀ env.locals h ((I,io)::news₁) ->
   wpAny (model prog w) A (execs body env) (TurnJ h₀ env.locals I io (J (i+1)) s Q) E { s with heap:=h,toks:=tk })
  (done:∀ h tk m' news',Fr h₀ env.locals h m'->News h₀ env.locals h news'->J n m' news'->Q .next { s with heap:=h,toks:=tk }) :
  wpAny (model prog w) A (pyIter (.ref r)) (fun it s₂=>LoopAtV prog w A h₀ env x body Q E it s₂) E s:=by
 refine wpAny_pyIter_range hr hsmall ?_
 have lt:∀ p∈news,p.1<s.heap.objs.size:=fun p hp=>Heap.lt_size (N p hp).1
 refine atJ J (Walks.range hh s.heap.objs.size a₀ c n) (Nat.ne_of_lt F.ns.lt) (next_is_new F) (fun p hp=>Nat.ne_of_lt (lt p hp)) (by show IsRangeIter _ _ _ _ _;rw [hn];simpa using Heap.get?_push_size _ rfl) (F.push _) (fun p hp=>⟨Heap.get?_push_of_some _ (N p hp).1,(N p hp).2⟩) j0 (fun i h st=>⟨_,st⟩) ?_ ?_
 ·intro i v m₁ news₁ h tk io hi hq0 hJ off F₁ N₁
  refine e1a1 hq0 fun t Q25=>?_;clear hq0;obtain rfl:=Q25
  exact turn _ i t m₁ news₁ h tk io lt hi hJ off F₁ N₁
 ·intro h tk m' news' F' N' hJ
  exact done h tk m' news' F' N' hJ
theorem str_J {y:Str} {t:Tok} (J:Nat->(Str->Option Value)->List (Addr×Obj)->Prop) (hh:A.handled=none) (F:Fr h₀ env.locals s.heap m) (N:News h₀ env.locals s.heap news) (j0:J 0 m news)
  (turn:∀ (I:Addr) i c u m₁ news₁ h tk io,(∀ p∈news,p.1<I)->y.cps[i]?=some c->J i m₁ news₁->(∀ p∈news₁,p.1≠I)->Fr h₀ env.locals h (fun z=>if z=x then some (.str ⟨#[c]⟩ u) else m₁ z)->News h₀ env.locals h ((I,io)::news₁) ->
   wpAny (model prog w) A (execs body env) (TurnJ h₀ env.locals I io (J (i+1)) s Q) E { s with heap:=h,toks:=tk })
  (done:∀ h tk m' news',Fr h₀ env.locals h m'->News h₀ env.locals h news'->J y.cps.size m' news'->Q .next { s with heap:=h,toks:=tk }) :
  wpAny (model prog w) A (pyIter (.str y t)) (fun it s₂=>LoopAtV prog w A h₀ env x body Q E it s₂) E s:=by
 have lt:∀ p∈news,p.1<s.heap.objs.size:=fun p hp=>Heap.lt_size (N p hp).1
 have go:∀ (o:Obj) (St:Nat->Heap->Prop),Walks prog w A s.heap.objs.size [s.heap.objs.size] [s.heap.objs.size] y.cps.size (SignAt y) St->St 0 (s.heap.push o)->(∀ i h,St i h->∃ o,h.get? s.heap.objs.size=some o)->o.isFreed=false ->
   LoopAtV prog w A h₀ env x body Q E (.ref s.heap.objs.size) { s with heap:=s.heap.push o }:=fun o St W st live _=>by
  refine atJ J W (Nat.ne_of_lt F.ns.lt) (next_is_new F) (fun p hp=>Nat.ne_of_lt (lt p hp)) st (F.push _) (fun p hp=>⟨Heap.get?_push_of_some _ (N p hp).1,(N p hp).2⟩) j0 live ?_ ?_
  ·intro i v m₁ news₁ h tk io hi hq0 hJ off F₁ N₁
   refine e2a2 hq0 fun c u hc Q26=>?_;clear hq0;obtain rfl:=Q26
   exact turn _ i c u m₁ news₁ h tk io lt hc hJ off F₁ N₁
  ·intro h tk m' news' F' N' hJ
   exact done h tk m' news' F' N' hJ
 cases ha:y.cps.all (·<128)
 ·exact wpAny_pyIter_wide ha (go _ _ (Walks.strWide hh _ y t) ⟨_,Heap.get?_push_size _ rfl,rfl,rfl⟩ (fun i h st=>let ⟨o,e,_⟩:=st;⟨o,e⟩) rfl)
 ·exact wpAny_pyIter_ascii ha (go _ _ (Walks.strAscii hh _ y t) ⟨_,Heap.get?_push_size _ rfl,rfl,rfl⟩ (fun i h st=>let ⟨o,e,_⟩:=st;⟨o,e⟩) rfl)
end
end
theorem NgB82.gB82:True:=trivial
example:True:=by w_top off;trivial
section
open NgB82
noncomputable abbrev topW (dp un:Nat) (gd:Option (List Code)) (sc:Scope) (L fa:Addr) (cd:Value) (cP cS:Addr):Around:=ktrTop dp un gd "law" sc L fa cd (cellsW cP cS) []
noncomputable abbrev envW (sc:Scope) (L fa:Addr) (cd:Value) (cP cS:Addr):Env:=envX "law" sc L fa cd (cellsW cP cS)
section
variable {fa:Addr} {cd:Value} {cP cS:Addr} {rest:List (Addr×Obj)} {b:List Stmt} {sc:Scope} {Q:Flow->Shared->Prop} {E:Value->Shared->Prop}
theorem pre_end {h:Heap} {a1 a2 a3 taA duA woA:Addr} {o1 o2 o3:Obj} {tv:List Value} {tn:Nat} (N:News h₀ L h ((a1,o1)::(woA,listOf #[] 0)::(duA,listOf #[] 0)::(taA,listOf tv.toArray tn)::(a2,o2)::(a3,o3)::rest))
  (l1 : @LT.lt Nat _ woA a1) (l2 : @LT.lt Nat _ duA a1) (l3 : @LT.lt Nat _ taA duA) (l4 : @LT.lt Nat _ taA woA) (l5 : @LT.lt Nat _ a2 duA) (l6 : @LT.lt Nat _ a2 woA) (l7 : @LT.lt Nat _ a3 duA) (l8 : @LT.lt Nat _ a3 woA) (l9 : @LT.lt Nat _ duA woA) (r1:∀ q∈rest,q.1<duA) (r2:∀ q∈rest,q.1<woA) :
  News h₀ L h ((duA,listOf #[] 0)::(woA,listOf #[] 0)::(a1,o1)::(taA,listOf tv.toArray tn)::(a2,o2)::(a3,o3)::rest)/\(taA,listOf tv.toArray tn)∈((a1,o1)::(taA,listOf tv.toArray tn)::(a2,o2)::(a3,o3)::rest) /\
   (∀ q∈rest,q∈((a1,o1)::(taA,listOf tv.toArray tn)::(a2,o2)::(a3,o3)::rest))/\(∀ q∈((a1,o1)::(taA,listOf tv.toArray tn)::(a2,o2)::(a3,o3)::rest),q.1≠duA)/\(∀ q∈((a1,o1)::(taA,listOf tv.toArray tn)::(a2,o2)::(a3,o3)::rest),q.1≠woA)/\True:=by
 exact ⟨List.forall_mem_cons.mpr ⟨N _ (.tail _ (.tail _ (.head _))),List.forall_mem_cons.mpr ⟨N _ (.tail _ (.head _)),List.forall_mem_cons.mpr ⟨N _ (.head _),fun q hq=>N q (.tail _ (.tail _ (.tail _ hq)))⟩⟩⟩,.tail _ (.head _),fun q hq=>.tail _ (.tail _ (.tail _ (.tail _ hq))),
  List.forall_mem_cons.mpr ⟨Nat.ne_of_gt l2,List.forall_mem_cons.mpr ⟨Nat.ne_of_lt l3,List.forall_mem_cons.mpr ⟨Nat.ne_of_lt l5,List.forall_mem_cons.mpr ⟨Nat.ne_of_lt l7,fun q hq=>Nat.ne_of_lt (r1 q hq)⟩⟩⟩⟩,
  List.forall_mem_cons.mpr ⟨Nat.ne_of_gt l1,List.forall_mem_cons.mpr ⟨Nat.ne_of_lt l4,List.forall_mem_cons.mpr ⟨Nat.ne_of_lt l6,List.forall_mem_cons.mpr ⟨Nat.ne_of_lt l8,fun q hq=>Nat.ne_of_lt (r2 q hq)⟩⟩⟩⟩,trivial⟩
example:True:=by (k_with "eval Name" => (fail_if_success (fail_if_success (have:=gB82)));(k_here;k_dflt (refine' ldM2 ?Y0 ?Y1 ?Y2 ?Y3 ?Y4 ?Y5 ?_;(case Y0=>assumption);(case Y1=>exact rfl);(case Y2=>exact rfl);(case Y3=>exact rfl);(case Y4=>((repeat (refine (if_neg (by decide)).trans ?_));first | assumption | exact if_pos rfl));(case Y5=>decide);k_whole)));trivial
noncomputable def Z27P:FrZ->Prop:=fun V=>∀ (b:List Stmt) (sc:Scope) (x0 x1:Stmt) (LI:LawIs b sc) (hp0:stAt b 0=some x0) (hp1:stAt b 1=some x1) (C:Cx 550 V.w V.p V.loose V.mean V.mg V.mb V.dp V.un sc [] V.A₀ V.base V.h₀ V.L V.m V.s) (N:News V.h₀ V.L V.s.heap (V.fL 0)) (hl:V.h₀.IsList (V.fA 3) (V.fv 0).toArray) (hi:IntsAre (V.fv 0) (V.fj 0)) (hz:(V.fj 0).length≤63) (ms:V.m "script" = some (.ref (V.fA 3))) (ret:∀ (h':Heap) (tk':Nat) (m':Str->Option Value) (taA duA woA:Addr) (tv:List Value) (tn:Nat) (K:List (Addr×Obj)) (t:Tok),IntsAre tv ((V.fj 0).take 12++[0,3])->Fr V.h₀ V.L h' m'->News V.h₀ V.L h' ((duA,listOf #[] 0)::(woA,listOf #[] 0)::K)->(taA,listOf tv.toArray tn)∈K->(∀ q∈(V.fL 0),q∈K) ->
   (∀ q∈K,q.1≠duA)->(∀ q∈K,q.1≠woA)->@LT.lt Nat _ duA woA->m' "tape" = some (.ref taA)->m' "text" = some (.str "" t)->m' "due" = some (.ref duA)->m' "worths" = some (.ref woA)->m' "refused" = some .none ->
   wpAny (model pw_rk0009_01 V.w) (topW V.dp V.un V.gd sc V.L (V.fA 0) (V.fV 0) (V.fA 1) (V.fA 2)) (execs (V.fB 0) (envW sc V.L (V.fA 0) (V.fV 0) (V.fA 1) (V.fA 2))) (V.fF 0) V.E { V.s with heap:=h',toks:=tk' }),wpAny (model pw_rk0009_01 V.w) (topW V.dp V.un V.gd sc V.L (V.fA 0) (V.fV 0) (V.fA 1) (V.fA 2)) (execs (x0::x1::(V.fB 0)) (envW sc V.L (V.fA 0) (V.fV 0) (V.fA 1) (V.fA 2))) (V.fF 0) V.E V.s
@[irreducible] noncomputable def Z27:FrZ:=pickZ Z27P
set_option maxHeartbeats 4000000 in
theorem Z27c:Z27P Z27:=by
 intro b sc x0 x1 LI hp0 hp1 C N hl hi hz ms ret
 refine e1a1 LI fun a0 ho=>?_;clear LI
 have e2:(a0,b,sc)=_:=Option.some.inj (ho.symm.trans (rfl:lawDef=some _))
 injection e2 with e2 e3
 injection e3 with e3 e4
 subst e2 e3 e4
 have e5:x0=_:=Option.some.inj (hp0.symm.trans (rfl:stAt _ 0=some _))
 have e6:x1=_:=Option.some.inj (hp1.symm.trans (rfl:stAt _ 1=some _))
 subst e5 e6
 clear hp0 hp1 ho
 obtain ⟨B,F,X,T,hk,hdp,hun⟩:=C
 k_steps
 rename News Z27.h₀ Z27.L _ _=>kN
 refine e0a6 (pre_end kN (by omega) (by omega) (by omega) (by omega) (by omega) (by omega) (by omega) (by omega) (by omega) (by assumption) (by assumption)) fun y1 y2 y3 y4 y5 y6=>?_
 exact ret _ _ _ _ _ _ _ _ _ _ (by assumption) (by k_asm) y1 y2 y3 y4 y5 (by omega) rfl rfl rfl rfl rfl
theorem w_pre {x0 x1:Stmt} {tl:List Stmt} {l:Addr} {vs:List Value} {ns:List Int} (LI:LawIs b sc) (hp0:stAt b 0=some x0) (hp1:stAt b 1=some x1)
  (C:Cx 550 w p loose mean mg mb dp un sc [] A₀ base h₀ L m s) (N:News h₀ L s.heap rest) (hl:h₀.IsList l vs.toArray) (hi:IntsAre vs ns) (hz:ns.length≤63) (ms:m "script" = some (.ref l))
  (ret:∀ (h':Heap) (tk':Nat) (m':Str->Option Value) (taA duA woA:Addr) (tv:List Value) (tn:Nat) (K:List (Addr×Obj)) (t:Tok),IntsAre tv (ns.take 12++[0,3])->Fr h₀ L h' m'->News h₀ L h' ((duA,listOf #[] 0)::(woA,listOf #[] 0)::K)->(taA,listOf tv.toArray tn)∈K->(∀ q∈rest,q∈K) ->
   (∀ q∈K,q.1≠duA)->(∀ q∈K,q.1≠woA)->@LT.lt Nat _ duA woA->m' "tape" = some (.ref taA)->m' "text" = some (.str "" t)->m' "due" = some (.ref duA)->m' "worths" = some (.ref woA)->m' "refused" = some .none ->
   wpAny (model pw_rk0009_01 w) (topW dp un gd sc L fa cd cP cS) (execs tl (envW sc L fa cd cP cS)) Q E { s with heap:=h',toks:=tk' }) :
  wpAny (model pw_rk0009_01 w) (topW dp un gd sc L fa cd cP cS) (execs (x0::x1::tl) (envW sc L fa cd cP cS)) Q E s:=pickedZ (by with_unfolding_all rfl) Z27c (sfj (sfv (sfB (sfF (sfL (sfV (sfA (frC w p loose mean mg mb dp un gd Z27.cn Z27.cs Z27.ca Z27.ccd Z27.cll Z27.outer A₀ base h₀ L m s E) [fa,cP,cS,l]) [cd]) [rest]) [Q]) [tl]) [vs]) [ns]) b sc x0 x1 LI hp0 hp1 C N hl hi hz ms ret
end
end
example:True:=by w_top off;trivial
section
/-! what the law builds,turn by turn -/
noncomputable abbrev DueL:=List (Str×Str×Nat)
noncomputable def ones (k:Nat):List Nat->DueL
 | []=>[]
 | c::r=>("ONE",⟨#[c]⟩,k)::ones (k+1) r
theorem ones_snoc (c:Nat):∀ (l:List Nat) (k:Nat),ones k (l++[c])=ones k l++([("ONE",⟨#[c]⟩,k+l.length)] : DueL)
 | [],k=>rfl
 | x::l,k=>by
  rw [List.cons_append,ones,ones_snoc c l (k+1),ones,List.cons_append,List.length_cons,show k+1+l.length=k+(l.length+1) by omega]
theorem ones_len:∀ (l:List Nat) (k:Nat),(ones k l).length=l.length
 | [],_=>rfl
 | _::l,k=>by rw [ones,List.length_cons,ones_len l,List.length_cons]
noncomputable def AhOk (ah op:Str):Prop:=ah∈tab_among/\op∈tab_openers/\¬(ah = "L" /\ op = "'")
inductive Bt:Nat->Str->DueL->List Nat->Prop
 | nil:Bt 0 "" [] []
 | turn {i:Nat} {t ah op content:Str} {d:DueL} {w:List Nat} {way:Int} {v:Nat} : Bt i t d w->AhOk ah op->Wr way content v->content.length≤30 ->
  Bt (i+1) (t++ah++(op++content ++ "'")) (d++ones t.length ah.cps.toList++([("CHAR",op++content ++ "'",t.length+ah.length)] : DueL)) (w++[v])
inductive Bf:Str->DueL->List Nat->Option Int->Prop
 | all {i:Nat} {t:Str} {d:DueL} {w:List Nat} : i≤7->Bt i t d w->Bf t d w none
 | wrong {i:Nat} {t ah op rest:Str} {d:DueL} {w:List Nat} {stop:Int} : i≤7->Bt i t d w->AhOk ah op->Ws rest stop->rest.length≤50 ->
  Bf (t++ah++(op++rest)) (d++ones t.length ah.cps.toList) w (some (if stop<0 then -1 else ((t++ah).length:Int)+op.length+stop))
theorem among_len {x:Str} (h:x∈tab_among):x.length≤2:=(by decide +kernel:∀ q∈tab_among,q.length≤2) _ h
theorem open_len {x:Str} (h:x∈tab_openers):x.length≤2:=(by decide +kernel:∀ q∈tab_openers,q.length≤2) _ h
theorem Bt.sz {i:Nat} {t:Str} {d:DueL} {w:List Nat} (h:Bt i t d w):t.length≤35 * i/\d.length≤3 * i/\w.length=i:=by
 induction h with
 | nil=>exact ⟨Nat.le_refl _,Nat.le_refl _,rfl⟩
 | @turn i t ah op content d w way v _ ha _ hl ih =>
  have h1:=among_len ha.1
  have h2:=open_len ha.2.1
  have h3:=q_l
  have h4:ah.cps.toList.length=ah.length:=rfl
  simp only [app_len,List.length_append,ones_len,List.length_cons,List.length_nil,h3,h4]
  omega
theorem Bf.sz {t:Str} {d:DueL} {w:List Nat} {r:Option Int} (h:Bf t d w r):t.length≤300/\d.length≤30/\w.length≤7:=by
 cases h with
 | all hi hb=>have:=hb.sz;omega
 | @wrong i t ah op rest d w stop hi hb ha _ hl =>
  have h1:=among_len ha.1
  have h2:=open_len ha.2.1
  have h4:ah.cps.toList.length=ah.length:=rfl
  have:=hb.sz
  simp only [app_len,List.length_append,ones_len,h4]
  omega
noncomputable abbrev triO (a b c:Value):Obj:={ cls:=.type "tuple",data:=.seq #[a,b,c] }
structure DueOk (K:List (Addr×Obj)) (dv:List Value) (due:DueL):Prop where
 len:dv.length=due.length
 at_:∀ (i:Nat) kd vl k,due[i]?=some (kd,vl,k)->∃ a t1 t2 t3,dv[i]?=some (.ref a)/\(a,triO (.str kd t1) (.str vl t2) (.int ((k:Nat):Int) t3))∈K
structure WorOk (K:List (Addr×Obj)) (wv:List Value) (ws:List Nat):Prop where
 len:wv.length=ws.length
 at_:∀ (i:Nat) v,ws[i]?=some v->∃ a l t u n,wv[i]?=some (.ref a)/\(a,prO (.int ((v:Nat):Int) t) (.ref l))∈K/\(l,listOf #[.str "char" u] n)∈K
section
variable {K K':List (Addr×Obj)} {dv wv:List Value} {due:DueL} {ws:List Nat}
theorem DueOk.mono (h:DueOk K dv due) (k:∀ q∈K,q∈K'):DueOk K' dv due:=⟨h.len,fun i kd vl n e=>let ⟨a,t1,t2,t3,e1,e2⟩:=h.at_ i kd vl n e;⟨a,t1,t2,t3,e1,k _ e2⟩⟩
theorem WorOk.mono (h:WorOk K wv ws) (k:∀ q∈K,q∈K'):WorOk K' wv ws:=⟨h.len,fun i v e=>let ⟨a,l,t,u,n,e1,e2,e3⟩:=h.at_ i v e;⟨a,l,t,u,n,e1,k _ e2,k _ e3⟩⟩
theorem DueOk.nil:DueOk K [] []:=⟨rfl,fun i kd vl k e=>by simp at e⟩
theorem WorOk.nil:WorOk K [] []:=⟨rfl,fun i v e=>by simp at e⟩
theorem DueOk.snoc {a:Addr} {kd vl:Str} {n:Nat} {t1 t2 t3:Tok} (h:DueOk K dv due):DueOk ((a,triO (.str kd t1) (.str vl t2) (.int ((n:Nat):Int) t3))::K) (dv++[.ref a]) (due++([(kd,vl,n)] : DueL)) where
 len:=by rw [List.length_append,List.length_append,h.len];rfl
 at_:=fun i kd' vl' k' e=>by
  by_cases hl:i<due.length
  ·rw [List.getElem?_append_left hl] at e
   refine e4a2 (h.at_ i kd' vl' k' e) fun a' u1 u2 u3 e1 e2=>?_
   exact ⟨a',u1,u2,u3,by rw [List.getElem?_append_left (by rw [h.len];exact hl)];exact e1,.tail _ e2⟩
  ·have hi:i=due.length:=by
    have:=(List.getElem?_eq_some_iff.mp e).1
    rw [List.length_append,List.length_singleton] at this
    omega
   subst hi
   rw [List.getElem?_append_right (Nat.le_refl _),Nat.sub_self] at e
   simp only [List.getElem?_cons_zero,Option.some.injEq,Prod.mk.injEq] at e
   refine e0a3 e fun Q27=>?_;clear e;obtain rfl:=Q27;intro Q28;obtain rfl:=Q28;intro Q29;obtain rfl:=Q29
   exact ⟨a,t1,t2,t3,by rw [List.getElem?_append_right (by rw [h.len];exact Nat.le_refl _),h.len,Nat.sub_self];rfl,.head _⟩
theorem WorOk.snoc {a l:Addr} {v n:Nat} {t u:Tok} (h:WorOk K wv ws):WorOk ((a,prO (.int ((v:Nat):Int) t) (.ref l))::(l,listOf #[.str "char" u] n)::K) (wv++[.ref a]) (ws++[v]) where
 len:=by rw [List.length_append,List.length_append,h.len];rfl
 at_:=fun i v' e=>by
  by_cases hl:i<ws.length
  ·rw [List.getElem?_append_left hl] at e
   refine e5a3 (h.at_ i v' e) fun a' l' t' u' n' e1 e2 e3=>?_
   exact ⟨a',l',t',u',n',by rw [List.getElem?_append_left (by rw [h.len];exact hl)];exact e1,.tail _ (.tail _ e2),.tail _ (.tail _ e3)⟩
  ·have hi:i=ws.length:=by
    have:=(List.getElem?_eq_some_iff.mp e).1
    rw [List.length_append,List.length_singleton] at this
    omega
   subst hi
   rw [List.getElem?_append_right (Nat.le_refl _),Nat.sub_self] at e
   simp only [List.getElem?_cons_zero,Option.some.injEq] at e
   subst e
   exact ⟨a,l,t,u,n,by rw [List.getElem?_append_right (by rw [h.len];exact Nat.le_refl _),h.len,Nat.sub_self];rfl,.head _,.tail _ (.head _)⟩
end
end
theorem NgB84.gB84:True:=trivial
example:True:=by w_top off;trivial
section
open NgB84
noncomputable abbrev MapW (m:Str->Option Value) (taA duA woA:Addr) (text:Str):Prop:=m "tape" = some (.ref taA)/\m "due" = some (.ref duA)/\m "worths" = some (.ref woA)/\m "refused" = some .none/\∃ t,m "text" = some (.str text t)
section
variable {fa:Addr} {cd:Value} {cP cS:Addr} {news:List (Addr×Obj)} {b bo:List Stmt} {sc:Scope} {Q:Flow->Shared->Prop} {E:Value->Shared->Prop}
example:True:=by (k_with "B84" => (fail_if_success (fail_if_success (have:=gB84))));(k_with "eval Name" => k_extra "B84";(k_here;k_dflt (refine' ldM2 ?Y0 ?Y1 ?Y2 ?Y3 ?Y4 ?Y5 ?_;(case Y0=>assumption);(case Y1=>exact rfl);(case Y2=>exact rfl);(case Y3=>exact rfl);(case Y4=>((repeat (refine (if_neg (by decide)).trans ?_));first | assumption | exact if_pos rfl));(case Y5=>decide);k_whole)));(k_with "subscriptTail Name Name ref int" => k_extra "B84";(k_here;k_dflt (refine' itemI ?Y0 ?Y1 ?Y2 ?Y3 ?Y4 ?_ ?Y5;(case Y5=>with_unfolding_all rfl);(case Y0=>k_asm);(case Y1=>k_mem);(case Y2=>omega);(case Y3=>omega);(case Y4=>assumption);k_whole)));(k_with "subscriptTail Name BinOp ref int" => k_extra "B84";(k_here;k_dflt (refine' itemI ?Y0 ?Y1 ?Y2 ?Y3 ?Y4 ?_ ?Y5;(case Y5=>with_unfolding_all rfl);(case Y0=>k_asm);(case Y1=>k_mem);(case Y2=>omega);(case Y3=>omega);(case Y4=>assumption);k_whole)));(k_with "call ref" => k_extra "B84";(k_here;k_dflt (refine' openers_c ?Y0 ?Y1 ?_;(case Y0=>exact ⟨by k_asm,by k_asm,by k_asm,by k_asm,by first | exact rfl | assumption,by ((try dsimp only [ktrTop,Around.deeper]);omega),by ((try dsimp only [ktrTop,Around.deeper]);omega)⟩);(case Y1=>k_asm);k_whole;intro Y2 Y3 Y4 Y5 Y6 Y7 Y8 Y9 Y10)));(k_with "call ref" => k_extra "B84";(k_here;k_dflt (refine' among_c ?Y0 ?Y1 ?_;(case Y0=>exact ⟨by k_asm,by k_asm,by k_asm,by k_asm,by first | exact rfl | assumption,by ((try dsimp only [ktrTop,Around.deeper]);omega),by ((try dsimp only [ktrTop,Around.deeper]);omega)⟩);(case Y1=>k_asm);k_whole;intro Y2 Y3 Y4 Y5 Y6 Y7 Y8 Y9 Y10)));(k_with "subscriptTail Call Name nil nil BinOp ref int" => k_extra "B84";(k_here;k_dflt (refine' itemT ?Y0 ?Y1 ?Y2 ?Y3 ?Y4 ?_ ?Y5;(case Y5=>with_unfolding_all rfl);(case Y1=>assumption);(case Y0=>assumption);(case Y2=>decide);(case Y3=>decide);(case Y4=>decide);k_whole;intro Y6 Y7 Y8 Y9)));trivial
noncomputable def Z12P:FrZ->Prop:=fun V=>∀ (b:List Stmt) (bo:List Stmt) (sc:Scope) (x0 x1 x2 x3:Stmt) (LI:LawIs b sc) (hf:forBo b=some bo) (hp0:stAt bo 0=some x0) (hp1:stAt bo 1=some x1) (hp2:stAt bo 2=some x2) (hp3:stAt bo 3=some x3) (C:Cx 550 V.w V.p V.loose V.mean V.mg V.mb V.dp V.un sc [] V.A₀ V.base V.h₀ V.L V.m V.s) (N:News V.h₀ V.L V.s.heap (V.fL 0)) (mt:((V.fA 3),listOf (V.fv 0).toArray (V.fN 0))∈(V.fL 0)) (MW:MapW V.m (V.fA 3) (V.fA 4) (V.fA 5) (V.fS 0)) (mi:V.m "i" = some (.int (V.fI 0) (V.fT 0))) (k0:0≤(V.fI 0)) (k1:(V.fI 0)≤100) (e0:(V.fv 0)[(V.fI 0).toNat]?=some (.int (V.fI 1) (V.fT 1))) (e1:(V.fv 0)[((V.fI 0)+1).toNat]?=some (.int (V.fI 2) (V.fT 2))) (ret:∀ (h':Heap) (tk':Nat) (m':Str->Option Value) (op ah:Str) (pl:Int) (t1 t2 t3 t4 t5:Tok),AhOk ah op->Fr V.h₀ V.L h' m'->News V.h₀ V.L h' (V.fL 0)->MapW m' (V.fA 3) (V.fA 4) (V.fA 5) (V.fS 0)->m' "n" = some (.int (V.fI 1) t1)->m' "m" = some (.int (V.fI 2) t2)->m' "place" = some (.int pl t3)->m' "opener" = some (.str op t4)->m' "ahead" = some (.str ah t5) ->
   wpAny (model pw_rk0009_01 V.w) (topW V.dp V.un V.gd sc V.L (V.fA 0) (V.fV 0) (V.fA 1) (V.fA 2)) (execs (V.fB 0) (envW sc V.L (V.fA 0) (V.fV 0) (V.fA 1) (V.fA 2))) (V.fF 0) V.E { V.s with heap:=h',toks:=tk' }),wpAny (model pw_rk0009_01 V.w) (topW V.dp V.un V.gd sc V.L (V.fA 0) (V.fV 0) (V.fA 1) (V.fA 2)) (execs (x0::x1::x2::x3::(V.fB 0)) (envW sc V.L (V.fA 0) (V.fV 0) (V.fA 1) (V.fA 2))) (V.fF 0) V.E V.s
@[irreducible] noncomputable def Z12:FrZ:=pickZ Z12P
set_option maxHeartbeats 4000000 in
theorem Z12c:Z12P Z12:=by
 intro b bo sc x0 x1 x2 x3 LI hf hp0 hp1 hp2 hp3 C N mt MW mi k0 k1 e0 e1 ret
 refine e1a1 LI fun a0 ho=>?_;clear LI
 have e2:(a0,b,sc)=_:=Option.some.inj (ho.symm.trans (rfl:lawDef=some _))
 injection e2 with e2 e3
 injection e3 with e3 e4
 subst e2 e3 e4
 have e5:bo=_:=Option.some.inj (hf.symm.trans (rfl:forBo _=some _))
 subst e5
 have e5:x0=_:=Option.some.inj (hp0.symm.trans (rfl:stAt _ 0=some _))
 have e6:x1=_:=Option.some.inj (hp1.symm.trans (rfl:stAt _ 1=some _))
 have e7:x2=_:=Option.some.inj (hp2.symm.trans (rfl:stAt _ 2=some _))
 have e8:x3=_:=Option.some.inj (hp3.symm.trans (rfl:stAt _ 3=some _))
 subst e5 e6 e7 e8
 clear hp0 hp1 hp2 hp3 hf ho
 obtain ⟨B,F,X,T,hk,hdp,hun⟩:=C
 obtain ⟨w1,w2,w3,w4,tt,w5⟩:=MW
 k_steps
 ·dsimp only
  rename News Z12.h₀ Z12.L _ _=>kN
  rename _∈tab_openers=>mo
  exact ret _ _ _ _ "L " _ _ _ _ _ _ ⟨.tail _ (.tail _ (.tail _ (.head _))),mo,fun e=>absurd e.1 (by decide)⟩ (by k_asm) (fun q hq=>kN q (.tail _ (.tail _ (.tail _ hq)))) ⟨(by (repeat (refine (if_neg (by decide)).trans ?_));first | assumption | exact if_pos rfl),(by (repeat (refine (if_neg (by decide)).trans ?_));first | assumption | exact if_pos rfl),(by (repeat (refine (if_neg (by decide)).trans ?_));first | assumption | exact if_pos rfl),(by (repeat (refine (if_neg (by decide)).trans ?_));first | assumption | exact if_pos rfl),tt,(by (repeat (refine (if_neg (by decide)).trans ?_));first | assumption | exact if_pos rfl)⟩ (by (repeat (refine (if_neg (by decide)).trans ?_));first | assumption | exact if_pos rfl) (by (repeat (refine (if_neg (by decide)).trans ?_));first | assumption | exact if_pos rfl) (by (repeat (refine (if_neg (by decide)).trans ?_));first | assumption | exact if_pos rfl) (by (repeat (refine (if_neg (by decide)).trans ?_));first | assumption | exact if_pos rfl) (by (repeat (refine (if_neg (by decide)).trans ?_));first | assumption | exact if_pos rfl)
 ·dsimp only
  rename News Z12.h₀ Z12.L _ _=>kN
  rename _∈tab_openers=>mo
  rename _∈tab_among=>ma
  rename _=false=>hb
  exact ret _ _ _ _ _ _ _ _ _ _ _ ⟨ma,mo,fun e=>by rw [e.2] at hb;revert hb;decide +kernel⟩ (by k_asm) (fun q hq=>kN q (.tail _ (.tail _ (.tail _ hq)))) ⟨(by (repeat (refine (if_neg (by decide)).trans ?_));first | assumption | exact if_pos rfl),(by (repeat (refine (if_neg (by decide)).trans ?_));first | assumption | exact if_pos rfl),(by (repeat (refine (if_neg (by decide)).trans ?_));first | assumption | exact if_pos rfl),(by (repeat (refine (if_neg (by decide)).trans ?_));first | assumption | exact if_pos rfl),tt,(by (repeat (refine (if_neg (by decide)).trans ?_));first | assumption | exact if_pos rfl)⟩ (by (repeat (refine (if_neg (by decide)).trans ?_));first | assumption | exact if_pos rfl) (by (repeat (refine (if_neg (by decide)).trans ?_));first | assumption | exact if_pos rfl) (by (repeat (refine (if_neg (by decide)).trans ?_));first | assumption | exact if_pos rfl) (by (repeat (refine (if_neg (by decide)).trans ?_));first | assumption | exact if_pos rfl) (by (repeat (refine (if_neg (by decide)).trans ?_));first | assumption | exact if_pos rfl)
 ·dsimp only
  rename News Z12.h₀ Z12.L _ _=>kN
  rename _∈tab_openers=>mo
  rename _∈tab_among=>ma
  rename _=false=>hb
  exact ret _ _ _ _ _ _ _ _ _ _ _ ⟨ma,mo,fun e=>by rw [e.1] at hb;revert hb;decide +kernel⟩ (by k_asm) (fun q hq=>kN q (.tail _ (.tail _ (.tail _ hq)))) ⟨(by (repeat (refine (if_neg (by decide)).trans ?_));first | assumption | exact if_pos rfl),(by (repeat (refine (if_neg (by decide)).trans ?_));first | assumption | exact if_pos rfl),(by (repeat (refine (if_neg (by decide)).trans ?_));first | assumption | exact if_pos rfl),(by (repeat (refine (if_neg (by decide)).trans ?_));first | assumption | exact if_pos rfl),tt,(by (repeat (refine (if_neg (by decide)).trans ?_));first | assumption | exact if_pos rfl)⟩ (by (repeat (refine (if_neg (by decide)).trans ?_));first | assumption | exact if_pos rfl) (by (repeat (refine (if_neg (by decide)).trans ?_));first | assumption | exact if_pos rfl) (by (repeat (refine (if_neg (by decide)).trans ?_));first | assumption | exact if_pos rfl) (by (repeat (refine (if_neg (by decide)).trans ?_));first | assumption | exact if_pos rfl) (by (repeat (refine (if_neg (by decide)).trans ?_));first | assumption | exact if_pos rfl)
theorem turn_a {x0 x1 x2 x3:Stmt} {tl:List Stmt} {taA duA woA:Addr} {tv:List Value} {tn:Nat} {kk n mm:Int} {ti u1 u2:Tok} {text:Str} (LI:LawIs b sc) (hf:forBo b=some bo) (hp0:stAt bo 0=some x0) (hp1:stAt bo 1=some x1) (hp2:stAt bo 2=some x2) (hp3:stAt bo 3=some x3)
  (C:Cx 550 w p loose mean mg mb dp un sc [] A₀ base h₀ L m s) (N:News h₀ L s.heap news) (mt:(taA,listOf tv.toArray tn)∈news) (MW:MapW m taA duA woA text) (mi:m "i" = some (.int kk ti)) (k0:0≤kk) (k1:kk≤100)
  (e0:tv[kk.toNat]?=some (.int n u1)) (e1:tv[(kk+1).toNat]?=some (.int mm u2))
  (ret:∀ (h':Heap) (tk':Nat) (m':Str->Option Value) (op ah:Str) (pl:Int) (t1 t2 t3 t4 t5:Tok),AhOk ah op->Fr h₀ L h' m'->News h₀ L h' news->MapW m' taA duA woA text->m' "n" = some (.int n t1)->m' "m" = some (.int mm t2)->m' "place" = some (.int pl t3)->m' "opener" = some (.str op t4)->m' "ahead" = some (.str ah t5) ->
   wpAny (model pw_rk0009_01 w) (topW dp un gd sc L fa cd cP cS) (execs tl (envW sc L fa cd cP cS)) Q E { s with heap:=h',toks:=tk' }) :
  wpAny (model pw_rk0009_01 w) (topW dp un gd sc L fa cd cP cS) (execs (x0::x1::x2::x3::tl) (envW sc L fa cd cP cS)) Q E s:=pickedZ (by with_unfolding_all rfl) Z12c (sfS (sfT (sfI (sfN (sfv (sfB (sfF (sfL (sfV (sfA (frC w p loose mean mg mb dp un gd Z12.cn Z12.cs Z12.ca Z12.ccd Z12.cll Z12.outer A₀ base h₀ L m s E) [fa,cP,cS,taA,duA,woA]) [cd]) [news]) [Q]) [tl]) [tv]) [tn]) [kk,n,mm]) [ti,u1,u2]) [text]) b bo sc x0 x1 x2 x3 LI hf hp0 hp1 hp2 hp3 C N mt MW mi k0 k1 e0 e1 ret
end
end
theorem NgB85.gB85:True:=trivial
example:True:=by w_top off;trivial
section
open NgB85
theorem news_r5 {h₀ h:Heap} {L:Addr} {x a b c d:Addr×Obj} {K:List (Addr×Obj)} (N:News h₀ L h (x::a::b::c::d::K)):News h₀ L h (a::b::c::d::x::K):=fc (N _ (.tail _ (.head _))) (fc (N _ (.tail _ (.tail _ (.head _)))) (fc (N _ (.tail _ (.tail _ (.tail _ (.head _))))) (fc (N _ (.tail _ (.tail _ (.tail _ (.tail _ (.head _)))))) (fc (N _ (.head _)) (fun q hq=>N q (.tail _ (.tail _ (.tail _ (.tail _ (.tail _ hq))))))))))
noncomputable abbrev NamesW (m:Str->Option Value) (n mm:Int) (op:Str):Prop:=(∃ t,m "n" = some (.int n t))/\(∃ t,m "m" = some (.int mm t))/\(∃ pl t,m "place" = some (.int pl t))/\∃ t,m "opener" = some (.str op t)
noncomputable def JIn (taA duA woA I:Addr) (io:Obj) (wv:List Value) (wn:Nat) (K:List (Addr×Obj)) (due:DueL) (text op:Str) (n mm:Int) (l:List Nat) (m:Str->Option Value) (news:List (Addr×Obj)):Prop :=
 ∃ dv dn K',news=(I,io)::(duA,listOf dv.toArray dn)::(woA,listOf wv.toArray wn)::K'/\DueOk K' dv (due++ones text.length l)/\(∀ q∈K,q∈K')/\(∀ q∈K',q.1≠duA)/\(∀ q∈K',q.1≠woA)/\(∀ q∈K',q.1≠I)/\MapW m taA duA woA (text++⟨l.toArray⟩)/\NamesW m n mm op
section
variable {fa:Addr} {cd:Value} {cP cS:Addr} {b bo ib:List Stmt} {sc:Scope} {Q:Flow->Shared->Prop} {E:Value->Shared->Prop}
example:True:=by (k_with "B85" => (fail_if_success (fail_if_success (have:=gB85))));(k_with "eval Name" => k_extra "B85";(k_here;k_dflt (refine' ldM2 ?Y0 ?Y1 ?Y2 ?Y3 ?Y4 ?Y5 ?_;(case Y0=>assumption);(case Y1=>exact rfl);(case Y2=>exact rfl);(case Y3=>exact rfl);(case Y4=>((repeat (refine (if_neg (by decide)).trans ?_));first | assumption | exact if_pos rfl));(case Y5=>decide);k_whole)));(k_with "call builtin:len" => k_extra "B85";(k_here;k_dflt (refine' len_strK ?Y0 ?_;(case Y0=>omega);k_whole;intro Y1 Y2)));(k_with "binaryOp Add str str" => k_extra "B85";(k_here;k_dflt (refine' addS ?Y0 ?Y1 ?_;(case Y0=>(first | decide +kernel | (simp only [app_len,one_l];(first | done | omega)) | omega));(case Y1=>first | decide +kernel | (simp only [app_len,one_l];(first | done | omega)) | omega);k_whole;intro Y2 Y3)));(k_with "loadName" => k_extra "B85";(k_here;k_dflt (refine' ldL ?Y0 ?Y1 ?Y2 ?Y3 ?Y4 ?_;(case Y0=>assumption);(case Y1=>exact rfl);(case Y2=>exact rfl);(case Y3=>exact rfl);(case Y4=>((repeat (refine (if_neg (by decide)).trans ?_));first | assumption | exact if_pos rfl));k_whole)));(k_with "k_all" => k_extra "B85";assumption);trivial
noncomputable def Z48P:FrZ->Prop:=fun V=>∀ (b:List Stmt) (bo:List Stmt) (ib:List Stmt) (sc:Scope) (LI:LawIs b sc) (hf:forBo b=some bo) (hi:inFor bo=some ib) (C:Cx 550 V.w V.p V.loose V.mean V.mg V.mb V.dp V.un sc [] V.A₀ V.base V.h₀ V.L V.m V.s) (N:News V.h₀ V.L V.s.heap (((V.fA 7),(V.fO 1))::((V.fA 6),(V.fO 0))::((V.fA 4),listOf (V.fv 0).toArray (V.fN 0))::((V.fA 5),listOf (V.fv 1).toArray (V.fN 1))::(V.fL 0))) (n1:∀ q∈(V.fL 0),q.1≠(V.fA 4)) (n2:∀ q∈(V.fL 0),q.1≠(V.fA 5)) (n3:∀ q∈(V.fL 0),q.1≠(V.fA 6)) (n4:∀ q∈(V.fL 0),q.1≠(V.fA 7)) (l1 : @LT.lt Nat _ (V.fA 4) (V.fA 5)) (l2 : @LT.lt Nat _ (V.fA 5) (V.fA 6)) (l3 : @LT.lt Nat _ (V.fA 6) (V.fA 7)) (MW:MapW V.m (V.fA 3) (V.fA 4) (V.fA 5) (V.fS 0)) (ms:V.m "sign" = some (.str ⟨#[(V.fN 2)]⟩ (V.fT 0))) (hz:(V.fS 0).length≤700) (dz:(V.fv 0).length≤700) (NW:NamesW V.m (V.fI 0) (V.fI 1) (V.fS 1)) (ret:∀ (h':Heap) (tk':Nat) (m':Str->Option Value) (a:Addr) (dn':Nat) (t1 t2 t3:Tok),Fr V.h₀ V.L h' m'->News V.h₀ V.L h' (((V.fA 7),(V.fO 1))::((V.fA 6),(V.fO 0))::((V.fA 4),listOf ((V.fv 0)++[Value.ref a]).toArray dn')::((V.fA 5),listOf (V.fv 1).toArray (V.fN 1))::(a,triO (.str "ONE" t1) (.str ⟨#[(V.fN 2)]⟩ t2) (.int (((V.fS 0).length:Nat):Int) t3))::(V.fL 0)) ->
   @LT.lt Nat _ (V.fA 7) a->MapW m' (V.fA 3) (V.fA 4) (V.fA 5) ((V.fS 0)++⟨#[(V.fN 2)]⟩)->NamesW m' (V.fI 0) (V.fI 1) (V.fS 1)->(V.fF 0) .next { V.s with heap:=h',toks:=tk' }),wpAny (model pw_rk0009_01 V.w) (topW V.dp V.un V.gd sc V.L (V.fA 0) (V.fV 0) (V.fA 1) (V.fA 2)) (execs ib (envW sc V.L (V.fA 0) (V.fV 0) (V.fA 1) (V.fA 2))) (V.fF 0) V.E V.s
@[irreducible] noncomputable def Z48:FrZ:=pickZ Z48P
set_option maxHeartbeats 4000000 in
theorem Z48c:Z48P Z48:=by
 intro b bo ib sc LI hf hi C N n1 n2 n3 n4 l1 l2 l3 MW ms hz dz NW ret
 refine e1a1 LI fun a0 ho=>?_;clear LI
 have e2:(a0,b,sc)=_:=Option.some.inj (ho.symm.trans (rfl:lawDef=some _))
 injection e2 with e2 e3
 injection e3 with e3 e4
 subst e2 e3 e4
 have e5:bo=_:=Option.some.inj (hf.symm.trans (rfl:forBo _=some _))
 subst e5
 have e5:ib=_:=Option.some.inj (hi.symm.trans (rfl:inFor _=some _))
 subst e5
 clear hi hf ho
 obtain ⟨B,F,X,T,hk,hdp,hun⟩:=C
 obtain ⟨w1,w2,w3,w4,tt,w5⟩:=MW
 obtain ⟨⟨v1,v2⟩,⟨v3,v4⟩,⟨pl,v5,v6⟩,v7,v8⟩:=NW
 k_steps
 rename News Z48.h₀ Z48.L _ _=>kN
 simp only [List.push_toArray] at kN
 exact ret _ _ _ _ _ _ _ _ (by k_asm) (news_r5 kN) (by omega) ⟨(by (repeat (refine (if_neg (by decide)).trans ?_));first | assumption | exact if_pos rfl),(by (repeat (refine (if_neg (by decide)).trans ?_));first | assumption | exact if_pos rfl),(by (repeat (refine (if_neg (by decide)).trans ?_));first | assumption | exact if_pos rfl),(by (repeat (refine (if_neg (by decide)).trans ?_));first | assumption | exact if_pos rfl),_,(by (repeat (refine (if_neg (by decide)).trans ?_));first | assumption | exact if_pos rfl)⟩ ⟨⟨_,(by (repeat (refine (if_neg (by decide)).trans ?_));first | assumption | exact if_pos rfl)⟩,⟨_,(by (repeat (refine (if_neg (by decide)).trans ?_));first | assumption | exact if_pos rfl)⟩,⟨_,_,(by (repeat (refine (if_neg (by decide)).trans ?_));first | assumption | exact if_pos rfl)⟩,⟨_,(by (repeat (refine (if_neg (by decide)).trans ?_));first | assumption | exact if_pos rfl)⟩⟩
theorem inner_turn {taA duA woA I I2:Addr} {io io2:Obj} {dv wv:List Value} {dn wn c:Nat} {n mm:Int} {text op:Str} {u:Tok} {K:List (Addr×Obj)} (LI:LawIs b sc) (hf:forBo b=some bo) (hi:inFor bo=some ib)
  (C:Cx 550 w p loose mean mg mb dp un sc [] A₀ base h₀ L m s) (N:News h₀ L s.heap ((I2,io2)::(I,io)::(duA,listOf dv.toArray dn)::(woA,listOf wv.toArray wn)::K)) 
  (n1:∀ q∈K,q.1≠duA) (n2:∀ q∈K,q.1≠woA) (n3:∀ q∈K,q.1≠I) (n4:∀ q∈K,q.1≠I2) (l1 : @LT.lt Nat _ duA woA) (l2 : @LT.lt Nat _ woA I) (l3 : @LT.lt Nat _ I I2)
  (MW:MapW m taA duA woA text) (ms:m "sign" = some (.str ⟨#[c]⟩ u)) (hz:text.length≤700) (dz:dv.length≤700) (NW:NamesW m n mm op)
  (ret:∀ (h':Heap) (tk':Nat) (m':Str->Option Value) (a:Addr) (dn':Nat) (t1 t2 t3:Tok),Fr h₀ L h' m'->News h₀ L h' ((I2,io2)::(I,io)::(duA,listOf (dv++[Value.ref a]).toArray dn')::(woA,listOf wv.toArray wn)::(a,triO (.str "ONE" t1) (.str ⟨#[c]⟩ t2) (.int ((text.length:Nat):Int) t3))::K) ->
   @LT.lt Nat _ I2 a->MapW m' taA duA woA (text++⟨#[c]⟩)->NamesW m' n mm op->Q .next { s with heap:=h',toks:=tk' }) :
  wpAny (model pw_rk0009_01 w) (topW dp un gd sc L fa cd cP cS) (execs ib (envW sc L fa cd cP cS)) Q E s:=pickedZ (by with_unfolding_all rfl) Z48c (sfL (sfT (sfS (sfI (sfN (sfv (sfO (sfF (sfV (sfA (frC w p loose mean mg mb dp un gd Z48.cn Z48.cs Z48.ca Z48.ccd Z48.cll Z48.outer A₀ base h₀ L m s E) [fa,cP,cS,taA,duA,woA,I,I2]) [cd]) [Q]) [io,io2]) [dv,wv]) [dn,wn,c]) [n,mm]) [text,op]) [u]) [K]) b bo ib sc LI hf hi C N n1 n2 n3 n4 l1 l2 l3 MW ms hz dz NW ret
theorem take_snoc {x:Str} {i c:Nat} (h:x.cps[i]?=some c):x.cps.toList.take (i+1)=x.cps.toList.take i++[c]:=by
 rw [<- Array.getElem?_toList] at h
 rw [List.take_add_one,h]
 rfl
theorem app_snoc (t:Str) (l:List Nat) (c:Nat):t++⟨(l++[c]).toArray⟩=t++⟨l.toArray⟩++⟨#[c]⟩:=by
 have e:∀ a b:Str,a++b=⟨a.cps++b.cps⟩:=fun _ _=>rfl
 rw [e,e,e]
 congr 1
 show t.cps++(l++[c]).toArray=(t.cps++l.toArray)++#[c]
 rw [Array.append_assoc]
 congr 1
 simp
theorem app_nil (t:Str):t++⟨([] : List Nat).toArray⟩=t:=by
 have e:∀ a b:Str,a++b=⟨a.cps++b.cps⟩:=fun _ _=>rfl
 rw [e]
 show (⟨t.cps++#[]⟩:Str)=t
 rw [Array.append_empty]
theorem str_eta (x:Str):(⟨x.cps.toList.toArray⟩:Str)=x:=rfl
noncomputable def forSh (bo:List Stmt):Option (Pos×Pos×List Stmt×Pos):=match stAt bo 4 with
 | some (.For (.Name "sign" p1) (.Name "ahead" p2) ib [] p3)=>some (p1,p2,ib,p3)
 | _=>none
theorem inner_shape (LI:LawIs b sc) (hf:forBo b=some bo):∃ x0 x1 x2 x3 p1 p2 p3 ib tl,bo=x0::x1::x2::x3::(.For (.Name "sign" p1) (.Name "ahead" p2) ib [] p3)::tl/\sc.kind=.function /\
  (∀ L fa cd cP cS,(envW sc L fa cd cP cS).kindOf "sign" = some .local/\(envW sc L fa cd cP cS).kindOf "ahead" = some .local/\∀ x,foldedSetIterable (.Name "ahead" p2) (envW sc L fa cd cP cS) x=pure x):=by
 refine e1a1 LI fun a0 ho=>?_;clear LI
 have e2:(a0,b,sc)=_:=Option.some.inj (ho.symm.trans (rfl:lawDef=some _))
 injection e2 with e2 e3
 injection e3 with e3 e4
 subst e2 e3 e4
 have e5:bo=_:=Option.some.inj (hf.symm.trans (rfl:forBo _=some _))
 subst e5
 exact ⟨_,_,_,_,_,_,_,_,_,rfl,rfl,fun _ _ _ _ _=>⟨rfl,rfl,fun _=>rfl⟩⟩
noncomputable def Z47P:FrZ->Prop:=fun V=>∀ (LI:LawIs (V.fB 0) (V.fs 0)) (hf:forBo (V.fB 0)=some (V.fB 1)) (h4:stAt (V.fB 1) 4=some (.For (.Name "sign" (V.fp 0)) (.Name "ahead" (V.fp 1)) (V.fB 2) [] (V.fp 2))) (hsk:(V.fs 0).kind=.function) (hkn:(envW (V.fs 0) V.L (V.fA 0) (V.fV 0) (V.fA 1) (V.fA 2)).kindOf "sign" = some .local/\(envW (V.fs 0) V.L (V.fA 0) (V.fV 0) (V.fA 1) (V.fA 2)).kindOf "ahead" = some .local/\∀ x,foldedSetIterable (.Name "ahead" (V.fp 1)) (envW (V.fs 0) V.L (V.fA 0) (V.fV 0) (V.fA 1) (V.fA 2)) x=pure x) (C:Cx 550 V.w V.p V.loose V.mean V.mg V.mb V.dp V.un (V.fs 0) [] V.A₀ V.base V.h₀ V.L V.m V.s) (N:News V.h₀ V.L V.s.heap (((V.fA 6),(V.fO 0))::((V.fA 4),listOf (V.fv 0).toArray (V.fN 0))::((V.fA 5),listOf (V.fv 1).toArray (V.fN 1))::(V.fL 0))) (n1:∀ q∈(V.fL 0),q.1≠(V.fA 4)) (n2:∀ q∈(V.fL 0),q.1≠(V.fA 5)) (n3:∀ q∈(V.fL 0),q.1≠(V.fA 6)) (l1 : @LT.lt Nat _ (V.fA 4) (V.fA 5)) (l2 : @LT.lt Nat _ (V.fA 5) (V.fA 6)) (D:DueOk (V.fL 0) (V.fv 0) (V.fd 0)) (MW:MapW V.m (V.fA 3) (V.fA 4) (V.fA 5) (V.fS 0)) (NW:NamesW V.m (V.fI 0) (V.fI 1) (V.fS 1)) (ma:V.m "ahead" = some (.str (V.fS 2) (V.fT 0))) (al:(V.fS 2).length≤2) (hz:(V.fS 0).length≤600) (dz:(V.fd 0).length≤600) (hE:PassesOwn (model pw_rk0009_01 V.w) (topW V.dp V.un V.gd (V.fs 0) V.L (V.fA 0) (V.fV 0) (V.fA 1) (V.fA 2)) (envW (V.fs 0) V.L (V.fA 0) (V.fV 0) (V.fA 1) (V.fA 2)) V.E) (ret:∀ (h':Heap) (tk':Nat) (m':Str->Option Value) (dv':List Value) (dn':Nat) (K':List (Addr×Obj)),Fr V.h₀ V.L h' m'->News V.h₀ V.L h' (((V.fA 6),(V.fO 0))::((V.fA 4),listOf dv'.toArray dn')::((V.fA 5),listOf (V.fv 1).toArray (V.fN 1))::K') ->
   DueOk K' dv' ((V.fd 0)++ones (V.fS 0).length (V.fS 2).cps.toList)->(∀ q∈(V.fL 0),q∈K')->(∀ q∈K',q.1≠(V.fA 4))->(∀ q∈K',q.1≠(V.fA 5))->(∀ q∈K',q.1≠(V.fA 6))->MapW m' (V.fA 3) (V.fA 4) (V.fA 5) ((V.fS 0)++(V.fS 2))->NamesW m' (V.fI 0) (V.fI 1) (V.fS 1)->(V.fF 0) .next { V.s with heap:=h',toks:=tk' }),wpAny (model pw_rk0009_01 V.w) (topW V.dp V.un V.gd (V.fs 0) V.L (V.fA 0) (V.fV 0) (V.fA 1) (V.fA 2)) (exec (.For (.Name "sign" (V.fp 0)) (.Name "ahead" (V.fp 1)) (V.fB 2) [] (V.fp 2)) (envW (V.fs 0) V.L (V.fA 0) (V.fV 0) (V.fA 1) (V.fA 2))) (V.fF 0) V.E V.s
@[irreducible] noncomputable def Z47:FrZ:=pickZ Z47P
theorem Z47c:Z47P Z47:=by
 intro LI hf h4 hsk hkn C N n1 n2 n3 l1 l2 D MW NW ma al hz dz hE ret
 have hib:inFor (Z47.fB 1)=some (Z47.fB 2):=by unfold inFor;rw [h4]
 have F:=C.F
 refine For_invV Z47.h₀ hkn.1 (by show ((Z47.fs 0).kind==.class||((Z47.fs 0).kind==.module&&_))=false;rw [hsk];rfl) ?_ hkn.2.2 hE
 refine ldM2 F hsk hkn.2.1 rfl ma (by decide) ?_
 refine str_J (fun i=>JIn (Z47.fA 3) (Z47.fA 4) (Z47.fA 5) (Z47.fA 6) (Z47.fO 0) (Z47.fv 1) (Z47.fN 1) (Z47.fL 0) (Z47.fd 0) (Z47.fS 0) (Z47.fS 1) (Z47.fI 0) (Z47.fI 1) ((Z47.fS 2).cps.toList.take i)) rfl F N ⟨(Z47.fv 0),(Z47.fN 0),(Z47.fL 0),rfl,by rw [List.take_zero,ones,List.append_nil];exact D,fun _ h=>h,n1,n2,n3,by rw [List.take_zero,app_nil];exact MW,NW⟩ ?_ ?_
 ·intro I2 i c u' m₁ _ h tk io2 lt2 hc hq0 off F₁ N₁
  obtain ⟨dv',dn',K',rfl,D',sub,k1,k2,k3,MW',w1,w2,w3,w4⟩:=hq0
  have hi:i<(Z47.fS 2).cps.size:=(Array.getElem?_eq_some_iff.mp hc).1
  have hal:(Z47.fS 2).cps.size≤2:=al
  have l3:=ltN (lt2 _ (.head _))
  have tl:((Z47.fS 2).cps.toList.take i).length=i:=by rw [List.length_take];show min i (Z47.fS 2).cps.toList.length=i;rw [Array.length_toList];omega
  have tz:((Z47.fS 0)++⟨((Z47.fS 2).cps.toList.take i).toArray⟩).length=(Z47.fS 0).length+i:=by
   rw [app_len]
   show (Z47.fS 0).length+((Z47.fS 2).cps.toList.take i).toArray.size=_
   rw [List.size_toArray,tl]
  have dl:=D'.len
  rw [List.length_append,ones_len,tl] at dl
  refine inner_turn (n:=(Z47.fI 0)) (mm:=(Z47.fI 1)) (op:=(Z47.fS 1)) LI hf hib ⟨C.B,F₁,C.X,C.T,C.hk,C.hdp,C.hun⟩ N₁ k1 k2 k3 (fun q hq=>off q (.tail _ (.tail _ (.tail _ hq)))) l1 l2 l3
   ⟨(if_neg (by decide)).trans MW'.1,(if_neg (by decide)).trans MW'.2.1,(if_neg (by decide)).trans MW'.2.2.1,(if_neg (by decide)).trans MW'.2.2.2.1,let ⟨t,e⟩:=MW'.2.2.2.2;⟨t,(if_neg (by decide)).trans e⟩⟩ (if_pos rfl) (by omega) (by omega)
   ⟨let ⟨t,e⟩:=w1;⟨t,(if_neg (by decide)).trans e⟩,let ⟨t,e⟩:=w2;⟨t,(if_neg (by decide)).trans e⟩,let ⟨pl,t,e⟩:=w3;⟨pl,t,(if_neg (by decide)).trans e⟩,let ⟨t,e⟩:=w4;⟨t,(if_neg (by decide)).trans e⟩⟩ fun h' tk' m' a dn2 t1 t2 t3 F' N' la MW2 NW2=>?_
  refine ⟨h',tk',m',_,rfl,F',N',?_,dv'++[.ref a],dn2,_,rfl,?_,fun q hq=>.tail _ (sub q hq),?_,?_,?_,?_,NW2⟩
  ·intro q hq
   rcases List.mem_cons.mp hq with rfl | hq
   ·exact Nat.ne_of_lt l3
   ·rcases List.mem_cons.mp hq with rfl | hq
    ·exact Nat.ne_of_lt (show @LT.lt Nat _ (Z47.fA 4) I2 by omega)
    ·rcases List.mem_cons.mp hq with rfl | hq
     ·exact Nat.ne_of_lt (show @LT.lt Nat _ (Z47.fA 5) I2 by omega)
     ·rcases List.mem_cons.mp hq with rfl | hq
      ·exact Nat.ne_of_gt la
      ·exact off q (.tail _ (.tail _ (.tail _ hq)))
  ·rw [take_snoc hc,ones_snoc,<- List.append_assoc,tl]
   rw [tz]
   exact D'.snoc
  ·intro q hq
   rcases List.mem_cons.mp hq with rfl | hq
   ·exact Nat.ne_of_gt (show @LT.lt Nat _ (Z47.fA 4) a by omega)
   ·exact k1 q hq
  ·intro q hq
   rcases List.mem_cons.mp hq with rfl | hq
   ·exact Nat.ne_of_gt (show @LT.lt Nat _ (Z47.fA 5) a by omega)
   ·exact k2 q hq
  ·intro q hq
   rcases List.mem_cons.mp hq with rfl | hq
   ·exact Nat.ne_of_gt (show @LT.lt Nat _ (Z47.fA 6) a by omega)
   ·exact k3 q hq
  ·rw [take_snoc hc,app_snoc]
   exact MW2
 ·intro h tk m' _ F' N' hq0
  obtain ⟨dv',dn',K',rfl,D',sub,k1,k2,k3,MW',NW'⟩:=hq0
  have e:(Z47.fS 2).cps.toList.take (Z47.fS 2).cps.size=(Z47.fS 2).cps.toList:=by rw [<- Array.length_toList];exact List.take_length
  rw [e] at D' MW'
  exact ret h tk m' dv' dn' K' F' N' D' sub k1 k2 k3 MW' NW'
theorem inner_for {p1 p2 p3:Pos} {taA duA woA I:Addr} {io:Obj} {dv wv:List Value} {dn wn:Nat} {n mm:Int} {text op ah:Str} {u:Tok} {K:List (Addr×Obj)} {due:DueL} (LI:LawIs b sc) (hf:forBo b=some bo) (h4:stAt bo 4=some (.For (.Name "sign" p1) (.Name "ahead" p2) ib [] p3))
  (hsk:sc.kind=.function) (hkn:(envW sc L fa cd cP cS).kindOf "sign" = some .local/\(envW sc L fa cd cP cS).kindOf "ahead" = some .local/\∀ x,foldedSetIterable (.Name "ahead" p2) (envW sc L fa cd cP cS) x=pure x)
  (C:Cx 550 w p loose mean mg mb dp un sc [] A₀ base h₀ L m s) (N:News h₀ L s.heap ((I,io)::(duA,listOf dv.toArray dn)::(woA,listOf wv.toArray wn)::K)) 
  (n1:∀ q∈K,q.1≠duA) (n2:∀ q∈K,q.1≠woA) (n3:∀ q∈K,q.1≠I) (l1 : @LT.lt Nat _ duA woA) (l2 : @LT.lt Nat _ woA I)
  (D:DueOk K dv due) (MW:MapW m taA duA woA text) (NW:NamesW m n mm op) (ma:m "ahead" = some (.str ah u)) (al:ah.length≤2) (hz:text.length≤600) (dz:due.length≤600)
  (hE:PassesOwn (model pw_rk0009_01 w) (topW dp un gd sc L fa cd cP cS) (envW sc L fa cd cP cS) E)
  (ret:∀ (h':Heap) (tk':Nat) (m':Str->Option Value) (dv':List Value) (dn':Nat) (K':List (Addr×Obj)),Fr h₀ L h' m'->News h₀ L h' ((I,io)::(duA,listOf dv'.toArray dn')::(woA,listOf wv.toArray wn)::K') ->
   DueOk K' dv' (due++ones text.length ah.cps.toList)->(∀ q∈K,q∈K')->(∀ q∈K',q.1≠duA)->(∀ q∈K',q.1≠woA)->(∀ q∈K',q.1≠I)->MapW m' taA duA woA (text++ah)->NamesW m' n mm op->Q .next { s with heap:=h',toks:=tk' }) :
  wpAny (model pw_rk0009_01 w) (topW dp un gd sc L fa cd cP cS) (exec (.For (.Name "sign" p1) (.Name "ahead" p2) ib [] p3) (envW sc L fa cd cP cS)) Q E s:=pickedZ (by with_unfolding_all rfl) Z47c (sfd (sfL (sfT (sfS (sfI (sfN (sfv (sfO (sfp (sfF (sfs (sfB (sfV (sfA (frC w p loose mean mg mb dp un gd Z47.cn Z47.cs Z47.ca Z47.ccd Z47.cll Z47.outer A₀ base h₀ L m s E) [fa,cP,cS,taA,duA,woA,I]) [cd]) [b,bo,ib]) [sc]) [Q]) [p1,p2,p3]) [io]) [dv,wv]) [dn,wn]) [n,mm]) [text,op,ah]) [u]) [K]) [due]) LI hf h4 hsk hkn C N n1 n2 n3 l1 l2 D MW NW ma al hz dz hE ret
end
end
theorem NgB86.gB86:True:=trivial
example:True:=by w_top off;trivial
section
open NgB86
theorem news_r7 {h₀ h:Heap} {L:Addr} {x y z d a b c:Addr×Obj} {K:List (Addr×Obj)} (N:News h₀ L h (x::y::z::d::a::b::c::K)):News h₀ L h (a::b::c::x::y::z::K):=fc (N _ (.tail _ (.tail _ (.tail _ (.tail _ (.head _)))))) (fc (N _ (.tail _ (.tail _ (.tail _ (.tail _ (.tail _ (.head _))))))) (fc (N _ (.tail _ (.tail _ (.tail _ (.tail _ (.tail _ (.tail _ (.head _)))))))) (fc (N _ (.head _)) (fc (N _ (.tail _ (.head _))) (fc (N _ (.tail _ (.tail _ (.head _)))) (fun q hq=>N q (.tail _ (.tail _ (.tail _ (.tail _ (.tail _ (.tail _ (.tail _ hq)))))))))))))
theorem news_t {h₀ h:Heap} {L:Addr} {x:Addr×Obj} {K:List (Addr×Obj)} (N:News h₀ L h (x::K)):News h₀ L h K:=fun q hq=>N q (.tail _ hq)
theorem nat_of {v:Int} (h:0≤v):∃ n:Nat,v=n:=⟨v.toNat,(Int.toNat_of_nonneg h).symm⟩
section
variable {fa:Addr} {cd:Value} {cP cS:Addr} {b bo ib:List Stmt} {sc:Scope} {Q:Flow->Shared->Prop} {E:Value->Shared->Prop}
example:True:=by (k_with "B86" => (fail_if_success (fail_if_success (have:=gB86))));(k_with "eval Name" => k_extra "B86";(k_here;k_dflt (refine' ldM2 ?Y0 ?Y1 ?Y2 ?Y3 ?Y4 ?Y5 ?_;(case Y0=>assumption);(case Y1=>exact rfl);(case Y2=>exact rfl);(case Y3=>exact rfl);(case Y4=>((repeat (refine (if_neg (by decide)).trans ?_));first | assumption | exact if_pos rfl));(case Y5=>decide);k_whole)));(k_with "loadName" => k_extra "B86";(k_here;k_dflt (refine' ldL ?Y0 ?Y1 ?Y2 ?Y3 ?Y4 ?_;(case Y0=>assumption);(case Y1=>exact rfl);(case Y2=>exact rfl);(case Y3=>exact rfl);(case Y4=>((repeat (refine (if_neg (by decide)).trans ?_));first | assumption | exact if_pos rfl));k_whole)));(k_with "call builtin:len" => k_extra "B86";(k_here;k_dflt (refine' len_strK ?Y0 ?_;(case Y0=>omega);k_whole;intro Y1 Y2)));(k_with "binaryOp Add str str" => k_extra "B86";(k_here;k_dflt (refine' addS ?Y0 ?Y1 ?_;(case Y0=>(first | decide +kernel | (simp only [app_len,one_l];(first | done | omega)) | omega));(case Y1=>first | decide +kernel | (simp only [app_len,one_l];(first | done | omega)) | omega);k_whole;intro Y2 Y3)));(k_with "call ref" => k_extra "B86";(k_here;k_dflt (refine' wrong_c ?Y0 ?Y1 ?_;(case Y0=>exact ⟨by k_asm,by k_asm,by k_asm,by k_asm,by first | exact rfl | assumption,by ((try dsimp only [ktrTop,Around.deeper]);omega),by ((try dsimp only [ktrTop,Around.deeper]);omega)⟩);(case Y1=>k_asm);k_whole;intro Y2 Y3 Y4 Y5 Y6 Y7 Y8 Y9 Y10 Y11 Y12 Y13;k_lt Y13)));(k_with "call ref" => k_extra "B86";(k_here;k_dflt (refine' written_c ?Y0 ?Y1 ?Y2 ?Y3 ?_;(case Y2=>exact ⟨by k_asm,by k_asm,by k_asm,by k_asm,by first | exact rfl | assumption,by ((try dsimp only [ktrTop,Around.deeper]);omega),by ((try dsimp only [ktrTop,Around.deeper]);omega)⟩);(case Y3=>k_asm);(case Y0=>first | exact fmNn (by decide) | omega);(case Y1=>first | exact fmLt4 (by decide) | omega | assumption);k_whole;intro Y4 Y5 Y6 Y7 Y8 Y9 Y10 Y11 Y12 Y13 Y14 Y15 Y16;k_lt Y16)));(k_with "k_all" => k_extra "B86";assumption);trivial
noncomputable def Z2P:FrZ->Prop:=fun V=>∀ (b:List Stmt) (bo:List Stmt) (sc:Scope) (x0 x1 x2 x3 x4:Stmt) (tl:List Stmt) (LI:LawIs b sc) (hf:forBo b=some bo) (hb:bo=x0::x1::x2::x3::x4::tl) (C:Cx 550 V.w V.p V.loose V.mean V.mg V.mb V.dp V.un sc [] V.A₀ V.base V.h₀ V.L V.m V.s) (N:News V.h₀ V.L V.s.heap (((V.fA 6),(V.fO 0))::((V.fA 4),listOf (V.fv 0).toArray (V.fN 0))::((V.fA 5),listOf (V.fv 1).toArray (V.fN 1))::(V.fL 0))) (n1:∀ q∈(V.fL 0),q.1≠(V.fA 4)) (n2:∀ q∈(V.fL 0),q.1≠(V.fA 5)) (n3:∀ q∈(V.fL 0),q.1≠(V.fA 6)) (l1 : @LT.lt Nat _ (V.fA 4) (V.fA 5)) (l2 : @LT.lt Nat _ (V.fA 5) (V.fA 6)) (MW:MapW V.m (V.fA 3) (V.fA 4) (V.fA 5) (V.fS 0)) (NW:NamesW V.m (V.fI 0) (V.fI 1) (V.fS 1)) (hz:(V.fS 0).length≤600) (ol:(V.fS 1).length≤2) (dz:(V.fv 0).length≤700) (wz:(V.fv 1).length≤700) (retB:∀ (h':Heap) (tk':Nat) (m':Str->Option Value) (rest:Str) (stop r:Int) (t1 t2:Tok),Ws rest stop->rest.length≤50->r=(if stop<0 then -1 else ((V.fS 0).length:Int)+(V.fS 1).length+stop)->Fr V.h₀ V.L h' m'->News V.h₀ V.L h' (((V.fA 6),(V.fO 0))::((V.fA 4),listOf (V.fv 0).toArray (V.fN 0))::((V.fA 5),listOf (V.fv 1).toArray (V.fN 1))::(V.fL 0)) ->
   m' "tape" = some (.ref (V.fA 3))->m' "due" = some (.ref (V.fA 4))->m' "worths" = some (.ref (V.fA 5))->m' "text" = some (.str ((V.fS 0)++((V.fS 1)++rest)) t1)->m' "refused" = some (.int r t2)->(V.fF 0) .brk { V.s with heap:=h',toks:=tk' }) (retN:∀ (h':Heap) (tk':Nat) (m':Str->Option Value) (way:Int) (content:Str) (v:Nat) (a l tr:Addr) (dn' wn' n':Nat) (t1 t2 t3 t4 t5:Tok),Wr way content v->content.length≤30->Fr V.h₀ V.L h' m' ->
   News V.h₀ V.L h' (((V.fA 6),(V.fO 0))::((V.fA 4),listOf ((V.fv 0)++[Value.ref tr]).toArray dn')::((V.fA 5),listOf ((V.fv 1)++[Value.ref a]).toArray wn')::(a,prO (.int ((v:Nat):Int) t1) (.ref l))::(l,listOf #[.str "char" t2] n')::(tr,triO (.str "CHAR" t3) (.str ((V.fS 1)++content ++ "'") t4) (.int (((V.fS 0).length:Nat):Int) t5))::(V.fL 0)) ->
   @LT.lt Nat _ (V.fA 6) a->@LT.lt Nat _ (V.fA 6) l->@LT.lt Nat _ (V.fA 6) tr->MapW m' (V.fA 3) (V.fA 4) (V.fA 5) ((V.fS 0)++((V.fS 1)++content ++ "'"))->(V.fF 0) .next { V.s with heap:=h',toks:=tk' }),wpAny (model pw_rk0009_01 V.w) (topW V.dp V.un V.gd sc V.L (V.fA 0) (V.fV 0) (V.fA 1) (V.fA 2)) (execs tl (envW sc V.L (V.fA 0) (V.fV 0) (V.fA 1) (V.fA 2))) (V.fF 0) V.E V.s
@[irreducible] noncomputable def Z2:FrZ:=pickZ Z2P
set_option maxHeartbeats 4000000 in
theorem Z2c:Z2P Z2:=by
 intro b bo sc x0 x1 x2 x3 x4 tl LI hf hb C N n1 n2 n3 l1 l2 MW NW hz ol dz wz retB retN
 refine e1a1 LI fun a0 ho=>?_;clear LI
 have e2:(a0,b,sc)=_:=Option.some.inj (ho.symm.trans (rfl:lawDef=some _))
 injection e2 with e2 e3
 injection e3 with e3 e4
 subst e2 e3 e4
 have e5:bo=_:=Option.some.inj (hf.symm.trans (rfl:forBo _=some _))
 rw [e5] at hb
 injection hb with _ hb
 injection hb with _ hb
 injection hb with _ hb
 injection hb with _ hb
 injection hb with _ hb
 subst hb
 clear e5 hf ho
 obtain ⟨B,F,X,T,hk,hdp,hun⟩:=C
 obtain ⟨w1,w2,w3,w4,tt,w5⟩:=MW
 obtain ⟨⟨v1,v2⟩,⟨v3,v4⟩,⟨pl,v5,v6⟩,v7,v8⟩:=NW
 have fm6:=fmB (Z2.fI 0) (show (0:Int)<6 by decide)
 k_steps
 ·dsimp only
  rename News Z2.h₀ Z2.L _ _=>kN
  rename Ws _ _=>hw
  rename _<(0:Int)=>hlt
  exact retB _ _ _ _ _ _ _ _ hw (by assumption) (if_pos hlt).symm (by k_asm) (news_t kN) (by (repeat (refine (if_neg (by decide)).trans ?_));first | assumption | exact if_pos rfl) (by (repeat (refine (if_neg (by decide)).trans ?_));first | assumption | exact if_pos rfl) (by (repeat (refine (if_neg (by decide)).trans ?_));first | assumption | exact if_pos rfl) (by (repeat (refine (if_neg (by decide)).trans ?_));first | assumption | exact if_pos rfl) (by (repeat (refine (if_neg (by decide)).trans ?_));first | assumption | exact if_pos rfl)
 ·dsimp only
  rename News Z2.h₀ Z2.L _ _=>kN
  rename Ws _ _=>hw
  rename ¬ _<(0:Int)=>hlt
  exact retB _ _ _ _ _ _ _ _ hw (by assumption) (if_neg hlt).symm (by k_asm) (news_t kN) (by (repeat (refine (if_neg (by decide)).trans ?_));first | assumption | exact if_pos rfl) (by (repeat (refine (if_neg (by decide)).trans ?_));first | assumption | exact if_pos rfl) (by (repeat (refine (if_neg (by decide)).trans ?_));first | assumption | exact if_pos rfl) (by (repeat (refine (if_neg (by decide)).trans ?_));first | assumption | exact if_pos rfl) (by (repeat (refine (if_neg (by decide)).trans ?_));first | assumption | exact if_pos rfl)
 ·rename News Z2.h₀ Z2.L _ _=>kN
  rename Wr _ _ _=>hw
  rename 0≤(_:Int)=>h0
  refine e1a1 (nat_of h0) fun vn Q30=>?_;obtain rfl:=Q30
  rw [Int.toNat_natCast] at hw
  simp only [List.push_toArray] at kN
  exact retN _ _ _ _ _ _ _ _ _ _ _ _ _ _ _ _ _ hw (by assumption) (by k_asm) (news_r7 kN) (by omega) (by omega) (by omega) ⟨(by (repeat (refine (if_neg (by decide)).trans ?_));first | assumption | exact if_pos rfl),(by (repeat (refine (if_neg (by decide)).trans ?_));first | assumption | exact if_pos rfl),(by (repeat (refine (if_neg (by decide)).trans ?_));first | assumption | exact if_pos rfl),(by (repeat (refine (if_neg (by decide)).trans ?_));first | assumption | exact if_pos rfl),_,(by (repeat (refine (if_neg (by decide)).trans ?_));first | assumption | exact if_pos rfl)⟩
theorem turn_b {x0 x1 x2 x3 x4:Stmt} {tl:List Stmt} {taA duA woA I:Addr} {io:Obj} {dv wv:List Value} {dn wn:Nat} {n mm:Int} {text op:Str} {K:List (Addr×Obj)} (LI:LawIs b sc) (hf:forBo b=some bo) (hb:bo=x0::x1::x2::x3::x4::tl)
  (C:Cx 550 w p loose mean mg mb dp un sc [] A₀ base h₀ L m s) (N:News h₀ L s.heap ((I,io)::(duA,listOf dv.toArray dn)::(woA,listOf wv.toArray wn)::K)) 
  (n1:∀ q∈K,q.1≠duA) (n2:∀ q∈K,q.1≠woA) (n3:∀ q∈K,q.1≠I) (l1 : @LT.lt Nat _ duA woA) (l2 : @LT.lt Nat _ woA I)
  (MW:MapW m taA duA woA text) (NW:NamesW m n mm op) (hz:text.length≤600) (ol:op.length≤2) (dz:dv.length≤700) (wz:wv.length≤700)
  (retB:∀ (h':Heap) (tk':Nat) (m':Str->Option Value) (rest:Str) (stop r:Int) (t1 t2:Tok),Ws rest stop->rest.length≤50->r=(if stop<0 then -1 else (text.length:Int)+op.length+stop)->Fr h₀ L h' m'->News h₀ L h' ((I,io)::(duA,listOf dv.toArray dn)::(woA,listOf wv.toArray wn)::K) ->
   m' "tape" = some (.ref taA)->m' "due" = some (.ref duA)->m' "worths" = some (.ref woA)->m' "text" = some (.str (text++(op++rest)) t1)->m' "refused" = some (.int r t2)->Q .brk { s with heap:=h',toks:=tk' })
  (retN:∀ (h':Heap) (tk':Nat) (m':Str->Option Value) (way:Int) (content:Str) (v:Nat) (a l tr:Addr) (dn' wn' n':Nat) (t1 t2 t3 t4 t5:Tok),Wr way content v->content.length≤30->Fr h₀ L h' m' ->
   News h₀ L h' ((I,io)::(duA,listOf (dv++[Value.ref tr]).toArray dn')::(woA,listOf (wv++[Value.ref a]).toArray wn')::(a,prO (.int ((v:Nat):Int) t1) (.ref l))::(l,listOf #[.str "char" t2] n')::(tr,triO (.str "CHAR" t3) (.str (op++content ++ "'") t4) (.int ((text.length:Nat):Int) t5))::K) ->
   @LT.lt Nat _ I a->@LT.lt Nat _ I l->@LT.lt Nat _ I tr->MapW m' taA duA woA (text++(op++content ++ "'"))->Q .next { s with heap:=h',toks:=tk' }) :
  wpAny (model pw_rk0009_01 w) (topW dp un gd sc L fa cd cP cS) (execs tl (envW sc L fa cd cP cS)) Q E s:=pickedZ (by with_unfolding_all rfl) Z2c (sfL (sfS (sfI (sfN (sfv (sfO (sfF (sfV (sfA (frC w p loose mean mg mb dp un gd Z2.cn Z2.cs Z2.ca Z2.ccd Z2.cll Z2.outer A₀ base h₀ L m s E) [fa,cP,cS,taA,duA,woA,I]) [cd]) [Q]) [io]) [dv,wv]) [dn,wn]) [n,mm]) [text,op]) [K]) b bo sc x0 x1 x2 x3 x4 tl LI hf hb C N n1 n2 n3 l1 l2 MW NW hz ol dz wz retB retN
end
end
theorem NgB87.gB87:True:=trivial
example:True:=by w_top off;trivial
section
open NgB87
noncomputable def itW (b:List Stmt):Option Expr:=(stAt b 2).bind fun x=>(stp x).1[1]?
section
variable {fa:Addr} {cd:Value} {cP cS:Addr} {b bo ib:List Stmt} {sc:Scope}
example:True:=by (k_with "B87" => (fail_if_success (fail_if_success (have:=gB87))));(k_with "eval Name" => k_extra "B87";(k_here;k_dflt (refine' ldM2 ?Y0 ?Y1 ?Y2 ?Y3 ?Y4 ?Y5 ?_;(case Y0=>assumption);(case Y1=>exact rfl);(case Y2=>exact rfl);(case Y3=>exact rfl);(case Y4=>((repeat (refine (if_neg (by decide)).trans ?_));first | assumption | exact if_pos rfl));(case Y5=>decide);k_whole)));trivial
theorem lenL {A:Around} {Q E:Value->Shared->Prop} {news:List (Addr×Obj)} {D:Addr} {its:List Value} {c:Nat} (N:News h₀ L s.heap news) (hm:(D,listOf its.toArray c)∈news) (hz:its.length≤1000000) (h:∀ u tk,Q (.int (its.length:Nat) u) { s with toks:=tk }) :
  wpAny (model pw_rk0009_01 w) A (call (.builtin "len") [.ref D]) Q E s:=Calls.call_len_list (News.isList N hm) (by simp only [List.size_toArray];omega) (by simp only [List.size_toArray];exact h _ _)
example:True:=by (k_with "call builtin:len" => k_extra "B87";(k_here;k_dflt (refine' lenL ?Y0 ?Y1 ?Y2 ?_;(case Y0=>k_asm);(case Y1=>k_mem);(case Y2=>omega);k_whole;intro Y3 Y4)));(k_with "k_all" => k_extra "B87";assumption);trivial
set_option maxHeartbeats 4000000 in
theorem w_iter {e:Expr} {taA:Addr} {tv:List Value} {tn:Nat} {news:List (Addr×Obj)} {Q E:Value->Shared->Prop} (LI:LawIs b sc) (he:itW b=some e)
  (C:Cx 550 w p loose mean mg mb dp un sc [] A₀ base h₀ L m s) (N:News h₀ L s.heap news) (mt:(taA,listOf tv.toArray tn)∈news) (w1:m "tape" = some (.ref taA)) (tz:tv.length≤100) (t2:2≤tv.length)
  (ret:∀ (r:Addr) (h':Heap) (tk':Nat) (t u v:Tok),IsRange h' r 0 ((tv.length:Int) - 1) 2 t u v->Fr h₀ L h' m->News h₀ L h' news->Q (.ref r) { s with heap:=h',toks:=tk' }) :
  wpAny (model pw_rk0009_01 w) (topW dp un gd sc L fa cd cP cS) (eval e (envW sc L fa cd cP cS)) Q E s:=by
 refine e1a1 LI fun a0 ho=>?_;clear LI
 have e2:(a0,b,sc)=_:=Option.some.inj (ho.symm.trans (rfl:lawDef=some _))
 injection e2 with e2 e3
 injection e3 with e3 e4
 subst e2 e3 e4
 have e5:e=_:=Option.some.inj (he.symm.trans (rfl:itW _=some _))
 subst e5
 clear he ho
 obtain ⟨B,F,X,T,hk,hdp,hun⟩:=C
 k_steps
 all_goals exact ret _ _ _ _ _ _ (by assumption) (by assumption) (by assumption)
theorem size_two (n:Nat) (h:2≤n):Builtin.Range.rangeSize 0 ((n:Int) - 1) 2=((n / 2:Nat):Int):=by
 unfold Builtin.Range.rangeSize
 rw [if_pos (by decide),if_pos (by omega)]
 omega
theorem small_two (n:Nat) (h:2≤n) (hz:n≤1000):Builtin.Range.small 0 ((n:Int) - 1) 2=true:=by
 unfold Builtin.Range.small
 rw [size_two n h]
 simp only [Builtin.Range.rangeFitsLong,Bool.and_eq_true,Bool.or_eq_true,decide_eq_true_eq,beq_iff_eq,show (2:Int) > 0 by decide,if_true]
 omega
end
end
example:True:=by w_top off;trivial
section
noncomputable def RefW (m:Str->Option Value) (ref:Option Int):Prop:=match ref with
 | none=>m "refused" = some .none
 | some r=>∃ t,m "refused" = some (.int r t)
noncomputable def JW (taA duA woA:Addr) (K0:List (Addr×Obj)) (i:Nat) (m:Str->Option Value) (news:List (Addr×Obj)):Prop :=
 ∃ dv dn wv wn K text due ws,news=(duA,listOf dv.toArray dn)::(woA,listOf wv.toArray wn)::K/\(∀ q∈K0,q∈K)/\(∀ q∈K,q.1≠duA)/\(∀ q∈K,q.1≠woA)/\DueOk K dv due/\WorOk K wv ws/\Bt i text due ws/\MapW m taA duA woA text
theorem wf_i {a b i:Nat} (h:a=b) (hb:b≤14) (hi:i<a / 2):i≤6/\2 * i<b/\2 * i+1<b:=by omega
theorem ij0 (i:Nat):(0:Int)≤0+(i:Int) * 2:=show (0:Int)≤((0+i * 2:Nat):Int) from Int.natCast_nonneg _
theorem ij1 (i:Nat):((0:Int)+(i:Int) * 2).toNat=2 * i:=show 0+i * 2=2 * i from (Nat.zero_add _).trans (Nat.mul_comm _ _)
theorem ij2 (i:Nat):((0:Int)+(i:Int) * 2+1).toNat=2 * i+1:=show 0+i * 2+1=2 * i+1 from congrArg Nat.succ ((Nat.zero_add _).trans (Nat.mul_comm _ _))
theorem ij3 {i:Nat} (h:i≤6):(0:Int)+(i:Int) * 2≤100:=show ((0+i * 2:Nat):Int)≤((100:Nat):Int) from Int.ofNat_le.mpr (by omega)
theorem half7 {a:Nat} (h:a≤14):a / 2≤7:=by omega
theorem fa2 {α:Type} {P:α->Prop} {a b:α} {r:List α} (h1:P a) (h2:P b) (hr:∀ x∈r,P x):∀ x∈a::b::r,P x:=List.forall_mem_cons.mpr ⟨h1,List.forall_mem_cons.mpr ⟨h2,hr⟩⟩
section
variable {fa:Addr} {cd:Value} {cP cS:Addr} {b bo:List Stmt} {sc:Scope} {Q:Flow->Shared->Prop} {E:Value->Shared->Prop}
noncomputable def Z18P:FrZ->Prop:=fun V=>∀ (bo:List Stmt) (e:Expr) (ts:List Int) (LI:LawIs (V.fB 0) (V.fs 0)) (h2:stAt (V.fB 0) 2=some (.For (.Name "i" (V.fp 0)) e bo [] (V.fp 1))) (hkn:(envW (V.fs 0) V.L (V.fA 0) (V.fV 0) (V.fA 1) (V.fA 2)).kindOf "i" = some .local/\∀ x,foldedSetIterable e (envW (V.fs 0) V.L (V.fA 0) (V.fV 0) (V.fA 1) (V.fA 2)) x=pure x) (C:Cx 550 V.w V.p V.loose V.mean V.mg V.mb V.dp V.un (V.fs 0) [] V.A₀ V.base V.h₀ V.L V.m V.s) (N:News V.h₀ V.L V.s.heap (((V.fA 4),listOf #[] 0)::((V.fA 5),listOf #[] 0)::(V.fL 0))) (mt:((V.fA 3),listOf (V.fv 0).toArray (V.fN 0))∈(V.fL 0)) (hi:IntsAre (V.fv 0) ts) (z1:2≤ts.length) (z2:ts.length≤14) (n1:∀ q∈(V.fL 0),q.1≠(V.fA 4)) (n2:∀ q∈(V.fL 0),q.1≠(V.fA 5)) (l1 : @LT.lt Nat _ (V.fA 4) (V.fA 5)) (MW:MapW V.m (V.fA 3) (V.fA 4) (V.fA 5) "") (hE:PassesOwn (model pw_rk0009_01 V.w) (topW V.dp V.un V.gd (V.fs 0) V.L (V.fA 0) (V.fV 0) (V.fA 1) (V.fA 2)) (envW (V.fs 0) V.L (V.fA 0) (V.fV 0) (V.fA 1) (V.fA 2)) V.E) (ret:∀ (h':Heap) (tk':Nat) (m':Str->Option Value) (dv:List Value) (dn:Nat) (wv:List Value) (wn:Nat) (K:List (Addr×Obj)) (text:Str) (due:DueL) (ws:List Nat) (ref:Option Int) (t:Tok),Fr V.h₀ V.L h' m'->News V.h₀ V.L h' (((V.fA 4),listOf dv.toArray dn)::((V.fA 5),listOf wv.toArray wn)::K)->(∀ q∈(V.fL 0),q∈K) ->
   DueOk K dv due->WorOk K wv ws->Bf text due ws ref->m' "tape" = some (.ref (V.fA 3))->m' "due" = some (.ref (V.fA 4))->m' "worths" = some (.ref (V.fA 5))->m' "text" = some (.str text t)->RefW m' ref->(V.fF 0) .next { V.s with heap:=h',toks:=tk' }),wpAny (model pw_rk0009_01 V.w) (topW V.dp V.un V.gd (V.fs 0) V.L (V.fA 0) (V.fV 0) (V.fA 1) (V.fA 2)) (exec (.For (.Name "i" (V.fp 0)) e bo [] (V.fp 1)) (envW (V.fs 0) V.L (V.fA 0) (V.fV 0) (V.fA 1) (V.fA 2))) (V.fF 0) V.E V.s
@[irreducible] noncomputable def Z18:FrZ:=pickZ Z18P
theorem Z18c:Z18P Z18:=by
 intro bo e ts LI h2 hkn C N mt hi z1 z2 n1 n2 l1 MW hE ret
 have hsk:(Z18.fs 0).kind=.function:=C.hk
 have hit:itW (Z18.fB 0)=some e:=by unfold itW;rw [h2];rfl
 have hf:forBo (Z18.fB 0)=some bo:=by unfold forBo;rw [h2]
 have tz:(Z18.fv 0).length=ts.length:=hi.length
 have z3:(Z18.fv 0).length≤14:=tz▸z2
 have z0:2≤(Z18.fv 0).length:=tz▸z1
 refine For_invV Z18.h₀ hkn.1 (by show ((Z18.fs 0).kind==.class||((Z18.fs 0).kind==.module&&_))=false;rw [hsk];rfl) ?_ hkn.2 hE
 refine w_iter LI hit C N (.tail _ (.tail _ mt)) MW.1 (by omega) (by omega) fun r h' tk' t u v IR F' N'=>?_
 refine range_J (JW (Z18.fA 3) (Z18.fA 4) (Z18.fA 5) (Z18.fL 0)) rfl IR (small_two _ (by omega) (by omega)) (size_two _ z0) F' N' ⟨[],0,[],0,(Z18.fL 0), "",[],[],rfl,fun _ h=>h,n1,n2,.nil,.nil,.nil,MW⟩ ?_ ?_
 ·intro I i ti m₁ _ h tk io lt hlt hq0 off F₁ N₁
  refine e8a1 hq0 fun dv dn wv wn K text due ws Q31=>?_;clear hq0;refine e0a8 Q31 fun Q32=>?_;clear Q31;obtain rfl:=Q32;intro sub k1 k2 D W BT MW1
  have l2 : @LT.lt Nat _ (Z18.fA 5) I:=ltN (lt _ (.tail _ (.head _)))
  obtain ⟨x0,x1,x2,x3,p1,p2,p3,ib,tl,rfl,_,hin⟩:=inner_shape LI hf
  have ii:=wf_i tz z2 hlt
  have i6:=ii.1
  obtain ⟨n,e0⟩:∃ n,ts[2 * i]?=some n:=⟨_,List.getElem?_eq_getElem ii.2.1⟩
  obtain ⟨mm,e1⟩:∃ n,ts[2 * i+1]?=some n:=⟨_,List.getElem?_eq_getElem ii.2.2⟩
  refine e1a1 (hi.get _ _ e0) fun u1 e0=>?_
  refine e1a1 (hi.get _ _ e1) fun u2 e1=>?_
  have sz:=BT.sz
  have dz:=D.len
  have wz:=W.len
  have tx:text.length≤210:=Nat.le_trans sz.1 (Nat.mul_le_mul_left 35 i6)
  have dl:List.length due≤18:=Nat.le_trans sz.2.1 (Nat.mul_le_mul_left 3 i6)
  have wl:wv.length≤6:=by rw [wz,sz.2.2];exact i6
  refine turn_a (tl:=.For (.Name "sign" p1) (.Name "ahead" p2) ib [] p3::tl) (n:=n) (mm:=mm) (kk:=0+(i:Int) * 2) LI hf rfl rfl rfl rfl ⟨C.B,F₁,C.X,C.T,C.hk,C.hdp,C.hun⟩ N₁ (.tail _ (.tail _ (.tail _ (sub _ mt)))) 
   ⟨(if_neg (by decide)).trans MW1.1,(if_neg (by decide)).trans MW1.2.1,(if_neg (by decide)).trans MW1.2.2.1,(if_neg (by decide)).trans MW1.2.2.2.1,let ⟨t,e⟩:=MW1.2.2.2.2;⟨t,(if_neg (by decide)).trans e⟩⟩ (if_pos rfl) (ij0 i) (ij3 i6)
   (by rw [ij1];exact e0) (by rw [ij2];exact e1)
   fun h3 tk3 m3 op ah pl t1 t2 t3 t4 t5 AO F3 N3 MW3 q1 q2 q3 q4 q5=>?_
  have al:=among_len AO.1
  have ol:=open_len AO.2.1
  refine wpAny_execs_cons (inner_for LI hf rfl hsk (hin _ _ _ _ _) ⟨C.B,F3,C.X,C.T,C.hk,C.hdp,C.hun⟩ N3 k1 k2 (fun q hq=>off q (.tail _ (.tail _ hq))) l1 l2 D MW3 ⟨⟨_,q1⟩,⟨_,q2⟩,⟨_,_,q3⟩,⟨_,q4⟩⟩ q5 al (by omega) (by omega) hE
   fun h4 tk4 m4 dv4 dn4 K4 F4 N4 D4 sub4 j1 j2 j3 MW4 NW4=>?_)
  have dz4:=D4.len
  have ahl:ah.cps.toList.length=ah.length:=rfl
  rw [List.length_append,ones_len,ahl] at dz4
  have d7:dv4.length≤20:=dz4▸Nat.add_le_add dl al
  have t7:=Nat.add_le_add tx al
  dsimp only
  refine turn_b LI hf rfl ⟨C.B,F4,C.X,C.T,C.hk,C.hdp,C.hun⟩ N4 j1 j2 j3 l1 l2 MW4 NW4 (by rw [app_len];omega) ol (by omega) (by omega) ?_ ?_
  ·intro h5 tk5 m5 rest stop r u1 u2 WS rl er F5 N5 y1 y2 y3 y4 y5
   show (Z18.fF 0) .next _
   have bf:=Bf.wrong (by omega) BT AO WS rl
   rw [<- er] at bf
   exact ret h5 tk5 m5 dv4 dn4 wv wn K4 _ _ ws (some r) u1 F5 (news_t N5) (fun q hq=>sub4 q (sub q hq)) D4 (W.mono sub4) bf y1 y2 y3 y4 ⟨_,y5⟩
  ·have dI:=Nat.lt_trans l1 l2
   intro h5 tk5 m5 way content v a l tr dn5 wn5 n5 t1 t2 t3 t4 t5 WR cl F5 N5 la ll lt MW5
   have D5:=D4.snoc (a:=tr) (kd := "CHAR") (vl:=op++content ++ "'") (n:=(text++ah).length) (t1:=t3) (t2:=t4) (t3:=t5)
   have W5:=(W.mono sub4).snoc (a:=a) (l:=l) (v:=v) (n:=n5) (t:=t1) (u:=t2)
   refine ⟨h5,tk5,m5,_,rfl,F5,N5,?_,_,_,_,_,_,_,_,_,rfl,fun q hq=>.tail _ (.tail _ (.tail _ (sub4 q (sub q hq)))),?_,?_,D5.mono ?_,W5.mono ?_,by
    have bt:=Bt.turn BT AO WR cl
    rw [<- app_len] at bt
    exact bt,MW5⟩
   ·exact fa2 (Nat.ne_of_lt (Nat.lt_trans l1 l2)) (Nat.ne_of_lt l2) (List.forall_mem_cons.mpr ⟨Nat.ne_of_gt la,fa2 (Nat.ne_of_gt ll) (Nat.ne_of_gt lt) j3⟩)
   ·exact List.forall_mem_cons.mpr ⟨Nat.ne_of_gt (Nat.lt_trans dI la),fa2 (Nat.ne_of_gt (Nat.lt_trans dI ll)) (Nat.ne_of_gt (Nat.lt_trans dI lt)) j1⟩
   ·exact List.forall_mem_cons.mpr ⟨Nat.ne_of_gt (Nat.lt_trans l2 la),fa2 (Nat.ne_of_gt (Nat.lt_trans l2 ll)) (Nat.ne_of_gt (Nat.lt_trans l2 lt)) j2⟩
   ·exact fun q hq=>.tail _ (.tail _ hq)
   ·exact fun q hq=>((List.mem_append (s:=[_,_])).mp hq).elim (fun h=>List.mem_append_left _ h) (fun h=>List.mem_append_right [_,_] (.tail _ h))
 ·intro h tk m' _ F' N' hq0
  refine e8a1 hq0 fun dv dn wv wn K text due ws Q33=>?_;clear hq0;obtain ⟨rfl,sub,k1,k2,D,W,BT,w1,w2,w3,w4,t,w5⟩:=Q33
  exact ret h tk m' dv dn wv wn K text due ws none t F' N' sub D W (.all (by omega) BT) w1 w2 w3 w5 w4
theorem w_for {tp fp:Pos} {e:Expr} {taA duA woA:Addr} {tv:List Value} {ts:List Int} {tn:Nat} {K0:List (Addr×Obj)} (LI:LawIs b sc) (h2:stAt b 2=some (.For (.Name "i" tp) e bo [] fp))
  (hkn:(envW sc L fa cd cP cS).kindOf "i" = some .local/\∀ x,foldedSetIterable e (envW sc L fa cd cP cS) x=pure x)
  (C:Cx 550 w p loose mean mg mb dp un sc [] A₀ base h₀ L m s) (N:News h₀ L s.heap ((duA,listOf #[] 0)::(woA,listOf #[] 0)::K0)) (mt:(taA,listOf tv.toArray tn)∈K0) (hi:IntsAre tv ts) (z1:2≤ts.length) (z2:ts.length≤14)
  (n1:∀ q∈K0,q.1≠duA) (n2:∀ q∈K0,q.1≠woA) (l1 : @LT.lt Nat _ duA woA) (MW:MapW m taA duA woA "")
  (hE:PassesOwn (model pw_rk0009_01 w) (topW dp un gd sc L fa cd cP cS) (envW sc L fa cd cP cS) E)
  (ret:∀ (h':Heap) (tk':Nat) (m':Str->Option Value) (dv:List Value) (dn:Nat) (wv:List Value) (wn:Nat) (K:List (Addr×Obj)) (text:Str) (due:DueL) (ws:List Nat) (ref:Option Int) (t:Tok),Fr h₀ L h' m'->News h₀ L h' ((duA,listOf dv.toArray dn)::(woA,listOf wv.toArray wn)::K)->(∀ q∈K0,q∈K) ->
   DueOk K dv due->WorOk K wv ws->Bf text due ws ref->m' "tape" = some (.ref taA)->m' "due" = some (.ref duA)->m' "worths" = some (.ref woA)->m' "text" = some (.str text t)->RefW m' ref->Q .next { s with heap:=h',toks:=tk' }) :
  wpAny (model pw_rk0009_01 w) (topW dp un gd sc L fa cd cP cS) (exec (.For (.Name "i" tp) e bo [] fp) (envW sc L fa cd cP cS)) Q E s:=pickedZ (by with_unfolding_all rfl) Z18c (sfL (sfN (sfv (sfp (sfF (sfs (sfB (sfV (sfA (frC w p loose mean mg mb dp un gd Z18.cn Z18.cs Z18.ca Z18.ccd Z18.cll Z18.outer A₀ base h₀ L m s E) [fa,cP,cS,taA,duA,woA]) [cd]) [b]) [sc]) [Q]) [tp,fp]) [tv]) [tn]) [K0]) bo e ts LI h2 hkn C N mt hi z1 z2 n1 n2 l1 MW hE ret
end
end
theorem NgB89.gB89:True:=trivial
example:True:=by w_top off;trivial
section
open NgB89
section
variable {fa:Addr} {cd:Value} {cP cS:Addr} {b:List Stmt} {sc:Scope} {Q:Flow->Shared->Prop} {E:Value->Shared->Prop}
example:True:=by (k_with "B89" => (fail_if_success (fail_if_success (have:=gB89))));(k_with "eval Name" => k_extra "B89";(k_here;k_dflt (refine' ldM2 ?Y0 ?Y1 ?Y2 ?Y3 ?Y4 ?Y5 ?_;(case Y0=>assumption);(case Y1=>exact rfl);(case Y2=>exact rfl);(case Y3=>exact rfl);(case Y4=>((repeat (refine (if_neg (by decide)).trans ?_));first | assumption | exact if_pos rfl));(case Y5=>decide);k_whole)));(k_with "storeName" => k_extra "B89";(k_here;k_dflt (refine' storeX_C ?Y0 ?Y1 ?Y2 ?Y3 ?Y4 ?_ ?Y5 ?Y6;(case Y5=>rfl);(case Y6=>rfl);(case Y0=>k_asm);(case Y1=>k_asm);(case Y2=>rfl);(case Y3=>k_updF);(case Y4=>k_asm);k_whole);intro Y7 Y8 Y9 Y10 Y11;(try dsimp only at Y10);(try k_sweep)));trivial
theorem sumL {A:Around} {Q E:Value->Shared->Prop} {news:List (Addr×Obj)} {D:Addr} {its:List Value} {c:Nat} {ns:List Int} (hh:A.handled=none) (F:Fr h₀ L s.heap m) (N:News h₀ L s.heap news) (hm:(D,listOf its.toArray c)∈news) (hi:IntsAre its ns)
  (h:∀ h' tk t',Fr h₀ L h' m->News h₀ L h' news->Q (.int ns.sum t') { s with heap:=h',toks:=tk }):wpAny (model pw_rk0009_01 w) A (call (.builtin "sum") [.ref D]) Q E s:=sumK hh F N (News.isList N hm) hi h
example:True:=by (k_with "call builtin:sum" => k_extra "B89";(k_here;k_dflt (refine' sumL ?Y0 ?Y1 ?Y2 ?Y3 ?Y4 ?_;(case Y0=>exact rfl);(case Y1=>k_asm);(case Y2=>k_asm);(case Y4=>assumption);(case Y3=>k_mem);k_whole);intro Y5 Y6 Y7 Y8 Y9));(k_with "k_mem" => k_extra "B89";(first | assumption | exact List.Mem.head _ | (apply List.Mem.tail;k_mem)));(k_with "k_all" => k_extra "B89";assumption);trivial
set_option maxHeartbeats 4000000 in
theorem w_step {x:Stmt} {taA:Addr} {tv:List Value} {ts:List Int} {tn:Nat} {R:List (Addr×Obj)} {oS:Obj} {v0:Option Value} (LI:LawIs b sc) (h3:stAt b 3=some x)
  (C:Cx 550 w p loose mean mg mb dp un sc [] A₀ base h₀ L m s) (N:News h₀ L s.heap ((cS,oS)::R)) (n1:∀ q∈R,q.1≠cS) (mt:(taA,listOf tv.toArray tn)∈R) (hi:IntsAre tv ts) (z2:ts.length≤14) (w1:m "tape" = some (.ref taA)) (dS:oS.data=.cell v0)
  (ret:∀ (h':Heap) (tk':Nat) (oS':Obj) (st:Int) (t:Tok),1≤st->st≤1008->oS'.data=.cell (some (.int st t))->Fr h₀ L h' m->News h₀ L h' ((cS,oS')::R)->Q .next { s with heap:=h',toks:=tk' }) :
  wpAny (model pw_rk0009_01 w) (topW dp un gd sc L fa cd cP cS) (exec x (envW sc L fa cd cP cS)) Q E s:=by
 refine e1a1 LI fun a0 ho=>?_;clear LI
 have e2:(a0,b,sc)=_:=Option.some.inj (ho.symm.trans (rfl:lawDef=some _))
 injection e2 with e2 e3
 injection e3 with e3 e4
 subst e2 e3 e4
 have e5:x=_:=Option.some.inj (h3.symm.trans (rfl:stAt _ 3=some _))
 subst e5
 clear h3 ho
 obtain ⟨B,F,X,T,hk,hdp,hun⟩:=C
 k_steps
 have fm:=fmB ts.sum (show (0:Int)<1008 by decide)
 exact ret _ _ _ (1+ts.sum.fmod 1008) _ (by omega) (by omega) (by assumption) (by k_asm) (by k_asm)
end
end
theorem NgB90.gB90:True:=trivial
example:True:=by w_top off;trivial
section
open NgB90
noncomputable def plOf (x:Stmt):Option (Expr×Scope):=(stp x).1[0]?.bind xlc
noncomputable abbrev plc (st:Int) (k:Nat):Int×Int:=(1+((k:Int) * st).fmod 1009,1+((k:Int) * (k:Int)+st).fmod 1013)
noncomputable abbrev plcs (st:Int) (n:Nat):List (Int×Int):=(List.range n).map (plc st)
theorem plcs_at {st:Int} {n i:Nat} (h:i<n):(plcs st n)[i]?=some (plc st i):=by
 rw [List.getElem?_map,List.getElem?_range h];rfl
theorem PlaceIn.snoc {K:List (Addr×Obj)} {plvs:List Value} {st:Int} {i:Nat} {a:Addr} {u1 u2:Tok} (h:PlaceIn K plvs (plcs st i)):PlaceIn ((a,pairObj (.int (plc st i).1 u1) (.int (plc st i).2 u2))::K) (plvs++[.ref a]) (plcs st (i+1)):=by
 have hl:plvs.length=i:=by rw [h.len];simp
 refine ⟨by rw [List.length_append,hl];simp,fun k r c e=>?_⟩
 have hk:k<i+1:=by
  have:=(List.getElem?_eq_some_iff.mp e).1
  simpa using this
 rw [plcs_at hk] at e
 by_cases hki:k<i
 ·refine e3a2 (h.at_ k r c ((plcs_at hki).trans e)) fun q v1 v2 e1 e2=>?_
  exact ⟨q,v1,v2,by rw [List.getElem?_append_left (by omega)];exact e1,.tail _ e2⟩
 ·obtain rfl:k=i:=by omega
  injection e with e
  injection e with e1 e2
  subst e1 e2
  exact ⟨a,u1,u2,by rw [List.getElem?_append_right (by omega),hl,Nat.sub_self];rfl,.head _⟩
theorem storeC_f {M:Model} {A:Around} {E:Value->Shared->Prop} {s:Shared} {h₀:Heap} {L a:Addr} {m:Str->Option Value} {cn:Str} {cs:Scope} {ccd:Value} {cl:List (Str×Addr)} {x:Str} {v:Value} {news:List (Addr×Obj)} {c:Addr} {o:Obj} {v₀:Option Value} {Q:Unit->Shared->Prop}
  (F:Fr h₀ L s.heap m) (N:News h₀ L s.heap news) (hc:cl.lookup x=some c) (hm:(c,o)∈news) (hd:o.data=.cell v₀)
  (h:∀ h' o',Fr h₀ L h' m->News h₀ L h' ((c,o')::news.filter fun q=>q.1 != c)->o'.data=.cell (some v)->Q () { s with heap:=h' })
  (hk:cs.kind=.function:=by rfl) (hx:(envX cn cs L a ccd cl).kindOf x=some .cell:=by rfl):wpAny M A (storeName (envX cn cs L a ccd cl) x v) Q E s:=by
 have hmem:=N (c,o) hm
 refine storeName_cell hk hx hc ⟨o,hmem.1,hd⟩ fun h' hv hs=>?_
 refine e1a2 hv fun o' ho' hd'=>?_;clear hv
 refine h h' o' ⟨F.ns.sameBut hs (Ne.symm hmem.2.1),fun b ob e=>(hs.2 b (fun q=>?_)).trans (F.keep b ob e),F.above⟩ (fun q hq=>?_) hd'
 ·rw [q,hmem.2.2] at e;cases e
 ·rcases List.mem_cons.mp hq with rfl | hq
  ·exact ⟨ho',hmem.2⟩
  ·refine e0a2 (List.mem_filter.mp hq) fun q1 q2=>?_
   exact ⟨(hs.2 _ (by simpa using q2)).trans (N q q1).1,(N q q1).2⟩
section
variable {fa:Addr} {cd:Value} {cP cS:Addr} {b:List Stmt} {sc:Scope}
example:True:=by (k_with "B90" => (fail_if_success (fail_if_success (have:=gB90))));(k_with "k_mem" => k_extra "B90";(first | assumption | exact List.Mem.head _ | (apply List.Mem.tail;k_mem)));(k_with "k_all" => k_extra "B90";assumption);trivial
noncomputable def Z74P:FrZ->Prop:=fun V=>∀ (b:List Stmt) (sc:Scope) (x:Stmt) (e:Expr) (sc2:Scope) (LI:LawIs b sc) (h4:stAt b 4=some x) (hp:plOf x=some (e,sc2)) (B:Cx 550 V.w V.p V.loose V.mean V.mg V.mb V.dp V.un sc [] V.A₀ V.base V.h₀ V.L V.m V.s) (N:News V.h₀ V.L V.s.heap (((V.fA 3),(V.fO 0))::((V.fA 4),(V.fO 1))::((V.fA 5),LCg.lst (V.fv 0))::(V.fL 0))) (hC:LCg.NsObj (V.fO 1) (V.fM 0)) (hk:(V.fM 0) "k" = some (.int ((V.fN 0):Int) (V.fT 1))) (mS:((V.fA 2),(V.fO 2))∈(V.fL 0)) (dS:(V.fO 2).data=.cell (some (.int (V.fI 0) (V.fT 0)))) (s1:1≤(V.fI 0)) (s2:(V.fI 0)≤1008) (kz:(V.fN 0)≤1000) (ret:∀ (h':Heap) (tk':Nat) (a:Addr) (u1 u2:Tok),Fr V.h₀ V.L h' V.m->News V.h₀ V.L h' ((a,pairObj (.int (plc (V.fI 0) (V.fN 0)).1 u1) (.int (plc (V.fI 0) (V.fN 0)).2 u2))::((V.fA 3),(V.fO 0))::((V.fA 4),(V.fO 1))::((V.fA 5),LCg.lst (V.fv 0))::(V.fL 0))->LCg.Off3 (V.fA 3) (V.fA 4) (V.fA 5) [(a,pairObj (.int (plc (V.fI 0) (V.fN 0)).1 u1) (.int (plc (V.fI 0) (V.fN 0)).2 u2))]->(V.fQ 0) (.ref a) { V.s with heap:=h',toks:=tk' }),wpAny (model pw_rk0009_01 V.w) (topW V.dp V.un V.gd sc V.L (V.fA 0) (V.fV 0) (V.fA 1) (V.fA 2)) (eval e (compEnvC sc2 [("step",(V.fA 2))] (V.fA 4) (envW sc V.L (V.fA 0) (V.fV 0) (V.fA 1) (V.fA 2)))) (V.fQ 0) V.E V.s
@[irreducible] noncomputable def Z74:FrZ:=pickZ Z74P
set_option maxHeartbeats 4000000 in
theorem Z74c:Z74P Z74:=by
 intro b sc x e sc2 LI h4 hp B N hC hk mS dS s1 s2 kz ret
 refine e1a1 LI fun a0 ho=>?_;clear LI
 have e2:(a0,b,sc)=_:=Option.some.inj (ho.symm.trans (rfl:lawDef=some _))
 injection e2 with e2 e3
 injection e3 with e3 e4
 subst e2 e3 e4
 have e5:x=_:=Option.some.inj (h4.symm.trans (rfl:stAt _ 4=some _))
 subst e5
 have e5:(e,sc2)=_:=Option.some.inj (hp.symm.trans (rfl:plOf _=some _))
 injection e5 with e5 e6
 subst e5 e6
 clear h4 hp ho
 obtain ⟨B,F,X,T,hkd,hdp,hun⟩:=B
 k_steps
 rename News Z74.h₀ Z74.L _ _=>kN
 refine ret _ _ _ _ _ (by k_asm) kN ?_
 refine ⟨⟨?_,?_,?_⟩,trivial⟩ <;> k_ne
theorem places_turn {x:Stmt} {e:Expr} {sc2:Scope} {I C D:Addr} {oI oC oS:Obj} {st:Int} {tS t:Tok} {ys:List Value} {k:Nat} {news:List (Addr×Obj)} {m₂:Str->Option Value} {Q E:Value->Shared->Prop} (LI:LawIs b sc) (h4:stAt b 4=some x) (hp:plOf x=some (e,sc2))
  (B:Cx 550 w p loose mean mg mb dp un sc [] A₀ base h₀ L m s)
  (N:News h₀ L s.heap ((I,oI)::(C,oC)::(D,LCg.lst ys)::news)) (hC:LCg.NsObj oC m₂) (hk:m₂ "k" = some (.int (k:Int) t)) (mS:(cS,oS)∈news) (dS:oS.data=.cell (some (.int st tS))) (s1:1≤st) (s2:st≤1008) (kz:k≤1000)
  (ret:∀ (h':Heap) (tk':Nat) (a:Addr) (u1 u2:Tok),Fr h₀ L h' m->News h₀ L h' ((a,pairObj (.int (plc st k).1 u1) (.int (plc st k).2 u2))::(I,oI)::(C,oC)::(D,LCg.lst ys)::news)->LCg.Off3 I C D [(a,pairObj (.int (plc st k).1 u1) (.int (plc st k).2 u2))]->Q (.ref a) { s with heap:=h',toks:=tk' }) :
  wpAny (model pw_rk0009_01 w) (topW dp un gd sc L fa cd cP cS) (eval e (compEnvC sc2 [("step",cS)] C (envW sc L fa cd cP cS))) Q E s:=pickedZ (by with_unfolding_all rfl) Z74c (sfQ (sfM (sfL (sfN (sfv (sfT (sfI (sfO (sfV (sfA (frC w p loose mean mg mb dp un gd Z74.cn Z74.cs Z74.ca Z74.ccd Z74.cll Z74.outer A₀ base h₀ L m s E) [fa,cP,cS,I,C,D]) [cd]) [oI,oC,oS]) [st]) [tS,t]) [ys]) [k]) [news]) [m₂]) [Q]) b sc x e sc2 LI h4 hp B N hC hk mS dS s1 s2 kz ret
theorem places_rest {x:Stmt} {e:Expr} {sc2:Scope} {oS:Obj} {st:Int} {tS:Tok} {news0:List (Addr×Obj)} {n:Nat} {Fin:List Value->List (Addr×Obj)->Prop} (LI:LawIs b sc) (h4:stAt b 4=some x) (hp:plOf x=some (e,sc2))
  (B:Below A₀ base [] h₀) (X:(hd.heap_1 w.params).In h₀) (Tp:Top p loose mean mg mb h₀) (hkd:sc.kind=.function) (hdp:dp+550<900) (hun:un+8 * 550<9000)
  (mS:(cS,oS)∈news0) (dS:oS.data=.cell (some (.int st tS))) (s1:1≤st) (s2:st≤1008) (nz:n≤1000)
  (fin:∀ ys news,PlaceIn news ys (plcs st n)->(∀ q∈news0,q∈news)->Fin ys news) :
  ∀ (k i:Nat) (ys:List Value) (news:List (Addr×Obj)),i+k=n->PlaceIn news ys (plcs st i)->(∀ q∈news0,q∈news) ->
   LCg.CompRest pw_rk0009_01 w (topW dp un gd sc L fa cd cP cS) h₀ L m (envW sc L fa cd cP cS) e "k" sc2 [("step",cS)] s (fun _=>True) (fun i v=>∃ t,v=.int (0+(i:Int)) t) Fin k i ys news
 | 0,i,ys,news,hi,O,sub=>.zero (fin ys news (by rw [Nat.add_zero] at hi;rw [<- hi];exact O) sub)
 | k+1,i,ys,news,hi,O,sub=>by
  refine .succ fun v I oI C' oC D m₂ h tk E' hP hC hx F N off ne=>?_
  refine e1a1 hP fun t Q34=>?_;clear hP;obtain rfl:=Q34
  rw [Int.zero_add] at hx
  refine places_turn (s:={ s with heap:=h,toks:=tk }) (k:=i) LI h4 hp ⟨B,F,X,Tp,hkd,hdp,hun⟩ N hC hx (sub _ mS) dS s1 s2 (by omega) fun h' tk' a u1 u2 F' N' o'=>?_
  refine .intro F' N' ((a,pairObj (.int (plc st i).1 u1) (.int (plc st i).2 u2))::news) (fun q hq=>?_) (off3_app o' off) trivial ?_
  ·first | exact mv4 hq | exact mv4r hq
  ·exact places_rest LI h4 hp B X Tp hkd hdp hun mS dS s1 s2 nz fin k (i+1) (ys++[.ref a]) _ (by omega) O.snoc fun q hq=>.tail _ (sub q hq)
example:True:=by (k_with "eval Name" => k_extra "B90";(k_here;k_dflt (refine' ldM2 ?Y0 ?Y1 ?Y2 ?Y3 ?Y4 ?Y5 ?_;(case Y0=>assumption);(case Y1=>exact rfl);(case Y2=>exact rfl);(case Y3=>exact rfl);(case Y4=>((repeat (refine (if_neg (by decide)).trans ?_));first | assumption | exact if_pos rfl));(case Y5=>decide);k_whole)));(k_with "call builtin:len" => k_extra "B90";(k_here;k_dflt (refine' len_strK ?Y0 ?_;(case Y0=>omega);k_whole;intro Y1 Y2)));trivial
set_option maxHeartbeats 4000000 in
theorem w_places {x:Stmt} {oS oP:Obj} {st:Int} {tS tt:Tok} {vP:Option Value} {text:Str} {news:List (Addr×Obj)} {Q:Flow->Shared->Prop} {E:Value->Shared->Prop} (LI:LawIs b sc) (h4:stAt b 4=some x)
  (C:Cx 550 w p loose mean mg mb dp un sc [] A₀ base h₀ L m s) (N:News h₀ L s.heap news) (mS:(cS,oS)∈news) (dS:oS.data=.cell (some (.int st tS))) (mP:(cP,oP)∈news) (dP:oP.data=.cell vP) (s1:1≤st) (s2:st≤1008) (hz:text.length≤800) (w5:m "text" = some (.str text tt))
  (ret:∀ (h':Heap) (tk':Nat) (oP':Obj) (D:Addr) (plvs:List Value) (K:List (Addr×Obj)),oP'.data=.cell (some (.ref D))->Fr h₀ L h' m->News h₀ L h' ((cP,oP')::K)->(D,LCg.lst plvs)∈K->PlaceIn K plvs (plcs st text.length)->(∀ q∈news,q.1≠cP->q∈K)->Q .next { s with heap:=h',toks:=tk' }) :
  wpAny (model pw_rk0009_01 w) (topW dp un gd sc L fa cd cP cS) (exec x (envW sc L fa cd cP cS)) Q E s:=by
 have LI0:=LI
 refine e1a1 LI fun a0 ho=>?_;clear LI
 have e2:(a0,b,sc)=_:=Option.some.inj (ho.symm.trans (rfl:lawDef=some _))
 injection e2 with e2 e3
 injection e3 with e3 e4
 subst e2 e3 e4
 have e5:x=_:=Option.some.inj (h4.symm.trans (rfl:stAt _ 4=some _))
 subst e5
 clear h4 ho
 obtain ⟨B,F,X,Tp,hkd,hdp,hun⟩:=C
 refine wpAny_Assign_Name ?_ (by with_unfolding_all rfl)
 refine LCg.ListComp_U (F₀:=F) (cl:=[("step",cS)]) (by with_unfolding_all rfl) (by decide) (by rfl) (by decide) (by rfl) ?_
 iterate 13 walk1
 refine LCg.CompSrc.range (n:=text.length) (by rfl) (by k_asm) (by k_asm) (by assumption) (small_one (by omega) (by omega) (by omega) (by omega)) (by rw [rangeSize_nat,Int.sub_zero,Int.toNat_natCast]) (by rw [sizeLine_eq];omega) fun g'=>?_
 refine places_rest (s:=⟨g',_,_,_,_⟩) (news0:=news) LI0 rfl rfl B X Tp hkd hdp hun mS dS s1 s2 (by omega) (fun ys news' O sub D h tk F' N' o1=>?_) text.length 0 [] news (Nat.zero_add _) ⟨rfl,fun k r c h=>by simp at h⟩ fun _ h=>h
 have hDc:∀ q∈news',q.1≠D:=fun q hq=>off1_mem o1 q hq
 refine storeC_f F' N' (c:=cP) (by rfl) (.tail _ (sub _ mP)) dP (fun h2 o' F2 N2 d2=>?_) (by rfl) (by rfl)
 refine ret h2 _ o' D ys _ d2 F2 N2 (List.mem_filter.mpr ⟨.head _,?_⟩) ⟨O.len,fun k r c e=>?_⟩ fun q hq hn=>List.mem_filter.mpr ⟨.tail _ (sub q hq),by simpa using hn⟩
 ·have:=hDc _ (sub _ mP)
  simpa using Ne.symm this
 ·refine e3a2 (O.at_ k r c e) fun q u1 u2 e1 e2=>?_
  refine ⟨q,u1,u2,e1,List.mem_filter.mpr ⟨.tail _ e2,?_⟩⟩
  have:q≠cP:=fun eq=>by
   have z1:=(N' _ (.tail _ e2)).1
   have z2:=(N' _ (.tail _ (sub _ mP))).1
   simp only at z1 z2
   rw [eq,z2] at z1
   rw [Option.some.inj z1] at dP
   cases dP
  simpa using this
end
end
theorem NgB91.gB91:True:=trivial
example:True:=by w_top off;trivial
section
open NgB91
structure RunOk (cels:List Cel) (h:Heap) (toks:List (Str×List Cel)) (fin:Option Value) (its:List Value) (got:Addr) (sv:Value):Prop where
 gt:∃ n',h.get? got=some (listOf its.toArray n')
 ok:GotAll h toks its
 sv:(fin=none/\sv=.none)\/(fin=some .none/\∃ q u1 u2,sv=.ref q/\h.get? q=some (pairObj (.int 0 u1) (.int 0 u2)))\/∃ x∈cels,fin=some (.ref x.lc)/\∃ q,sv=.ref q/\h.get? q=some (pairObj (.int x.row x.u4) (.int x.col x.u1))
theorem RunOk.keep {cels:List Cel} {h h':Heap} {toks:List (Str×List Cel)} {fin:Option Value} {its:List Value} {got:Addr} {sv:Value} {L:Addr} {m:Str->Option Value} (R:RunOk cels h toks fin its got sv) (hn:h.Ns L m) (k:∀ b o,b≠L->h.get? b=some o->h'.get? b=some o):RunOk cels h' toks fin its got sv:=by
 refine e3a3 hn fun oL es ep eL dL _=>?_;clear hn
 have k2:∀ b o,(∀ es ep,o.data≠.dict es ep)->h.get? b=some o->h'.get? b=some o:=fun b o hd e=>k b o (fun hb=>by
  rw [hb,eL] at e
  exact hd es ep (by rw [<- Option.some.inj e];exact dL)) e
 refine ⟨let ⟨n',e⟩:=R.gt;⟨n',k2 _ _ (fun _ _ h=>by cases h) e⟩,⟨R.ok.1,fun i typ cc e=>let ⟨tp,kk,x,a1,a2,a3,a4,a5⟩:=R.ok.2 i typ cc e;⟨tp,kk,x,a1,a2,a3,a4,k2 _ _ (fun _ _ h=>by cases h) a5⟩⟩,?_⟩
 rcases R.sv with h | ⟨h1,q,u1,u2,h2,h3⟩ | ⟨x,hx,h1,q,h2,h3⟩
 ·exact .inl h
 ·exact .inr (.inl ⟨h1,q,u1,u2,h2,k2 _ _ (fun _ _ h=>by cases h) h3⟩)
 ·exact .inr (.inr ⟨x,hx,h1,q,h2,k2 _ _ (fun _ _ h=>by cases h) h3⟩)
section
variable {fa:Addr} {cd:Value} {cP cS:Addr} {b:List Stmt} {sc:Scope} {Q:Flow->Shared->Prop} {E:Value->Shared->Prop}
example:True:=by (k_with "B91" => (fail_if_success (fail_if_success (have:=gB91))));(k_with "k_mem" => k_extra "B91";(first | assumption | exact List.Mem.head _ | (apply List.Mem.tail;k_mem)));(k_with "k_all" => k_extra "B91";assumption);(k_with "call ref" => k_extra "B91";(k_here;k_dflt (refine' run_c ?Y0 ?Y1 ?Y2 ?Y3 ?Y4 ?Y5 ?Y6 ?Y7 ?Y8 ?Y9 ?Y10 ?Y11 ?Y12 ?Y13 ?_;(case Y0=>exact ⟨by k_asm,by k_asm,by k_asm,by k_asm,by first | exact rfl | assumption,by ((try dsimp only [ktrTop,Around.deeper]);omega),by ((try dsimp only [ktrTop,Around.deeper]);omega)⟩);(case Y1=>assumption);(case Y2=>assumption);(case Y3=>assumption);(case Y4=>k_asm);(case Y5=>assumption);(case Y6=>assumption);(case Y7=>assumption);(case Y8=>assumption);(case Y9=>assumption);(case Y10=>assumption);(case Y11=>assumption);(case Y12=>assumption);(case Y13=>assumption);k_whole;intro Y14 Y15 Y16 Y17 Y18 Y19 Y20 Y21 Y22 Y23 Y24 Y25 Y26 Y27 Y28 Y29 Y30 Y31)));(k_with "eval Name" => k_extra "B91";(k_here;k_dflt (refine' ldM2 ?Y0 ?Y1 ?Y2 ?Y3 ?Y4 ?Y5 ?_;(case Y0=>assumption);(case Y1=>exact rfl);(case Y2=>exact rfl);(case Y3=>exact rfl);(case Y4=>((repeat (refine (if_neg (by decide)).trans ?_));first | assumption | exact if_pos rfl));(case Y5=>decide);k_whole)));trivial
set_option maxHeartbeats 4000000 in
theorem w_run {x:Stmt} {oP:Obj} {D:Addr} {text:Str} {tt:Tok} {plvs:List Value} {pls:List (Int×Int)} {n:Nat} {ps:Array Value} {rest:List (Addr×Obj)} {G:List Cel->List (Str×List Cel)->Option Value->Prop} (LI:LawIs b sc) (h5:stAt b 5=some x)
  (C:Cx 550 w p loose mean mg mb dp un sc [] A₀ base h₀ L m s) (XB:(hd.heap_1 w.params).In base) (TB:Top p loose mean mg mb base) (C1:CodeHd h₀ 550 548)
  (N:News h₀ L s.heap ((548,tabObj #[])::rest)) (r2:∀ q∈rest,q.1≠548) (tab:(225,tabObj ps)∈rest) (ets:EmTab emPos ps) (mP:(cP,oP)∈rest) (dP:oP.data=.cell (some (.ref D)))
  (mp:(D,listOf plvs.toArray n)∈rest) (PI:PlaceIn rest plvs pls) (hz:text.length≤800) (hl:pls.length=text.length) (bare:∀ (i:Nat) (x:GenState),s.gens[i]?=some x->x.bare=true)
  (LX:∀ cels,CelT text pls cels->∃ toks fin,Lexed cels toks fin/\toks.length≤900/\G cels toks fin) (w5:m "text" = some (.str text tt))
  (ret:∀ s' cels toks fin its got sv,CelT text pls cels->G cels toks fin->RunOk cels s'.heap toks fin its got sv->Fr h₀ L s'.heap (fun y=>if y = "stopped" then some sv else if y = "got" then some (.ref got) else m y)->(∀ q∈rest,@Ne Nat q.1 225->s'.heap.get? q.1=some q.2)->GrownAt 548 s'.heap->GrownAt 225 s'.heap ->
   s'.os=s.os->s'.drawn=s.drawn->(∀ (i:Nat) (x:GenState),s'.gens[i]?=some x->x.bare=true)->Q .next s') :
  wpAny (model pw_rk0009_01 w) (topW dp un gd sc L fa cd cP cS) (exec x (envW sc L fa cd cP cS)) Q E s:=by
 refine e1a1 LI fun a0 ho=>?_;clear LI
 have e2:(a0,b,sc)=_:=Option.some.inj (ho.symm.trans (rfl:lawDef=some _))
 injection e2 with e2 e3
 injection e3 with e3 e4
 subst e2 e3 e4
 have e5:x=_:=Option.some.inj (h5.symm.trans (rfl:stAt _ 5=some _))
 subst e5
 clear h5 ho
 obtain ⟨B,F,X,Tp,hkd,hdp,hun⟩:=C
 k_steps
 rename RunEnd _ _ _ _ _ _ _=>RE
 rename GrownAt 225 _=>g225
 rename Fr h₀ L _ _=>F1
 obtain ⟨gt,ok,sv,e1,e2⟩:=RE
 rename Shared=>s1
 rename Addr=>got
 rename ∀ q∈rest,_=>kp
 refine wpAny_assign_Tuple rfl ⟨_,e1,rfl,_,rfl⟩ rfl rfl fun h3 hx3=>?_
 replace hx3:Heap.ExtBut s1.heap.objs.size s1.heap h3:=hx3
 have up3:∀ b o,s1.heap.get? b=some o->h3.get? b=some o:=fun b o x=>hx3 b o (Nat.ne_of_lt (Heap.lt_size x)) x
 have F3:=F1.keeps up3
 show wpAny _ _ (do holding [_] (assign _ _ _);do holding [] (assign _ _ _);pure ()) _ _ _
 refine wpAny_bind (wpAny_holding (wpAny_assign_Name (wpAny_storeName_local rfl F3.ns (fun h4 hn4 hs4=>?_) rfl)))
 replace hs4:Heap.SameBut L h3 h4:=hs4
 have F4:=F3.set hn4 hs4
 refine wpAny_bind (wpAny_holding (wpAny_assign_Name (wpAny_storeName_local rfl F4.ns (fun h5 hn5 hs5=>wpAny_pure ?_) rfl)))
 replace hs5:Heap.SameBut L h4 h5:=hs5
 have F5:=F4.set hn5 hs5
 have up:∀ b o,b≠L->s1.heap.get? b=some o->h5.get? b=some o:=fun b o hb e=>(hs5.2 b hb).trans ((hs4.2 b hb).trans (up3 b o e))
 have R:RunOk _ s1.heap _ _ _ _ sv:=⟨gt,ok,e2⟩
 have nL:∀ {P:Addr} {ps:Array Value},s1.heap.get? P=some (tabObj ps)->P≠L:=fun e q=>by
  refine e3a3 F1.ns fun oL es ep eL dL _=>?_
  rw [q,eL] at e
  rw [Option.some.inj e] at dL
  cases dL
 exact ret ⟨h5,s1.gens,s1.drawn,s1.toks+1+1,s1.os⟩ _ _ _ _ _ sv (by assumption) (by assumption) (R.keep F1.ns up) F5 (fun q hq hn=>up _ _ (N _ (.tail _ hq)).2.1 (kp q hq hn)) ⟨_,up _ _ (nL (by assumption)) (by assumption)⟩ (let ⟨ps,e⟩:=g225;⟨ps,up _ _ (nL e) e⟩) (by assumption) (by assumption) (by assumption)
end
end
example:True:=by w_top off;trivial
section
/-! a comprehension over a list of tuples,its target a tuple of names -/
noncomputable def TurnC (h₀:Heap) (L:Addr) (m:Str->Option Value) (s₁:Shared) (I:Addr) (oI:Obj) (C:Addr) (oC:Obj) (D:Addr) (oD:Obj) (J:List Value->List (Addr×Obj)->Prop) (ys:List Value) (s₂:Shared):Prop :=
 ∃ h' tk news',s₂={ s₁ with heap:=h',toks:=tk }/\Fr h₀ L h' m/\News h₀ L h' ((I,oI)::(C,oC)::(D,oD)::news')/\LCg.Off3 I C D news'/\J ys news'
section
open LCg
variable {prog:Program} {A:Around} {E:Value->Shared->Prop}
noncomputable def Z9P:FrZ->Prop:=fun V=>∀ (s:Shared) (elt target iter:PySem.Expr) (ifs:List PySem.Expr) (I:Nat->Shared->Prop) (turn:∀ n s,I n s->wpAny (model (V.fP 0) V.w) (V.fR 0) (pyNext (V.fV 0)) (fun r s₁=>match r with
   | none=>(V.fr 0) (.ok .next) s₁
   | some v=>wpAny (model (V.fP 0) V.w) (V.fR 0) (letOwnedTupleGo target (V.fV 0) v) (fun _ s₀=>wpAny (model (V.fP 0) V.w) (V.fR 0) (assign target (V.fE 0) v) (fun _ s₂ =>
     wpAny (model (V.fP 0) V.w) (V.fR 0) (forIn ifs true fun c r=>if r=true then do let ok <- isTrue c (V.fE 0) (eval c (V.fE 0));pure (ForInStep.yield ok) else pure (ForInStep.yield r)) (fun ok s₃=>if ok=true then wpAny (model (V.fP 0) V.w) (V.fR 0) (eval elt (V.fE 0)) (fun x s₄ =>
      wpAny (model (V.fP 0) V.w) (V.fR 0) (call (.builtin "list.append") [(V.fV 1),x]) (fun _ s₅=>∃ m,m<n/\I m s₅) (notedBy (model (V.fP 0) V.w) (V.fR 0) (V.fE 0) fun e s'=>(V.fr 0) (.error e) s') s₄) (notedBy (model (V.fP 0) V.w) (V.fR 0) (V.fE 0) fun e s'=>(V.fr 0) (.error e) s') s₃
      else ∃ m,m<n/\I m s₃) (notedBy (model (V.fP 0) V.w) (V.fR 0) (V.fE 0) fun e s'=>(V.fr 0) (.error e) s') s₂)
     (notedBy (model (V.fP 0) V.w) (V.fR 0) (V.fE 0) fun e s'=>(V.fr 0) (.error e) s') s₀) (notedBy (model (V.fP 0) V.w) (V.fR 0) (V.fE 0) fun e s'=>(V.fr 0) (.error e) s') s₁) (notedBy (model (V.fP 0) V.w) (V.fR 0) (V.fE 0) fun e s'=>(V.fr 0) (.error e) s') s) (n:Nat) (h:I n s),codeAny (model (V.fP 0) V.w) (V.fR 0) (.compLoop (.ListComp elt [⟨target,iter,ifs,0⟩] (V.fs 0) (V.fp 0)) 0 (V.fV 0) (V.fV 1) (V.fE 0)) (V.fr 0) s
@[irreducible] noncomputable def Z9:FrZ:=pickZ Z9P
theorem Z9c:Z9P Z9:=by
 intro s elt target iter ifs I turn n h
 refine codeAny_loop rfl I (fun n s hI=>?_) n h
 show wpAny _ (Z9.fR 0) ((compTurn (.ListComp elt [⟨target,iter,ifs,0⟩] (Z9.fs 0) (Z9.fp 0)) 0 (Z9.fV 0) (Z9.fV 1) (Z9.fE 0)).onRaise (fun x=>do noteFrame x (Z9.fE 0);theTreesLotGoes x)) _ _ s
 refine wpAny_noted ?_
 rw [compTurn_list]
 refine wpAny_bind (wpAny_standAt (wpAny_bind (wpAny_mono (turn n s hI) (fun r s₁ h₁=>?_) fun _ _ h'=>h')))
 cases r with
 | none=>exact wpAny_pure h₁
 | some v =>
  refine wpAny_bind (wpAny_mono h₁ (fun _ s₀ h₀'=>?_) fun _ _ h'=>h')
  refine wpAny_bind (wpAny_mono h₀' (fun _ s₂ h₂=>?_) fun _ _ h'=>h')
  refine wpAny_bind (wpAny_mono h₂ (fun okb s₃ h₃=>?_) fun _ _ h'=>h')
  cases okb with
  | false=>exact wpAny_pure ⟨rfl,h₃⟩
  | true=>exact wpAny_bind (wpAny_bind (wpAny_mono h₃ (fun x s₄ h₄=>wpAny_bind (wpAny_mono h₄ (fun _ s₅ h₅=>wpAny_pure (wpAny_pure ⟨rfl,h₅⟩)) fun _ _ h'=>h')) fun _ _ h'=>h'))
theorem tc_loop {elt target iter:PySem.Expr} {ifs:List PySem.Expr} {scope:Scope} {pos:Pos} {it acc:Value} {env:Env} {R:Result->Shared->Prop} (I:Nat->Shared->Prop)
  (turn:∀ n s,I n s->wpAny (model prog w) A (pyNext it) (fun r s₁=>match r with
   | none=>R (.ok .next) s₁
   | some v=>wpAny (model prog w) A (letOwnedTupleGo target it v) (fun _ s₀=>wpAny (model prog w) A (assign target env v) (fun _ s₂ =>
     wpAny (model prog w) A (forIn ifs true fun c r=>if r=true then do let ok <- isTrue c env (eval c env);pure (ForInStep.yield ok) else pure (ForInStep.yield r)) (fun ok s₃=>if ok=true then wpAny (model prog w) A (eval elt env) (fun x s₄ =>
      wpAny (model prog w) A (call (.builtin "list.append") [acc,x]) (fun _ s₅=>∃ m,m<n/\I m s₅) (notedBy (model prog w) A env fun e s'=>R (.error e) s') s₄) (notedBy (model prog w) A env fun e s'=>R (.error e) s') s₃
      else ∃ m,m<n/\I m s₃) (notedBy (model prog w) A env fun e s'=>R (.error e) s') s₂)
     (notedBy (model prog w) A env fun e s'=>R (.error e) s') s₀) (notedBy (model prog w) A env fun e s'=>R (.error e) s') s₁) (notedBy (model prog w) A env fun e s'=>R (.error e) s') s)
  (n:Nat) (h:I n s):codeAny (model prog w) A (.compLoop (.ListComp elt [⟨target,iter,ifs,0⟩] scope pos) 0 it acc env) R s:=pickedZ (by with_unfolding_all rfl) Z9c (sfr (sfE (sfV (sfp (sfs (sfR (sfP (frC w Z9.p Z9.loose Z9.mean Z9.mg Z9.mb Z9.dp Z9.un Z9.gd Z9.cn Z9.cs Z9.ca Z9.ccd Z9.cll Z9.outer Z9.A₀ Z9.base Z9.h₀ Z9.L Z9.m Z9.s Z9.E) [prog]) [A]) [scope]) [pos]) [it,acc]) [env]) [R]) s elt target iter ifs I turn n h
variable {env:Env}
noncomputable def Z8P:FrZ->Prop:=fun V=>(fun (E:Value->Shared->Prop) (m:Str->Option Value) (I:Addr) (news:List (Addr×Obj))=>(∀ (elt iter:PySem.Expr) (elts:List PySem.Expr) (ifs:List PySem.Expr) (cl:List (Str×Addr)) (tv:Nat->Array Value) (P:Nat->(Str->Option Value)->Prop) (RR:Value->Addr->Result->Shared->Prop) (S:List (Addr×Obj)->Prop) (J:Nat->List Value->List (Addr×Obj)->Prop) (hh:(V.fR 0).handled=none) (hsz:(V.fv 0).length≤sizeLine) (hcell:∀ y∈(V.fs 0).names,y.2≠.cell) (hkind:(V.fs 0).kind=.function) (src:∀ news h,S news->V.h₀.StaysIn h->News V.h₀ V.L h news->h.IsList (V.fA 1) (V.fv 0).toArray) (tup:∀ (i:Nat) v,(V.fv 0)[i]?=some v->∃ T,v=.ref T/\∀ news h,S news->V.h₀.StaysIn h->News V.h₀ V.L h news->h.IsTuple T (tv i)) (asg:∀ (i:Nat) (C T:Addr) (s:Shared) (m:Str->Option Value) (Q:Unit->Shared->Prop) (E:Value->Shared->Prop),i<(V.fv 0).length->s.heap.IsTuple T (tv i)->s.heap.Ns C m ->
   (∀ h' tk m₂,h'.Ns C m₂->P i m₂->(∀ c o,c≠C->s.heap.get? c=some o->h'.get? c=some o)->Q () { s with heap:=h',toks:=tk })->wpAny (model (V.fP 0) V.w) (V.fR 0) (assign (.Tuple elts (V.fN 0) (V.fp 0)) (compEnvC (V.fs 0) cl C (V.fE 0)) (.ref T)) Q E s) (JS:∀ i ys news,J i ys news->S news) (hit:(V.fZ 0).heap.IsListIter I (V.fA 1) 0) (hli : @LT.lt Nat _ (V.fA 1) I) (F:Fr V.h₀ V.L (V.fZ 0).heap m) (N:News V.h₀ V.L (V.fZ 0).heap news) (hIL:V.L≠I) (hI₀:V.h₀.get? I=none) (off:∀ p∈news,p.1≠I) (j0:J 0 [] news) (turn:∀ (i:Nat) ys I oI C oC D m₂ h tk news (E':Value->Shared->Prop),i<(V.fv 0).length->ys.length≤i->P i m₂->NsObj oC m₂->Fr V.h₀ V.L h m->News V.h₀ V.L h ((I,oI)::(C,oC)::(D,lst ys)::news)->Off3 I C D news->((@Ne Nat I C)/\(@Ne Nat I D)/\(@Ne Nat C D))->J i ys news ->
   wpAny (model (V.fP 0) V.w) (V.fR 0) (forIn ifs true fun c r=>if r=true then do let ok <- isTrue c (compEnvC (V.fs 0) cl C (V.fE 0)) (eval c (compEnvC (V.fs 0) cl C (V.fE 0)));pure (ForInStep.yield ok) else pure (ForInStep.yield r)) (fun ok s₃=>if ok=true then
    wpAny (model (V.fP 0) V.w) (V.fR 0) (eval elt (compEnvC (V.fs 0) cl C (V.fE 0))) (fun y s₄=>TurnC V.h₀ V.L m { (V.fZ 0) with heap:=h,toks:=tk } I oI C oC D (lst ys) (J (i+1)) (ys++[y]) s₄) E' s₃ else TurnC V.h₀ V.L m { (V.fZ 0) with heap:=h,toks:=tk } I oI C oC D (lst ys) (J (i+1)) ys s₃) E' { (V.fZ 0) with heap:=h,toks:=tk }) (hRR:∀ D C h tk m' ys news',Fr V.h₀ V.L h m->News V.h₀ V.L h ((D,lst ys)::news')->Off1 D news'->h.Ns C m'->V.h₀.get? C=none->V.h₀.get? D=none->C≠V.L->D≠V.L->C≠D->(∀ p∈news',p.1≠C)->J (V.fv 0).length ys news'->RR (.ref D) C (.ok .next) { (V.fZ 0) with heap:=h,toks:=tk }),wpAny (model (V.fP 0) V.w) (V.fR 0) (newList []) (fun acc s₃=>wpAny (model (V.fP 0) V.w) (V.fR 0) (newFunctionEnv (V.fs 0) (V.fE 0).globals cl [] (V.fE 0).qual none .none (some (V.fE 0))) (fun cenv s₄ =>
   codeAny (model (V.fP 0) V.w) (V.fR 0) (.compStart (.ListComp elt [⟨.Tuple elts (V.fN 0) (V.fp 0),iter,ifs,0⟩] (V.fs 0) (V.fp 1)) 0 (.ref I) acc { cenv with scope:=relabel (V.fs 0) (V.fE 0) }) (RR acc cenv.locals) s₄) E s₃) E (V.fZ 0):Prop)) V.E V.m (V.fA 0) (V.fL 0)
@[irreducible] noncomputable def Z8:FrZ:=pickZ Z8P
theorem Z8c:Z8P Z8:=by
 intro elt iter elts ifs cl tv P RR S J hh hsz hcell hkind src tup asg JS hit hli F N hIL hI₀ off j0 turn hRR
 refine wpAny_newObj_type (wpAny_newFunctionEnv hcell (by intro y hy;simp at hy) (fun h₁ hns₁ hsb₁=>?_) hkind)
 dsimp only at hns₁ hsb₁ ⊢
 generalize hH2:(Z8.fZ 0).heap.push { cls:=.type "list",dict:=none,data:=.seq ([] : List Value).toArray }=H2 at hns₁ hsb₁ ⊢
 have hC:H2.objs.size=(Z8.fZ 0).heap.objs.size+1:=by rw [<- hH2,Heap.size_push]
 have hDC:(Z8.fZ 0).heap.objs.size≠H2.objs.size:=by rw [hC];exact Nat.ne_of_lt (Nat.lt_succ_self _)
 have below:∀ b,b<(Z8.fZ 0).heap.objs.size->b≠H2.objs.size/\b≠(Z8.fZ 0).heap.objs.size:=fun b hb=>⟨by rw [hC];exact Nat.ne_of_lt (Nat.lt_succ_of_lt hb),Nat.ne_of_lt hb⟩
 have hIlt:(Z8.fA 0)<(Z8.fZ 0).heap.objs.size:=by refine e1a2 hit fun _ e _=>?_;clear hit;exact Heap.lt_size e
 have old:∀ b o,(Z8.fZ 0).heap.get? b=some o->h₁.get? b=some o:=fun b o e=>hsb₁.extBut b o (below b (Heap.lt_size e)).1 (Heap.get?_push_of_some _ (hH2▸Heap.get?_push_of_some _ e))
 have hacc:h₁.get? (Z8.fZ 0).heap.objs.size=some (lst []):=hsb₁.extBut _ _ hDC (Heap.get?_push_of_some _ (hH2▸Heap.get?_push_size _ rfl))
 have hit₁:h₁.IsListIter (Z8.fA 0) (Z8.fA 1) 0:=hit.at fun o e=>old _ o e
 have fresh:∀ a,(Z8.fZ 0).heap.objs.size≤a->(Z8.fZ 0).heap.get? a=none:=fun a ha=>by
  cases e:(Z8.fZ 0).heap.get? a with
  | none=>rfl
  | some o'=>exact absurd (Heap.lt_size e) (Nat.not_lt.mpr ha)
 have fresh₀:∀ a,(Z8.fZ 0).heap.objs.size≤a->Z8.h₀.get? a=none:=fun a ha=>by
  cases e:Z8.h₀.get? a with
  | none=>rfl
  | some o'=>have:=F.keep a o' e;rw [fresh a ha] at this;cases this
 have hD₀:Z8.h₀.get? (Z8.fZ 0).heap.objs.size=none:=fresh₀ _ (Nat.le_refl _)
 have hC₀:Z8.h₀.get? H2.objs.size=none:=fresh₀ _ (by rw [hC];exact Nat.le_succ _)
 have hLlt:Z8.L<(Z8.fZ 0).heap.objs.size:=F.ns.lt
 have hDL:(Z8.fZ 0).heap.objs.size≠Z8.L:=Ne.symm (below Z8.L hLlt).2
 have hCL:H2.objs.size≠Z8.L:=Ne.symm (below Z8.L hLlt).1
 have hCI:(Z8.fA 0)≠H2.objs.size:=(below (Z8.fA 0) hIlt).1
 have hDI:(Z8.fA 0)≠(Z8.fZ 0).heap.objs.size:=(below (Z8.fA 0) hIlt).2
 have off₀:Off3 (Z8.fA 0) H2.objs.size (Z8.fZ 0).heap.objs.size (Z8.fL 0):=Off3.of fun p hp=>⟨off p hp,(below _ (Heap.lt_size (N p hp).1)).1,(below _ (Heap.lt_size (N p hp).1)).2⟩
 have W:=Walks.list (prog:=(Z8.fP 0)) (w:=Z8.w) hh (Z8.fA 0) (Z8.fA 1) (Nat.ne_of_lt hli) (Z8.fv 0).toArray
 have loop:∀ s₃:Shared,s₃={ (Z8.fZ 0) with heap:=h₁,toks:=(Z8.fZ 0).toks+([] : List (Str×Value)).length } ->
   codeAny (model (Z8.fP 0) Z8.w) (Z8.fR 0) (.compLoop (.ListComp elt [⟨.Tuple elts (Z8.fN 0) (Z8.fp 0),iter,ifs,0⟩] (Z8.fs 0) (Z8.fp 1)) 0 (.ref (Z8.fA 0)) (.ref (Z8.fZ 0).heap.objs.size) (compEnvC (Z8.fs 0) cl H2.objs.size (Z8.fE 0)))
    (RR (.ref (Z8.fZ 0).heap.objs.size) H2.objs.size) s₃:=by
  rintro s₃ rfl
  refine tc_loop
   (fun k s'=>∃ h' tk i ys m' news',s'={ (Z8.fZ 0) with heap:=h',toks:=tk }/\i≤(Z8.fv 0).length/\k=(Z8.fv 0).length+1 - i/\ys.length≤i/\h'.IsListIter (Z8.fA 0) (Z8.fA 1) i/\Fr Z8.h₀ Z8.L h' Z8.m/\h'.Ns H2.objs.size m' /\
    News Z8.h₀ Z8.L h' (((Z8.fZ 0).heap.objs.size,lst ys)::news')/\Off3 (Z8.fA 0) H2.objs.size (Z8.fZ 0).heap.objs.size news'/\J i ys news') ?_ ((Z8.fv 0).length+1)
   ⟨h₁,_,0,[],_,(Z8.fL 0),rfl,Nat.zero_le _,rfl,Nat.le_refl _,hit₁,F.keeps old,hns₁,fun p hp=>?_,off₀,j0⟩
  ·intro k s' hq0
   refine e6a3 hq0 fun h' tk i ys m' news' Q35=>?_;clear hq0;obtain rfl:=Q35;intro hi Q36;refine e0a8 Q36 fun Q37=>?_;clear Q36;obtain rfl:=Q37;intro hyl hit' F' hn' N' off' hJ'
   have off3:=off'.mem
   have NN':News Z8.h₀ Z8.L h' news':=fun q hq=>N' q (List.mem_cons_of_mem _ hq)
   have hL':h'.IsList (Z8.fA 1) (Z8.fv 0).toArray:=src _ _ (JS _ _ _ hJ') F'.keep NN'
   by_cases hlt:i<(Z8.fv 0).length
   ·refine W.item i _ _ _ (by simpa using hlt) ⟨hit',hL'⟩ fun v h₃ tk₂ hPv hst₃ hk₃=>?_
    have hv:(Z8.fv 0)[i]?=some v:=by simpa using hPv
    refine e1a2 (tup i v hv) fun T Q38=>?_;obtain rfl:=Q38;intro hT
    refine wpAny_letOwnedTupleGo_listiter hst₃.1 ?_
    have up₃:∀ c o,c≠(Z8.fA 0)->h'.get? c=some o->h₃.get? c=some o:=fun c o hc e=>hk₃ c o (by simpa using hc) e
    have N₃:News Z8.h₀ Z8.L h₃ news':=fun q hq=>⟨up₃ _ _ (off3 q hq).1 (NN' q hq).1,(NN' q hq).2⟩
    have K₃:Z8.h₀.StaysIn h₃:=fun b o e=>up₃ b o (fun q=>by rw [q,hI₀] at e;cases e) (F'.keep b o e)
    refine asg i H2.objs.size T _ m' _ _ hlt (hT _ _ (JS _ _ _ hJ') K₃ N₃) (hn'.at' fun o e=>up₃ _ o (Ne.symm hCI) e) fun h₄ tk₄ m₂ hn₄ hP₄ hs₄=>?_
    have up:∀ c o,c≠(Z8.fA 0)->c≠H2.objs.size->h'.get? c=some o->h₄.get? c=some o:=fun c o h1 h2 e=>hs₄ c o h2 (up₃ c o h1 e)
    refine e1a3 hst₃.1 fun oI eI cI dI=>?_
    have heI:h₄.get? (Z8.fA 0)=some oI:=hs₄ (Z8.fA 0) _ hCI eI
    refine e1a2 (ns_obj hn₄) fun oC heC hoC=>?_
    have F₄:Fr Z8.h₀ Z8.L h₄ Z8.m:=⟨F'.ns.at' fun o e=>up _ o hIL (Ne.symm hCL) e,fun c o e=>up c o (fun q=>by rw [q,hI₀] at e;cases e) (fun q=>by rw [q,hC₀] at e;cases e) (F'.keep c o e),F'.above⟩
    have N₄:News Z8.h₀ Z8.L h₄ (((Z8.fA 0),oI)::(H2.objs.size,oC)::((Z8.fZ 0).heap.objs.size,lst ys)::news'):=fun q hq=>by
     rcases List.mem_cons.mp hq with rfl | hq
     ·exact ⟨heI,Ne.symm hIL,hI₀⟩
     ·rcases List.mem_cons.mp hq with rfl | hq
      ·exact ⟨heC,hCL,hC₀⟩
      ·have z:=N' q hq
       refine ⟨up _ _ ?_ ?_ z.1,z.2⟩
       ·rcases List.mem_cons.mp hq with rfl | hq
        ·exact Ne.symm hDI
        ·exact (off3 q hq).1
       ·rcases List.mem_cons.mp hq with rfl | hq
        ·exact hDC
        ·exact (off3 q hq).2.1
    refine wpAny_mono (turn i ys (Z8.fA 0) oI H2.objs.size oC (Z8.fZ 0).heap.objs.size m₂ h₄ _ news' _ hlt hyl hP₄ hoC F₄ N₄ off' ⟨hCI,hDI,Ne.symm hDC⟩ hJ') (fun okb s₅ h₅=>?_) fun _ _ e=>e
    cases okb with
    | false =>
     refine e3a5 h₅ ?_;clear h₅;intro h₅ tk₅ news₅ Q39;obtain rfl:=Q39;intro F₅ N₅ off₅ J₅
     have zI:=(N₅ ((Z8.fA 0),oI) List.mem_cons_self).1
     have zC:=(N₅ (H2.objs.size,oC) (List.mem_cons_of_mem _ List.mem_cons_self)).1
     exact ⟨(Z8.fv 0).length+1 - (i+1),by omega,h₅,tk₅,i+1,ys,_,news₅,rfl,hlt,rfl,by omega,⟨oI,zI,cI,dI⟩,F₅,hoC.ns zC,fun q hq=>N₅ q (List.mem_cons_of_mem _ (List.mem_cons_of_mem _ hq)),off₅,J₅⟩
    | true =>
     refine wpAny_mono h₅ (fun y s₅ h₅=>?_) fun _ _ e=>e
     refine e3a5 h₅ ?_;clear h₅;intro h₅ tk₅ news₅ Q40;obtain rfl:=Q40;intro F₅ N₅ off₅ J₅
     have zI:=(N₅ ((Z8.fA 0),oI) List.mem_cons_self).1
     have zC:=(N₅ (H2.objs.size,oC) (List.mem_cons_of_mem _ List.mem_cons_self)).1
     have zD:=(N₅ ((Z8.fZ 0).heap.objs.size,lst ys) (List.mem_cons_of_mem _ (List.mem_cons_of_mem _ List.mem_cons_self))).1
     have N₅':News Z8.h₀ Z8.L h₅ news₅:=fun q hq=>N₅ q (List.mem_cons_of_mem _ (List.mem_cons_of_mem _ (List.mem_cons_of_mem _ hq)))
     refine append_at (hsz:=by show ys.toArray.size≤sizeLine;rw [List.size_toArray];exact Nat.le_trans hyl (Nat.le_trans hi hsz)) zD fun h₆ hs₆ hD₆=>?_
     have off5:=off₅.mem
     refine ⟨(Z8.fv 0).length+1 - (i+1),by omega,h₆,tk₅,i+1,ys++[y],_,news₅,rfl,hlt,rfl,by rw [List.length_append,List.length_singleton];omega,⟨oI,hs₆.extBut (Z8.fA 0) oI hDI zI,cI,dI⟩,F₅.change hs₆ hDL hD₀,
      (hoC.ns zC).sameBut hs₆ (Ne.symm hDC),fun q hq=>?_,off₅,J₅⟩
     rcases List.mem_cons.mp hq with rfl | hq
     ·exact ⟨hD₆.trans (congrArg some (lst_snoc ys y)),hDL,hD₀⟩
     ·exact ⟨hs₆.extBut _ _ (off5 q hq).2.2 (N₅' q hq).1,(N₅' q hq).2⟩
   ·have hin:i=(Z8.fv 0).length:=Nat.le_antisymm hi (Nat.not_lt.mp hlt)
    subst hin
    refine W.done _ _ _ (by rw [List.size_toArray];exact ⟨hit',hL'⟩) fun h₂ tk₂ hk₂=>?_
    exact hRR _ _ h₂ tk₂ _ ys news' (fr_but F' hk₂ hIL hI₀) (news_but N' hk₂ fun p hp=>by
     rcases List.mem_cons.mp hp with rfl | hp
     ·exact Ne.symm hDI
     ·exact (off3 p hp).1) off'.one (hn'.at' fun o e=>hk₂ _ o (by simpa using Ne.symm hCI) e) hC₀ hD₀ hCL hDL (Ne.symm hDC) (fun p hp=>(off3 p hp).2.1) hJ'
  ·rcases List.mem_cons.mp hp with rfl | hp
   ·exact ⟨hacc,hDL,hD₀⟩
   ·exact ⟨old _ _ (N p hp).1,(N p hp).2⟩
 exact codeAny_compStart_list (loop _ rfl) (wpAny_pyIter_listiter hit₁ (loop _ rfl))
theorem tup_block {elt iter:PySem.Expr} {elts:List PySem.Expr} {kk:Nat} {tp:Pos} {ifs:List PySem.Expr} {scope:Scope} {cl:List (Str×Addr)} {pos:Pos} {s₂:Shared} {I l:Addr} {its:List Value} {tv:Nat->Array Value} {P:Nat->(Str->Option Value)->Prop} {news:List (Addr×Obj)}
  {RR:Value->Addr->Result->Shared->Prop} (S:List (Addr×Obj)->Prop) (J:Nat->List Value->List (Addr×Obj)->Prop)
  (hh:A.handled=none) (hsz:its.length≤sizeLine) (hcell:∀ y∈scope.names,y.2≠.cell) (hkind:scope.kind=.function)
  (src:∀ news h,S news->h₀.StaysIn h->News h₀ L h news->h.IsList l its.toArray)
  (tup:∀ (i:Nat) v,its[i]?=some v->∃ T,v=.ref T/\∀ news h,S news->h₀.StaysIn h->News h₀ L h news->h.IsTuple T (tv i))
  (asg:∀ (i:Nat) (C T:Addr) (s:Shared) (m:Str->Option Value) (Q:Unit->Shared->Prop) (E:Value->Shared->Prop),i<its.length->s.heap.IsTuple T (tv i)->s.heap.Ns C m ->
   (∀ h' tk m₂,h'.Ns C m₂->P i m₂->(∀ c o,c≠C->s.heap.get? c=some o->h'.get? c=some o)->Q () { s with heap:=h',toks:=tk })->wpAny (model prog w) A (assign (.Tuple elts kk tp) (compEnvC scope cl C env) (.ref T)) Q E s)
  (JS:∀ i ys news,J i ys news->S news) (hit:s₂.heap.IsListIter I l 0) (hli : @LT.lt Nat _ l I)
  (F:Fr h₀ L s₂.heap m) (N:News h₀ L s₂.heap news) (hIL:L≠I) (hI₀:h₀.get? I=none) (off:∀ p∈news,p.1≠I) (j0:J 0 [] news)
  (turn:∀ (i:Nat) ys I oI C oC D m₂ h tk news (E':Value->Shared->Prop),i<its.length->ys.length≤i->P i m₂->NsObj oC m₂->Fr h₀ L h m->News h₀ L h ((I,oI)::(C,oC)::(D,lst ys)::news)->Off3 I C D news->((@Ne Nat I C)/\(@Ne Nat I D)/\(@Ne Nat C D))->J i ys news ->
   wpAny (model prog w) A (forIn ifs true fun c r=>if r=true then do let ok <- isTrue c (compEnvC scope cl C env) (eval c (compEnvC scope cl C env));pure (ForInStep.yield ok) else pure (ForInStep.yield r)) (fun ok s₃=>if ok=true then
    wpAny (model prog w) A (eval elt (compEnvC scope cl C env)) (fun y s₄=>TurnC h₀ L m { s₂ with heap:=h,toks:=tk } I oI C oC D (lst ys) (J (i+1)) (ys++[y]) s₄) E' s₃ else TurnC h₀ L m { s₂ with heap:=h,toks:=tk } I oI C oC D (lst ys) (J (i+1)) ys s₃) E' { s₂ with heap:=h,toks:=tk })
  (hRR:∀ D C h tk m' ys news',Fr h₀ L h m->News h₀ L h ((D,lst ys)::news')->Off1 D news'->h.Ns C m'->h₀.get? C=none->h₀.get? D=none->C≠L->D≠L->C≠D->(∀ p∈news',p.1≠C)->J its.length ys news'->RR (.ref D) C (.ok .next) { s₂ with heap:=h,toks:=tk }) :
  wpAny (model prog w) A (newList []) (fun acc s₃=>wpAny (model prog w) A (newFunctionEnv scope env.globals cl [] env.qual none .none (some env)) (fun cenv s₄ =>
   codeAny (model prog w) A (.compStart (.ListComp elt [⟨.Tuple elts kk tp,iter,ifs,0⟩] scope pos) 0 (.ref I) acc { cenv with scope:=relabel scope env }) (RR acc cenv.locals) s₄) E s₃) E s₂:=pickedZ (by with_unfolding_all rfl) Z8c (sfL (sfv (sfA (sfZ (sfs (sfp (sfN (sfE (sfR (sfP (frC w Z8.p Z8.loose Z8.mean Z8.mg Z8.mb Z8.dp Z8.un Z8.gd Z8.cn Z8.cs Z8.ca Z8.ccd Z8.cll Z8.outer Z8.A₀ Z8.base h₀ L m Z8.s E) [prog]) [A]) [env]) [kk]) [tp,pos]) [scope]) [s₂]) [I,l]) [its]) [news]) elt iter elts ifs cl tv P RR S J hh hsz hcell hkind src tup asg JS hit hli F N hIL hI₀ off j0 turn hRR
theorem tup_ListComp {elt iter:PySem.Expr} {elts:List PySem.Expr} {kk:Nat} {tp:Pos} {ifs:List PySem.Expr} {scope:Scope} {cl:List (Str×Addr)} {pos:Pos} {l:Addr} {its:List Value} {tv:Nat->Array Value} {P:Nat->(Str->Option Value)->Prop} {news:List (Addr×Obj)} {Q:Value->Shared->Prop}
  (S:List (Addr×Obj)->Prop) (J:Nat->List Value->List (Addr×Obj)->Prop) (hh:A.handled=none) (F:Fr h₀ L s.heap m) (N:News h₀ L s.heap news) (hsz:its.length≤sizeLine) 
  (hclos:closureFor scope env=pure cl) (hcell:∀ y∈scope.names,y.2≠.cell) (hkind:scope.kind=.function) (hnames:∀ y∈scope.names,y.2=.local->scope.names.lookup y.1=some .local)
  (src:∀ news h,S news->h₀.StaysIn h->News h₀ L h news->h.IsList l its.toArray)
  (tup:∀ (i:Nat) v,its[i]?=some v->∃ T,v=.ref T/\∀ news h,S news->h₀.StaysIn h->News h₀ L h news->h.IsTuple T (tv i))
  (asg:∀ (i:Nat) (C T:Addr) (s:Shared) (m:Str->Option Value) (Q:Unit->Shared->Prop) (E:Value->Shared->Prop),i<its.length->s.heap.IsTuple T (tv i)->s.heap.Ns C m ->
   (∀ h' tk m₂,h'.Ns C m₂->P i m₂->(∀ c o,c≠C->s.heap.get? c=some o->h'.get? c=some o)->Q () { s with heap:=h',toks:=tk })->wpAny (model prog w) A (assign (.Tuple elts kk tp) (compEnvC scope cl C env) (.ref T)) Q E s)
  (JS:∀ i ys news,J i ys news->S news) (j0:J 0 [] news)
  (ev:∀ (Q:Value->Shared->Prop),(∀ tk,Q (.ref l) { s with toks:=tk })->wpAny (model prog w) A (eval iter env) Q E s)
  (turn:∀ (s₂:Shared) (i:Nat) ys I oI C oC D m₂ h tk news (E':Value->Shared->Prop),i<its.length->ys.length≤i->P i m₂->NsObj oC m₂->Fr h₀ L h m->News h₀ L h ((I,oI)::(C,oC)::(D,lst ys)::news)->Off3 I C D news->((@Ne Nat I C)/\(@Ne Nat I D)/\(@Ne Nat C D))->J i ys news ->
   (s₂.gens=s.gens/\s₂.drawn=s.drawn/\s₂.os=s.os) ->
   wpAny (model prog w) A (forIn ifs true fun c r=>if r=true then do let ok <- isTrue c (compEnvC scope cl C env) (eval c (compEnvC scope cl C env));pure (ForInStep.yield ok) else pure (ForInStep.yield r)) (fun ok s₃=>if ok=true then
    wpAny (model prog w) A (eval elt (compEnvC scope cl C env)) (fun y s₄=>TurnC h₀ L m { s₂ with heap:=h,toks:=tk } I oI C oC D (lst ys) (J (i+1)) (ys++[y]) s₄) E' s₃ else TurnC h₀ L m { s₂ with heap:=h,toks:=tk } I oI C oC D (lst ys) (J (i+1)) ys s₃) E' { s₂ with heap:=h,toks:=tk })
  (done:∀ D h tk ys news',Fr h₀ L h m->News h₀ L h ((D,lst ys)::news')->Off1 D news'->J its.length ys news'->Q (.ref D) { s with heap:=h,toks:=tk })
  (hs:∀ x,foldedSetIterable iter env x=pure x:=by intro _;rfl) :
  wpAny (model prog w) A (eval (.ListComp elt [⟨.Tuple elts kk tp,iter,ifs,0⟩] scope pos) env) Q E s:=by
 rw [eval_ListComp]
 refine wpAny_comprehension_free (use:=none) rfl hs hclos hkind hnames (ev _ fun tk=>?_)
 have hl:=src _ _ (JS _ _ _ j0) F.keep N
 have hlt:l<s.heap.objs.size:=by refine e1a2 hl fun _ e _=>?_;clear hl;exact Heap.lt_size e
 refine wpAny_pyIter_list hl ?_
 refine tup_block (P:=P) (tv:=tv) S J hh hsz hcell hkind src tup asg JS ⟨_,Heap.get?_push_size _ rfl,rfl,rfl⟩ hlt (F.push _) (fun p hp=>⟨Heap.get?_push_of_some _ (N p hp).1,(N p hp).2⟩) (Nat.ne_of_lt F.ns.lt) (next_is_new F) (fun p hp=>Nat.ne_of_lt (Heap.lt_size (N p hp).1)) j0
  (fun i ys I oI C oC D m₂ h tk' news E' h1 h2 h3 h4 h5 h6 h7 h8 h9=>turn _ i ys I oI C oC D m₂ h tk' news E' h1 h2 h3 h4 h5 h6 h7 h8 h9 ⟨rfl,rfl,rfl⟩) ?_
 intro D C h tk' m' ys news' F' N' o1 hn hC₀ hD₀ hCL hDL hCD offC fin
 refine ⟨m',hn,fun h'' hs''=>done D h'' tk' ys news' (F'.change hs'' hCL hC₀) (fun p hp=>?_) o1 fin⟩
 refine ⟨hs''.extBut _ _ ?_ (N' p hp).1,(N' p hp).2⟩
 rcases List.mem_cons.mp hp with rfl | hp
 ·exact Ne.symm hCD
 ·exact offC p hp
end
end
theorem NgB93.gB93:True:=trivial
example:True:=by w_top off;trivial
section
open NgB93
noncomputable def duOf (x:Stmt):Option (Expr×Scope):=(stp x).1[0]?.bind fun e=>(xpp e).1[1]?.bind xlc
noncomputable abbrev quadO (a b c d:Value):Obj:={ cls:=.type "tuple",data:=.seq #[a,b,c,d] }
theorem news_d2nd {h₀ h:Heap} {L:Addr} {x y:Addr×Obj} {K:List (Addr×Obj)} (N:News h₀ L h (x::y::K)):News h₀ L h (x::K):=fun q hq=>N q (by
 rcases List.mem_cons.mp hq with rfl | h
 ·exact .head _
 ·exact .tail _ (.tail _ h))
structure QOk (K:List (Addr×Obj)) (ys:List Value) (pls:List (Int×Int)) (due:DueL):Prop where
 len:ys.length=due.length
 at_:∀ (i:Nat) kd vl k,due[i]?=some (kd,vl,k)->∃ a t1 t2 t3 t4 r c,pls[k]?=some (r,c)/\ys[i]?=some (.ref a)/\(a,quadO (.str kd t1) (.str vl t2) (.int r t3) (.int c t4))∈K
theorem QOk.snoc {K:List (Addr×Obj)} {ys:List Value} {pls:List (Int×Int)} {due:DueL} {a:Addr} {kd vl:Str} {k:Nat} {t1 t2 t3 t4:Tok} {r c:Int} (h:QOk K ys pls due) (hp:pls[k]?=some (r,c)) :
  QOk ((a,quadO (.str kd t1) (.str vl t2) (.int r t3) (.int c t4))::K) (ys++[.ref a]) pls (due++([(kd,vl,k)] : DueL)) where
 len:=by rw [List.length_append,List.length_append,h.len];rfl
 at_:=fun i kd' vl' k' e=>by
  by_cases hl:i<due.length
  ·rw [List.getElem?_append_left hl] at e
   refine e7a3 (h.at_ i kd' vl' k' e) fun a' u1 u2 u3 u4 r' c' e0 e1 e2=>?_
   exact ⟨a',u1,u2,u3,u4,r',c',e0,by rw [List.getElem?_append_left (by rw [h.len];exact hl)];exact e1,.tail _ e2⟩
  ·have hi:i=due.length:=by
    have:=(List.getElem?_eq_some_iff.mp e).1
    rw [List.length_append,List.length_singleton] at this
    omega
   subst hi
   rw [List.getElem?_append_right (Nat.le_refl _),Nat.sub_self] at e
   simp only [List.getElem?_cons_zero,Option.some.injEq,Prod.mk.injEq] at e
   refine e0a3 e fun Q41=>?_;clear e;obtain rfl:=Q41;intro Q42;obtain rfl:=Q42;intro Q43;obtain rfl:=Q43
   exact ⟨a,t1,t2,t3,t4,r,c,hp,by rw [List.getElem?_append_right (by rw [h.len];exact Nat.le_refl _),h.len,Nat.sub_self];rfl,.head _⟩
section
variable {prog:Program} {A:Around} {E:Value->Shared->Prop}
theorem assign3 {env:Env} {a b c:Str} {pa pb pc tp:Pos} {kk:Nat} {T:Addr} {x y z:Value} {m:Str->Option Value} {Q:Unit->Shared->Prop} (hh:A.handled=none) (ht:s.heap.IsTuple T #[x,y,z])
  (ha:env.kindOf a=some .local) (hb:env.kindOf b=some .local) (hc:env.kindOf c=some .local) (hp:(env.scope.kind==.class||(env.scope.kind==.module&&env.locals != env.globals))=false) (hn:s.heap.Ns env.locals m)
  (h:∀ (h':Heap) (tk:Nat),h'.Ns env.locals (fun v=>if v=c then some z else if v=b then some y else if v=a then some x else m v)->(∀ c o,c≠env.locals->s.heap.get? c=some o->h'.get? c=some o)->Q () { s with heap:=h',toks:=tk }) :
  wpAny (model prog w) A (assign (.Tuple [.Name a pa,.Name b pb,.Name c pc] kk tp) env (.ref T)) Q E s:=by
 refine wpAny_assign_Tuple hh ht rfl rfl fun h₁ he₁=>?_
 have hL:env.locals≠s.heap.objs.size:=Nat.ne_of_lt hn.lt
 have hn₁:h₁.Ns env.locals m:=hn.at' fun o e=>he₁ _ o hL e
 have up₁:∀ c o,s.heap.get? c=some o->h₁.get? c=some o:=fun c o e=>he₁ c o (Nat.ne_of_lt (Heap.lt_size e)) e
 show wpAny _ _ (assignInOrder [assign (.Name a pa) env,assign (.Name b pb) env,assign (.Name c pc) env] [x,y,z]) _ _ _
 refine assignInOrder_cons ?_
 refine wpAny_assign_Name (wpAny_storeName_local ha hn₁ (fun h₂ hn₂ hs₂=>?_) hp)
 refine assignInOrder_cons ?_
 refine wpAny_assign_Name (wpAny_storeName_local hb hn₂ (fun h₃ hn₃ hs₃=>?_) hp)
 refine assignInOrder_cons ?_
 refine wpAny_assign_Name (wpAny_storeName_local hc hn₃ (fun h₄ hn₄ hs₄=>?_) hp)
 refine assignInOrder_nil ?_
 exact h h₄ _ hn₄ fun c o hc e=>hs₄.extBut c o hc (hs₃.extBut c o hc (hs₂.extBut c o hc (up₁ c o e)))
theorem assign4 {env:Env} {a b c d:Str} {pa pb pc pd tp:Pos} {kk:Nat} {T:Addr} {x y z v:Value} {m:Str->Option Value} {Q:Unit->Shared->Prop} (hh:A.handled=none) (ht:s.heap.IsTuple T #[x,y,z,v])
  (ha:env.kindOf a=some .local) (hb:env.kindOf b=some .local) (hc:env.kindOf c=some .local) (hd:env.kindOf d=some .local) (hp:(env.scope.kind==.class||(env.scope.kind==.module&&env.locals != env.globals))=false) (hn:s.heap.Ns env.locals m)
  (h:∀ (h':Heap) (tk:Nat),h'.Ns env.locals (fun n=>if n=d then some v else if n=c then some z else if n=b then some y else if n=a then some x else m n)->(∀ c o,c≠env.locals->s.heap.get? c=some o->h'.get? c=some o)->Q () { s with heap:=h',toks:=tk }) :
  wpAny (model prog w) A (assign (.Tuple [.Name a pa,.Name b pb,.Name c pc,.Name d pd] kk tp) env (.ref T)) Q E s:=by
 refine wpAny_assign_Tuple hh ht rfl rfl fun h₁ he₁=>?_
 have hL:env.locals≠s.heap.objs.size:=Nat.ne_of_lt hn.lt
 have hn₁:h₁.Ns env.locals m:=hn.at' fun o e=>he₁ _ o hL e
 have up₁:∀ c o,s.heap.get? c=some o->h₁.get? c=some o:=fun c o e=>he₁ c o (Nat.ne_of_lt (Heap.lt_size e)) e
 show wpAny _ _ (assignInOrder [assign (.Name a pa) env,assign (.Name b pb) env,assign (.Name c pc) env,assign (.Name d pd) env] [x,y,z,v]) _ _ _
 refine assignInOrder_cons ?_
 refine wpAny_assign_Name (wpAny_storeName_local ha hn₁ (fun h₂ hn₂ hs₂=>?_) hp)
 refine assignInOrder_cons ?_
 refine wpAny_assign_Name (wpAny_storeName_local hb hn₂ (fun h₃ hn₃ hs₃=>?_) hp)
 refine assignInOrder_cons ?_
 refine wpAny_assign_Name (wpAny_storeName_local hc hn₃ (fun h₄ hn₄ hs₄=>?_) hp)
 refine assignInOrder_cons ?_
 refine wpAny_assign_Name (wpAny_storeName_local hd hn₄ (fun h₅ hn₅ hs₅=>?_) hp)
 refine assignInOrder_nil ?_
 exact h h₅ _ hn₅ fun c o hc e=>hs₅.extBut c o hc (hs₄.extBut c o hc (hs₃.extBut c o hc (hs₂.extBut c o hc (up₁ c o e))))
end
section
variable {fa:Addr} {cd:Value} {cP cS:Addr} {b:List Stmt} {sc:Scope}
example:True:=by (k_with "B93" => (fail_if_success (fail_if_success (have:=gB93))));(k_with "k_mem" => k_extra "B93";(first | assumption | exact List.Mem.head _ | (apply List.Mem.tail;k_mem)));(k_with "k_all" => k_extra "B93";assumption);(k_with "subscriptTail Name Name ref int" => k_extra "B93";(k_here;(with_reducible show wpAny _ _ (subscriptTail _ _ (Value.ref _) (Value.int _ _)) _ _ _);k_dflt (refine' itemAt ?Y0 ?Y1 ?Y2 ?Y3 ?_ ?Y4;(case Y4=>with_unfolding_all rfl);(case Y0=>k_asm);(case Y1=>k_mem);(case Y2=>assumption);(case Y3=>omega);k_whole)));trivial
set_option maxHeartbeats 4000000 in
theorem due_turn {x:Stmt} {e:Expr} {sc2:Scope} {I C D PA q:Addr} {oI oC oP:Obj} {ys plvs:List Value} {k n:Nat} {r c:Int} {kd vl:Str} {u1 u2 t1 t2 t3:Tok} {news:List (Addr×Obj)} {m₂:Str->Option Value} {Q E:Value->Shared->Prop} (LI:LawIs b sc) (h6:stAt b 6=some x) (hp:duOf x=some (e,sc2))
  (B:Cx 550 w p loose mean mg mb dp un sc [] A₀ base h₀ L m s)
  (N:News h₀ L s.heap ((I,oI)::(C,oC)::(D,LCg.lst ys)::news)) (hC:LCg.NsObj oC m₂) (h1:m₂ "kind" = some (.str kd t1)) (h2:m₂ "val" = some (.str vl t2)) (h3:m₂ "k" = some (.int (k:Int) t3)) (mP:(cP,oP)∈news) (dP:oP.data=.cell (some (.ref PA)))
  (mp:(PA,listOf plvs.toArray n)∈news) (hq:plvs[k]?=some (.ref q)) (mq:(q,pairObj (.int r u1) (.int c u2))∈news) (kz:k≤1000)
  (ret:∀ (h':Heap) (tk':Nat) (a:Addr) (v1 v2 v3 v4:Tok),Fr h₀ L h' m->News h₀ L h' ((a,quadO (.str kd v1) (.str vl v2) (.int r v3) (.int c v4))::(I,oI)::(C,oC)::(D,LCg.lst ys)::news)->LCg.Off3 I C D [(a,quadO (.str kd v1) (.str vl v2) (.int r v3) (.int c v4))]->Q (.ref a) { s with heap:=h',toks:=tk' }) :
  wpAny (model pw_rk0009_01 w) (topW dp un gd sc L fa cd cP cS) (eval e (compEnvC sc2 [("places",cP)] C (envW sc L fa cd cP cS))) Q E s:=by
 refine e1a1 LI fun a0 ho=>?_;clear LI
 have e2:(a0,b,sc)=_:=Option.some.inj (ho.symm.trans (rfl:lawDef=some _))
 injection e2 with e2 e3
 injection e3 with e3 e4
 subst e2 e3 e4
 have e5:x=_:=Option.some.inj (h6.symm.trans (rfl:stAt _ 6=some _))
 subst e5
 have e5:(e,sc2)=_:=Option.some.inj (hp.symm.trans (rfl:duOf _=some _))
 injection e5 with e5 e6
 subst e5 e6
 clear h6 hp ho
 obtain ⟨B,F,X,T,hkd,hdp,hun⟩:=B
 k_steps
 rename News h₀ L _ _=>kN
 refine ret _ _ _ _ _ _ _ (by k_asm) (news_d2nd kN) ?_
 refine ⟨⟨?_,?_,?_⟩,trivial⟩ <;> k_ne
theorem six_shape {x:Stmt} (LI:LawIs b sc) (h6:stAt b 6=some x):∃ e i1 i2 i3 i4 kk tp sc2 pos p0 p1 p2 bd,x=.If (.Compare (.Name "got" p0) [.NotEq] [.ListComp e [⟨.Tuple [.Name "kind" i1,.Name "val" i2,.Name "k" i3] kk tp,.Name "due" i4,[],0⟩] sc2 pos] p1) bd [] p2/\duOf x=some (e,sc2) /\
  (∀ L fa cd cP cS,closureFor sc2 (envW sc L fa cd cP cS)=pure ([("places",cP)] : List (Str×Addr)))/\(∀ y∈sc2.names,y.2≠.cell)/\sc2.kind=.function/\(∀ y∈sc2.names,y.2=.local->sc2.names.lookup y.1=some .local) /\
  (∀ L fa cd cP cS C,(compEnvC sc2 [("places",cP)] C (envW sc L fa cd cP cS)).kindOf "kind" = some .local/\(compEnvC sc2 [("places",cP)] C (envW sc L fa cd cP cS)).kindOf "val" = some .local/\(compEnvC sc2 [("places",cP)] C (envW sc L fa cd cP cS)).kindOf "k" = some .local /\
   ((compEnvC sc2 [("places",cP)] C (envW sc L fa cd cP cS)).scope.kind=.function)) /\
  (∀ L fa cd cP cS,(envW sc L fa cd cP cS).kindOf "due" = some .local/\∀ y,foldedSetIterable (.Name "due" i4) (envW sc L fa cd cP cS) y=pure y):=by
 refine e1a1 LI fun a0 ho=>?_;clear LI
 have e2:(a0,b,sc)=_:=Option.some.inj (ho.symm.trans (rfl:lawDef=some _))
 injection e2 with e2 e3
 injection e3 with e3 e4
 subst e2 e3 e4
 have e5:x=_:=Option.some.inj (h6.symm.trans (rfl:stAt _ 6=some _))
 subst e5
 exact ⟨_,_,_,_,_,_,_,_,_,_,_,_,_,rfl,rfl,fun _ _ _ _ _=>by with_unfolding_all rfl,by decide,rfl,by decide,fun _ _ _ _ _ _=>⟨rfl,rfl,rfl,rfl⟩,fun _ _ _ _ _=>⟨rfl,fun _=>rfl⟩⟩
noncomputable def Z50P:FrZ->Prop:=fun V=>∀ (m:Str->Option Value) (s:Shared) (e:Expr) (dv:List Value) (pls:List (Int×Int)) (due:DueL) (news0:List (Addr×Obj)) (Q E:Value->Shared->Prop) (LI:LawIs (V.fB 0) (V.fs 0)) (h6:stAt (V.fB 0) 6=some (V.fm 0)) (hp:duOf (V.fm 0)=some (e,(V.fs 1))) (g1:closureFor (V.fs 1) (envW (V.fs 0) V.L (V.fA 0) (V.fV 0) (V.fA 1) (V.fA 2))=pure ([("places",(V.fA 1))] : List (Str×Addr))) (g2:∀ y∈(V.fs 1).names,y.2≠.cell) (g3:(V.fs 1).kind=.function) (g4:∀ y∈(V.fs 1).names,y.2=.local->(V.fs 1).names.lookup y.1=some .local) (g5:∀ C,(compEnvC (V.fs 1) [("places",(V.fA 1))] C (envW (V.fs 0) V.L (V.fA 0) (V.fV 0) (V.fA 1) (V.fA 2))).kindOf "kind" = some .local/\(compEnvC (V.fs 1) [("places",(V.fA 1))] C (envW (V.fs 0) V.L (V.fA 0) (V.fV 0) (V.fA 1) (V.fA 2))).kindOf "val" = some .local/\(compEnvC (V.fs 1) [("places",(V.fA 1))] C (envW (V.fs 0) V.L (V.fA 0) (V.fV 0) (V.fA 1) (V.fA 2))).kindOf "k" = some .local/\((compEnvC (V.fs 1) [("places",(V.fA 1))] C (envW (V.fs 0) V.L (V.fA 0) (V.fV 0) (V.fA 1) (V.fA 2))).scope.kind=.function)) (g6:(envW (V.fs 0) V.L (V.fA 0) (V.fV 0) (V.fA 1) (V.fA 2)).kindOf "due" = some .local/\∀ y,foldedSetIterable (.Name "due" (V.fp 3)) (envW (V.fs 0) V.L (V.fA 0) (V.fV 0) (V.fA 1) (V.fA 2)) y=pure y) (B:Cx 550 V.w V.p V.loose V.mean V.mg V.mb V.dp V.un (V.fs 0) [] V.A₀ V.base V.h₀ V.L m s) (N:News V.h₀ V.L s.heap news0) (mP:((V.fA 1),(V.fO 0))∈news0) (dP:(V.fO 0).data=.cell (some (.ref (V.fA 3)))) (mp:((V.fA 3),listOf (V.fv 0).toArray (V.fN 1))∈news0) (PI:PlaceIn news0 (V.fv 0) pls) (md:((V.fA 4),listOf dv.toArray (V.fN 2))∈news0) (DU:DueOk news0 dv due) (hk:∀ q∈due,q.2.2<pls.length) (pz:pls.length≤1000) (dz:due.length≤1000) (w2:m "due" = some (.ref (V.fA 4))) (ret:∀ (h':Heap) (tk':Nat) (D:Addr) (ys:List Value) (K:List (Addr×Obj)),Fr V.h₀ V.L h' m->News V.h₀ V.L h' ((D,LCg.lst ys)::K)->(∀ q∈news0,q∈K)->QOk K ys pls due->Q (.ref D) { s with heap:=h',toks:=tk' }),wpAny (model pw_rk0009_01 V.w) (topW V.dp V.un V.gd (V.fs 0) V.L (V.fA 0) (V.fV 0) (V.fA 1) (V.fA 2)) (eval (.ListComp e [⟨.Tuple [.Name "kind" (V.fp 0),.Name "val" (V.fp 1),.Name "k" (V.fp 2)] (V.fN 0) (V.fp 4),.Name "due" (V.fp 3),[],0⟩] (V.fs 1) (V.fp 5)) (envW (V.fs 0) V.L (V.fA 0) (V.fV 0) (V.fA 1) (V.fA 2))) Q E s
@[irreducible] noncomputable def Z50:FrZ:=pickZ Z50P
theorem Z50c:Z50P Z50:=by
 intro m s e dv pls due news0 Q E LI h6 hp g1 g2 g3 g4 g5 g6 B N mP dP mp PI md DU hk pz dz w2 ret
 have F:=B.F
 have ent:∀ i,i<dv.length->∃ kd vl k,due[i]?=some (kd,vl,k):=fun i hi=>by
  obtain ⟨⟨kd,vl,k⟩,e⟩:∃ y,due[i]?=some y:=⟨_,List.getElem?_eq_getElem (by rw [<- DU.len];exact hi)⟩
  exact ⟨kd,vl,k,e⟩
 have vals:∀ i,∃ tv:Array Value,i<dv.length->∃ kd vl k T t1 t2 t3,due[i]?=some (kd,vl,k)/\dv[i]?=some (.ref T)/\tv=#[.str kd t1,.str vl t2,.int ((k:Nat):Int) t3]/\(T,triO (.str kd t1) (.str vl t2) (.int ((k:Nat):Int) t3))∈news0:=fun i=>by
  by_cases hi:i<dv.length
  ·refine e3a1 (ent i hi) fun kd vl k e=>?_
   refine e4a2 (DU.at_ i kd vl k e) fun T t1 t2 t3 e1 e2=>?_
   exact ⟨_,fun _=>⟨kd,vl,k,T,t1,t2,t3,e,e1,rfl,e2⟩⟩
  ·exact ⟨#[],fun h=>absurd h hi⟩
 obtain ⟨tv,htv⟩:∃ tv:Nat->Array Value,∀ i,i<dv.length->∃ kd vl k T t1 t2 t3,due[i]?=some (kd,vl,k)/\dv[i]?=some (.ref T)/\tv i=#[.str kd t1,.str vl t2,.int ((k:Nat):Int) t3]/\(T,triO (.str kd t1) (.str vl t2) (.int ((k:Nat):Int) t3))∈news0 :=
  ⟨fun i=>Classical.choose (vals i),fun i hi=>Classical.choose_spec (vals i) hi⟩
 refine tup_ListComp (P:=fun i m₂=>∃ kd vl k t1 t2 t3,due[i]?=some (kd,vl,k)/\m₂ "kind" = some (.str kd t1)/\m₂ "val" = some (.str vl t2)/\m₂ "k" = some (.int ((k:Nat):Int) t3)) (tv:=tv) (l:=(Z50.fA 4)) (its:=dv) (cl:=[("places",(Z50.fA 1))])
  (fun news=>∀ q∈news0,q∈news) (fun i ys news=>(∀ q∈news0,q∈news)/\QOk news ys pls (due.take i)) rfl F N (by rw [sizeLine_eq,DU.len];omega) g1 g2 g3 g4 ?_ ?_ ?_ (fun _ _ _ h=>h.1) ⟨fun _ h=>h,rfl,fun i kd vl k e=>by simp at e⟩ ?_ ?_ ?_ g6.2
 ·intro news h hS _ N'
  exact News.isList N' (hS _ md)
 ·intro i v hv
  have hi:i<dv.length:=(List.getElem?_eq_some_iff.mp hv).1
  refine e7a4 (htv i hi) fun kd vl k T t1 t2 t3 e1 e2 e3 e4=>?_
  rw [e2] at hv
  refine ⟨T,(Option.some.inj hv).symm,fun news h hS _ N'=>?_⟩
  rw [e3]
  exact ⟨_,(N' _ (hS _ e4)).1,rfl,_,rfl⟩
 ·intro i C T s m Q E hi hT hn h
  refine e7a4 (htv i hi) fun kd vl k T' t1 t2 t3 e1 e2 e3 e4=>?_
  rw [e3] at hT
  refine e0a4 (g5 C) fun k1 k2 k3 k4=>?_
  refine assign3 (env:=compEnvC (Z50.fs 1) [("places",(Z50.fA 1))] C (envW (Z50.fs 0) Z50.L (Z50.fA 0) (Z50.fV 0) (Z50.fA 1) (Z50.fA 2))) rfl hT k1 k2 k3 (by rw [k4];rfl) hn fun h' tk hn' hk'=>?_
  exact h h' tk _ hn' ⟨kd,vl,k,t1,t2,t3,e1,(if_neg (by decide)).trans ((if_neg (by decide)).trans (if_pos rfl)),(if_neg (by decide)).trans (if_pos rfl),if_pos rfl⟩ hk'
 ·intro Q h
  exact ldM2 F B.hk g6.1 rfl w2 (by decide) (h _)
 ·intro s₂ i ys I oI C oC D m₂ h tk news E' hi hyl hq0 hC F' N' off ne hq1 hq2
  obtain ⟨kd,vl,k,t1,t2,t3,e1,e2,e3,e4⟩:=hq0
  refine e0a2 hq1 fun sub O=>?_;clear hq1
  refine e0a3 hq2 fun a1 a2 a3=>?_;clear hq2
  refine wpAny_tests_nil ?_
  rw [if_pos rfl]
  have kl:=hk _ (List.mem_of_getElem? e1)
  simp only at kl
  obtain ⟨⟨r,c⟩,hrc⟩:∃ y,pls[k]?=some y:=⟨_,List.getElem?_eq_getElem kl⟩
  refine e3a2 (PI.at_ k r c hrc) fun q u1 u2 q1 q2=>?_
  refine due_turn (s:={ s₂ with heap:=h,toks:=tk }) LI h6 hp ⟨B.B,F',B.X,B.T,B.hk,B.hdp,B.hun⟩ N' hC e2 e3 e4 (sub _ mP) dP (sub _ mp) q1 (sub _ q2) (by omega) fun h' tk' a v1 v2 v3 v4 F2 N2 o2=>?_
  refine ⟨h',tk',(a,quadO (.str kd v1) (.str vl v2) (.int r v3) (.int c v4))::news,rfl,F2,fun z hz=>N2 z ?_,off3_app o2 off,fun z hz=>.tail _ (sub z hz),?_⟩
  ·exact mv4 hz
  ·rw [List.take_add_one,e1]
   exact O.snoc hrc
 ·intro D h tk ys news' F' N' o1 hq0
  refine e0a2 hq0 fun sub O=>?_;clear hq0
  rw [DU.len,List.take_length] at O
  exact ret h tk D ys news' F' N' sub O
theorem due_comp {x:Stmt} {e:Expr} {i1 i2 i3 i4 tp pos:Pos} {kk:Nat} {sc2:Scope} {PA duA:Addr} {oP:Obj} {plvs dv:List Value} {pls:List (Int×Int)} {n dn:Nat} {due:DueL} {news0:List (Addr×Obj)} {Q E:Value->Shared->Prop} (LI:LawIs b sc) (h6:stAt b 6=some x) (hp:duOf x=some (e,sc2))
  (g1:closureFor sc2 (envW sc L fa cd cP cS)=pure ([("places",cP)] : List (Str×Addr))) (g2:∀ y∈sc2.names,y.2≠.cell) (g3:sc2.kind=.function) (g4:∀ y∈sc2.names,y.2=.local->sc2.names.lookup y.1=some .local)
  (g5:∀ C,(compEnvC sc2 [("places",cP)] C (envW sc L fa cd cP cS)).kindOf "kind" = some .local/\(compEnvC sc2 [("places",cP)] C (envW sc L fa cd cP cS)).kindOf "val" = some .local/\(compEnvC sc2 [("places",cP)] C (envW sc L fa cd cP cS)).kindOf "k" = some .local/\((compEnvC sc2 [("places",cP)] C (envW sc L fa cd cP cS)).scope.kind=.function))
  (g6:(envW sc L fa cd cP cS).kindOf "due" = some .local/\∀ y,foldedSetIterable (.Name "due" i4) (envW sc L fa cd cP cS) y=pure y)
  (B:Cx 550 w p loose mean mg mb dp un sc [] A₀ base h₀ L m s) (N:News h₀ L s.heap news0) (mP:(cP,oP)∈news0) (dP:oP.data=.cell (some (.ref PA))) (mp:(PA,listOf plvs.toArray n)∈news0) (PI:PlaceIn news0 plvs pls)
  (md:(duA,listOf dv.toArray dn)∈news0) (DU:DueOk news0 dv due) (hk:∀ q∈due,q.2.2<pls.length) (pz:pls.length≤1000) (dz:due.length≤1000) (w2:m "due" = some (.ref duA))
  (ret:∀ (h':Heap) (tk':Nat) (D:Addr) (ys:List Value) (K:List (Addr×Obj)),Fr h₀ L h' m->News h₀ L h' ((D,LCg.lst ys)::K)->(∀ q∈news0,q∈K)->QOk K ys pls due->Q (.ref D) { s with heap:=h',toks:=tk' }) :
  wpAny (model pw_rk0009_01 w) (topW dp un gd sc L fa cd cP cS) (eval (.ListComp e [⟨.Tuple [.Name "kind" i1,.Name "val" i2,.Name "k" i3] kk tp,.Name "due" i4,[],0⟩] sc2 pos) (envW sc L fa cd cP cS)) Q E s:=pickedZ (by with_unfolding_all rfl) Z50c (sfv (sfO (sfN (sfp (sfm (sfs (sfB (sfV (sfA (frC w p loose mean mg mb dp un gd Z50.cn Z50.cs Z50.ca Z50.ccd Z50.cll Z50.outer A₀ base h₀ L Z50.m Z50.s Z50.E) [fa,cP,cS,PA,duA]) [cd]) [b]) [sc,sc2]) [x]) [i1,i2,i3,i4,tp,pos]) [kk,n,dn]) [oP]) [plvs]) m s e dv pls due news0 Q E LI h6 hp g1 g2 g3 g4 g5 g6 B N mP dP mp PI md DU hk pz dz w2 ret
end
end
example:True:=by w_top off;trivial
section
theorem readsAll_ex {h:Heap} : ∀ (vs:List Value) (ds:List PyData),vs.length=ds.length->(∀ (i:Nat) v d,vs[i]?=some v->ds[i]?=some d->∃ as,Reads h v d as)->∃ as,ReadsAll h vs ds as
 | [],[],_,_=>⟨_,.nil⟩
 | [],_::_,h,_=>by simp at h
 | _::_,[],h,_=>by simp at h
 | v::vs,d::ds,hl,h=>by
  refine e1a1 (h 0 v d rfl rfl) fun as r=>?_
  refine e1a1 (readsAll_ex vs ds (by simpa using hl) fun i v d e1 e2=>h (i+1) v d (by simpa using e1) (by simpa using e2)) fun bs r2=>?_
  exact ⟨_,.cons r r2⟩
noncomputable abbrev quadD (kd vl:Str) (r c:Int):PyData:=.tuple [.str kd,.str vl,.int r,.int c]
noncomputable def dueData (pls:List (Int×Int)) (due:DueL):List PyData:=due.map fun q=>quadD q.1 q.2.1 (pls[q.2.2]?.getD (0,0)).1 (pls[q.2.2]?.getD (0,0)).2
theorem reads_quad {h:Heap} {a:Addr} {kd vl:Str} {r c:Int} {t1 t2 t3 t4:Tok} (e:h.get? a=some (quadO (.str kd t1) (.str vl t2) (.int r t3) (.int c t4))):∃ as,Reads h (.ref a) (quadD kd vl r c) as :=
 ⟨_,.tuple e rfl rfl (.cons (.str _ _) (.cons (.str _ _) (.cons (.int _ _) (.cons (.int _ _) .nil))))⟩
theorem reads_due {h₀ h:Heap} {L D:Addr} {ys:List Value} {K:List (Addr×Obj)} {pls:List (Int×Int)} {due:DueL} (N:News h₀ L h ((D,LCg.lst ys)::K)) (O:QOk K ys pls due):∃ as,Reads h (.ref D) (.list (dueData pls due)) as:=by
 refine e1a1 (readsAll_ex (h:=h) ys (dueData pls due) (by rw [O.len];simp [dueData]) fun i v d e1 e2=>by
  unfold dueData at e2
  rw [List.getElem?_map] at e2
  refine e1a2 (Option.map_eq_some_iff.mp e2) fun Q44 e3 Q45=>?_;obtain rfl:=Q45;obtain ⟨kd,vl,k⟩:=Q44
  refine e7a3 (O.at_ i kd vl k e3) fun a t1 t2 t3 t4 r c f1 f2 f3=>?_
  rw [e1] at f2
  rw [Option.some.inj f2]
  simp only [f1,Option.getD_some]
  exact reads_quad (N _ (.tail _ f3)).1) fun as r=>?_
 exact ⟨_,.list (N _ (.head _)).1 rfl rfl r⟩
structure TokDue (toks:List (Str×List Cel)) (due:DueL) (cels:List Cel):Prop where
 len:toks.length=due.length
 at_:∀ (i:Nat) typ cc,toks[i]?=some (typ,cc)->∃ k x,due[i]?=some (typ,catS cc,k)/\cc.head?=some x/\cels[k]?=some x
theorem reads_got {h:Heap} {T:Str} {pls:List (Int×Int)} {cels:List Cel} {toks:List (Str×List Cel)} {fin:Option Value} {its:List Value} {got:Addr} {sv:Value} {due:DueL} (CT:CelT T pls cels) (R:RunOk cels h toks fin its got sv) (TD:TokDue toks due cels):∃ as,Reads h (.ref got) (.list (dueData pls due)) as:=by
 refine e1a1 R.gt fun n' e=>?_
 refine e1a1 (readsAll_ex (h:=h) its (dueData pls due) (by rw [R.ok.1,TD.len];simp [dueData]) fun i v d e1 e2=>by
  unfold dueData at e2
  rw [List.getElem?_map] at e2
  refine e1a2 (Option.map_eq_some_iff.mp e2) fun Q46 e3 Q47=>?_;obtain rfl:=Q47;obtain ⟨kd,vl,k⟩:=Q46
  obtain ⟨⟨typ,cc⟩,e4⟩:∃ y,toks[i]?=some y:=⟨_,List.getElem?_eq_getElem (by rw [TD.len];exact (List.getElem?_eq_some_iff.mp e3).1)⟩
  refine e3a5 (R.ok.2 i typ cc e4) fun tp kk x f1 f2 f3 f4 f5=>?_
  refine e2a3 (TD.at_ i typ cc e4) fun k' x' g1 g2 g3=>?_
  rw [e3] at g1
  simp only [Option.some.injEq,Prod.mk.injEq] at g1
  refine e0a3 g1 fun Q48=>?_;clear g1;obtain rfl:=Q48;intro Q49;obtain rfl:=Q49;intro Q0;obtain rfl:=Q0
  rw [f2] at g2
  obtain rfl:=Option.some.inj g2
  refine e1a3 (CT.at_ k x g3) fun c _ _ hp=>?_
  rw [e1] at f1
  rw [Option.some.inj f1]
  simp only [hp,Option.getD_some]
  rw [<- f3,<- f4]
  exact reads_quad f5) fun as r=>?_
 exact ⟨_,.list e rfl rfl r⟩
theorem can_all:∀ ds:List PyData,(∀ d∈ds,d.canLay0=true)->PyData.canLayAll0 ds=true
 | [],_=>rfl
 | d::ds,h=>by
  rw [PyData.canLayAll0,h d (.head _),can_all ds fun x hx=>h x (.tail _ hx)]
  rfl
theorem depth_all (n:Nat):∀ ds:List PyData,(∀ d∈ds,d.depth≤n)->PyData.depthAll ds≤n
 | [],_=>by rw [PyData.depthAll];exact Nat.zero_le _
 | d::ds,h=>by
  rw [PyData.depthAll]
  exact Nat.max_le.mpr ⟨h d (.head _),depth_all n ds fun x hx=>h x (.tail _ hx)⟩
theorem quad_ok {kd vl:Str} {r c:Int} (h1:PyData.strOk kd=true) (h2:PyData.strOk vl=true):(quadD kd vl r c).canLay0=true/\(quadD kd vl r c).depth≤1:=by
 refine ⟨?_,?_⟩
 ·simp only [PyData.canLay0,PyData.canLayAll0,h1,h2,Bool.and_self]
 ·simp only [PyData.depth,PyData.depthAll];decide
theorem due_shaped {pls:List (Int×Int)} {due:DueL} (h:∀ q∈due,PyData.strOk q.1=true/\PyData.strOk q.2.1=true):SeqAt.shaped (.list (dueData pls due))=true/\PyData.eqv (.list (dueData pls due)) (.list (dueData pls due))=true:=by
 have ok:∀ d∈dueData pls due,d.canLay0=true/\d.depth≤1:=fun d hd=>by
  refine e1a2 (List.mem_map.mp hd) fun q hq Q1=>?_;obtain rfl:=Q1
  exact quad_ok (h q hq).1 (h q hq).2
 have c:(PyData.list (dueData pls due)).canLay0=true:=by
  rw [PyData.canLay0];exact can_all _ fun d hd=>(ok d hd).1
 have dp:(PyData.list (dueData pls due)).depth≤64:=by
  rw [PyData.depth]
  have:=depth_all 1 _ fun d hd=>(ok d hd).2
  omega
 exact ⟨by unfold SeqAt.shaped;rw [c,decide_eq_true dp];rfl,PySem.SeqAt.eqv_refl _ c⟩
section
variable {fa:Addr} {cd:Value} {cP cS:Addr} {b:List Stmt} {sc:Scope}
noncomputable def Z65P:FrZ->Prop:=fun V=>∀ (sc:Scope) (x:Stmt) (LI:LawIs (V.fB 0) sc) (h6:stAt (V.fB 0) 6=some x) (B:Cx 550 V.w V.p V.loose V.mean V.mg V.mb V.dp V.un sc [] V.A₀ V.base V.h₀ V.L V.m V.s) (N:News V.h₀ V.L V.s.heap (V.fL 0)) (mP:((V.fA 1),(V.fO 0))∈(V.fL 0)) (dP:(V.fO 0).data=.cell (some (.ref (V.fA 3)))) (mp:((V.fA 3),listOf (V.fv 0).toArray (V.fN 0))∈(V.fL 0)) (PI:PlaceIn (V.fL 0) (V.fv 0) (V.fi 0)) (md:((V.fA 4),listOf (V.fv 1).toArray (V.fN 1))∈(V.fL 0)) (DU:DueOk (V.fL 0) (V.fv 1) (V.fd 0)) (hk:∀ q∈(V.fd 0),q.2.2<(V.fi 0).length) (pz:(V.fi 0).length≤1000) (dz:(V.fd 0).length≤1000) (w2:V.m "due" = some (.ref (V.fA 4))) (w3:V.m "got" = some (.ref (V.fA 5))) (so:∀ q∈(V.fd 0),PyData.strOk q.1=true/\PyData.strOk q.2.1=true) (HG:∀ h,V.h₀.StaysIn h->News V.h₀ V.L h (V.fL 0)->∃ as,Reads h (.ref (V.fA 5)) (.list (dueData (V.fi 0) (V.fd 0))) as) (ret:∀ (h':Heap) (tk':Nat),Fr V.h₀ V.L h' V.m->News V.h₀ V.L h' (V.fL 0)->(V.fF 0) .next { V.s with heap:=h',toks:=tk' }),wpAny (model pw_rk0009_01 V.w) (topW V.dp V.un V.gd sc V.L (V.fA 0) (V.fV 0) (V.fA 1) (V.fA 2)) (exec x (envW sc V.L (V.fA 0) (V.fV 0) (V.fA 1) (V.fA 2))) (V.fF 0) V.E V.s
@[irreducible] noncomputable def Z65:FrZ:=pickZ Z65P
set_option maxHeartbeats 4000000 in
theorem Z65c:Z65P Z65:=by
 intro sc x LI h6 B N mP dP mp PI md DU hk pz dz w2 w3 so HG ret
 refine e8a1 (six_shape LI h6) fun e i1 i2 i3 i4 kk tp sc2 Q2=>?_;refine e5a8 Q2 fun pos p0 p1 p2 bd Q3=>?_;clear Q2;obtain rfl:=Q3;intro hd g1 g2 g3 g4 g5 g6
 have F:=B.F
 have g2':(envW sc Z65.L (Z65.fA 0) (Z65.fV 0) (Z65.fA 1) (Z65.fA 2)).kindOf "got" = some .local:=by
  refine e1a1 LI fun a0 ho=>?_;clear LI
  have e2:(a0,(Z65.fB 0),sc)=_:=Option.some.inj (ho.symm.trans (rfl:lawDef=some _))
  injection e2 with e2 e3
  injection e3 with e3 e4
  subst e4
  rfl
 have hsk:=B.hk
 iterate 2 walk1
 refine ldM2 F hsk g2' rfl w3 (by decide) ?_
 refine due_comp LI h6 hd (g1 _ _ _ _ _) g2 g3 g4 (g5 _ _ _ _ _) (g6 _ _ _ _ _) B N mP dP mp PI md DU hk pz dz w2 fun h' tk' D ys K F' N' sub O=>?_
 have NR:News Z65.h₀ Z65.L h' (Z65.fL 0):=fun q hq=>N' q (.tail _ (sub q hq))
 refine e1a1 (HG h' F'.keep NR) fun as1 r1=>?_
 refine e1a1 (reads_due N' O) fun as2 r2=>?_
 refine e0a2 (due_shaped (pls:=(Z65.fi 0)) so) fun sh eq=>?_
 have hun:=B.hun
 refine ne_dataH (s:={ Z65.s with heap:=h',toks:=tk' }) r1 r2 sh sh (by show Z65.un+64<cLine;have:cLine=9900:=rfl;omega) ?_
 rw [eq]
 refine wpAny_truthy_bool ?_
 rw [if_neg (by decide)]
 exact wpAny_execs_nil (ret h' tk' F' NR)
theorem w_if6 {x:Stmt} {PA duA got:Addr} {oP:Obj} {plvs dv:List Value} {pls:List (Int×Int)} {n dn:Nat} {due:DueL} {R:List (Addr×Obj)} {Q:Flow->Shared->Prop} {E:Value->Shared->Prop} (LI:LawIs b sc) (h6:stAt b 6=some x)
  (B:Cx 550 w p loose mean mg mb dp un sc [] A₀ base h₀ L m s) (N:News h₀ L s.heap R) (mP:(cP,oP)∈R) (dP:oP.data=.cell (some (.ref PA))) (mp:(PA,listOf plvs.toArray n)∈R) (PI:PlaceIn R plvs pls)
  (md:(duA,listOf dv.toArray dn)∈R) (DU:DueOk R dv due) (hk:∀ q∈due,q.2.2<pls.length) (pz:pls.length≤1000) (dz:due.length≤1000) (w2:m "due" = some (.ref duA)) (w3:m "got" = some (.ref got))
  (so:∀ q∈due,PyData.strOk q.1=true/\PyData.strOk q.2.1=true) (HG:∀ h,h₀.StaysIn h->News h₀ L h R->∃ as,Reads h (.ref got) (.list (dueData pls due)) as)
  (ret:∀ (h':Heap) (tk':Nat),Fr h₀ L h' m->News h₀ L h' R->Q .next { s with heap:=h',toks:=tk' }) :
  wpAny (model pw_rk0009_01 w) (topW dp un gd sc L fa cd cP cS) (exec x (envW sc L fa cd cP cS)) Q E s:=pickedZ (by with_unfolding_all rfl) Z65c (sfF (sfL (sfd (sfN (sfi (sfv (sfO (sfB (sfV (sfA (frC w p loose mean mg mb dp un gd Z65.cn Z65.cs Z65.ca Z65.ccd Z65.cll Z65.outer A₀ base h₀ L m s E) [fa,cP,cS,PA,duA,got]) [cd]) [b]) [oP]) [plvs,dv]) [pls]) [n,dn]) [due]) [R]) [Q]) sc x LI h6 B N mP dP mp PI md DU hk pz dz w2 w3 so HG ret
end
end
theorem NgB95.gB95:True:=trivial
example:True:=by w_top off;trivial
section
open NgB95
section
variable {fa:Addr} {cd:Value} {cP cS:Addr} {b:List Stmt} {sc:Scope}
theorem pair_ok {r c:Int} : SeqAt.shaped (.tuple [.int r,.int c])=true/\PyData.eqv (.tuple [.int r,.int c]) (.tuple [.int r,.int c])=true:=by
 have c0:(PyData.tuple [.int r,.int c]).canLay0=true:=by simp only [PyData.canLay0,PyData.canLayAll0,Bool.and_self]
 have d0:(PyData.tuple [.int r,.int c]).depth≤64:=by simp only [PyData.depth,PyData.depthAll];decide
 exact ⟨by unfold SeqAt.shaped;rw [c0,decide_eq_true d0];rfl,PySem.SeqAt.eqv_refl _ c0⟩
theorem reads_pair {h:Heap} {a:Addr} {r c:Int} {t1 t2:Tok} (e:h.get? a=some (pairObj (.int r t1) (.int c t2))):∃ as,Reads h (.ref a) (.tuple [.int r,.int c]) as :=
 ⟨_,.tuple e rfl rfl (.cons (.int _ _) (.cons (.int _ _) .nil))⟩
theorem neP {A:Around} {q D:Addr} {r c:Int} {u1 u2:Tok} {news R:List (Addr×Obj)} {Q E:Value->Shared->Prop} (F:Fr h₀ L s.heap m) (N:News h₀ L s.heap news) (NR:News h₀ L s.heap R) (S:∀ h,h₀.StaysIn h->News h₀ L h R->∃ u1 u2,h.get? q=some (pairObj (.int r u1) (.int c u2)))
  (hD:(D,pairObj (.int r u1) (.int c u2))∈news) (hu:A.units<9000) (h:Q (.bool false) s):wpAny (model pw_rk0009_01 w) A (compareOp .NotEq (.ref q) (.ref D)) Q E s:=by
 refine e2a1 (S s.heap F.keep NR) fun v1 v2 e=>?_
 refine e1a1 (reads_pair e) fun as1 r1=>?_
 refine e1a1 (reads_pair (N _ hD).1) fun as2 r2=>?_
 refine e0a2 (pair_ok (r:=r) (c:=c)) fun sh eq=>?_
 refine ne_dataH r1 r2 sh sh (by have:cLine=9900:=rfl;omega) ?_
 rw [eq]
 exact h
example:True:=by (k_with "B95" => (fail_if_success (fail_if_success (have:=gB95))));(k_with "k_mem" => k_extra "B95";(first | assumption | exact List.Mem.head _ | (apply List.Mem.tail;k_mem)));(k_with "k_all" => k_extra "B95";assumption);(k_with "eval Name" => k_extra "B95";(k_here;k_dflt (refine' ldM2 ?Y0 ?Y1 ?Y2 ?Y3 ?Y4 ?Y5 ?_;(case Y0=>assumption);(case Y1=>exact rfl);(case Y2=>exact rfl);(case Y3=>exact rfl);(case Y4=>assumption);(case Y5=>decide);k_whole)));(k_with "compareOp NotEq ref ref" => k_extra "B95";(k_here;k_dflt (refine' neP ?Y0 ?Y1 ?Y2 ?Y3 ?Y4 ?Y5 ?_;(case Y0=>k_asm);(case Y1=>k_asm);(case Y3=>assumption);(case Y2=>first | assumption | exact news_t (by assumption));(case Y4=>k_mem);(case Y5=>((try dsimp only [ktrTop,Around.deeper]);omega));k_whole)));(k_with "subscriptTail Name Name ref int" => k_extra "B95";(k_here;(with_reducible show wpAny _ _ (subscriptTail _ _ (Value.ref _) (Value.int _ _)) _ _ _);k_dflt (refine' itemI ?Y0 ?Y1 ?Y2 ?Y3 ?Y4 ?_ ?Y5;(case Y5=>with_unfolding_all rfl);(case Y0=>k_asm);(case Y1=>k_mem);(case Y4=>assumption);(case Y2=>omega);(case Y3=>omega);k_whole)));trivial
set_option maxHeartbeats 4000000 in
theorem w_if7a {x:Stmt} {R:List (Addr×Obj)} {Q:Flow->Shared->Prop} {E:Value->Shared->Prop} (LI:LawIs b sc) (h7:stAt b 7=some x)
  (B:Cx 550 w p loose mean mg mb dp un sc [] A₀ base h₀ L m s) (N:News h₀ L s.heap R) (w2:m "stopped" = some .none) (w3:m "refused" = some .none) 
  (ret:∀ (h':Heap) (tk':Nat),Fr h₀ L h' m->News h₀ L h' R->Q .next { s with heap:=h',toks:=tk' }) :
  wpAny (model pw_rk0009_01 w) (topW dp un gd sc L fa cd cP cS) (exec x (envW sc L fa cd cP cS)) Q E s:=by
 refine e1a1 LI fun a0 ho=>?_;clear LI
 have e2:(a0,b,sc)=_:=Option.some.inj (ho.symm.trans (rfl:lawDef=some _))
 injection e2 with e2 e3
 injection e3 with e3 e4
 subst e2 e3 e4
 have e5:x=_:=Option.some.inj (h7.symm.trans (rfl:stAt _ 7=some _))
 subst e5
 clear h7 ho
 obtain ⟨B,F,X,Tp,hkd,hdp,hun⟩:=B
 k_steps
 exact ret _ _ (by k_asm) (by k_asm)
set_option maxHeartbeats 4000000 in
theorem w_if7b {x:Stmt} {q:Addr} {r:Int} {tr:Tok} {R:List (Addr×Obj)} {Q:Flow->Shared->Prop} {E:Value->Shared->Prop} (LI:LawIs b sc) (h7:stAt b 7=some x)
  (B:Cx 550 w p loose mean mg mb dp un sc [] A₀ base h₀ L m s) (N:News h₀ L s.heap R) (w2:m "stopped" = some (.ref q)) (w3:m "refused" = some (.int r tr)) (r0:r<0)
  (HS:∀ h,h₀.StaysIn h->News h₀ L h R->∃ u1 u2,h.get? q=some (pairObj (.int 0 u1) (.int 0 u2)))
  (ret:∀ (h':Heap) (tk':Nat),Fr h₀ L h' m->News h₀ L h' R->Q .next { s with heap:=h',toks:=tk' }) :
  wpAny (model pw_rk0009_01 w) (topW dp un gd sc L fa cd cP cS) (exec x (envW sc L fa cd cP cS)) Q E s:=by
 refine e1a1 LI fun a0 ho=>?_;clear LI
 have e2:(a0,b,sc)=_:=Option.some.inj (ho.symm.trans (rfl:lawDef=some _))
 injection e2 with e2 e3
 injection e3 with e3 e4
 subst e2 e3 e4
 have e5:x=_:=Option.some.inj (h7.symm.trans (rfl:stAt _ 7=some _))
 subst e5
 clear h7 ho
 obtain ⟨B,F,X,Tp,hkd,hdp,hun⟩:=B
 k_steps
 rename News h₀ L _ _=>kN
 exact ret _ _ (by k_asm) (news_t kN)
set_option maxHeartbeats 4000000 in
theorem w_if7c {x:Stmt} {q q2 PA:Addr} {oP:Obj} {r r1 c1:Int} {tr u1 u2:Tok} {plvs:List Value} {n:Nat} {R:List (Addr×Obj)} {Q:Flow->Shared->Prop} {E:Value->Shared->Prop} (LI:LawIs b sc) (h7:stAt b 7=some x)
  (B:Cx 550 w p loose mean mg mb dp un sc [] A₀ base h₀ L m s) (N:News h₀ L s.heap R) (w2:m "stopped" = some (.ref q)) (w3:m "refused" = some (.int r tr)) (r0 : ¬ r<0) (rz:r≤1000) (mP:(cP,oP)∈R) (dP:oP.data=.cell (some (.ref PA))) (mp:(PA,listOf plvs.toArray n)∈R)
  (hq:plvs[r.toNat]?=some (.ref q2)) (mq:(q2,pairObj (.int r1 u1) (.int c1 u2))∈R)
  (HS:∀ h,h₀.StaysIn h->News h₀ L h R->∃ u1 u2,h.get? q=some (pairObj (.int r1 u1) (.int c1 u2)))
  (ret:∀ (h':Heap) (tk':Nat),Fr h₀ L h' m->News h₀ L h' R->Q .next { s with heap:=h',toks:=tk' }) :
  wpAny (model pw_rk0009_01 w) (topW dp un gd sc L fa cd cP cS) (exec x (envW sc L fa cd cP cS)) Q E s:=by
 refine e1a1 LI fun a0 ho=>?_;clear LI
 have e2:(a0,b,sc)=_:=Option.some.inj (ho.symm.trans (rfl:lawDef=some _))
 injection e2 with e2 e3
 injection e3 with e3 e4
 subst e2 e3 e4
 have e5:x=_:=Option.some.inj (h7.symm.trans (rfl:stAt _ 7=some _))
 subst e5
 clear h7 ho
 obtain ⟨B,F,X,Tp,hkd,hdp,hun⟩:=B
 k_steps
 exact ret _ _ (by k_asm) (by k_asm)
end
end
example:True:=by w_top off;trivial
section
theorem idx_1 (n:Nat) (h:1≤n):Builtin.Str.strSliceIndices (some 1) none 1 n=(List.range (n - 1)).map (·+1):=by
 unfold Builtin.Str.strSliceIndices sliceRange
 simp only [show (1:Int) > 0 by decide,if_true]
 have e1:max (0:Int) (min (if (1:Int)<0 then 1+(n:Int) else 1) (n:Int))=1:=by
  rw [if_neg (by decide)];omega
 rw [e1]
 by_cases h2:(1:Int)<n
 ·rw [if_pos h2,show ((n:Int) - 1+1 - 1) / 1=((n - 1:Nat):Int) by omega,Int.toNat_natCast]
  refine List.map_congr_left fun k _=>?_
  omega
 ·rw [if_neg h2,show n - 1=0 by omega]
  rfl
theorem slice_tail {x:Str} {c:Nat} {r:List Nat} (h:x.cps.toList=c::r):Txt.slice x (some 1) none=⟨r.toArray⟩:=by
 have hl:x.length=r.length+1:=by
  have:=congrArg List.length h
  simpa [PySem.Str.length] using this
 unfold Txt.slice
 rw [idx_1 _ (by omega),hl]
 rw [if_neg (by simp)]
 congr 2
 rw [List.filterMap_map]
 have:∀ k,(x.cps[k+1]?)=r[k]?:=fun k=>by
  rw [<- Array.getElem?_toList,h];rfl
 have e:((fun k=>x.cps[k]?) ∘ fun k=>k+1)=fun k=>r[k]?:=by
  funext k;exact this k
 rw [e]
 have:∀ l:List Nat,(List.range l.length).filterMap (fun k=>l[k]?)=l:=by
  intro l
  induction l with
  | nil=>rfl
  | cons a t ih =>
   rw [List.length_cons,List.range_succ_eq_map,List.filterMap_cons]
   simp only [List.getElem?_cons_zero]
   congr 1
   rw [List.filterMap_map]
   exact ih
 rw [show r.length+1 - 1=r.length by omega]
 exact this r
noncomputable def elOf (x:Stmt):Option (Expr×Scope):=(stp x).1[0]?.bind fun e=>(xpp e).1[0]?.bind xlc
section
variable {news:List (Addr×Obj)} {Q E:Value->Shared->Prop}
theorem len1 (c:Nat):(⟨#[c]⟩:Str).length≤1:=Nat.le_refl _
theorem rep_q {x content:Str} {way:Int} {v:Nat} {t1:Tok} (C:Cx 90 w p loose mean mg mb dp un cs outer A₀ base h₀ L m s) (N:News h₀ L s.heap news) (hw:Wr way content v) (hx:x.cps.toList=39::(content.cps.toList++[39])) (cl:content.length≤30)
  (ret:∀ h' tk' u,Fr h₀ L h' m->News h₀ L h' news->Q (.str ⟨#[39,v,39]⟩ u) { s with heap:=h',toks:=tk' }) :
  wpAny (model pw_rk0009_01 w) (ktrTop dp un gd cn cs L ca ccd cll outer) (call (.ref 469) [.str x t1]) Q E s:=by
 have hl:x.length=content.length+2:=by
  have:=cps_len hx
  simp only [List.length_cons,List.length_append,List.length_nil] at this
  rw [this];rfl
 refine replace_c C N (by omega) (wr_all hw hx) (by decide) (fun y hy=>?_) fun h' tk' u F' N'=>?_
 ·simp only [List.mem_cons,List.mem_nil_iff,or_false] at hy
  rcases hy with rfl | rfl | rfl <;> exact Nat.le_refl _
 ·rw [join3];exact ret h' tk' u F' N'
theorem rep_L {x content:Str} {way:Int} {v:Nat} {t1:Tok} (C:Cx 90 w p loose mean mg mb dp un cs outer A₀ base h₀ L m s) (N:News h₀ L s.heap news) (hw:Wr way content v) (hx:x.cps.toList=76::39::(content.cps.toList++[39])) (cl:content.length≤30)
  (ret:∀ h' tk' u,Fr h₀ L h' m->News h₀ L h' news->Q (.str ⟨#[76,39,v,39]⟩ u) { s with heap:=h',toks:=tk' }) :
  wpAny (model pw_rk0009_01 w) (ktrTop dp un gd cn cs L ca ccd cll outer) (call (.ref 469) [.str x t1]) Q E s:=by
 have hl:x.length=content.length+3:=by
  have:=cps_len hx
  simp only [List.length_cons,List.length_append,List.length_nil] at this
  rw [this];rfl
 refine replace_c C N (by omega) (wr_allL hw hx) (by decide) (fun y hy=>?_) fun h' tk' u F' N'=>?_
 ·simp only [List.mem_cons,List.mem_nil_iff,or_false] at hy
  rcases hy with rfl | rfl | rfl | rfl <;> exact Nat.le_refl _
 ·rw [join4];exact ret h' tk' u F' N'
end
end
theorem NgB97.gB97:True:=trivial
example:True:=by w_top off;trivial
section
open NgB97
section
variable {fa:Addr} {cd:Value} {cP cS:Addr} {b:List Stmt} {sc:Scope}
example:True:=by (k_with "B97" => (fail_if_success (fail_if_success (have:=gB97))));(k_with "k_mem" => k_extra "B97";(first | assumption | exact List.Mem.head _ | (apply List.Mem.tail;k_mem)));(k_with "k_all" => k_extra "B97";assumption);(k_with "call ref" => k_extra "B97";(k_here;k_dflt (refine' charval_1 ?Y0 ?Y1 ?_;(case Y0=>exact ⟨by k_asm,by k_asm,by k_asm,by k_asm,by first | exact rfl | assumption,by ((try dsimp only [ktrTop,Around.deeper]);omega),by ((try dsimp only [ktrTop,Around.deeper]);omega)⟩);(case Y1=>k_asm);k_whole;intro Y2 Y3 Y4 Y5 Y6 Y7 Y8 Y9 Y10 Y11 Y12)));(k_with "call ref" => k_extra "B97";(k_here;k_dflt (refine' charval_L ?Y0 ?Y1 ?_;(case Y0=>exact ⟨by k_asm,by k_asm,by k_asm,by k_asm,by first | exact rfl | assumption,by ((try dsimp only [ktrTop,Around.deeper]);omega),by ((try dsimp only [ktrTop,Around.deeper]);omega)⟩);(case Y1=>k_asm);k_whole;intro Y2 Y3 Y4 Y5 Y6 Y7 Y8 Y9 Y10 Y11 Y12)));(k_with "call ref" => k_extra "B97";(k_here;k_dflt (refine' rep_q ?Y0 ?Y1 ?Y2 ?Y3 ?Y4 ?_;(case Y2=>assumption);(case Y3=>assumption);(case Y4=>assumption);(case Y0=>exact ⟨by k_asm,by k_asm,by k_asm,by k_asm,by first | exact rfl | assumption,by ((try dsimp only [ktrTop,Around.deeper]);omega),by ((try dsimp only [ktrTop,Around.deeper]);omega)⟩);(case Y1=>k_asm);k_whole;intro Y5 Y6 Y7 Y8 Y9)));(k_with "call ref" => k_extra "B97";(k_here;k_dflt (refine' rep_L ?Y0 ?Y1 ?Y2 ?Y3 ?Y4 ?_;(case Y2=>assumption);(case Y3=>assumption);(case Y4=>assumption);(case Y0=>exact ⟨by k_asm,by k_asm,by k_asm,by k_asm,by first | exact rfl | assumption,by ((try dsimp only [ktrTop,Around.deeper]);omega),by ((try dsimp only [ktrTop,Around.deeper]);omega)⟩);(case Y1=>k_asm);k_whole;intro Y5 Y6 Y7 Y8 Y9)));(k_with "subscriptTail Name Constant str int" => k_extra "B97";(k_here;(with_reducible show wpAny _ _ (subscriptTail _ _ (Value.str _ _) (Value.int _ _)) _ _ _);k_dflt (refine' tail_str ?Y0 ?Y1 ?Y2 ?_ ?Y3;(case Y3=>with_unfolding_all rfl);(case Y1=>assumption);(case Y0=>decide);(case Y2=>omega);k_whole;intro Y4)));trivial
set_option maxHeartbeats 4000000 in
theorem el_q {x:Stmt} {e:Expr} {sc2:Scope} {I C D:Addr} {oI oC:Obj} {ys:List Value} {val content:Str} {way:Int} {v:Nat} {t1:Tok} {news:List (Addr×Obj)} {m₂:Str->Option Value} {Q E:Value->Shared->Prop} (LI:LawIs b sc) (h8:stAt b 8=some x) (hp:elOf x=some (e,sc2))
  (B:Cx 550 w p loose mean mg mb dp un sc [] A₀ base h₀ L m s)
  (N:News h₀ L s.heap ((I,oI)::(C,oC)::(D,LCg.lst ys)::news)) (hC:LCg.NsObj oC m₂) (h2:m₂ "val" = some (.str val t1)) (hw:Wr way content v) (cl:content.length≤30) (hx:val.cps.toList=39::(content.cps.toList++[39])) 
  (ret:∀ (h':Heap) (tk':Nat) (r l:Addr) (u1 u2:Tok) (n:Nat),Fr h₀ L h' m->News h₀ L h' ((r,prO (.int ((v:Nat):Int) u1) (.ref l))::(l,listOf #[.str "char" u2] n)::(I,oI)::(C,oC)::(D,LCg.lst ys)::news)->(∀ q∈(I,oI)::(C,oC)::(D,LCg.lst ys)::news,q.1<l)->(∀ q∈(I,oI)::(C,oC)::(D,LCg.lst ys)::news,q.1<r)->Q (.ref r) { s with heap:=h',toks:=tk' }) :
  wpAny (model pw_rk0009_01 w) (topW dp un gd sc L fa cd cP cS) (eval e (compEnvC sc2 [] C (envW sc L fa cd cP cS))) Q E s:=by
 refine e1a1 LI fun a0 ho=>?_;clear LI
 have e2:(a0,b,sc)=_:=Option.some.inj (ho.symm.trans (rfl:lawDef=some _))
 injection e2 with e2 e3
 injection e3 with e3 e4
 subst e2 e3 e4
 have e5:x=_:=Option.some.inj (h8.symm.trans (rfl:stAt _ 8=some _))
 subst e5
 have e5:(e,sc2)=_:=Option.some.inj (hp.symm.trans (rfl:elOf _=some _))
 injection e5 with e5 e6
 subst e5 e6
 clear h8 hp ho
 obtain ⟨B,F,X,T,hkd,hdp,hun⟩:=B
 have hl:val.length=content.length+2:=by
  have:=cps_len hx
  simp only [List.length_cons,List.length_append,List.length_nil] at this
  rw [this];rfl
 have hc0:val.cps[((0:Int)).toNat]?=some 39:=by rw [<- Array.getElem?_toList,hx];rfl
 k_steps
 all_goals exact ret _ _ _ _ _ _ _ (by k_asm) (by k_asm) (by assumption) (by assumption)
noncomputable def Z78P:FrZ->Prop:=fun V=>∀ (b:List Stmt) (sc:Scope) (x:Stmt) (e:Expr) (sc2:Scope) (LI:LawIs b sc) (h8:stAt b 8=some x) (hp:elOf x=some (e,sc2)) (B:Cx 550 V.w V.p V.loose V.mean V.mg V.mb V.dp V.un sc [] V.A₀ V.base V.h₀ V.L V.m V.s) (N:News V.h₀ V.L V.s.heap (((V.fA 3),(V.fO 0))::((V.fA 4),(V.fO 1))::((V.fA 5),LCg.lst (V.fv 0))::(V.fL 0))) (hC:LCg.NsObj (V.fO 1) (V.fM 0)) (h2:(V.fM 0) "val" = some (.str (V.fS 0) (V.fT 0))) (hw:Wr (V.fI 0) (V.fS 1) (V.fN 0)) (cl:(V.fS 1).length≤30) (hx:(V.fS 0).cps.toList=76::39::((V.fS 1).cps.toList++[39])) (ret:∀ (h':Heap) (tk':Nat) (r l:Addr) (u1 u2:Tok) (n:Nat),Fr V.h₀ V.L h' V.m->News V.h₀ V.L h' ((r,prO (.int (((V.fN 0):Nat):Int) u1) (.ref l))::(l,listOf #[.str "char" u2] n)::((V.fA 3),(V.fO 0))::((V.fA 4),(V.fO 1))::((V.fA 5),LCg.lst (V.fv 0))::(V.fL 0))->(∀ q∈((V.fA 3),(V.fO 0))::((V.fA 4),(V.fO 1))::((V.fA 5),LCg.lst (V.fv 0))::(V.fL 0),q.1<l)->(∀ q∈((V.fA 3),(V.fO 0))::((V.fA 4),(V.fO 1))::((V.fA 5),LCg.lst (V.fv 0))::(V.fL 0),q.1<r)->(V.fQ 0) (.ref r) { V.s with heap:=h',toks:=tk' }),wpAny (model pw_rk0009_01 V.w) (topW V.dp V.un V.gd sc V.L (V.fA 0) (V.fV 0) (V.fA 1) (V.fA 2)) (eval e (compEnvC sc2 [] (V.fA 4) (envW sc V.L (V.fA 0) (V.fV 0) (V.fA 1) (V.fA 2)))) (V.fQ 0) V.E V.s
@[irreducible] noncomputable def Z78:FrZ:=pickZ Z78P
set_option maxHeartbeats 4000000 in
theorem Z78c:Z78P Z78:=by
 intro b sc x e sc2 LI h8 hp B N hC h2 hw cl hx ret
 refine e1a1 LI fun a0 ho=>?_;clear LI
 have e2:(a0,b,sc)=_:=Option.some.inj (ho.symm.trans (rfl:lawDef=some _))
 injection e2 with e2 e3
 injection e3 with e3 e4
 subst e2 e3 e4
 have e5:x=_:=Option.some.inj (h8.symm.trans (rfl:stAt _ 8=some _))
 subst e5
 have e5:(e,sc2)=_:=Option.some.inj (hp.symm.trans (rfl:elOf _=some _))
 injection e5 with e5 e6
 subst e5 e6
 clear h8 hp ho
 obtain ⟨B,F,X,T,hkd,hdp,hun⟩:=B
 have hl:(Z78.fS 0).length=(Z78.fS 1).length+3:=by
  have:=cps_len hx
  simp only [List.length_cons,List.length_append,List.length_nil] at this
  rw [this];rfl
 have hc0:(Z78.fS 0).cps[((0:Int)).toNat]?=some 76:=by rw [<- Array.getElem?_toList,hx];rfl
 k_steps
 all_goals exact ret _ _ _ _ _ _ _ (by k_asm) (by k_asm) (by assumption) (by assumption)
theorem el_L {x:Stmt} {e:Expr} {sc2:Scope} {I C D:Addr} {oI oC:Obj} {ys:List Value} {val content:Str} {way:Int} {v:Nat} {t1:Tok} {news:List (Addr×Obj)} {m₂:Str->Option Value} {Q E:Value->Shared->Prop} (LI:LawIs b sc) (h8:stAt b 8=some x) (hp:elOf x=some (e,sc2))
  (B:Cx 550 w p loose mean mg mb dp un sc [] A₀ base h₀ L m s)
  (N:News h₀ L s.heap ((I,oI)::(C,oC)::(D,LCg.lst ys)::news)) (hC:LCg.NsObj oC m₂) (h2:m₂ "val" = some (.str val t1)) (hw:Wr way content v) (cl:content.length≤30) (hx:val.cps.toList=76::39::(content.cps.toList++[39])) 
  (ret:∀ (h':Heap) (tk':Nat) (r l:Addr) (u1 u2:Tok) (n:Nat),Fr h₀ L h' m->News h₀ L h' ((r,prO (.int ((v:Nat):Int) u1) (.ref l))::(l,listOf #[.str "char" u2] n)::(I,oI)::(C,oC)::(D,LCg.lst ys)::news)->(∀ q∈(I,oI)::(C,oC)::(D,LCg.lst ys)::news,q.1<l)->(∀ q∈(I,oI)::(C,oC)::(D,LCg.lst ys)::news,q.1<r)->Q (.ref r) { s with heap:=h',toks:=tk' }) :
  wpAny (model pw_rk0009_01 w) (topW dp un gd sc L fa cd cP cS) (eval e (compEnvC sc2 [] C (envW sc L fa cd cP cS))) Q E s:=pickedZ (by with_unfolding_all rfl) Z78c (sfQ (sfM (sfL (sfT (sfN (sfI (sfS (sfv (sfO (sfV (sfA (frC w p loose mean mg mb dp un gd Z78.cn Z78.cs Z78.ca Z78.ccd Z78.cll Z78.outer A₀ base h₀ L m s E) [fa,cP,cS,I,C,D]) [cd]) [oI,oC]) [ys]) [val,content]) [way]) [v]) [t1]) [news]) [m₂]) [Q]) b sc x e sc2 LI h8 hp B N hC h2 hw cl hx ret
set_option maxHeartbeats 4000000 in
theorem el_D {x:Stmt} {e:Expr} {sc2:Scope} {I C D:Addr} {oI oC:Obj} {ys:List Value} {val content:Str} {way:Int} {v:Nat} {t1:Tok} {news:List (Addr×Obj)} {m₂:Str->Option Value} {Q E:Value->Shared->Prop} (LI:LawIs b sc) (h8:stAt b 8=some x) (hp:elOf x=some (e,sc2))
  (B:Cx 550 w p loose mean mg mb dp un sc [] A₀ base h₀ L m s)
  (N:News h₀ L s.heap ((I,oI)::(C,oC)::(D,LCg.lst ys)::news)) (hC:LCg.NsObj oC m₂) (h2:m₂ "val" = some (.str val t1)) (hw:Wr way content v) (cl:content.length≤30) (hx:val.cps.toList=36::39::(content.cps.toList++[39])) 
  (ret:∀ (h':Heap) (tk':Nat) (r l:Addr) (u1 u2:Tok) (n:Nat),Fr h₀ L h' m->News h₀ L h' ((r,prO (.int ((v:Nat):Int) u1) (.ref l))::(l,listOf #[.str "char" u2] n)::(I,oI)::(C,oC)::(D,LCg.lst ys)::news)->(∀ q∈(I,oI)::(C,oC)::(D,LCg.lst ys)::news,q.1<l)->(∀ q∈(I,oI)::(C,oC)::(D,LCg.lst ys)::news,q.1<r)->Q (.ref r) { s with heap:=h',toks:=tk' }) :
  wpAny (model pw_rk0009_01 w) (topW dp un gd sc L fa cd cP cS) (eval e (compEnvC sc2 [] C (envW sc L fa cd cP cS))) Q E s:=by
 refine e1a1 LI fun a0 ho=>?_;clear LI
 have e2:(a0,b,sc)=_:=Option.some.inj (ho.symm.trans (rfl:lawDef=some _))
 injection e2 with e2 e3
 injection e3 with e3 e4
 subst e2 e3 e4
 have e5:x=_:=Option.some.inj (h8.symm.trans (rfl:stAt _ 8=some _))
 subst e5
 have e5:(e,sc2)=_:=Option.some.inj (hp.symm.trans (rfl:elOf _=some _))
 injection e5 with e5 e6
 subst e5 e6
 clear h8 hp ho
 obtain ⟨B,F,X,T,hkd,hdp,hun⟩:=B
 have hl:val.length=content.length+3:=by
  have:=cps_len hx
  simp only [List.length_cons,List.length_append,List.length_nil] at this
  rw [this];rfl
 have hc0:val.cps[((0:Int)).toNat]?=some 36:=by rw [<- Array.getElem?_toList,hx];rfl
 have hs:(Txt.slice val (some 1) none).cps.toList=39::(content.cps.toList++[39]):=by rw [slice_tail hx]
 k_steps
 all_goals exact ret _ _ _ _ _ _ _ (by k_asm) (by k_asm) (by assumption) (by assumption)
end
end
theorem NgB98.gB98:True:=trivial
example:True:=by w_top off;trivial
section
open NgB98
inductive ChOk:DueL->List Nat->Prop
 | nil:ChOk [] []
 | one {v:Str} {k:Nat} {d:DueL} {w:List Nat} : ChOk d w->ChOk (("ONE",v,k)::d) w
 | chr {op content:Str} {way:Int} {v k:Nat} {d:DueL} {w:List Nat} : op∈tab_openers->Wr way content v->content.length≤30->ChOk d w->ChOk (("CHAR",op++content ++ "'",k)::d) (v::w)
theorem ChOk.app {d':DueL} {w':List Nat} (h':ChOk d' w'):∀ {d:DueL} {w:List Nat},ChOk d w->ChOk (d++d') (w++w')
 | _,_,.nil=>h'
 | _,_,.one h=>.one (ChOk.app h' h)
 | _,_,.chr h1 h2 h3 h=>.chr h1 h2 h3 (ChOk.app h' h)
theorem ChOk.ones:∀ (l:List Nat) (k:Nat),ChOk (ones k l) []
 | [],_=>.nil
 | _::l,k=>.one (ChOk.ones l (k+1))
theorem Bt.ch {i:Nat} {t:Str} {d:DueL} {w:List Nat} (h:Bt i t d w):ChOk d w:=by
 induction h with
 | nil=>exact .nil
 | @turn i t ah op content d w way v _ ha hw hl ih =>
  have a:=ChOk.app (ChOk.ones ah.cps.toList t.length) ih
  rw [List.append_nil] at a
  exact ChOk.app (.chr ha.2.1 hw hl .nil) a
theorem Bf.ch {t:Str} {d:DueL} {w:List Nat} {r:Option Int} (h:Bf t d w r):ChOk d w:=by
 cases h with
 | all _ h=>exact h.ch
 | @wrong i t ah op rest d w stop _ h _ _ _ =>
  have a:=ChOk.app (ChOk.ones ah.cps.toList t.length) h.ch
  rw [List.append_nil] at a
  exact a
noncomputable def tsOf (x:Stmt):Option (Expr×Expr×Scope):=(stp x).1[0]?.bind fun e=>(xpp e).1[0]?.bind fun c=>match xpp c with
 | (a::_,⟨_,_,d::_,_⟩::_,sc::_)=>some (a,d,sc)
 | _=>none
section
variable {fa:Addr} {cd:Value} {cP cS:Addr} {b:List Stmt} {sc:Scope}
example:True:=by (k_with "B98" => (fail_if_success (fail_if_success (have:=gB98))));(k_with "k_mem" => k_extra "B98";(first | assumption | exact List.Mem.head _ | (apply List.Mem.tail;k_mem)));(k_with "k_all" => k_extra "B98";assumption);trivial
set_option maxHeartbeats 4000000 in
theorem test_k {kd:Str} {x:Stmt} {e c:Expr} {sc2:Scope} {I C D:Addr} {oI oC:Obj} {ys:List Value} {t1:Tok} {news:List (Addr×Obj)} {m₂:Str->Option Value} {Q:Bool->Shared->Prop} {E:Value->Shared->Prop} (LI:LawIs b sc) (h8:stAt b 8=some x) (hp:tsOf x=some (e,c,sc2))
  (B:Cx 550 w p loose mean mg mb dp un sc [] A₀ base h₀ L m s)
  (N:News h₀ L s.heap ((I,oI)::(C,oC)::(D,LCg.lst ys)::news)) (hC:LCg.NsObj oC m₂) (h2:m₂ "kind" = some (.str kd t1)) (ret:∀ tk',Q (kd == "CHAR") { s with toks:=tk' }) :
  wpAny (model pw_rk0009_01 w) (topW dp un gd sc L fa cd cP cS) (PySem.isTrue c (compEnvC sc2 [] C (envW sc L fa cd cP cS)) (eval c (compEnvC sc2 [] C (envW sc L fa cd cP cS)))) Q E s:=by
 refine e1a1 LI fun a0 ho=>?_;clear LI
 have e2:(a0,b,sc)=_:=Option.some.inj (ho.symm.trans (rfl:lawDef=some _))
 injection e2 with e2 e3
 injection e3 with e3 e4
 subst e2 e3 e4
 have e5:x=_:=Option.some.inj (h8.symm.trans (rfl:stAt _ 8=some _))
 subst e5
 have e5:(e,c,sc2)=_:=Option.some.inj (hp.symm.trans (rfl:tsOf _=some _))
 injection e5 with e5 e6
 injection e6 with e6 e7
 subst e5 e6 e7
 clear h8 hp ho
 obtain ⟨B,F,X,T,hkd,hdp,hun⟩:=B
 k_steps
 all_goals exact ret _
theorem kd_one:(("ONE" : Str) == "CHAR")=false:=by decide +kernel
theorem kd_chr:(("CHAR" : Str) == "CHAR")=true:=by decide +kernel
theorem op_cases {op:Str} (h:op∈tab_openers):op = "'" \/ op = "L'" \/ op = "$'" := by
 simpa using h
theorem op_list (op content:Str):(op++content ++ "'").cps.toList=op.cps.toList++(content.cps.toList++[39]):=by
 rw [app_list,app_list,q_is,List.append_assoc]
theorem op_1:("'" : Str).cps.toList=[39]:=by decide +kernel
theorem op_2:("L'" : Str).cps.toList=[76,39]:=by decide +kernel
theorem op_3:("$'" : Str).cps.toList=[36,39]:=by decide +kernel
theorem eight_shape {x:Stmt} (LI:LawIs b sc) (h8:stAt b 8=some x):∃ e c i1 i2 i3 i4 i5 kk tp sc2 pos p0 p1 p2,x=.Return (some (.Compare (.ListComp e [⟨.Tuple [.Name "kind" i1,.Name "val" i2,.Name "row" i3,.Name "col" i4] kk tp,.Name "got" i5,[c],0⟩] sc2 pos) [.Eq] [.Name "worths" p0] p1)) p2/\elOf x=some (e,sc2)/\tsOf x=some (e,c,sc2) /\
  (∀ L fa cd cP cS,closureFor sc2 (envW sc L fa cd cP cS)=pure ([] : List (Str×Addr)))/\(∀ y∈sc2.names,y.2≠.cell)/\sc2.kind=.function/\(∀ y∈sc2.names,y.2=.local->sc2.names.lookup y.1=some .local) /\
  (∀ L fa cd cP cS C,(compEnvC sc2 [] C (envW sc L fa cd cP cS)).kindOf "kind" = some .local/\(compEnvC sc2 [] C (envW sc L fa cd cP cS)).kindOf "val" = some .local/\(compEnvC sc2 [] C (envW sc L fa cd cP cS)).kindOf "row" = some .local/\(compEnvC sc2 [] C (envW sc L fa cd cP cS)).kindOf "col" = some .local /\
   ((compEnvC sc2 [] C (envW sc L fa cd cP cS)).scope.kind=.function)) /\
  (∀ L fa cd cP cS,(envW sc L fa cd cP cS).kindOf "got" = some .local/\(envW sc L fa cd cP cS).kindOf "worths" = some .local/\∀ y,foldedSetIterable (.Name "got" i5) (envW sc L fa cd cP cS) y=pure y):=by
 refine e1a1 LI fun a0 ho=>?_;clear LI
 have e2:(a0,b,sc)=_:=Option.some.inj (ho.symm.trans (rfl:lawDef=some _))
 injection e2 with e2 e3
 injection e3 with e3 e4
 subst e2 e3 e4
 have e5:x=_:=Option.some.inj (h8.symm.trans (rfl:stAt _ 8=some _))
 subst e5
 exact ⟨_,_,_,_,_,_,_,_,_,_,_,_,_,_,rfl,rfl,rfl,fun _ _ _ _ _=>by with_unfolding_all rfl,by decide,rfl,by decide,fun _ _ _ _ _ _=>⟨rfl,rfl,rfl,rfl,rfl⟩,fun _ _ _ _ _=>⟨rfl,rfl,fun _=>rfl⟩⟩
noncomputable def Z13P:FrZ->Prop:=fun V=>∀ (h₀:Heap) (L:Addr) (m:Str->Option Value) (s:Shared) (e:Expr) (its:List Value) (due:DueL) (R:List (Addr×Obj)) (Q E:Value->Shared->Prop) (LI:LawIs (V.fB 0) (V.fs 0)) (h8:stAt (V.fB 0) 8=some (V.fm 0)) (hp:elOf (V.fm 0)=some (e,(V.fs 1))) (hp2:tsOf (V.fm 0)=some (e,(V.fe 0),(V.fs 1))) (g1:closureFor (V.fs 1) (envW (V.fs 0) L (V.fA 0) (V.fV 0) (V.fA 1) (V.fA 2))=pure ([] : List (Str×Addr))) (g2:∀ y∈(V.fs 1).names,y.2≠.cell) (g3:(V.fs 1).kind=.function) (g4:∀ y∈(V.fs 1).names,y.2=.local->(V.fs 1).names.lookup y.1=some .local) (g5:∀ C,(compEnvC (V.fs 1) [] C (envW (V.fs 0) L (V.fA 0) (V.fV 0) (V.fA 1) (V.fA 2))).kindOf "kind" = some .local/\(compEnvC (V.fs 1) [] C (envW (V.fs 0) L (V.fA 0) (V.fV 0) (V.fA 1) (V.fA 2))).kindOf "val" = some .local/\(compEnvC (V.fs 1) [] C (envW (V.fs 0) L (V.fA 0) (V.fV 0) (V.fA 1) (V.fA 2))).kindOf "row" = some .local/\(compEnvC (V.fs 1) [] C (envW (V.fs 0) L (V.fA 0) (V.fV 0) (V.fA 1) (V.fA 2))).kindOf "col" = some .local/\((compEnvC (V.fs 1) [] C (envW (V.fs 0) L (V.fA 0) (V.fV 0) (V.fA 1) (V.fA 2))).scope.kind=.function)) (g6:(envW (V.fs 0) L (V.fA 0) (V.fV 0) (V.fA 1) (V.fA 2)).kindOf "got" = some .local/\(envW (V.fs 0) L (V.fA 0) (V.fV 0) (V.fA 1) (V.fA 2)).kindOf "worths" = some .local/\∀ y,foldedSetIterable (.Name "got" (V.fp 4)) (envW (V.fs 0) L (V.fA 0) (V.fV 0) (V.fA 1) (V.fA 2)) y=pure y) (B:Cx 550 V.w V.p V.loose V.mean V.mg V.mb V.dp V.un (V.fs 0) [] V.A₀ V.base h₀ L m s) (N:News h₀ L s.heap R) (w3:m "got" = some (.ref (V.fA 3))) (CO:ChOk due (V.fl 0)) (dz:due.length≤1000) (il:its.length=due.length) (GL:∀ h,h₀.StaysIn h->News h₀ L h R->h.IsList (V.fA 3) its.toArray) (GI:∀ (i:Nat) kd vl k,due[i]?=some (kd,vl,k)->∃ T t1 t2 vr vc,its[i]?=some (.ref T)/\∀ h,h₀.StaysIn h->News h₀ L h R->h.IsTuple T #[.str kd t1,.str vl t2,vr,vc]) (ret:∀ (h':Heap) (tk':Nat) (D:Addr) (ys:List Value) (K:List (Addr×Obj)),Fr h₀ L h' m->News h₀ L h' ((D,LCg.lst ys)::K)->(∀ q∈R,q∈K)->WorOk K ys (V.fl 0)->Q (.ref D) { s with heap:=h',toks:=tk' }),wpAny (model pw_rk0009_01 V.w) (topW V.dp V.un V.gd (V.fs 0) L (V.fA 0) (V.fV 0) (V.fA 1) (V.fA 2)) (eval (.ListComp e [⟨.Tuple [.Name "kind" (V.fp 0),.Name "val" (V.fp 1),.Name "row" (V.fp 2),.Name "col" (V.fp 3)] (V.fN 0) (V.fp 5),.Name "got" (V.fp 4),[(V.fe 0)],0⟩] (V.fs 1) (V.fp 6)) (envW (V.fs 0) L (V.fA 0) (V.fV 0) (V.fA 1) (V.fA 2))) Q E s
@[irreducible] noncomputable def Z13:FrZ:=pickZ Z13P
theorem Z13c:Z13P Z13:=by
 intro h₀ L m s e its due R Q E LI h8 hp hp2 g1 g2 g3 g4 g5 g6 B N w3 CO dz il GL GI ret
 have F:=B.F
 have vals:∀ i,∃ tv:Array Value,i<its.length->∃ kd vl k T t1 t2 vr vc,due[i]?=some (kd,vl,k)/\its[i]?=some (.ref T)/\tv=#[.str kd t1,.str vl t2,vr,vc]/\∀ h,h₀.StaysIn h->News h₀ L h R->h.IsTuple T #[.str kd t1,.str vl t2,vr,vc]:=fun i=>by
  by_cases hi:i<its.length
  ·obtain ⟨⟨kd,vl,k⟩,e⟩:∃ y,due[i]?=some y:=⟨_,List.getElem?_eq_getElem (by rw [<- il];exact hi)⟩
   refine e5a2 (GI i kd vl k e) fun T t1 t2 vr vc e1 e2=>?_
   exact ⟨_,fun _=>⟨kd,vl,k,T,t1,t2,vr,vc,e,e1,rfl,e2⟩⟩
  ·exact ⟨#[],fun h=>absurd h hi⟩
 obtain ⟨tv,htv⟩:∃ tv:Nat->Array Value,∀ i,i<its.length->∃ kd vl k T t1 t2 vr vc,due[i]?=some (kd,vl,k)/\its[i]?=some (.ref T)/\tv i=#[.str kd t1,.str vl t2,vr,vc]/\∀ h,h₀.StaysIn h->News h₀ L h R->h.IsTuple T #[.str kd t1,.str vl t2,vr,vc] :=
  ⟨fun i=>Classical.choose (vals i),fun i hi=>Classical.choose_spec (vals i) hi⟩
 refine tup_ListComp (P:=fun i m₂=>∃ kd vl k t1 t2,due[i]?=some (kd,vl,k)/\m₂ "kind" = some (.str kd t1)/\m₂ "val" = some (.str vl t2)) (tv:=tv) (l:=(Z13.fA 3)) (its:=its) (cl:=[])
  (fun news=>∀ q∈R,q∈news) (fun i ys news=>(∀ q∈R,q∈news)/\∃ w1 w2,(Z13.fl 0)=w1++w2/\WorOk news ys w1/\ChOk (due.drop i) w2) rfl F N (by rw [sizeLine_eq,il];omega) g1 g2 g3 g4 ?_ ?_ ?_ (fun _ _ _ h=>h.1) ⟨fun _ h=>h,[],(Z13.fl 0),rfl,.nil,CO⟩ ?_ ?_ ?_ g6.2.2
 ·intro news h hS st N'
  exact GL h st fun q hq=>N' q (hS q hq)
 ·intro i v hv
  have hi:i<its.length:=(List.getElem?_eq_some_iff.mp hv).1
  refine e8a4 (htv i hi) fun kd vl k T t1 t2 vr vc e1 e2 e3 e4=>?_
  rw [e2] at hv
  refine ⟨T,(Option.some.inj hv).symm,fun news h hS st N'=>?_⟩
  rw [e3]
  exact e4 h st fun q hq=>N' q (hS q hq)
 ·intro i C T s m Q E hi hT hn h
  refine e8a4 (htv i hi) fun kd vl k T' t1 t2 vr vc e1 e2 e3 e4=>?_
  rw [e3] at hT
  refine e0a5 (g5 C) fun k1 k2 k3 k4 k5=>?_
  refine assign4 (env:=compEnvC (Z13.fs 1) [] C (envW (Z13.fs 0) L (Z13.fA 0) (Z13.fV 0) (Z13.fA 1) (Z13.fA 2))) rfl hT k1 k2 k3 k4 (by rw [k5];rfl) hn fun h' tk hn' hk'=>?_
  exact h h' tk _ hn' ⟨kd,vl,k,t1,t2,e1,(if_neg (by decide)).trans ((if_neg (by decide)).trans ((if_neg (by decide)).trans (if_pos rfl))),(if_neg (by decide)).trans ((if_neg (by decide)).trans (if_pos rfl))⟩ hk'
 ·intro Q h
  exact ldM2 F B.hk g6.1 rfl w3 (by decide) (h _)
 ·intro s₂ i ys I oI C oC D m₂ h tk news E' hi hyl hq0 hC F' N' off ne hq1 hq2
  refine e5a3 hq0 fun kd vl k t1 t2 e1 e2 e3=>?_;clear hq0
  obtain ⟨sub,w1,w2,ew,WO,CH⟩:=hq1
  refine e0a3 hq2 fun a1 a2 a3=>?_;clear hq2
  have hdr:due.drop i=(kd,vl,k)::due.drop (i+1):=by
   have hlt:i<due.length:=by rw [<- il];exact hi
   rw [List.drop_eq_getElem_cons hlt]
   congr 1
   exact Option.some.inj ((List.getElem?_eq_getElem hlt).symm.trans e1)
  rw [hdr] at CH
  have Bc:∀ (tk:Nat),Cx 550 Z13.w Z13.p Z13.loose Z13.mean Z13.mg Z13.mb Z13.dp Z13.un (Z13.fs 0) [] Z13.A₀ Z13.base h₀ L m { s₂ with heap:=h,toks:=tk }:=fun tk=>⟨B.B,F',B.X,B.T,B.hk,B.hdp,B.hun⟩
  refine wpAny_tests_one ?_
  refine test_k (s:={ s₂ with heap:=h,toks:=tk }) LI h8 hp2 (Bc tk) N' hC e2 fun tk'=>?_
  cases CH with
  | one CH =>
   rw [kd_one,if_neg (by decide)]
   exact ⟨h,tk',news,rfl,F',N',off,sub,w1,w2,ew,WO,CH⟩
  | @chr op content way v _ _ w2 h1 h2 h3 CH =>
   rw [kd_chr,if_pos rfl]
   have fin:∀ (h':Heap) (tk2:Nat) (r l:Addr) (u1 u2:Tok) (n:Nat),Fr h₀ L h' m->News h₀ L h' ((r,prO (.int ((v:Nat):Int) u1) (.ref l))::(l,listOf #[.str "char" u2] n)::(I,oI)::(C,oC)::(D,LCg.lst ys)::news) ->
     (∀ q∈(I,oI)::(C,oC)::(D,LCg.lst ys)::news,q.1<l)->(∀ q∈(I,oI)::(C,oC)::(D,LCg.lst ys)::news,q.1<r)->TurnC h₀ L m { s₂ with heap:=h,toks:=tk } I oI C oC D (LCg.lst ys) (fun ys news=>(∀ q∈R,q∈news)/\∃ w1 w2,(Z13.fl 0)=w1++w2/\WorOk news ys w1/\ChOk (due.drop (i+1)) w2) (ys++[.ref r]) { s₂ with heap:=h',toks:=tk2 }:=fun h' tk2 r l u1 u2 n F2 N2 o1 o2=>by
    refine ⟨h',tk2,(r,prO (.int ((v:Nat):Int) u1) (.ref l))::(l,listOf #[.str "char" u2] n)::news,rfl,F2,fun q hq=>N2 q ?_,⟨⟨?_,?_,?_⟩,⟨?_,?_,?_⟩,off⟩,fun q hq=>.tail _ (.tail _ (sub q hq)),w1++[v],w2,by rw [ew,List.append_assoc];rfl,WO.snoc,CH⟩
    ·exact mv5 hq
    ·exact Nat.ne_of_gt (o2 _ (.head _))
    ·exact Nat.ne_of_gt (o2 _ (.tail _ (.head _)))
    ·exact Nat.ne_of_gt (o2 _ (.tail _ (.tail _ (.head _))))
    ·exact Nat.ne_of_gt (o1 _ (.head _))
    ·exact Nat.ne_of_gt (o1 _ (.tail _ (.head _)))
    ·exact Nat.ne_of_gt (o1 _ (.tail _ (.tail _ (.head _))))
   rcases op_cases h1 with rfl | rfl | rfl
   ·exact el_q LI h8 hp (Bc tk') N' hC e3 h2 h3 (by rw [op_list,op_1];rfl) fin
   ·exact el_L LI h8 hp (Bc tk') N' hC e3 h2 h3 (by rw [op_list,op_2];rfl) fin
   ·exact el_D LI h8 hp (Bc tk') N' hC e3 h2 h3 (by rw [op_list,op_3];rfl) fin
 ·intro D h tk ys news' F' N' o1 hq0
  obtain ⟨sub,w1,w2,ew,WO,CH⟩:=hq0
  rw [il,List.drop_length] at CH
  cases CH
  rw [List.append_nil] at ew
  subst ew
  exact ret h tk D ys news' F' N' sub WO
theorem ret_comp {x:Stmt} {e c:Expr} {i1 i2 i3 i4 i5 tp pos:Pos} {kk:Nat} {sc2:Scope} {got:Addr} {its:List Value} {due:DueL} {ws:List Nat} {R:List (Addr×Obj)} {Q E:Value->Shared->Prop} (LI:LawIs b sc) (h8:stAt b 8=some x) (hp:elOf x=some (e,sc2)) (hp2:tsOf x=some (e,c,sc2))
  (g1:closureFor sc2 (envW sc L fa cd cP cS)=pure ([] : List (Str×Addr))) (g2:∀ y∈sc2.names,y.2≠.cell) (g3:sc2.kind=.function) (g4:∀ y∈sc2.names,y.2=.local->sc2.names.lookup y.1=some .local)
  (g5:∀ C,(compEnvC sc2 [] C (envW sc L fa cd cP cS)).kindOf "kind" = some .local/\(compEnvC sc2 [] C (envW sc L fa cd cP cS)).kindOf "val" = some .local/\(compEnvC sc2 [] C (envW sc L fa cd cP cS)).kindOf "row" = some .local/\(compEnvC sc2 [] C (envW sc L fa cd cP cS)).kindOf "col" = some .local/\((compEnvC sc2 [] C (envW sc L fa cd cP cS)).scope.kind=.function))
  (g6:(envW sc L fa cd cP cS).kindOf "got" = some .local/\(envW sc L fa cd cP cS).kindOf "worths" = some .local/\∀ y,foldedSetIterable (.Name "got" i5) (envW sc L fa cd cP cS) y=pure y)
  (B:Cx 550 w p loose mean mg mb dp un sc [] A₀ base h₀ L m s) (N:News h₀ L s.heap R) (w3:m "got" = some (.ref got)) (CO:ChOk due ws) (dz:due.length≤1000) (il:its.length=due.length)
  (GL:∀ h,h₀.StaysIn h->News h₀ L h R->h.IsList got its.toArray)
  (GI:∀ (i:Nat) kd vl k,due[i]?=some (kd,vl,k)->∃ T t1 t2 vr vc,its[i]?=some (.ref T)/\∀ h,h₀.StaysIn h->News h₀ L h R->h.IsTuple T #[.str kd t1,.str vl t2,vr,vc])
  (ret:∀ (h':Heap) (tk':Nat) (D:Addr) (ys:List Value) (K:List (Addr×Obj)),Fr h₀ L h' m->News h₀ L h' ((D,LCg.lst ys)::K)->(∀ q∈R,q∈K)->WorOk K ys ws->Q (.ref D) { s with heap:=h',toks:=tk' }) :
  wpAny (model pw_rk0009_01 w) (topW dp un gd sc L fa cd cP cS) (eval (.ListComp e [⟨.Tuple [.Name "kind" i1,.Name "val" i2,.Name "row" i3,.Name "col" i4] kk tp,.Name "got" i5,[c],0⟩] sc2 pos) (envW sc L fa cd cP cS)) Q E s:=pickedZ (by with_unfolding_all rfl) Z13c (sfl (sfN (sfp (sfe (sfm (sfs (sfB (sfV (sfA (frC w p loose mean mg mb dp un gd Z13.cn Z13.cs Z13.ca Z13.ccd Z13.cll Z13.outer A₀ base Z13.h₀ Z13.L Z13.m Z13.s Z13.E) [fa,cP,cS,got]) [cd]) [b]) [sc,sc2]) [x]) [c]) [i1,i2,i3,i4,i5,tp,pos]) [kk]) [ws]) h₀ L m s e its due R Q E LI h8 hp hp2 g1 g2 g3 g4 g5 g6 B N w3 CO dz il GL GI ret
end
end
example:True:=by w_top off;trivial
section
noncomputable def worData (ws:List Nat):List PyData:=ws.map fun (v:Nat)=>.tuple [.int ((v:Nat):Int),.list [.str "char"]]
theorem reads_wor {h₀ h:Heap} {L D:Addr} {ys:List Value} {n:Nat} {K:List (Addr×Obj)} {ws:List Nat} (N:News h₀ L h K) (hD:h.get? D=some (listOf ys.toArray n)) (O:WorOk K ys ws):∃ as,Reads h (.ref D) (.list (worData ws)) as:=by
 refine e1a1 (readsAll_ex (h:=h) ys (worData ws) (by rw [O.len];simp [worData]) fun i v d e1 e2=>by
  unfold worData at e2
  rw [List.getElem?_map] at e2
  refine e1a2 (Option.map_eq_some_iff.mp e2) fun w e3 Q4=>?_;obtain rfl:=Q4
  refine e5a3 (O.at_ i w e3) fun a l t u n f1 f2 f3=>?_
  rw [e1] at f1
  rw [Option.some.inj f1]
  exact ⟨_,.tuple (N _ f2).1 rfl rfl (.cons (.int _ _) (.cons (.list (N _ f3).1 rfl rfl (.cons (.str _ _) .nil)) .nil))⟩) fun as r=>?_
 exact ⟨_,.list hD rfl rfl r⟩
theorem wor_shaped (ws:List Nat):SeqAt.shaped (.list (worData ws))=true/\PyData.eqv (.list (worData ws)) (.list (worData ws))=true:=by
 have so:PyData.strOk "char" = true:=by decide +kernel
 have ok:∀ d∈worData ws,d.canLay0=true/\d.depth≤2:=fun d hd=>by
  refine e1a2 (List.mem_map.mp hd) fun q hq Q5=>?_;obtain rfl:=Q5
  refine ⟨?_,?_⟩
  ·simp only [PyData.canLay0,PyData.canLayAll0,so,Bool.and_self]
  ·simp only [PyData.depth,PyData.depthAll];decide
 have c:(PyData.list (worData ws)).canLay0=true:=by
  rw [PyData.canLay0];exact can_all _ fun d hd=>(ok d hd).1
 have dp:(PyData.list (worData ws)).depth≤64:=by
  rw [PyData.depth]
  have:=depth_all 2 _ fun d hd=>(ok d hd).2
  omega
 exact ⟨by unfold SeqAt.shaped;rw [c,decide_eq_true dp];rfl,PySem.SeqAt.eqv_refl _ c⟩
section
variable {fa:Addr} {cd:Value} {cP cS:Addr} {b:List Stmt} {sc:Scope}
noncomputable def Z70P:FrZ->Prop:=fun V=>∀ (x:Stmt) (LI:LawIs (V.fB 0) (V.fs 0)) (h8:stAt (V.fB 0) 8=some x) (B:Cx 550 V.w V.p V.loose V.mean V.mg V.mb V.dp V.un (V.fs 0) [] V.A₀ V.base V.h₀ V.L V.m V.s) (N:News V.h₀ V.L V.s.heap (V.fL 0)) (w3:V.m "got" = some (.ref (V.fA 3))) (w4:V.m "worths" = some (.ref (V.fA 4))) (CO:ChOk (V.fd 0) (V.fl 0)) (dz:(V.fd 0).length≤1000) (il:(V.fv 0).length=(V.fd 0).length) (GL:∀ h,V.h₀.StaysIn h->News V.h₀ V.L h (V.fL 0)->h.IsList (V.fA 3) (V.fv 0).toArray) (GI:∀ (i:Nat) kd vl k,(V.fd 0)[i]?=some (kd,vl,k)->∃ T t1 t2 vr vc,(V.fv 0)[i]?=some (.ref T)/\∀ h,V.h₀.StaysIn h->News V.h₀ V.L h (V.fL 0)->h.IsTuple T #[.str kd t1,.str vl t2,vr,vc]) (mw:((V.fA 4),listOf (V.fv 1).toArray (V.fN 0))∈(V.fL 0)) (WO:WorOk (V.fL 0) (V.fv 1) (V.fl 0)) (ret:∀ (h':Heap) (tk':Nat),Fr V.h₀ V.L h' V.m->News V.h₀ V.L h' (V.fL 0)->(V.fF 0) (.ret (.bool true)) { V.s with heap:=h',toks:=tk' }),wpAny (model pw_rk0009_01 V.w) (topW V.dp V.un V.gd (V.fs 0) V.L (V.fA 0) (V.fV 0) (V.fA 1) (V.fA 2)) (exec x (envW (V.fs 0) V.L (V.fA 0) (V.fV 0) (V.fA 1) (V.fA 2))) (V.fF 0) V.E V.s
@[irreducible] noncomputable def Z70:FrZ:=pickZ Z70P
set_option maxHeartbeats 4000000 in
theorem Z70c:Z70P Z70:=by
 intro x LI h8 B N w3 w4 CO dz il GL GI mw WO ret
 refine e8a1 (eight_shape LI h8) fun e c i1 i2 i3 i4 i5 kk Q6=>?_;refine e6a3 Q6 fun tp sc2 pos p0 p1 p2 Q7=>?_;clear Q6;obtain rfl:=Q7;intro hd Q8;refine e0a7 Q8 fun hd2 g1 g2 g3 g4 g5 g6=>?_;clear Q8
 have F:=B.F
 have hsk:=B.hk
 iterate 2 walk1
 refine ret_comp LI h8 hd hd2 (g1 _ _ _ _ _) g2 g3 g4 (g5 _ _ _ _ _) (g6 _ _ _ _ _) B N w3 CO dz il GL GI fun h' tk' D ys K F' N' sub O=>?_
 have NR:News Z70.h₀ Z70.L h' (Z70.fL 0):=fun q hq=>N' q (.tail _ (sub q hq))
 have NK:News Z70.h₀ Z70.L h' K:=fun q hq=>N' q (.tail _ hq)
 refine ldM2 F' hsk (g6 _ _ _ _ _).2.1 rfl w4 (by decide) ?_
 refine e1a1 (reads_wor NK (N' _ (.head _)).1 O) fun as1 r1=>?_
 refine e1a1 (reads_wor NR (NR _ mw).1 WO) fun as2 r2=>?_
 refine e0a2 (wor_shaped (Z70.fl 0)) fun sh eq=>?_
 have hun:=B.hun
 refine eq_dataH (s:={ Z70.s with heap:=h',toks:=tk' }) r1 r2 sh sh (by show Z70.un+64<cLine;have:cLine=9900:=rfl;omega) ?_
 rw [eq]
 exact ret h' tk' F' NR
theorem w_ret {x:Stmt} {got woA:Addr} {its wv:List Value} {wn:Nat} {due:DueL} {ws:List Nat} {R:List (Addr×Obj)} {Q:Flow->Shared->Prop} {E:Value->Shared->Prop} (LI:LawIs b sc) (h8:stAt b 8=some x)
  (B:Cx 550 w p loose mean mg mb dp un sc [] A₀ base h₀ L m s) (N:News h₀ L s.heap R) (w3:m "got" = some (.ref got)) (w4:m "worths" = some (.ref woA)) (CO:ChOk due ws) (dz:due.length≤1000) (il:its.length=due.length)
  (GL:∀ h,h₀.StaysIn h->News h₀ L h R->h.IsList got its.toArray)
  (GI:∀ (i:Nat) kd vl k,due[i]?=some (kd,vl,k)->∃ T t1 t2 vr vc,its[i]?=some (.ref T)/\∀ h,h₀.StaysIn h->News h₀ L h R->h.IsTuple T #[.str kd t1,.str vl t2,vr,vc])
  (mw:(woA,listOf wv.toArray wn)∈R) (WO:WorOk R wv ws)
  (ret:∀ (h':Heap) (tk':Nat),Fr h₀ L h' m->News h₀ L h' R->Q (.ret (.bool true)) { s with heap:=h',toks:=tk' }) :
  wpAny (model pw_rk0009_01 w) (topW dp un gd sc L fa cd cP cS) (exec x (envW sc L fa cd cP cS)) Q E s:=pickedZ (by with_unfolding_all rfl) Z70c (sfF (sfL (sfl (sfd (sfN (sfv (sfs (sfB (sfV (sfA (frC w p loose mean mg mb dp un gd Z70.cn Z70.cs Z70.ca Z70.ccd Z70.cll Z70.outer A₀ base h₀ L m s E) [fa,cP,cS,got,woA]) [cd]) [b]) [sc]) [its,wv]) [wn]) [due]) [ws]) [R]) [Q]) x LI h8 B N w3 w4 CO dz il GL GI mw WO ret
end
end
example:True:=by w_top off;trivial
section
section
theorem glue_ones:∀ (l:List Nat) (acc:Array Nat),(l.map fun c=>(⟨#[c]⟩:Str)).foldl (fun acc p=>acc++("" : Str).cps++p.cps) acc=acc++l.toArray
 | [],acc=>by simp
 | c::l,acc=>by
  rw [List.map_cons,List.foldl_cons,glue_ones l]
  show (acc++#[]++#[c])++l.toArray=_
  simp
theorem catS_sp {cs:List Cel} {l:List Nat} (h:Sp cs l):catS cs=⟨l.toArray⟩:=by
 unfold catS
 rw [h]
 cases l with
 | nil=>rfl
 | cons c r =>
  show (⟨((r.map fun c=>(⟨#[c]⟩:Str))).foldl (fun acc p=>acc++("" : Str).cps++p.cps) #[c]⟩:Str)=_
  rw [glue_ones]
  congr 1
  simp
theorem catS_str {cs:List Cel} {x:Str} (h:Sp cs x.cps.toList):catS cs=x:=catS_sp h
/-! tokens at places -/
structure TokO (o:Nat) (toks:List (Str×List Cel)) (due:DueL) (cs:List Cel):Prop where
 len:toks.length=due.length
 at_:∀ (i:Nat) typ cc,toks[i]?=some (typ,cc)->∃ k x,due[i]?=some (typ,catS cc,o+k)/\cc.head?=some x/\cs[k]?=some x
theorem TokO.nil (o:Nat) (cs:List Cel):TokO o [] [] cs:=⟨rfl,fun i typ cc e=>by simp at e⟩
theorem TokO.app {o:Nat} {t1 t2:List (Str×List Cel)} {d1 d2:DueL} {a b:List Cel} (h1:TokO o t1 d1 a) (h2:TokO (o+a.length) t2 d2 b):TokO o (t1++t2) (d1++d2) (a++b) where
 len:=by rw [List.length_append,List.length_append,h1.len,h2.len]
 at_:=fun i typ cc e=>by
  by_cases hl:i<t1.length
  ·rw [List.getElem?_append_left hl] at e
   refine e2a3 (h1.at_ i typ cc e) fun k x e1 e2 e3=>?_
   exact ⟨k,x,by rw [List.getElem?_append_left (by rw [<- h1.len];exact hl)];exact e1,e2,by rw [List.getElem?_append_left (List.getElem?_eq_some_iff.mp e3).1];exact e3⟩
  ·rw [List.getElem?_append_right (Nat.not_lt.mp hl)] at e
   refine e2a3 (h2.at_ _ typ cc e) fun k x e1 e2 e3=>?_
   refine ⟨a.length+k,x,?_,e2,?_⟩
   ·rw [List.getElem?_append_right (by rw [<- h1.len];exact Nat.not_lt.mp hl),<- h1.len,<- Nat.add_assoc];exact e1
   ·rw [List.getElem?_append_right (Nat.le_add_right _ _),Nat.add_sub_cancel_left];exact e3
noncomputable def PreL (cs:List Cel) (toks:List (Str×List Cel)):Prop:=∀ q toks' fin,Lexed q toks' fin->Lexed (cs++q) (toks++toks') fin
theorem PreL.app {a b:List Cel} {t1 t2:List (Str×List Cel)} (h1:PreL a t1) (h2:PreL b t2):PreL (a++b) (t1++t2):=fun q toks' fin h=>by
 rw [List.append_assoc,List.append_assoc]
 exact h1 _ _ _ (h2 _ _ _ h)
/-! the signs between -/
noncomputable def oneOk (nx:Nat):List Nat->Bool
 | []=>true
 | c::r=>!((⟨#[c]⟩:Str) == "'")&&!(inS "L$" ⟨#[c]⟩&&inS "'" ⟨#[r.headD nx]⟩)&&oneOk nx r
theorem one_ok:∀ ah∈tab_among,∀ op∈tab_openers,(ah == "L" && op == "'")=false->oneOk (op.cps.toList.headD 0) ah.cps.toList=true:=by decide +kernel
noncomputable def onesT (cs:List Cel):List (Str×List Cel):=cs.map fun x=>("ONE",[x])
theorem ones_lex {nx:Nat} {y:Cel} {r q:List Cel} {toks:List (Str×List Cel)} {fin:Option Value} (hq:q=y::r) (hy:y.x=⟨#[nx]⟩) (LX:Lexed q toks fin):∀ (l:List Nat) (cs:List Cel),Sp cs l->oneOk nx l=true->Lexed (cs++q) (onesT cs++toks) fin
 | [],cs,hs,_=>by
  obtain rfl:=Sp.nil hs
  exact LX
 | c::l,cs,hs,ok=>by
  refine e2a3 hs.cons fun x cs' Q9=>?_;obtain rfl:=Q9;intro hx hs'
  have ok:(!((⟨#[c]⟩:Str) == "'")&&!(inS "L$" ⟨#[c]⟩&&inS "'" ⟨#[l.headD nx]⟩)&&oneOk nx l)=true:=ok
  rw [Bool.and_eq_true,Bool.and_eq_true,Bool.not_eq_true',Bool.not_eq_true'] at ok
  refine e0a2 ok fun Q10 o3=>?_;clear ok;refine e0a2 Q10 fun o1 o2=>?_;clear Q10
  have ih:=ones_lex hq hy LX l cs' hs' o3
  refine Lexed.step (turn_one (by rw [hx];exact o1) ?_) ih
  rw [hx]
  cases l with
  | nil =>
   obtain rfl:=Sp.nil hs'
   rw [hq]
   show (_&&inS "'" y.x)=false
   rw [hy];exact o2
  | cons d l =>
   refine e2a3 hs'.cons fun z cs2 Q11=>?_;obtain rfl:=Q11;intro hz _
   show (_&&inS "'" z.x)=false
   rw [hz];exact o2
theorem ones_tok:∀ (l:List Nat) (cs:List Cel) (o:Nat),Sp cs l->TokO o (onesT cs) (ones o l) cs
 | [],cs,o,hs=>by
  obtain rfl:=Sp.nil hs
  exact TokO.nil _ _
 | c::l,cs,o,hs=>by
  refine e2a3 hs.cons fun x cs' Q12=>?_;obtain rfl:=Q12;intro hx hs'
  have a:TokO o [("ONE",[x])] ([("ONE",⟨#[c]⟩,o)] : DueL) [x]:=⟨rfl,fun i typ cc e=>by
   cases i with
   | succ i=>simp at e
   | zero =>
    simp only [List.getElem?_cons_zero,Option.some.injEq,Prod.mk.injEq] at e
    refine e0a2 e fun Q13=>?_;clear e;obtain rfl:=Q13;intro Q14;obtain rfl:=Q14
    exact ⟨0,x,by rw [catS_sp (l:=[c]) (by unfold Sp;simp [hx])];rfl,rfl,rfl⟩⟩
  exact TokO.app a (ones_tok l cs' (o+1) hs')
end
end
example:True:=by w_top off;trivial
section
section
theorem cel_sp {T:Str} {pls:List (Int×Int)} {cels:List Cel} (CT:CelT T pls cels):Sp cels T.cps.toList:=by
 refine List.ext_getElem? fun j=>?_
 rw [List.getElem?_map,List.getElem?_map]
 cases e:cels[j]? with
 | none =>
  have hj:=List.getElem?_eq_none_iff.mp e
  have:T.cps.toList[j]?=none:=List.getElem?_eq_none_iff.mpr (by rw [Array.length_toList];have:=CT.len;have h2:T.cps.size=T.length:=rfl;omega)
  rw [this];rfl
 | some x =>
  refine e1a3 (CT.at_ j x e) fun c h1 h2 _=>?_
  rw [Array.getElem?_toList,h1]
  show some x.x=some ⟨#[c]⟩
  rw [h2]
theorem char_turn {op content:Str} {way:Int} {v:Nat} {c2 q:List Cel} (ho:op∈tab_openers) (hw:Wr way content v) (hs:Sp c2 (op++content ++ "'").cps.toList):turn (c2++q)=some (.ok ("CHAR",c2,q))/\∃ y r,c2=y::r/\y.x=⟨#[op.cps.toList.headD 0]⟩:=by
 rw [op_list] at hs
 rcases op_cases ho with rfl | rfl | rfl
 ·rw [op_1] at hs
  refine e2a3 (Sp.cons (c:=39) (l:=content.cps.toList++[39]) hs) fun x r Q15=>?_;obtain rfl:=Q15;intro hx hs
  refine e2a3 hs.app fun c1 c3 Q16=>?_;obtain rfl:=Q16;intro h1 h3
  refine e2a3 h3.cons fun y r Q17=>?_;obtain rfl:=Q17;intro hy h3
  obtain rfl:=h3.nil
  refine ⟨?_,x,_,rfl,by rw [op_1];exact hx⟩
  have:=turn_q (q:=q) hw h1 (by rw [q_is];exact hx) hy
  rw [show (x::(c1++[y]))++q=x::(c1++y::q) by simp]
  exact this
 ·rw [op_2] at hs
  refine e2a3 (Sp.cons (c:=76) (l:=39::(content.cps.toList++[39])) hs) fun x r Q18=>?_;obtain rfl:=Q18;intro hx hs
  refine e2a3 hs.cons fun o r Q19=>?_;obtain rfl:=Q19;intro hoo hs
  refine e2a3 hs.app fun c1 c3 Q20=>?_;obtain rfl:=Q20;intro h1 h3
  refine e2a3 h3.cons fun y r Q21=>?_;obtain rfl:=Q21;intro hy h3
  obtain rfl:=h3.nil
  refine ⟨?_,x,_,rfl,by rw [op_2];exact hx⟩
  have:=turn_L (q:=q) hw h1 (.inl (by rw [L_is];exact hx)) hoo hy
  rw [show (x::o::(c1++[y]))++q=x::o::(c1++y::q) by simp]
  exact this
 ·rw [op_3] at hs
  refine e2a3 (Sp.cons (c:=36) (l:=39::(content.cps.toList++[39])) hs) fun x r Q22=>?_;obtain rfl:=Q22;intro hx hs
  refine e2a3 hs.cons fun o r Q23=>?_;obtain rfl:=Q23;intro hoo hs
  refine e2a3 hs.app fun c1 c3 Q24=>?_;obtain rfl:=Q24;intro h1 h3
  refine e2a3 h3.cons fun y r Q25=>?_;obtain rfl:=Q25;intro hy h3
  obtain rfl:=h3.nil
  refine ⟨?_,x,_,rfl,by rw [op_3];exact hx⟩
  have:=turn_L (q:=q) hw h1 (.inr (by rw [show ("$" : Str)=⟨#[36]⟩ by decide +kernel];exact hx)) hoo hy
  rw [show (x::o::(c1++[y]))++q=x::o::(c1++y::q) by simp]
  exact this
theorem drop_loc {cs:List Cel} {k:Nat} (h:k<cs.length):∃ x,cs[k]?=some x/\locOf (cs.drop k)=.ref x.lc:=by
 refine ⟨cs[k],List.getElem?_eq_getElem h,?_⟩
 rw [List.drop_eq_getElem_cons h]
 rfl
theorem lexC_ws {rest:Str} {stop:Int} {cs:List Cel} (h:Ws rest stop) (hs:Sp cs rest.cps.toList):(stop=-1/\lexC cs=.error .none)\/∃ (k:Nat) (x:Cel),stop=(k:Int)/\cs[k]?=some x/\lexC cs=.error (.ref x.lc):=by
 have hl:cs.length=rest.length:=hs.len
 cases h with
 | @k0 way content bh v c hw hc hb =>
  refine e1a2 (drop_loc (cs:=cs) (k:=content.length) (by rw [hl,app_len,app_len,one_l];omega)) fun x e1 e2=>?_
  exact .inr ⟨content.length,x,rfl,e1,by rw [lexC_k0 hw hc hs,e2]⟩
 | k1 hx=>exact .inl ⟨rfl,lexC_k1 hx hs⟩
 | @k2 bh c hc hb =>
  refine e1a2 (drop_loc (cs:=cs) (k:=1) (by rw [hl,app_len,app_len,one_l,bs_l];omega)) fun x e1 e2=>?_
  exact .inr ⟨1,x,rfl,e1,by rw [lexC_k2 hc hs,e2]⟩
 | @k3 bh c hc hb =>
  refine e1a2 (drop_loc (cs:=cs) (k:=1) (by rw [hl,app_len,app_len,one_l,q_l];omega)) fun x e1 e2=>?_
  exact .inr ⟨1,x,rfl,e1,by rw [lexC_k3 hc hs,e2]⟩
 | @k4 fin bh v c hv hsp hc hb =>
  have hf:=dg_facts dg_oct
  refine e1a5 (sp_digs (by decide) hf.1 20 v "" hsp) fun pre e1 e2 e3 e4 e5=>?_
  have hz:("" : Str).length=0:=rfl
  rw [hz] at e4
  have hfl:fin.length=pre.length:=by
   have:fin.cps.toList=pre:=by rw [e1];exact List.append_nil _
   rw [len_list,this]
  refine e1a2 (drop_loc (cs:=cs) (k:=4) (by rw [hl,app_len,app_len,app_len,one_l,bs_l];omega)) fun x e1 e2=>?_
  exact .inr ⟨4,x,rfl,e1,by rw [lexC_k4 hv hsp hc hs,e2]⟩
theorem turn_qe {x:Cel} {r:List Cel} {l:Value} (hx:x.x=⟨#[39]⟩) (h:lexC r=.error l):turn (x::r)=some (.error l):=by
 have hb:(x.x==("'" : Str))=true:=by rw [hx];decide +kernel
 show (if (x.x==("'" : Str))=true then _ else _)=_
 rw [if_pos hb,h]
theorem turn_Le {x o:Cel} {r:List Cel} {l:Value} (hx:x.x=⟨#[76]⟩\/x.x=⟨#[36]⟩) (ho:o.x=⟨#[39]⟩) (h:lexC r=.error l):turn (x::o::r)=some (.error l):=by
 have hb:(x.x==("'" : Str))=false:=by rcases hx with hx | hx <;> (rw [hx];decide +kernel)
 have hc:inS "L$" x.x=true:=by rcases hx with hx | hx <;> (rw [hx];decide +kernel)
 have hq:accB "'" (o::r)=true:=by show inS "'" o.x=true;rw [ho];decide +kernel
 have e2:accS "'" (o::r)=r:=by unfold accS;rw [hq];rfl
 show (if (x.x==("'" : Str))=true then _ else if (inS "L$" x.x&&accB "'" (o::r))=true then _ else _)=_
 rw [hb,if_neg (by decide),hc,hq,if_pos (by decide),e2,h]
theorem wrong_turn {op rest:Str} {stop:Int} {c2:List Cel} (ho:op∈tab_openers) (hw:Ws rest stop) (hs:Sp c2 (op++rest).cps.toList) :
  ∃ l,turn c2=some (.error l)/\((stop=-1/\l=.none)\/∃ (k:Nat) (x:Cel),stop=(k:Int)/\c2[op.length+k]?=some x/\l=.ref x.lc)/\∃ y r,c2=y::r/\y.x=⟨#[op.cps.toList.headD 0]⟩:=by
 rw [app_list] at hs
 rcases op_cases ho with rfl | rfl | rfl
 ·rw [op_1] at hs
  refine e2a3 (Sp.cons (c:=39) (l:=rest.cps.toList) hs) fun x r Q26=>?_;obtain rfl:=Q26;intro hx hs
  rcases lexC_ws hw hs with ⟨e1,e2⟩ | ⟨k,y,e1,e2,e3⟩
  ·exact ⟨_,turn_qe hx e2,.inl ⟨e1,rfl⟩,x,r,rfl,by rw [op_1];exact hx⟩
  ·exact ⟨_,turn_qe hx e3,.inr ⟨k,y,e1,by rw [len_list,op_1,Nat.add_comm];exact e2,rfl⟩,x,r,rfl,by rw [op_1];exact hx⟩
 ·rw [op_2] at hs
  refine e2a3 (Sp.cons (c:=76) (l:=39::rest.cps.toList) hs) fun x r Q27=>?_;obtain rfl:=Q27;intro hx hs
  refine e2a3 hs.cons fun o r Q28=>?_;obtain rfl:=Q28;intro hoo hs
  rcases lexC_ws hw hs with ⟨e1,e2⟩ | ⟨k,y,e1,e2,e3⟩
  ·exact ⟨_,turn_Le (.inl hx) hoo e2,.inl ⟨e1,rfl⟩,x,_,rfl,by rw [op_2];exact hx⟩
  ·exact ⟨_,turn_Le (.inl hx) hoo e3,.inr ⟨k,y,e1,by rw [len_list,op_2,Nat.add_comm];exact e2,rfl⟩,x,_,rfl,by rw [op_2];exact hx⟩
 ·rw [op_3] at hs
  refine e2a3 (Sp.cons (c:=36) (l:=39::rest.cps.toList) hs) fun x r Q29=>?_;obtain rfl:=Q29;intro hx hs
  refine e2a3 hs.cons fun o r Q30=>?_;obtain rfl:=Q30;intro hoo hs
  rcases lexC_ws hw hs with ⟨e1,e2⟩ | ⟨k,y,e1,e2,e3⟩
  ·exact ⟨_,turn_Le (.inr hx) hoo e2,.inl ⟨e1,rfl⟩,x,_,rfl,by rw [op_3];exact hx⟩
  ·exact ⟨_,turn_Le (.inr hx) hoo e3,.inr ⟨k,y,e1,by rw [len_list,op_3,Nat.add_comm];exact e2,rfl⟩,x,_,rfl,by rw [op_3];exact hx⟩
theorem ah_one {ah op:Str} (h:AhOk ah op):oneOk (op.cps.toList.headD 0) ah.cps.toList=true:=by
 refine one_ok ah h.1 op h.2.1 ?_
 cases e:(ah == "L" && op == "'") with
 | false=>rfl
 | true =>
  rw [Bool.and_eq_true,beq_iff_eq,beq_iff_eq] at e
  exact absurd e h.2.2
theorem bt_lex {i:Nat} {t:Str} {d:DueL} {w:List Nat} (h:Bt i t d w):∀ cs,Sp cs t.cps.toList->∃ toks,PreL cs toks/\TokO 0 toks d cs:=by
 induction h with
 | nil =>
  intro cs hs
  obtain rfl:=Sp.nil (show Sp cs [] from hs)
  exact ⟨[],fun q toks' fin h=>h,TokO.nil _ _⟩
 | @turn i t ah op content d w way v _ ha hw hl ih =>
  intro cs hs
  rw [app_list,app_list] at hs
  refine e2a3 hs.app fun ab c Q31=>?_;obtain rfl:=Q31;intro hab hc
  refine e2a3 hab.app fun a b Q32=>?_;obtain rfl:=Q32;intro h1 h2
  refine e1a2 (ih a h1) fun t1 p1 k1=>?_
  have ct:=fun q=>char_turn (q:=q) ha.2.1 hw hc
  obtain ⟨_,y,r,ey,hy⟩:=ct []
  have la:a.length=t.length:=h1.len
  have lb:b.length=ah.length:=h2.len
  refine ⟨t1++onesT b++([("CHAR",c)] : List (Str×List Cel)),?_,?_⟩
  ·rw [List.append_assoc,List.append_assoc]
   refine p1.app fun q toks' fin LX=>?_
   rw [List.append_assoc,List.append_assoc]
   exact ones_lex (q:=c++q) (r:=r++q) (by rw [ey];rfl) hy (Lexed.step (ct q).1 LX) _ _ h2 (ah_one ha)
  ·refine (k1.app ?_).app ?_
   ·rw [Nat.zero_add,la]
    exact ones_tok _ _ _ h2
   ·rw [Nat.zero_add,List.length_append,la,lb]
    refine ⟨rfl,fun j typ cc e=>?_⟩
    cases j with
    | succ j=>simp at e
    | zero =>
     simp only [List.getElem?_cons_zero,Option.some.injEq,Prod.mk.injEq] at e
     refine e0a2 e fun Q33=>?_;clear e;obtain rfl:=Q33;intro Q34;obtain rfl:=Q34
     exact ⟨0,y,by rw [catS_str hc];rfl,by rw [ey];rfl,by rw [ey];rfl⟩
noncomputable def FinRef (fin:Option Value) (ref:Option Int) (cels:List Cel):Prop:=match ref with
 | none=>fin=none
 | some r=>(r<0/\fin=some .none)\/(0≤r/\∃ x,cels[r.toNat]?=some x/\fin=some (.ref x.lc))
theorem TokO.due {toks:List (Str×List Cel)} {due:DueL} {cs:List Cel} (h:TokO 0 toks due cs):TokDue toks due cs:=⟨h.len,fun i typ cc e=>by
 refine e2a3 (h.at_ i typ cc e) fun k x e1 e2 e3=>?_
 rw [Nat.zero_add] at e1
 exact ⟨k,x,e1,e2,e3⟩⟩
theorem bf_lex {T:Str} {d:DueL} {w:List Nat} {ref:Option Int} (h:Bf T d w ref) {pls:List (Int×Int)} {cels:List Cel} (CT:CelT T pls cels):∃ toks fin,Lexed cels toks fin/\toks.length≤900/\(TokDue toks d cels/\FinRef fin ref cels):=by
 have hs:=cel_sp CT
 have sz:=h.sz
 cases h with
 | all hi hb =>
  refine e1a2 (bt_lex hb cels hs) fun toks p k=>?_
  have:=p [] [] none (Lexed.done rfl)
  rw [List.append_nil,List.append_nil] at this
  exact ⟨toks,none,this,by rw [k.len];omega,k.due,rfl⟩
 | @wrong i t ah op rest d w stop hi hb ha hw hl =>
  rw [app_list,app_list] at hs
  refine e2a3 hs.app fun ab c Q35=>?_;obtain rfl:=Q35;intro hab hc
  refine e2a3 hab.app fun a b Q36=>?_;obtain rfl:=Q36;intro h1 h2
  refine e1a2 (bt_lex hb a h1) fun t1 p1 k1=>?_
  have la:a.length=t.length:=h1.len
  have lb:b.length=ah.length:=h2.len
  obtain ⟨l,tw,fl,y,r,ey,hy⟩:=wrong_turn ha.2.1 hw hc
  have LX:=p1 _ _ _ (ones_lex (q:=c) (r:=r) ey hy (Lexed.bad tw) _ _ h2 (ah_one ha))
  rw [<- List.append_assoc,List.append_nil] at LX
  have k2:TokO 0 (t1++onesT b) (d++ones t.length ah.cps.toList) (a++b++c):=by
   have:=(k1.app (d2:=ones t.length ah.cps.toList) (t2:=onesT b) (b:=b) (by rw [Nat.zero_add,la];exact ones_tok _ _ _ h2)).app (TokO.nil _ c)
   rw [List.append_nil,List.append_nil] at this
   exact this
  refine ⟨t1++onesT b,some l,LX,by rw [k2.len];omega,k2.due,?_⟩
  rcases fl with ⟨e1,rfl⟩ | ⟨k,x,rfl,e2,rfl⟩
  ·exact .inl ⟨by rw [e1,if_pos (by decide)];decide,rfl⟩
  ·refine .inr ⟨?_,x,?_,rfl⟩
   ·rw [if_neg (by omega)];omega
   ·rw [if_neg (by omega),app_len,show (((t.length+ah.length:Nat):Int)+(op.length:Int)+(k:Int)).toNat=(a++b).length+(op.length+k) by rw [List.length_append,la,lb];omega]
    rw [List.getElem?_append_right (Nat.le_add_right _ _),Nat.add_sub_cancel_left]
    exact e2
end
end
example:True:=by w_top off;trivial
section
section
noncomputable abbrev cOk (l:List Nat):Prop:=∀ c∈l,c<0x110000
theorem sok_of {x:Str} (h:cOk x.cps.toList):PyData.strOk x=true:=by
 unfold PyData.strOk
 rw [Array.all_eq_true']
 intro c hc
 exact decide_eq_true (h c (by simpa using hc))
theorem cok_app {a b:Str} (h1:cOk a.cps.toList) (h2:cOk b.cps.toList):cOk (a++b).cps.toList:=fun c hc=>by
 rw [app_list] at hc
 rcases List.mem_append.mp hc with h | h
 ·exact h1 c h
 ·exact h2 c h
theorem short_cok:∀ q∈tab_short,cOk q.1.cps.toList:=by decide +kernel
theorem hex_cok:∀ q∈tab_hex,cOk q.cps.toList:=by decide +kernel
theorem oct_cok:cOk oct8.cps.toList:=by decide +kernel
theorem among_cok:∀ q∈tab_among,cOk q.cps.toList:=by decide +kernel
theorem open_cok:∀ q∈tab_openers,cOk q.cps.toList:=by decide +kernel
theorem bs_cok:cOk ("\\" : Str).cps.toList/\cOk ("\\x" : Str).cps.toList/\cOk ("\\u" : Str).cps.toList/\cOk ("'" : Str).cps.toList:=by decide +kernel
theorem sp_cok {b:Nat} {wd:Int} {all dg fin:Str} {v:Nat} (hb:0<b) (hd:dgOk b all dg=true) (hc:cOk dg.cps.toList) (h:spRun b wd dg 20 v "" = some fin):cOk fin.cps.toList:=by
 refine e1a3 (sp_digs hb (dg_facts hd).1 20 v "" h) fun pre e1 e2 _=>?_
 have e1:fin.cps.toList=pre:=by rw [e1];exact List.append_nil _
 rw [e1]
 exact fun c hm=>hc c (by simpa using e2 c hm)
theorem wr_cok {way:Int} {content:Str} {v:Nat} (h:Wr way content v):cOk content.cps.toList:=by
 refine e0a4 bs_cok fun b1 b2 b3 b4=>?_
 cases h with
 | raw h1 =>
  intro c hc
  have:c=v:=by simpa using hc
  rw [this];exact h1
 | esc hm _=>exact cok_app b1 (short_cok _ hm)
 | short hm=>exact cok_app b1 (short_cok _ hm)
 | oct _ _ _ h=>exact cok_app b1 (sp_cok (by decide) dg_oct oct_cok h)
 | hex _ _ _ hg h=>exact cok_app b2 (sp_cok (by decide) (dg_hex _ hg) (hex_cok _ hg) h)
 | uni _ _ hg h=>exact cok_app b3 (sp_cok (by decide) (dg_hex _ hg) (hex_cok _ hg) h)
theorem ones_all:∀ (l:List Nat) (k:Nat),cOk l->∀ q∈ones k l,PyData.strOk q.1=true/\PyData.strOk q.2.1=true/\q.2.2<k+l.length
 | [],_,_,q,hq=>nomatch hq
 | c::l,k,h,q,hq=>by
  rw [ones] at hq
  rcases List.mem_cons.mp hq with rfl | hq
  ·refine ⟨(by decide +kernel:PyData.strOk "ONE" = true),sok_of (x:=⟨#[c]⟩) fun d hd=>?_,?_⟩
   ·have:d=c:=by simpa using hd
    rw [this];exact h c (.head _)
   ·show k<_
    rw [List.length_cons];omega
  ·refine e0a3 (ones_all l (k+1) (fun c hc=>h c (.tail _ hc)) q hq) fun h1 h2 h3=>?_
   exact ⟨h1,h2,by rw [List.length_cons];omega⟩
theorem Bt.all {i:Nat} {t:Str} {d:DueL} {w:List Nat} (h:Bt i t d w):∀ q∈d,PyData.strOk q.1=true/\PyData.strOk q.2.1=true/\q.2.2<t.length:=by
 induction h with
 | nil=>exact fun q hq=>nomatch hq
 | @turn i t ah op content d w way v _ ha hw hl ih =>
  intro q hq
  have hl4:ah.cps.toList.length=ah.length:=rfl
  simp only [app_len,q_l]
  rcases List.mem_append.mp hq with hq | hq
  ·rcases List.mem_append.mp hq with hq | hq
   ·refine e0a3 (ih q hq) fun h1 h2 h3=>?_
    exact ⟨h1,h2,by omega⟩
   ·refine e0a3 (ones_all _ _ (among_cok _ ha.1) q hq) fun h1 h2 h3=>?_
    exact ⟨h1,h2,by omega⟩
  ·rw [List.mem_singleton] at hq
   subst hq
   refine ⟨(by decide +kernel:PyData.strOk "CHAR" = true),sok_of (cok_app (cok_app (open_cok _ ha.2.1) (wr_cok hw)) bs_cok.2.2.2),?_⟩
   show t.length+ah.length<_
   omega
theorem Bf.all' {t:Str} {d:DueL} {w:List Nat} {r:Option Int} (h:Bf t d w r):∀ q∈d,PyData.strOk q.1=true/\PyData.strOk q.2.1=true/\q.2.2<t.length:=by
 cases h with
 | all _ h=>exact h.all
 | @wrong i t ah op rest d w stop _ h ha _ _ =>
  intro q hq
  have hl4:ah.cps.toList.length=ah.length:=rfl
  simp only [app_len]
  rcases List.mem_append.mp hq with hq | hq
  ·refine e0a3 (h.all q hq) fun h1 h2 h3=>?_
   exact ⟨h1,h2,by omega⟩
  ·refine e0a3 (ones_all _ _ (among_cok _ ha.1) q hq) fun h1 h2 h3=>?_
   exact ⟨h1,h2,by omega⟩
end
end
example:True:=by w_top off;trivial
section
section
theorem law_shape {b:List Stmt} {sc:Scope} (LI:LawIs b sc):∃ x0 x1 x3 x4 x5 x6 x7 x8 tp e bo fp,b=[x0,x1,.For (.Name "i" tp) e bo [] fp,x3,x4,x5,x6,x7,x8]/\sc.kind=.function /\
  ∀ L fa cd cP cS,(envW sc L fa cd cP cS).kindOf "i" = some .local/\∀ x,foldedSetIterable e (envW sc L fa cd cP cS) x=pure x:=by
 refine e1a1 LI fun a0 ho=>?_;clear LI
 have e2:(a0,b,sc)=_:=Option.some.inj (ho.symm.trans (rfl:lawDef=some _))
 injection e2 with e2 e3
 injection e3 with e3 e4
 subst e2 e3 e4
 exact ⟨_,_,_,_,_,_,_,_,_,_,_,_,rfl,rfl,fun _ _ _ _ _=>⟨rfl,fun _=>rfl⟩⟩
theorem news_one {h₀ h:Heap} {L a:Addr} {o o':Obj} {K:List (Addr×Obj)} (N:News h₀ L h K) (m1:(a,o)∈K) (m2:(a,o')∈K):o=o':=by
 have z1:=(N _ m1).1
 have z2:=(N _ m2).1
 simp only at z1 z2
 rw [z1] at z2
 exact Option.some.inj z2
theorem keep_all {h₀ h1 h:Heap} {L:Addr} {m:Str->Option Value} (F1:Fr h₀ L h1 m) (st:h₀.StaysIn h) (N:News h₀ L h (allBut h1 h₀ [L])):∀ b o,b≠L->h1.get? b=some o->h.get? b=some o:=fun b o hb e=>by
 cases e0:h₀.get? b with
 | some o' =>
  have:=F1.keep _ _ e0
  rw [e] at this
  cases this
  exact st _ _ e0
 | none=>exact (N (b,o) (mem_allBut.mpr ⟨e,fun hm=>hb (List.mem_singleton.mp hm),e0⟩)).1
theorem news_all {h₀ h1:Heap} {L:Addr} : News h₀ L h1 (allBut h1 h₀ [L]):=fun q hq=>by
 refine e0a3 (mem_allBut.mp (show (q.1,q.2)∈_ from hq)) fun a1 a2 a3=>?_
 exact ⟨a1,fun e=>a2 (e▸.head _),a3⟩
theorem ns_ne {h:Heap} {L b:Addr} {m:Str->Option Value} {o:Obj} (n:h.Ns L m) (e:h.get? b=some o) (hd:∀ es ep,o.data≠.dict es ep):b≠L:=fun q=>by
 refine e3a3 n fun oL es ep eL dL _=>?_;clear n
 rw [q,eL] at e
 exact hd es ep (by rw [<- Option.some.inj e];exact dL)
variable {fa:Addr} {cd:Value} {cP cS:Addr} {b:List Stmt} {sc:Scope}
noncomputable def Z63P:FrZ->Prop:=fun V=>∀ (b:List Stmt) (st:Int) (ref:Option Int) (toks:List (Str×List Cel)) (sv:Value) (LI:LawIs b (V.fs 0)) (h6:stAt b 6=some (V.fm 0)) (h7:stAt b 7=some (V.fm 1)) (h8:stAt b 8=some (V.fm 2)) (B:Cx 550 V.w V.p V.loose V.mean V.mg V.mb V.dp V.un (V.fs 0) [] V.A₀ V.base V.h₀ V.L V.m V.s) (BF:Bf (V.fS 0) (V.fd 0) (V.fl 0) ref) (CT:CelT (V.fS 0) (plcs st (V.fS 0).length) (V.fC 0)) (TD:TokDue toks (V.fd 0) (V.fC 0)) (FR:FinRef (V.fo 0) ref (V.fC 0)) (RO:RunOk (V.fC 0) V.s.heap toks (V.fo 0) (V.fv 3) (V.fA 6) sv) (mP:((V.fA 1),(V.fO 0))∈allBut V.s.heap V.h₀ [V.L]) (dP:(V.fO 0).data=.cell (some (.ref (V.fA 3)))) (mp:((V.fA 3),listOf (V.fv 0).toArray (V.fN 0))∈allBut V.s.heap V.h₀ [V.L]) (PI:PlaceIn (allBut V.s.heap V.h₀ [V.L]) (V.fv 0) (plcs st (V.fS 0).length)) (md:((V.fA 4),listOf (V.fv 1).toArray (V.fN 1))∈allBut V.s.heap V.h₀ [V.L]) (DU:DueOk (allBut V.s.heap V.h₀ [V.L]) (V.fv 1) (V.fd 0)) (mw:((V.fA 5),listOf (V.fv 2).toArray (V.fN 2))∈allBut V.s.heap V.h₀ [V.L]) (WO:WorOk (allBut V.s.heap V.h₀ [V.L]) (V.fv 2) (V.fl 0)) (w1:V.m "due" = some (.ref (V.fA 4))) (w2:V.m "got" = some (.ref (V.fA 6))) (w3:V.m "worths" = some (.ref (V.fA 5))) (w4:V.m "stopped" = some sv) (w5:RefW V.m ref) (ret:∀ (h':Heap) (tk':Nat),Fr V.h₀ V.L h' V.m->News V.h₀ V.L h' (allBut V.s.heap V.h₀ [V.L])->(V.fF 0) (.ret (.bool true)) { V.s with heap:=h',toks:=tk' }),wpAny (model pw_rk0009_01 V.w) (topW V.dp V.un V.gd (V.fs 0) V.L (V.fA 0) (V.fV 0) (V.fA 1) (V.fA 2)) (execs [(V.fm 0),(V.fm 1),(V.fm 2)] (envW (V.fs 0) V.L (V.fA 0) (V.fV 0) (V.fA 1) (V.fA 2))) (V.fF 0) V.E V.s
@[irreducible] noncomputable def Z63:FrZ:=pickZ Z63P
theorem Z63c:Z63P Z63:=by
 intro b st ref toks sv LI h6 h7 h8 B BF CT TD FR RO mP dP mp PI md DU mw WO w1 w2 w3 w4 w5 ret
 have F1:=B.F
 have sz:=BF.sz
 have ok:=BF.all'
 have pl:(plcs st (Z63.fS 0).length).length=(Z63.fS 0).length:=by simp
 have kp:∀ h,Z63.h₀.StaysIn h->News Z63.h₀ Z63.L h (allBut Z63.s.heap Z63.h₀ [Z63.L])->∀ b o,b≠Z63.L->Z63.s.heap.get? b=some o->h.get? b=some o:=fun h st N=>keep_all F1 st N
 have RH:∀ h,Z63.h₀.StaysIn h->News Z63.h₀ Z63.L h (allBut Z63.s.heap Z63.h₀ [Z63.L])->RunOk (Z63.fC 0) h toks (Z63.fo 0) (Z63.fv 3) (Z63.fA 6) sv:=fun h st N=>RO.keep F1.ns (kp h st N)
 refine wpAny_execs_cons (w_if6 LI h6 B news_all mP dP mp PI md DU (fun q hq=>by rw [pl];exact (ok q hq).2.2) (by rw [pl];omega) (by omega) w1 w2 (fun q hq=>⟨(ok q hq).1,(ok q hq).2.1⟩) (fun h st N=>reads_got CT (RH h st N) TD) fun h2 tk2 F2 N2=>?_)
 have B2:Cx 550 Z63.w Z63.p Z63.loose Z63.mean Z63.mg Z63.mb Z63.dp Z63.un (Z63.fs 0) [] Z63.A₀ Z63.base Z63.h₀ Z63.L Z63.m { Z63.s with heap:=h2,toks:=tk2 }:=⟨B.B,F2,B.X,B.T,B.hk,B.hdp,B.hun⟩
 have last:∀ (h3:Heap) (tk3:Nat),Fr Z63.h₀ Z63.L h3 Z63.m->News Z63.h₀ Z63.L h3 (allBut Z63.s.heap Z63.h₀ [Z63.L])->wpAny (model pw_rk0009_01 Z63.w) (topW Z63.dp Z63.un Z63.gd (Z63.fs 0) Z63.L (Z63.fA 0) (Z63.fV 0) (Z63.fA 1) (Z63.fA 2)) (execs [(Z63.fm 2)] (envW (Z63.fs 0) Z63.L (Z63.fA 0) (Z63.fV 0) (Z63.fA 1) (Z63.fA 2))) (Z63.fF 0) Z63.E { Z63.s with heap:=h3,toks:=tk3 }:=fun h3 tk3 F3 N3=>by
  refine wpAny_execs_cons (w_ret (its:=(Z63.fv 3)) LI h8 ⟨B.B,F3,B.X,B.T,B.hk,B.hdp,B.hun⟩ N3 w2 w3 BF.ch (by omega) (by rw [RO.ok.1,TD.len]) (fun h st N=>?_) (fun i kd vl k e=>?_) mw WO fun h4 tk4 F4 N4=>ret h4 tk4 F4 N4)
  ·refine e1a1 ((RH h st N).gt) fun n' e=>?_
   exact ⟨_,e,rfl,_,rfl⟩
  ·obtain ⟨⟨typ,cc⟩,e4⟩:∃ y,toks[i]?=some y:=⟨_,List.getElem?_eq_getElem (by rw [TD.len];exact (List.getElem?_eq_some_iff.mp e).1)⟩
   refine e3a5 (RO.ok.2 i typ cc e4) fun tp kk x f1 f2 f3 f4 f5=>?_
   refine e2a3 (TD.at_ i typ cc e4) fun k' x' g1 g2 g3=>?_
   rw [e] at g1
   simp only [Option.some.injEq,Prod.mk.injEq] at g1
   refine e0a3 g1 fun Q37=>?_;clear g1;obtain rfl:=Q37;intro Q38;obtain rfl:=Q38;intro Q39;obtain rfl:=Q39
   refine ⟨tp,kk.t1,kk.t2,.int x.row x.u4,.int x.col x.u1,f1,fun h st N=>?_⟩
   have:=kp h st N _ _ (ns_ne F1.ns f5 fun _ _ h=>by cases h) f5
   rw [<- f3,<- f4]
   exact ⟨_,this,rfl,_,rfl⟩
 cases ref with
 | none =>
  have fr:(Z63.fo 0)=none:=FR
  rcases RO.sv with ⟨_,rfl⟩ | ⟨e,_⟩ | ⟨x,_,e,_⟩
  ·exact wpAny_execs_cons (w_if7a LI h7 B2 N2 w4 w5 fun h3 tk3 F3 N3=>last h3 tk3 F3 N3)
  ·rw [fr] at e;cases e
  ·rw [fr] at e;cases e
 | some r =>
  refine e1a1 w5 ?_;clear w5;intro tr w5
  rcases FR with ⟨r0,fr⟩ | ⟨r0,x,ex,fr⟩
  ·rcases RO.sv with ⟨e,_⟩ | ⟨_,q,u1,u2,rfl,eq⟩ | ⟨y,_,e,_⟩
   ·rw [fr] at e;cases e
   ·exact wpAny_execs_cons (w_if7b LI h7 B2 N2 w4 w5 r0 (fun h st N=>⟨u1,u2,kp h st N _ _ (ns_ne F1.ns eq fun _ _ h=>by cases h) eq⟩) fun h3 tk3 F3 N3=>last h3 tk3 F3 N3)
   ·rw [fr] at e;cases e
  ·rcases RO.sv with ⟨e,_⟩ | ⟨e,_⟩ | ⟨y,hy,e,q,rfl,eq⟩
   ·rw [fr] at e;cases e
   ·rw [fr] at e;cases e
   ·rw [fr] at e
    have lc:x.lc=y.lc:=Value.ref.inj (Option.some.inj e)
    refine e0a2 (CT.inj x (List.mem_of_getElem? ex) y hy lc) fun i1 i2=>?_
    refine e1a3 (CT.at_ _ x ex) fun c _ _ hp=>?_
    refine e3a2 (PI.at_ _ _ _ hp) fun q2 v1 v2 e1 e2=>?_
    have rl:r.toNat<(Z63.fS 0).length:=by
     have:=(List.getElem?_eq_some_iff.mp ex).1
     rw [CT.len] at this
     exact this
    refine wpAny_execs_cons (w_if7c LI h7 B2 N2 w4 w5 (Int.not_lt.mpr r0) (by omega) mP dP mp e1 e2 (fun h st N=>⟨y.u4,y.u1,by rw [i1,i2];exact kp h st N _ _ (ns_ne F1.ns eq fun _ _ h=>by cases h) eq⟩) fun h3 tk3 F3 N3=>last h3 tk3 F3 N3)
theorem law_end {x6 x7 x8:Stmt} {PA duA woA got:Addr} {oP:Obj} {plvs dv wv its:List Value} {n dn wn:Nat} {text:Str} {st:Int} {due:DueL} {ws:List Nat} {ref:Option Int} {cels:List Cel} {toks:List (Str×List Cel)} {fin:Option Value} {sv:Value} {Q:Flow->Shared->Prop} {E:Value->Shared->Prop} (LI:LawIs b sc) (h6:stAt b 6=some x6) (h7:stAt b 7=some x7) (h8:stAt b 8=some x8)
  (B:Cx 550 w p loose mean mg mb dp un sc [] A₀ base h₀ L m s) (BF:Bf text due ws ref) (CT:CelT text (plcs st text.length) cels) (TD:TokDue toks due cels) (FR:FinRef fin ref cels) (RO:RunOk cels s.heap toks fin its got sv)
  (mP:(cP,oP)∈allBut s.heap h₀ [L]) (dP:oP.data=.cell (some (.ref PA))) (mp:(PA,listOf plvs.toArray n)∈allBut s.heap h₀ [L]) (PI:PlaceIn (allBut s.heap h₀ [L]) plvs (plcs st text.length))
  (md:(duA,listOf dv.toArray dn)∈allBut s.heap h₀ [L]) (DU:DueOk (allBut s.heap h₀ [L]) dv due) (mw:(woA,listOf wv.toArray wn)∈allBut s.heap h₀ [L]) (WO:WorOk (allBut s.heap h₀ [L]) wv ws)
  (w1:m "due" = some (.ref duA)) (w2:m "got" = some (.ref got)) (w3:m "worths" = some (.ref woA)) (w4:m "stopped" = some sv) (w5:RefW m ref)
  (ret:∀ (h':Heap) (tk':Nat),Fr h₀ L h' m->News h₀ L h' (allBut s.heap h₀ [L])->Q (.ret (.bool true)) { s with heap:=h',toks:=tk' }) :
  wpAny (model pw_rk0009_01 w) (topW dp un gd sc L fa cd cP cS) (execs [x6,x7,x8] (envW sc L fa cd cP cS)) Q E s:=pickedZ (by with_unfolding_all rfl) Z63c (sfF (sfo (sfC (sfl (sfd (sfS (sfN (sfv (sfO (sfm (sfs (sfV (sfA (frC w p loose mean mg mb dp un gd Z63.cn Z63.cs Z63.ca Z63.ccd Z63.cll Z63.outer A₀ base h₀ L m s E) [fa,cP,cS,PA,duA,woA,got]) [cd]) [sc]) [x6,x7,x8]) [oP]) [plvs,dv,wv,its]) [n,dn,wn]) [text]) [due]) [ws]) [cels]) [fin]) [Q]) b st ref toks sv LI h6 h7 h8 B BF CT TD FR RO mP dP mp PI md DU mw WO w1 w2 w3 w4 w5 ret
end
end
example:True:=by w_top off;trivial
section
section
theorem surv {h₀ h:Heap} {L a c:Addr} {o oc:Obj} {K:List (Addr×Obj)} (N:News h₀ L h K) (m:(a,o)∈K) (mc:(c,oc)∈K) (hne:o≠oc):(a,o)∈K.filter fun q=>q.1 != c:=by
 refine List.mem_filter.mpr ⟨m,?_⟩
 have:a≠c:=fun e=>hne (news_one N (e▸m) mc)
 simpa using this
theorem news_front {h₀ h:Heap} {L c:Addr} {oc:Obj} {K:List (Addr×Obj)} (N:News h₀ L h K) (mc:(c,oc)∈K):News h₀ L h ((c,oc)::K.filter fun q=>q.1 != c):=fun q hq=>by
 rcases List.mem_cons.mp hq with rfl | hq
 ·exact N _ mc
 ·exact N _ (List.mem_filter.mp hq).1
theorem filt_ne {c:Addr} {K:List (Addr×Obj)} : ∀ q∈K.filter (fun q=>q.1 != c),q.1≠c:=fun q hq=>by
 simpa using (List.mem_filter.mp hq).2
variable {fa:Addr} {cd:Value} {cP cS:Addr} {b:List Stmt} {sc:Scope}
noncomputable def Z49P:FrZ->Prop:=fun V=>∀ (b:List Stmt) (l:Addr) (LI:LawIs b (V.fs 0)) (C:Cx 550 V.w V.p V.loose V.mean V.mg V.mb V.dp V.un (V.fs 0) [] V.A₀ V.base V.h₀ V.L V.m V.s) (XB:(hd.heap_1 V.w.params).In V.base) (TB:Top V.p V.loose V.mean V.mg V.mb V.base) (C1:CodeHd V.h₀ 550 548) (N:News V.h₀ V.L V.s.heap [(548,tabObj #[]),(225,tabObj #[]),((V.fA 1),(V.fO 0)),((V.fA 2),(V.fO 1))]) (hPS:(V.fA 1)≠(V.fA 2)) (dP:(V.fO 0).data=.cell (V.fo 0)) (dS:(V.fO 1).data=.cell (V.fo 1)) (hl:V.h₀.IsList l (V.fv 0).toArray) (hi:IntsAre (V.fv 0) (V.fj 0)) (hz:(V.fj 0).length≤63) (ms:V.m "script" = some (.ref l)) (bare:∀ (i:Nat) (x:GenState),V.s.gens[i]?=some x->x.bare=true) (hE:PassesOwn (model pw_rk0009_01 V.w) (topW V.dp V.un V.gd (V.fs 0) V.L (V.fA 0) (V.fV 0) (V.fA 1) (V.fA 2)) (envW (V.fs 0) V.L (V.fA 0) (V.fV 0) (V.fA 1) (V.fA 2)) V.E) (ret:∀ s' m',Fr V.h₀ V.L s'.heap m'->GrownAt 548 s'.heap->GrownAt 225 s'.heap->s'.os=V.s.os->(∀ (i:Nat) (x:GenState),s'.gens[i]?=some x->x.bare=true)->(V.fF 0) (.ret (.bool true)) s'),wpAny (model pw_rk0009_01 V.w) (topW V.dp V.un V.gd (V.fs 0) V.L (V.fA 0) (V.fV 0) (V.fA 1) (V.fA 2)) (execs b (envW (V.fs 0) V.L (V.fA 0) (V.fV 0) (V.fA 1) (V.fA 2))) (V.fF 0) V.E V.s
@[irreducible] noncomputable def Z49:FrZ:=pickZ Z49P
theorem Z49c:Z49P Z49:=by
 intro b l LI C XB TB C1 N hPS dP dS hl hi hz ms bare hE ret
 refine e8a1 (law_shape LI) fun x0 x1 x3 x4 x5 x6 x7 x8 Q40=>?_;obtain ⟨tp,e,bo,fp,rfl,hsk,hkn⟩:=Q40
 have ne1:∀ {o:Obj} {v:Option Value} {ps:Array Value},o.data=.cell v->o≠tabObj ps:=fun h e=>by rw [e] at h;cases h
 refine w_pre LI rfl rfl C N hl hi hz ms fun h1 tk1 m1 taA duA woA tv tn K0 t0 i1 F1 N1 mt sub0 k1 k2 lt y1 y2 y3 y4 y5=>?_
 have tl:((Z49.fj 0).take 12++[(0:Int),3]).length≤14/\2≤((Z49.fj 0).take 12++[(0:Int),3]).length:=by
  rw [List.length_append,List.length_take]
  simp only [List.length_cons,List.length_nil]
  omega
 refine wpAny_execs_cons (w_for LI rfl (hkn _ _ _ _ _) ⟨C.B,F1,C.X,C.T,C.hk,C.hdp,C.hun⟩ N1 mt i1 tl.2 tl.1 k1 k2 lt ⟨y1,y3,y4,y5,_,y2⟩ hE
  fun h2 tk2 m2 dv dn wv wn K text due ws ref t2 F2 N2 sub1 DU WO BF z1 z2 z3 z4 z5=>?_)
 have sz:=BF.sz
 have inK:∀ q∈[(548,tabObj #[]),(225,tabObj #[]),((Z49.fA 1),(Z49.fO 0)),((Z49.fA 2),(Z49.fO 1))],q∈(duA,listOf dv.toArray dn)::(woA,listOf wv.toArray wn)::K:=fun q hq=>.tail _ (.tail _ (sub1 q (sub0 q hq)))
 have mcS:=inK ((Z49.fA 2),(Z49.fO 1)) (by simp)
 generalize hall:(duA,listOf dv.toArray dn)::(woA,listOf wv.toArray wn)::K=all at N2 inK mcS
 have mdu:(duA,listOf dv.toArray dn)∈all:=by rw [<- hall];exact .head _
 have mwo:(woA,listOf wv.toArray wn)∈all:=by rw [<- hall];exact .tail _ (.head _)
 have mK:∀ q∈K,q∈all:=fun q hq=>by rw [<- hall];exact .tail _ (.tail _ hq)
 have mta:=surv N2 (mK _ (sub1 _ mt)) mcS (fun e=>by rw [<- e] at dS;cases dS)
 dsimp only
 refine wpAny_execs_cons (w_step LI rfl ⟨C.B,F2,C.X,C.T,C.hk,C.hdp,C.hun⟩ (news_front N2 mcS) filt_ne mta i1 tl.1 z1 dS fun h3 tk3 oS' st tS s1 s2 dS' F3 N3=>?_)
 have mcP:((Z49.fA 1),(Z49.fO 0))∈((Z49.fA 2),oS')::all.filter fun q=>q.1 != (Z49.fA 2):=.tail _ (List.mem_filter.mpr ⟨inK ((Z49.fA 1),(Z49.fO 0)) (by simp),by simpa using hPS⟩)
 dsimp only
 refine wpAny_execs_cons (w_places LI rfl ⟨C.B,F3,C.X,C.T,C.hk,C.hdp,C.hun⟩ N3 (.head _) dS' mcP dP s1 s2 (by omega) z4 fun h4 tk4 oP' D plvs K2 dP' F4 N4 mD PI sub2=>?_)
 have go2:∀ a o,(a,o)∈all->(∀ v,o.data≠.cell v)->(a,o)∈K2:=fun a o ho hd=>by
  have hc:a≠(Z49.fA 2):=fun e=>hd (Z49.fo 1) (by have e0:o=(Z49.fO 1):=news_one N2 (e▸ho) mcS;rw [e0];exact dS)
  have hp:a≠(Z49.fA 1):=fun e=>hd (Z49.fo 0) (by have e0:o=(Z49.fO 0):=news_one N2 (e▸ho) (inK ((Z49.fA 1),(Z49.fO 0)) (by simp));rw [e0];exact dP)
  exact sub2 _ (.tail _ (List.mem_filter.mpr ⟨ho,by simpa using hc⟩)) hp
 have m548:(548,tabObj #[])∈((Z49.fA 1),oP')::K2:=.tail _ (go2 _ _ (inK (548,tabObj #[]) (by simp)) fun v h=>by cases h)
 have m225:(225,tabObj #[])∈((Z49.fA 1),oP')::K2:=.tail _ (go2 _ _ (inK (225,tabObj #[]) (by simp)) fun v h=>by cases h)
 have N5:=news_front N4 m548
 have PI5:PlaceIn ((((Z49.fA 1),oP')::K2).filter fun q=>q.1 != 548) plvs (plcs st text.length):=⟨PI.len,fun k r c e=>by
  refine e3a2 (PI.at_ k r c e) fun q u1 u2 e1 e2=>?_
  exact ⟨q,u1,u2,e1,surv N4 (.tail _ e2) m548 (fun e=>by have:=congrArg Obj.cls e;cases this)⟩⟩
 have mD5:(D,listOf plvs.toArray plvs.length)∈(((Z49.fA 1),oP')::K2).filter fun q=>q.1 != 548:=surv N4 (.tail _ mD) m548 (fun e=>by have:=congrArg Obj.cls e;cases this)
 have mP5:((Z49.fA 1),oP')∈(((Z49.fA 1),oP')::K2).filter fun q=>q.1 != 548:=surv N4 (.head _) m548 (ne1 dP')
 have m225':(225,tabObj #[])∈(((Z49.fA 1),oP')::K2).filter fun q=>q.1 != 548:=List.mem_filter.mpr ⟨m225,by decide⟩
 dsimp only
 refine wpAny_execs_cons (w_run (G:=fun cels toks fin=>TokDue toks due cels/\FinRef fin ref cels) LI rfl ⟨C.B,F4,C.X,C.T,C.hk,C.hdp,C.hun⟩ XB TB C1 N5 filt_ne m225' (.inl rfl) mP5 dP' mD5 PI5 (by omega) (by simp) bare (fun cels CT=>bf_lex BF CT) z4
  fun s5 cels toks fin its got sv CT G RO F5 kp5 g548 g225 os5 dr5 gb5=>?_)
 refine e0a2 G fun TD FR=>?_;clear G
 have up:∀ a o,(a,o)∈(((Z49.fA 1),oP')::K2).filter (fun q=>q.1 != 548)->a≠225->(a,o)∈allBut s5.heap Z49.h₀ [Z49.L]:=fun a o ho hn=>by
  have z:=N5 _ (.tail _ ho)
  exact mem_allBut.mpr ⟨kp5 _ ho hn,fun hm=>z.2.1 (List.mem_singleton.mp hm),z.2.2⟩
 have good:∀ a o,(a,o)∈((Z49.fA 1),oP')::K2->o.cls≠.none->(a,o)∈allBut s5.heap Z49.h₀ [Z49.L]:=fun a o ho hc=>by
  refine up a o (surv N4 ho m548 fun e=>hc (by rw [e])) fun e=>hc ?_
  have e0:o=tabObj #[]:=news_one N4 (e▸ho) m225
  rw [e0]
 have goodT:∀ a o,(a,o)∈all->o.cls≠.none->(∀ v,o.data≠.cell v)->(a,o)∈allBut s5.heap Z49.h₀ [Z49.L]:=fun a o ho hc hd=>good a o (.tail _ (go2 a o ho hd)) hc
 have c225:(Z49.fA 1)≠225:=fun e=>by
  have:=news_one N4 (o:=oP') (by rw [<- e];exact .head _) m225
  exact ne1 dP' this
 dsimp only
 refine law_end (st:=st) LI rfl rfl rfl ⟨C.B,F5,C.X,C.T,C.hk,C.hdp,C.hun⟩ BF CT TD FR RO (up _ _ mP5 c225) dP' (good _ _ (.tail _ mD) (fun e=>by cases e)) ⟨PI.len,fun k r c e=>?_⟩ (goodT _ _ mdu (fun e=>by cases e) fun v e=>by cases e) ⟨DU.len,fun i kd vl k e=>?_⟩ (goodT _ _ mwo (fun e=>by cases e) fun v e=>by cases e) ⟨WO.len,fun i v e=>?_⟩
  ((if_neg (by decide)).trans ((if_neg (by decide)).trans z2)) ((if_neg (by decide)).trans (if_pos rfl)) ((if_neg (by decide)).trans ((if_neg (by decide)).trans z3)) (if_pos rfl) ?_ fun h6 tk6 F6 N6=>?_
 ·refine e3a2 (PI.at_ k r c e) fun q u1 u2 e1 e2=>?_
  exact ⟨q,u1,u2,e1,good _ _ (.tail _ e2) (fun e=>by cases e)⟩
 ·refine e4a2 (DU.at_ i kd vl k e) fun a t1 t2 t3 e1 e2=>?_
  exact ⟨a,t1,t2,t3,e1,goodT _ _ (mK _ e2) (fun e=>by cases e) fun v e=>by cases e⟩
 ·refine e5a3 (WO.at_ i v e) fun a l t u n e1 e2 e3=>?_
  exact ⟨a,l,t,u,n,e1,goodT _ _ (mK _ e2) (fun e=>by cases e) (fun v e=>by cases e),goodT _ _ (mK _ e3) (fun e=>by cases e) fun v e=>by cases e⟩
 ·cases ref with
  | none=>exact (if_neg (by decide)).trans ((if_neg (by decide)).trans z5)
  | some r=>exact let ⟨t,e⟩:=z5;⟨t,(if_neg (by decide)).trans ((if_neg (by decide)).trans e)⟩
 ·have grow:∀ {P:Addr},(∃ o,(P,o)∈((Z49.fA 1),oP')::K2)->GrownAt P s5.heap->GrownAt P h6:=fun {P} hP ⟨ps,e⟩=>by
   refine e1a1 hP fun o ho=>?_;clear hP
   have z:=N4 _ ho
   exact ⟨ps,(N6 (P,tabObj ps) (mem_allBut.mpr ⟨e,fun hm=>z.2.1 (List.mem_singleton.mp hm),z.2.2⟩)).1⟩
  exact ret { s5 with heap:=h6,toks:=tk6 } _ F6 (grow ⟨_,m548⟩ g548) (grow ⟨_,m225⟩ g225) os5 gb5
theorem law_body {l:Addr} {vs:List Value} {ns:List Int} {oP oS:Obj} {vP vS:Option Value} {Q:Flow->Shared->Prop} {E:Value->Shared->Prop} (LI:LawIs b sc) (C:Cx 550 w p loose mean mg mb dp un sc [] A₀ base h₀ L m s) (XB:(hd.heap_1 w.params).In base) (TB:Top p loose mean mg mb base) (C1:CodeHd h₀ 550 548)
  (N:News h₀ L s.heap [(548,tabObj #[]),(225,tabObj #[]),(cP,oP),(cS,oS)]) (hPS:cP≠cS) (dP:oP.data=.cell vP) (dS:oS.data=.cell vS) (hl:h₀.IsList l vs.toArray) (hi:IntsAre vs ns) (hz:ns.length≤63) (ms:m "script" = some (.ref l))
  (bare:∀ (i:Nat) (x:GenState),s.gens[i]?=some x->x.bare=true) (hE:PassesOwn (model pw_rk0009_01 w) (topW dp un gd sc L fa cd cP cS) (envW sc L fa cd cP cS) E)
  (ret:∀ s' m',Fr h₀ L s'.heap m'->GrownAt 548 s'.heap->GrownAt 225 s'.heap->s'.os=s.os->(∀ (i:Nat) (x:GenState),s'.gens[i]?=some x->x.bare=true)->Q (.ret (.bool true)) s') :
  wpAny (model pw_rk0009_01 w) (topW dp un gd sc L fa cd cP cS) (execs b (envW sc L fa cd cP cS)) Q E s:=pickedZ (by with_unfolding_all rfl) Z49c (sfF (sfo (sfO (sfj (sfv (sfs (sfV (sfA (frC w p loose mean mg mb dp un gd Z49.cn Z49.cs Z49.ca Z49.ccd Z49.cll Z49.outer A₀ base h₀ L m s E) [fa,cP,cS]) [cd]) [sc]) [vs]) [ns]) [oP,oS]) [vP,vS]) [Q]) b l LI C XB TB C1 N hPS dP dS hl hi hz ms bare hE ret
end
end
example:True:=by w_top off;trivial
section
theorem my_post {M:Model} {A:Around} {cd:Code} {s s₁:Shared} {cw:ClaimW} {cl:Str->Option Addr} {mean:ExcName->Option Value} {args:List WData} {tabs:List (Addr×Addr)} (hT:TabsAt tabs s₁.heap) (hr:∀ x,cw.raises args x=false) (hp:cw.post args (.bool true) args=true)
  (h:codeAny M A cd (fun r s'=>r=.ok (.ret (.bool true))/\(∀ b o,(ghostOf s₁.heap tabs).get? b=some o->s'.heap.get? b=some o)/\GrownAll tabs s'.heap/\s'.os=s₁.os/\AllBare s'.gens) s):codeAny M A cd (GoodWG cw cl mean args s₁) s :=
 codeAny_mono h fun r s' ⟨hv,hk,hgr,hos,hb⟩=>by
  subst hv
  have keep:∀ b o,b∉tabs.map (·.2)->s₁.heap.get? b=some o->s'.heap.get? b=some o:=fun b o hb e=>hk b o (ghost_ne e hb)
  have grown:∀ b o,b∈tabs.map (·.2)->s₁.heap.get? b=some o->isCodeTable s₁.heap b/\o=tabObj #[]/\∃ ps,s'.heap.get? b=some (tabObj ps):=fun b o hb e=>by
   refine e1a2 (List.mem_map.mp hb) fun q hq Q41=>?_;obtain rfl:=Q41
   have e2:=(hT q hq).2
   rw [e] at e2
   exact ⟨((hT q hq).1.tab (hT q hq).2).isCodeTable,Option.some.inj e2,hgr.get q hq⟩
  refine ⟨.inl ⟨.bool true,.bool true,[],rfl,hr,.bool _,hp,fun _=>⟨List.nodup_nil,fun a ha=>nomatch ha⟩⟩,⟨fun b o e=>?_,fun b o e=>?_⟩,hos,hb⟩
  ·by_cases hb:b∈tabs.map (·.2)
   ·obtain ⟨ht,rfl,ps,hP⟩:=grown b o hb e
    exact .inr (.inl ⟨ht,rfl,#[],ps,rfl,by rw [Array.empty_append];exact hP⟩)
   ·exact .inl (keep b o hb e)
  ·by_cases hb:b∈tabs.map (·.2)
   ·obtain ⟨_,_,ps,hP⟩:=grown b o hb e
    exact ⟨_,hP⟩
   ·exact ⟨o,keep b o hb e⟩
section
variable {fa:Addr} {cd:Value} {b:List Stmt} {sc:Scope}
theorem law_around (LI:LawIs b sc) (L fa:Addr) (cd:Value):envOfC "law" sc L fa cd=envW sc L fa cd (L+1+1) (L+1)/\∃ d u gg,callerA.deeper (envOfC "law" sc L fa cd)=topW d u gg sc L fa cd (L+1+1) (L+1)/\d+550<900/\u+8 * 550<9000/\sc.kind=.function:=by
 refine e1a1 LI fun a0 ho=>?_;clear LI
 have e2:(a0,b,sc)=_:=Option.some.inj (ho.symm.trans (rfl:lawDef=some _))
 injection e2 with e2 e3
 injection e3 with e3 e4
 subst e2 e3 e4
 exact ⟨rfl,_,_,_,rfl,Nat.le_of_ble_eq_true rfl,Nat.le_of_ble_eq_true rfl,rfl⟩
theorem law_go {l:Addr} {vs:List Value} {ns:List Int} {oP oS:Obj} {vP vS:Option Value} {Q:Flow->Shared->Prop} {E:Value->Shared->Prop} (LI:LawIs b sc) (B:Below callerA h₀ [] h₀) (F:Fr h₀ L s.heap m) (X:(hd.heap_1 w.params).In h₀) (T:Top p loose mean mg mb h₀) (C1:CodeHd h₀ 550 548)
  (N:News h₀ L s.heap ([(L+1+1,oP),(L+1,oS)]++[(225,tabObj #[]),(548,tabObj #[])])) (dP:oP.data=.cell vP) (dS:oS.data=.cell vS) (hl:h₀.IsList l vs.toArray) (hi:IntsAre vs ns) (hz:ns.length≤63) (ms:m "script" = some (.ref l)) (hg:s.gens=#[])
  (hE:PassesOwn (model pw_rk0009_01 w) (callerA.deeper (envOfC "law" sc L fa cd)) (envOfC "law" sc L fa cd) E)
  (ret:∀ s' m',Fr h₀ L s'.heap m'->GrownAt 548 s'.heap->GrownAt 225 s'.heap->s'.os=s.os->AllBare s'.gens->Q (.ret (.bool true)) s') :
  wpAny (model pw_rk0009_01 w) (callerA.deeper (envOfC "law" sc L fa cd)) (execs b (envOfC "law" sc L fa cd)) Q E s:=by
 obtain ⟨e1,d,u,gg,e2,d1,u1,hk⟩:=law_around LI L fa cd
 rw [e2,e1] at hE ⊢
 refine law_body LI ⟨B,F,X,T,hk,d1,u1⟩ X T C1 (fun q hq=>N q ?_) (Nat.ne_of_gt (Nat.lt_succ_self (L+1))) dP dS hl hi hz ms (fun i x e=>by rw [hg] at e;simp at e) hE fun s' m' F' g1 g2 os gb=>ret s' m' F' g1 g2 os ?_
 ·exact (fc (P:=(·∈[(L+1+1,oP),(L+1,oS),(225,tabObj #[]),(548,tabObj #[])])) (.tail _ (.tail _ (.tail _ (.head _)))) (fc (.tail _ (.tail _ (.head _))) (fc (.head _) (fc (.tail _ (.head _)) (List.forall_mem_nil _))))) q hq
 ·exact fun y hy=>by
   obtain ⟨i,h,e⟩:=Array.getElem_of_mem hy
   exact gb i y (by rw [Array.getElem?_eq_getElem h,e])
end
end
example:True:=by k_with_none;trivial
end Mine.Internal
set_option maxHeartbeats 4000000 in
theorem PySem.Challenge.cw_rk0009_01_holds : PySem.Challenge.rw_rk0009_01.Holds := by
 refine Mine.Internal.hd (by
 k_fill
 intro w s₀ s₁ mg mb G Y fa o pm cd doc dV kV ho hdat hcd hD hmg hg args vals as hpre hlay hrd hwl hlo
 have KX:=km_in_of Y
 have hT8:=km_tabs_of Y
 refine Ground.open G ?_
 intro T B D TE TW
 try (refine guard_noD D (by decide +kernel) ?_;clear D)
 have hT9:TabsAt ([(229,225),(550,548)] : List (Addr×Addr)) s₁.heap:=List.forall_mem_cons.mpr ⟨⟨codeHd_of_K (c:=229) (P:=225) KX (by kernel_rfl),hT8 225 (by k_mem)⟩,List.forall_mem_cons.mpr ⟨⟨codeHd_of_K (c:=550) (P:=548) KX (by kernel_rfl),hT8 548 (by k_mem)⟩,fun _ h=>nomatch h⟩⟩
 clear hmg
 wrow_args hpre hlay hrd hwl hlo
 all_goals (
  first | refine callC_kw (enter_call ?_) | refine enter_call ?_
  w_top on
  refine Mine.Internal.my_post hT9 (fun _=>rfl) (postW_of (X:=true) (by wrow_shape) (by wtm_val) rfl) ?_
  w_call any ho hdat hcd hD T F
  rename News _ _ _ _=>N0
  rename Heap.IsList _ _ _=>hL
  rename IntsAre _ _=>hI
  have N1:=ghost_news hT9 F N0
  refine Mine.Internal.law_go ⟨_,rfl⟩ (ghost_below hT9) (ghost_fr hT9 F) (ghost_K hT9 KX (by kernel_rfl)) (ghost_top hT9 T) (ghost_code hT9).2.1 N1 (by assumption) (by assumption) (ghost_list hT9 hL) hI (by omega) rfl hg (by passes_own) fun s' m' F' g1 g2 os gb=>?_
  exact ⟨rfl,F'.keep,⟨g2,g1,trivial⟩,os,gb⟩))
