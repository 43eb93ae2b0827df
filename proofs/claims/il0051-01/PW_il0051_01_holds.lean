import PyProof.Rows.All
import Wide.All
import OpenK.AllK
import Wide.FinOn
import KE.KSortTup
import PyProof.WalkLemmas
import KE.KLam
import Lean
import PySem.Challenge.RW_il0051_01
open PySem PySem.W PyProof.Rows
set_option Elab.async false
set_option maxRecDepth 100000
set_option maxHeartbeats 4000000
set_option linter.all false
namespace Mine
theorem dk{p:Prop}(h:p:=by decide +kernel):p:=h
theorem Qx{p0 p1:Prop}{P:Prop}(h:p0∧p1)(k:p0->p1->P):P:=let ⟨h0,h1⟩:=h;k h0 h1
theorem Jo{p0 p1 p2:Prop}{P:Prop}(h:p0∧p1∧p2)(k:p0->p1->p2->P):P:=let ⟨h0,h1,h2⟩:=h;k h0 h1 h2
theorem Qdk{p0 p1 p2 p3:Prop}{P:Prop}(h:p0∧p1∧p2∧p3)(k:p0->p1->p2->p3->P):P:=let ⟨h0,h1,h2,h3⟩:=h;k h0 h1 h2 h3
theorem Qaa{p0 p1 p2 p3 p4:Prop}{P:Prop}(h:p0∧p1∧p2∧p3∧p4)(k:p0->p1->p2->p3->p4->P):P:=let ⟨h0,h1,h2,h3,h4⟩:=h;k h0 h1 h2 h3 h4
theorem ob0_6{p0 p1 p2 p3 p4 p5:Prop}{P:Prop}(h:p0∧p1∧p2∧p3∧p4∧p5)(k:p0->p1->p2->p3->p4->p5->P):P:=let ⟨h0,h1,h2,h3,h4,h5⟩:=h;k h0 h1 h2 h3 h4 h5
theorem ob1_1{α0:Sort _}{p0:α0->Prop}{P:Prop}(h:∃ x0,p0 x0)(k:∀ x0,p0 x0->P):P:=let ⟨x0,h0⟩:=h;k x0 h0
theorem ob1_2{α0:Sort _}{p0 p1:α0->Prop}{P:Prop}(h:∃ x0,p0 x0∧p1 x0)(k:∀ x0,p0 x0->p1 x0->P):P:=let ⟨x0,h0,h1⟩:=h;k x0 h0 h1
theorem ob1_3{α0:Sort _}{p0 p1 p2:α0->Prop}{P:Prop}(h:∃ x0,p0 x0∧p1 x0∧p2 x0)(k:∀ x0,p0 x0->p1 x0->p2 x0->P):P:=let ⟨x0,h0,h1,h2⟩:=h;k x0 h0 h1 h2
theorem ob1_4{α0:Sort _}{p0 p1 p2 p3:α0->Prop}{P:Prop}(h:∃ x0,p0 x0∧p1 x0∧p2 x0∧p3 x0)(k:∀ x0,p0 x0->p1 x0->p2 x0->p3 x0->P):P:=let ⟨x0,h0,h1,h2,h3⟩:=h;k x0 h0 h1 h2 h3
theorem ob1_5{α0:Sort _}{p0 p1 p2 p3 p4:α0->Prop}{P:Prop}(h:∃ x0,p0 x0∧p1 x0∧p2 x0∧p3 x0∧p4 x0)(k:∀ x0,p0 x0->p1 x0->p2 x0->p3 x0->p4 x0->P):P:=let ⟨x0,h0,h1,h2,h3,h4⟩:=h;k x0 h0 h1 h2 h3 h4
theorem ob1_6{α0:Sort _}{p0 p1 p2 p3 p4 p5:α0->Prop}{P:Prop}(h:∃ x0,p0 x0∧p1 x0∧p2 x0∧p3 x0∧p4 x0∧p5 x0)(k:∀ x0,p0 x0->p1 x0->p2 x0->p3 x0->p4 x0->p5 x0->P):P:=let ⟨x0,h0,h1,h2,h3,h4,h5⟩:=h;k x0 h0 h1 h2 h3 h4 h5
theorem ob1_7{α0:Sort _}{p0 p1 p2 p3 p4 p5 p6:α0->Prop}{P:Prop}(h:∃ x0,p0 x0∧p1 x0∧p2 x0∧p3 x0∧p4 x0∧p5 x0∧p6 x0)(k:∀ x0,p0 x0->p1 x0->p2 x0->p3 x0->p4 x0->p5 x0->p6 x0->P):P:=let ⟨x0,h0,h1,h2,h3,h4,h5,h6⟩:=h;k x0 h0 h1 h2 h3 h4 h5 h6
theorem ob2_1{α0:Sort _}{α1:Sort _}{p0:α0->α1->Prop}{P:Prop}(h:∃ x0 x1,p0 x0 x1)(k:∀ x0 x1,p0 x0 x1->P):P:=let ⟨x0,x1,h0⟩:=h;k x0 x1 h0
theorem ob2_2{α0:Sort _}{α1:Sort _}{p0 p1:α0->α1->Prop}{P:Prop}(h:∃ x0 x1,p0 x0 x1∧p1 x0 x1)(k:∀ x0 x1,p0 x0 x1->p1 x0 x1->P):P:=let ⟨x0,x1,h0,h1⟩:=h;k x0 x1 h0 h1
theorem ob2_3{α0:Sort _}{α1:Sort _}{p0 p1 p2:α0->α1->Prop}{P:Prop}(h:∃ x0 x1,p0 x0 x1∧p1 x0 x1∧p2 x0 x1)(k:∀ x0 x1,p0 x0 x1->p1 x0 x1->p2 x0 x1->P):P:=let ⟨x0,x1,h0,h1,h2⟩:=h;k x0 x1 h0 h1 h2
theorem ob2_4{α0:Sort _}{α1:Sort _}{p0 p1 p2 p3:α0->α1->Prop}{P:Prop}(h:∃ x0 x1,p0 x0 x1∧p1 x0 x1∧p2 x0 x1∧p3 x0 x1)(k:∀ x0 x1,p0 x0 x1->p1 x0 x1->p2 x0 x1->p3 x0 x1->P):P:=let ⟨x0,x1,h0,h1,h2,h3⟩:=h;k x0 x1 h0 h1 h2 h3
theorem ob2_5{α0:Sort _}{α1:Sort _}{p0 p1 p2 p3 p4:α0->α1->Prop}{P:Prop}(h:∃ x0 x1,p0 x0 x1∧p1 x0 x1∧p2 x0 x1∧p3 x0 x1∧p4 x0 x1)(k:∀ x0 x1,p0 x0 x1->p1 x0 x1->p2 x0 x1->p3 x0 x1->p4 x0 x1->P):P:=let ⟨x0,x1,h0,h1,h2,h3,h4⟩:=h;k x0 x1 h0 h1 h2 h3 h4
theorem ob2_6{α0:Sort _}{α1:Sort _}{p0 p1 p2 p3 p4 p5:α0->α1->Prop}{P:Prop}(h:∃ x0 x1,p0 x0 x1∧p1 x0 x1∧p2 x0 x1∧p3 x0 x1∧p4 x0 x1∧p5 x0 x1)(k:∀ x0 x1,p0 x0 x1->p1 x0 x1->p2 x0 x1->p3 x0 x1->p4 x0 x1->p5 x0 x1->P):P:=let ⟨x0,x1,h0,h1,h2,h3,h4,h5⟩:=h;k x0 x1 h0 h1 h2 h3 h4 h5
theorem ob2_8{α0:Sort _}{α1:Sort _}{p0 p1 p2 p3 p4 p5 p6 p7:α0->α1->Prop}{P:Prop}(h:∃ x0 x1,p0 x0 x1∧p1 x0 x1∧p2 x0 x1∧p3 x0 x1∧p4 x0 x1∧p5 x0 x1∧p6 x0 x1∧p7 x0 x1)(k:∀ x0 x1,p0 x0 x1->p1 x0 x1->p2 x0 x1->p3 x0 x1->p4 x0 x1->p5 x0 x1->p6 x0 x1->p7 x0 x1->P):P:=let ⟨x0,x1,h0,h1,h2,h3,h4,h5,h6,h7⟩:=h;k x0 x1 h0 h1 h2 h3 h4 h5 h6 h7
theorem ob3_2{α0:Sort _}{α1:Sort _}{α2:Sort _}{p0 p1:α0->α1->α2->Prop}{P:Prop}(h:∃ x0 x1 x2,p0 x0 x1 x2∧p1 x0 x1 x2)(k:∀ x0 x1 x2,p0 x0 x1 x2->p1 x0 x1 x2->P):P:=let ⟨x0,x1,x2,h0,h1⟩:=h;k x0 x1 x2 h0 h1
theorem ob3_3{α0:Sort _}{α1:Sort _}{α2:Sort _}{p0 p1 p2:α0->α1->α2->Prop}{P:Prop}(h:∃ x0 x1 x2,p0 x0 x1 x2∧p1 x0 x1 x2∧p2 x0 x1 x2)(k:∀ x0 x1 x2,p0 x0 x1 x2->p1 x0 x1 x2->p2 x0 x1 x2->P):P:=let ⟨x0,x1,x2,h0,h1,h2⟩:=h;k x0 x1 x2 h0 h1 h2
theorem ob3_4{α0:Sort _}{α1:Sort _}{α2:Sort _}{p0 p1 p2 p3:α0->α1->α2->Prop}{P:Prop}(h:∃ x0 x1 x2,p0 x0 x1 x2∧p1 x0 x1 x2∧p2 x0 x1 x2∧p3 x0 x1 x2)(k:∀ x0 x1 x2,p0 x0 x1 x2->p1 x0 x1 x2->p2 x0 x1 x2->p3 x0 x1 x2->P):P:=let ⟨x0,x1,x2,h0,h1,h2,h3⟩:=h;k x0 x1 x2 h0 h1 h2 h3
theorem ob3_5{α0:Sort _}{α1:Sort _}{α2:Sort _}{p0 p1 p2 p3 p4:α0->α1->α2->Prop}{P:Prop}(h:∃ x0 x1 x2,p0 x0 x1 x2∧p1 x0 x1 x2∧p2 x0 x1 x2∧p3 x0 x1 x2∧p4 x0 x1 x2)(k:∀ x0 x1 x2,p0 x0 x1 x2->p1 x0 x1 x2->p2 x0 x1 x2->p3 x0 x1 x2->p4 x0 x1 x2->P):P:=let ⟨x0,x1,x2,h0,h1,h2,h3,h4⟩:=h;k x0 x1 x2 h0 h1 h2 h3 h4
theorem ob3_9{α0:Sort _}{α1:Sort _}{α2:Sort _}{p0 p1 p2 p3 p4 p5 p6 p7 p8:α0->α1->α2->Prop}{P:Prop}(h:∃ x0 x1 x2,p0 x0 x1 x2∧p1 x0 x1 x2∧p2 x0 x1 x2∧p3 x0 x1 x2∧p4 x0 x1 x2∧p5 x0 x1 x2∧p6 x0 x1 x2∧p7 x0 x1 x2∧p8 x0 x1 x2)(k:∀ x0 x1 x2,p0 x0 x1 x2->p1 x0 x1 x2->p2 x0 x1 x2->p3 x0 x1 x2->p4 x0 x1 x2->p5 x0 x1 x2->p6 x0 x1 x2->p7 x0 x1 x2->p8 x0 x1 x2->P):P:=let ⟨x0,x1,x2,h0,h1,h2,h3,h4,h5,h6,h7,h8⟩:=h;k x0 x1 x2 h0 h1 h2 h3 h4 h5 h6 h7 h8
theorem ob4_1{α0:Sort _}{α1:Sort _}{α2:Sort _}{α3:Sort _}{p0:α0->α1->α2->α3->Prop}{P:Prop}(h:∃ x0 x1 x2 x3,p0 x0 x1 x2 x3)(k:∀ x0 x1 x2 x3,p0 x0 x1 x2 x3->P):P:=let ⟨x0,x1,x2,x3,h0⟩:=h;k x0 x1 x2 x3 h0
theorem ob4_2{α0:Sort _}{α1:Sort _}{α2:Sort _}{α3:Sort _}{p0 p1:α0->α1->α2->α3->Prop}{P:Prop}(h:∃ x0 x1 x2 x3,p0 x0 x1 x2 x3∧p1 x0 x1 x2 x3)(k:∀ x0 x1 x2 x3,p0 x0 x1 x2 x3->p1 x0 x1 x2 x3->P):P:=let ⟨x0,x1,x2,x3,h0,h1⟩:=h;k x0 x1 x2 x3 h0 h1
theorem ob4_3{α0:Sort _}{α1:Sort _}{α2:Sort _}{α3:Sort _}{p0 p1 p2:α0->α1->α2->α3->Prop}{P:Prop}(h:∃ x0 x1 x2 x3,p0 x0 x1 x2 x3∧p1 x0 x1 x2 x3∧p2 x0 x1 x2 x3)(k:∀ x0 x1 x2 x3,p0 x0 x1 x2 x3->p1 x0 x1 x2 x3->p2 x0 x1 x2 x3->P):P:=let ⟨x0,x1,x2,x3,h0,h1,h2⟩:=h;k x0 x1 x2 x3 h0 h1 h2
theorem ob4_4{α0:Sort _}{α1:Sort _}{α2:Sort _}{α3:Sort _}{p0 p1 p2 p3:α0->α1->α2->α3->Prop}{P:Prop}(h:∃ x0 x1 x2 x3,p0 x0 x1 x2 x3∧p1 x0 x1 x2 x3∧p2 x0 x1 x2 x3∧p3 x0 x1 x2 x3)(k:∀ x0 x1 x2 x3,p0 x0 x1 x2 x3->p1 x0 x1 x2 x3->p2 x0 x1 x2 x3->p3 x0 x1 x2 x3->P):P:=let ⟨x0,x1,x2,x3,h0,h1,h2,h3⟩:=h;k x0 x1 x2 x3 h0 h1 h2 h3
theorem ob4_5{α0:Sort _}{α1:Sort _}{α2:Sort _}{α3:Sort _}{p0 p1 p2 p3 p4:α0->α1->α2->α3->Prop}{P:Prop}(h:∃ x0 x1 x2 x3,p0 x0 x1 x2 x3∧p1 x0 x1 x2 x3∧p2 x0 x1 x2 x3∧p3 x0 x1 x2 x3∧p4 x0 x1 x2 x3)(k:∀ x0 x1 x2 x3,p0 x0 x1 x2 x3->p1 x0 x1 x2 x3->p2 x0 x1 x2 x3->p3 x0 x1 x2 x3->p4 x0 x1 x2 x3->P):P:=let ⟨x0,x1,x2,x3,h0,h1,h2,h3,h4⟩:=h;k x0 x1 x2 x3 h0 h1 h2 h3 h4
theorem ob4_8{α0:Sort _}{α1:Sort _}{α2:Sort _}{α3:Sort _}{p0 p1 p2 p3 p4 p5 p6 p7:α0->α1->α2->α3->Prop}{P:Prop}(h:∃ x0 x1 x2 x3,p0 x0 x1 x2 x3∧p1 x0 x1 x2 x3∧p2 x0 x1 x2 x3∧p3 x0 x1 x2 x3∧p4 x0 x1 x2 x3∧p5 x0 x1 x2 x3∧p6 x0 x1 x2 x3∧p7 x0 x1 x2 x3)(k:∀ x0 x1 x2 x3,p0 x0 x1 x2 x3->p1 x0 x1 x2 x3->p2 x0 x1 x2 x3->p3 x0 x1 x2 x3->p4 x0 x1 x2 x3->p5 x0 x1 x2 x3->p6 x0 x1 x2 x3->p7 x0 x1 x2 x3->P):P:=let ⟨x0,x1,x2,x3,h0,h1,h2,h3,h4,h5,h6,h7⟩:=h;k x0 x1 x2 x3 h0 h1 h2 h3 h4 h5 h6 h7
theorem ob4_10{α0:Sort _}{α1:Sort _}{α2:Sort _}{α3:Sort _}{p0 p1 p2 p3 p4 p5 p6 p7 p8 p9:α0->α1->α2->α3->Prop}{P:Prop}(h:∃ x0 x1 x2 x3,p0 x0 x1 x2 x3∧p1 x0 x1 x2 x3∧p2 x0 x1 x2 x3∧p3 x0 x1 x2 x3∧p4 x0 x1 x2 x3∧p5 x0 x1 x2 x3∧p6 x0 x1 x2 x3∧p7 x0 x1 x2 x3∧p8 x0 x1 x2 x3∧p9 x0 x1 x2 x3)(k:∀ x0 x1 x2 x3,p0 x0 x1 x2 x3->p1 x0 x1 x2 x3->p2 x0 x1 x2 x3->p3 x0 x1 x2 x3->p4 x0 x1 x2 x3->p5 x0 x1 x2 x3->p6 x0 x1 x2 x3->p7 x0 x1 x2 x3->p8 x0 x1 x2 x3->p9 x0 x1 x2 x3->P):P:=let ⟨x0,x1,x2,x3,h0,h1,h2,h3,h4,h5,h6,h7,h8,h9⟩:=h;k x0 x1 x2 x3 h0 h1 h2 h3 h4 h5 h6 h7 h8 h9
theorem ob5_1{α0:Sort _}{α1:Sort _}{α2:Sort _}{α3:Sort _}{α4:Sort _}{p0:α0->α1->α2->α3->α4->Prop}{P:Prop}(h:∃ x0 x1 x2 x3 x4,p0 x0 x1 x2 x3 x4)(k:∀ x0 x1 x2 x3 x4,p0 x0 x1 x2 x3 x4->P):P:=let ⟨x0,x1,x2,x3,x4,h0⟩:=h;k x0 x1 x2 x3 x4 h0
theorem ob5_3{α0:Sort _}{α1:Sort _}{α2:Sort _}{α3:Sort _}{α4:Sort _}{p0 p1 p2:α0->α1->α2->α3->α4->Prop}{P:Prop}(h:∃ x0 x1 x2 x3 x4,p0 x0 x1 x2 x3 x4∧p1 x0 x1 x2 x3 x4∧p2 x0 x1 x2 x3 x4)(k:∀ x0 x1 x2 x3 x4,p0 x0 x1 x2 x3 x4->p1 x0 x1 x2 x3 x4->p2 x0 x1 x2 x3 x4->P):P:=let ⟨x0,x1,x2,x3,x4,h0,h1,h2⟩:=h;k x0 x1 x2 x3 x4 h0 h1 h2
theorem ob5_4{α0:Sort _}{α1:Sort _}{α2:Sort _}{α3:Sort _}{α4:Sort _}{p0 p1 p2 p3:α0->α1->α2->α3->α4->Prop}{P:Prop}(h:∃ x0 x1 x2 x3 x4,p0 x0 x1 x2 x3 x4∧p1 x0 x1 x2 x3 x4∧p2 x0 x1 x2 x3 x4∧p3 x0 x1 x2 x3 x4)(k:∀ x0 x1 x2 x3 x4,p0 x0 x1 x2 x3 x4->p1 x0 x1 x2 x3 x4->p2 x0 x1 x2 x3 x4->p3 x0 x1 x2 x3 x4->P):P:=let ⟨x0,x1,x2,x3,x4,h0,h1,h2,h3⟩:=h;k x0 x1 x2 x3 x4 h0 h1 h2 h3
theorem ob5_5{α0:Sort _}{α1:Sort _}{α2:Sort _}{α3:Sort _}{α4:Sort _}{p0 p1 p2 p3 p4:α0->α1->α2->α3->α4->Prop}{P:Prop}(h:∃ x0 x1 x2 x3 x4,p0 x0 x1 x2 x3 x4∧p1 x0 x1 x2 x3 x4∧p2 x0 x1 x2 x3 x4∧p3 x0 x1 x2 x3 x4∧p4 x0 x1 x2 x3 x4)(k:∀ x0 x1 x2 x3 x4,p0 x0 x1 x2 x3 x4->p1 x0 x1 x2 x3 x4->p2 x0 x1 x2 x3 x4->p3 x0 x1 x2 x3 x4->p4 x0 x1 x2 x3 x4->P):P:=let ⟨x0,x1,x2,x3,x4,h0,h1,h2,h3,h4⟩:=h;k x0 x1 x2 x3 x4 h0 h1 h2 h3 h4
theorem ob5_9{α0:Sort _}{α1:Sort _}{α2:Sort _}{α3:Sort _}{α4:Sort _}{p0 p1 p2 p3 p4 p5 p6 p7 p8:α0->α1->α2->α3->α4->Prop}{P:Prop}(h:∃ x0 x1 x2 x3 x4,p0 x0 x1 x2 x3 x4∧p1 x0 x1 x2 x3 x4∧p2 x0 x1 x2 x3 x4∧p3 x0 x1 x2 x3 x4∧p4 x0 x1 x2 x3 x4∧p5 x0 x1 x2 x3 x4∧p6 x0 x1 x2 x3 x4∧p7 x0 x1 x2 x3 x4∧p8 x0 x1 x2 x3 x4)(k:∀ x0 x1 x2 x3 x4,p0 x0 x1 x2 x3 x4->p1 x0 x1 x2 x3 x4->p2 x0 x1 x2 x3 x4->p3 x0 x1 x2 x3 x4->p4 x0 x1 x2 x3 x4->p5 x0 x1 x2 x3 x4->p6 x0 x1 x2 x3 x4->p7 x0 x1 x2 x3 x4->p8 x0 x1 x2 x3 x4->P):P:=let ⟨x0,x1,x2,x3,x4,h0,h1,h2,h3,h4,h5,h6,h7,h8⟩:=h;k x0 x1 x2 x3 x4 h0 h1 h2 h3 h4 h5 h6 h7 h8
theorem nSo{α:Type u}{a:α}{P:Prop}(h:none=some a):P:=nomatch h
theorem noS{α:Type u}{a:α}{P:Prop}(h:some a=none):P:=nomatch h
theorem fT{P:Prop}(h:false=true):P:=nomatch h
theorem tF{P:Prop}(h:true=false):P:=nomatch h
theorem Qo{α:Type u}{a b:α}(h:some a=some b):b=a:=(Option.some.inj h).symm
@[elab_as_elim] theorem wG{α:Sort u}{a b:α}{P:α->Prop}(h:a=b)(m:P b):P a:=h ▸ m
@[elab_as_elim] theorem wS{α:Sort u}{a b:α}{P:α->Prop}(h:b=a)(m:P b):P a:=h ▸ m
@[elab_as_elim] theorem Qm2{α:Sort u}{P:α->Prop}(a:α)(h:∀ x,P x):P a:=h a
@[elab_as_elim] theorem Qdb{α:Sort u}{P:α->Prop}(a:α)(h:∀ x,a=x->P x):P a:=h a rfl
theorem Jw{p0 p1 p2:Prop}(h0:p0)(h1:p1)(h2:p2):p0∧p1∧p2:=⟨h0,h1,h2⟩
theorem Qj0{p0 p1 p2 p3:Prop}(h0:p0)(h1:p1)(h2:p2)(h3:p3):p0∧p1∧p2∧p3:=⟨h0,h1,h2,h3⟩
theorem Qg9{p0 p1 p2 p3 p4:Prop}(h0:p0)(h1:p1)(h2:p2)(h3:p3)(h4:p4):p0∧p1∧p2∧p3∧p4:=⟨h0,h1,h2,h3,h4⟩
theorem in0_10{p0 p1 p2 p3 p4 p5 p6 p7 p8 p9:Prop}(h0:p0)(h1:p1)(h2:p2)(h3:p3)(h4:p4)(h5:p5)(h6:p6)(h7:p7)(h8:p8)(h9:p9):p0∧p1∧p2∧p3∧p4∧p5∧p6∧p7∧p8∧p9:=⟨h0,h1,h2,h3,h4,h5,h6,h7,h8,h9⟩
theorem in1_2{α0:Sort _}{p0 p1:α0->Prop}(x0:α0)(h0:p0 x0)(h1:p1 x0):∃ x0,p0 x0∧p1 x0:=⟨x0,h0,h1⟩
theorem in1_3{α0:Sort _}{p0 p1 p2:α0->Prop}(x0:α0)(h0:p0 x0)(h1:p1 x0)(h2:p2 x0):∃ x0,p0 x0∧p1 x0∧p2 x0:=⟨x0,h0,h1,h2⟩
theorem in1_4{α0:Sort _}{p0 p1 p2 p3:α0->Prop}(x0:α0)(h0:p0 x0)(h1:p1 x0)(h2:p2 x0)(h3:p3 x0):∃ x0,p0 x0∧p1 x0∧p2 x0∧p3 x0:=⟨x0,h0,h1,h2,h3⟩
theorem in1_5{α0:Sort _}{p0 p1 p2 p3 p4:α0->Prop}(x0:α0)(h0:p0 x0)(h1:p1 x0)(h2:p2 x0)(h3:p3 x0)(h4:p4 x0):∃ x0,p0 x0∧p1 x0∧p2 x0∧p3 x0∧p4 x0:=⟨x0,h0,h1,h2,h3,h4⟩
theorem in1_6{α0:Sort _}{p0 p1 p2 p3 p4 p5:α0->Prop}(x0:α0)(h0:p0 x0)(h1:p1 x0)(h2:p2 x0)(h3:p3 x0)(h4:p4 x0)(h5:p5 x0):∃ x0,p0 x0∧p1 x0∧p2 x0∧p3 x0∧p4 x0∧p5 x0:=⟨x0,h0,h1,h2,h3,h4,h5⟩
theorem in1_7{α0:Sort _}{p0 p1 p2 p3 p4 p5 p6:α0->Prop}(x0:α0)(h0:p0 x0)(h1:p1 x0)(h2:p2 x0)(h3:p3 x0)(h4:p4 x0)(h5:p5 x0)(h6:p6 x0):∃ x0,p0 x0∧p1 x0∧p2 x0∧p3 x0∧p4 x0∧p5 x0∧p6 x0:=⟨x0,h0,h1,h2,h3,h4,h5,h6⟩
theorem in2_1{α0:Sort _}{α1:Sort _}{p0:α0->α1->Prop}(x0:α0)(x1:α1)(h0:p0 x0 x1):∃ x0 x1,p0 x0 x1:=⟨x0,x1,h0⟩
theorem in2_3{α0:Sort _}{α1:Sort _}{p0 p1 p2:α0->α1->Prop}(x0:α0)(x1:α1)(h0:p0 x0 x1)(h1:p1 x0 x1)(h2:p2 x0 x1):∃ x0 x1,p0 x0 x1∧p1 x0 x1∧p2 x0 x1:=⟨x0,x1,h0,h1,h2⟩
theorem in2_4{α0:Sort _}{α1:Sort _}{p0 p1 p2 p3:α0->α1->Prop}(x0:α0)(x1:α1)(h0:p0 x0 x1)(h1:p1 x0 x1)(h2:p2 x0 x1)(h3:p3 x0 x1):∃ x0 x1,p0 x0 x1∧p1 x0 x1∧p2 x0 x1∧p3 x0 x1:=⟨x0,x1,h0,h1,h2,h3⟩
theorem in2_5{α0:Sort _}{α1:Sort _}{p0 p1 p2 p3 p4:α0->α1->Prop}(x0:α0)(x1:α1)(h0:p0 x0 x1)(h1:p1 x0 x1)(h2:p2 x0 x1)(h3:p3 x0 x1)(h4:p4 x0 x1):∃ x0 x1,p0 x0 x1∧p1 x0 x1∧p2 x0 x1∧p3 x0 x1∧p4 x0 x1:=⟨x0,x1,h0,h1,h2,h3,h4⟩
theorem in2_6{α0:Sort _}{α1:Sort _}{p0 p1 p2 p3 p4 p5:α0->α1->Prop}(x0:α0)(x1:α1)(h0:p0 x0 x1)(h1:p1 x0 x1)(h2:p2 x0 x1)(h3:p3 x0 x1)(h4:p4 x0 x1)(h5:p5 x0 x1):∃ x0 x1,p0 x0 x1∧p1 x0 x1∧p2 x0 x1∧p3 x0 x1∧p4 x0 x1∧p5 x0 x1:=⟨x0,x1,h0,h1,h2,h3,h4,h5⟩
theorem in2_8{α0:Sort _}{α1:Sort _}{p0 p1 p2 p3 p4 p5 p6 p7:α0->α1->Prop}(x0:α0)(x1:α1)(h0:p0 x0 x1)(h1:p1 x0 x1)(h2:p2 x0 x1)(h3:p3 x0 x1)(h4:p4 x0 x1)(h5:p5 x0 x1)(h6:p6 x0 x1)(h7:p7 x0 x1):∃ x0 x1,p0 x0 x1∧p1 x0 x1∧p2 x0 x1∧p3 x0 x1∧p4 x0 x1∧p5 x0 x1∧p6 x0 x1∧p7 x0 x1:=⟨x0,x1,h0,h1,h2,h3,h4,h5,h6,h7⟩
theorem in3_4{α0:Sort _}{α1:Sort _}{α2:Sort _}{p0 p1 p2 p3:α0->α1->α2->Prop}(x0:α0)(x1:α1)(x2:α2)(h0:p0 x0 x1 x2)(h1:p1 x0 x1 x2)(h2:p2 x0 x1 x2)(h3:p3 x0 x1 x2):∃ x0 x1 x2,p0 x0 x1 x2∧p1 x0 x1 x2∧p2 x0 x1 x2∧p3 x0 x1 x2:=⟨x0,x1,x2,h0,h1,h2,h3⟩
theorem in3_9{α0:Sort _}{α1:Sort _}{α2:Sort _}{p0 p1 p2 p3 p4 p5 p6 p7 p8:α0->α1->α2->Prop}(x0:α0)(x1:α1)(x2:α2)(h0:p0 x0 x1 x2)(h1:p1 x0 x1 x2)(h2:p2 x0 x1 x2)(h3:p3 x0 x1 x2)(h4:p4 x0 x1 x2)(h5:p5 x0 x1 x2)(h6:p6 x0 x1 x2)(h7:p7 x0 x1 x2)(h8:p8 x0 x1 x2):∃ x0 x1 x2,p0 x0 x1 x2∧p1 x0 x1 x2∧p2 x0 x1 x2∧p3 x0 x1 x2∧p4 x0 x1 x2∧p5 x0 x1 x2∧p6 x0 x1 x2∧p7 x0 x1 x2∧p8 x0 x1 x2:=⟨x0,x1,x2,h0,h1,h2,h3,h4,h5,h6,h7,h8⟩
theorem in3_10{α0:Sort _}{α1:Sort _}{α2:Sort _}{p0 p1 p2 p3 p4 p5 p6 p7 p8 p9:α0->α1->α2->Prop}(x0:α0)(x1:α1)(x2:α2)(h0:p0 x0 x1 x2)(h1:p1 x0 x1 x2)(h2:p2 x0 x1 x2)(h3:p3 x0 x1 x2)(h4:p4 x0 x1 x2)(h5:p5 x0 x1 x2)(h6:p6 x0 x1 x2)(h7:p7 x0 x1 x2)(h8:p8 x0 x1 x2)(h9:p9 x0 x1 x2):∃ x0 x1 x2,p0 x0 x1 x2∧p1 x0 x1 x2∧p2 x0 x1 x2∧p3 x0 x1 x2∧p4 x0 x1 x2∧p5 x0 x1 x2∧p6 x0 x1 x2∧p7 x0 x1 x2∧p8 x0 x1 x2∧p9 x0 x1 x2:=⟨x0,x1,x2,h0,h1,h2,h3,h4,h5,h6,h7,h8,h9⟩
theorem in4_1{α0:Sort _}{α1:Sort _}{α2:Sort _}{α3:Sort _}{p0:α0->α1->α2->α3->Prop}(x0:α0)(x1:α1)(x2:α2)(x3:α3)(h0:p0 x0 x1 x2 x3):∃ x0 x1 x2 x3,p0 x0 x1 x2 x3:=⟨x0,x1,x2,x3,h0⟩
theorem in4_2{α0:Sort _}{α1:Sort _}{α2:Sort _}{α3:Sort _}{p0 p1:α0->α1->α2->α3->Prop}(x0:α0)(x1:α1)(x2:α2)(x3:α3)(h0:p0 x0 x1 x2 x3)(h1:p1 x0 x1 x2 x3):∃ x0 x1 x2 x3,p0 x0 x1 x2 x3∧p1 x0 x1 x2 x3:=⟨x0,x1,x2,x3,h0,h1⟩
theorem in4_4{α0:Sort _}{α1:Sort _}{α2:Sort _}{α3:Sort _}{p0 p1 p2 p3:α0->α1->α2->α3->Prop}(x0:α0)(x1:α1)(x2:α2)(x3:α3)(h0:p0 x0 x1 x2 x3)(h1:p1 x0 x1 x2 x3)(h2:p2 x0 x1 x2 x3)(h3:p3 x0 x1 x2 x3):∃ x0 x1 x2 x3,p0 x0 x1 x2 x3∧p1 x0 x1 x2 x3∧p2 x0 x1 x2 x3∧p3 x0 x1 x2 x3:=⟨x0,x1,x2,x3,h0,h1,h2,h3⟩
theorem in4_5{α0:Sort _}{α1:Sort _}{α2:Sort _}{α3:Sort _}{p0 p1 p2 p3 p4:α0->α1->α2->α3->Prop}(x0:α0)(x1:α1)(x2:α2)(x3:α3)(h0:p0 x0 x1 x2 x3)(h1:p1 x0 x1 x2 x3)(h2:p2 x0 x1 x2 x3)(h3:p3 x0 x1 x2 x3)(h4:p4 x0 x1 x2 x3):∃ x0 x1 x2 x3,p0 x0 x1 x2 x3∧p1 x0 x1 x2 x3∧p2 x0 x1 x2 x3∧p3 x0 x1 x2 x3∧p4 x0 x1 x2 x3:=⟨x0,x1,x2,x3,h0,h1,h2,h3,h4⟩
theorem in4_6{α0:Sort _}{α1:Sort _}{α2:Sort _}{α3:Sort _}{p0 p1 p2 p3 p4 p5:α0->α1->α2->α3->Prop}(x0:α0)(x1:α1)(x2:α2)(x3:α3)(h0:p0 x0 x1 x2 x3)(h1:p1 x0 x1 x2 x3)(h2:p2 x0 x1 x2 x3)(h3:p3 x0 x1 x2 x3)(h4:p4 x0 x1 x2 x3)(h5:p5 x0 x1 x2 x3):∃ x0 x1 x2 x3,p0 x0 x1 x2 x3∧p1 x0 x1 x2 x3∧p2 x0 x1 x2 x3∧p3 x0 x1 x2 x3∧p4 x0 x1 x2 x3∧p5 x0 x1 x2 x3:=⟨x0,x1,x2,x3,h0,h1,h2,h3,h4,h5⟩
theorem in5_5{α0:Sort _}{α1:Sort _}{α2:Sort _}{α3:Sort _}{α4:Sort _}{p0 p1 p2 p3 p4:α0->α1->α2->α3->α4->Prop}(x0:α0)(x1:α1)(x2:α2)(x3:α3)(x4:α4)(h0:p0 x0 x1 x2 x3 x4)(h1:p1 x0 x1 x2 x3 x4)(h2:p2 x0 x1 x2 x3 x4)(h3:p3 x0 x1 x2 x3 x4)(h4:p4 x0 x1 x2 x3 x4):∃ x0 x1 x2 x3 x4,p0 x0 x1 x2 x3 x4∧p1 x0 x1 x2 x3 x4∧p2 x0 x1 x2 x3 x4∧p3 x0 x1 x2 x3 x4∧p4 x0 x1 x2 x3 x4:=⟨x0,x1,x2,x3,x4,h0,h1,h2,h3,h4⟩
theorem in5_9{α0:Sort _}{α1:Sort _}{α2:Sort _}{α3:Sort _}{α4:Sort _}{p0 p1 p2 p3 p4 p5 p6 p7 p8:α0->α1->α2->α3->α4->Prop}(x0:α0)(x1:α1)(x2:α2)(x3:α3)(x4:α4)(h0:p0 x0 x1 x2 x3 x4)(h1:p1 x0 x1 x2 x3 x4)(h2:p2 x0 x1 x2 x3 x4)(h3:p3 x0 x1 x2 x3 x4)(h4:p4 x0 x1 x2 x3 x4)(h5:p5 x0 x1 x2 x3 x4)(h6:p6 x0 x1 x2 x3 x4)(h7:p7 x0 x1 x2 x3 x4)(h8:p8 x0 x1 x2 x3 x4):∃ x0 x1 x2 x3 x4,p0 x0 x1 x2 x3 x4∧p1 x0 x1 x2 x3 x4∧p2 x0 x1 x2 x3 x4∧p3 x0 x1 x2 x3 x4∧p4 x0 x1 x2 x3 x4∧p5 x0 x1 x2 x3 x4∧p6 x0 x1 x2 x3 x4∧p7 x0 x1 x2 x3 x4∧p8 x0 x1 x2 x3 x4:=⟨x0,x1,x2,x3,x4,h0,h1,h2,h3,h4,h5,h6,h7,h8⟩
noncomputable def Frm(o:Obj):Prop:=o.cls=.type "frame"∧∃ es n,o.data=.dict es n
noncomputable def FrmAt(h:Heap)(a:Addr):Prop:=∃ o,h.get? a=some o∧Frm o
section
variable {M:Model}{Γ:Ctx}{E:Value->Pos->Shared->Prop}{p:Pos}{s:Shared}
theorem wp_nsSetF{a:Addr}{m:Str->Option Value}(hn:s.heap.Ns a m)(name:Str)(v:Value)(Q:Unit->Pos->Shared->Prop)
  (hQ:∀ h',h'.Ns a (fun x=>if x=name then some v else m x)->Heap.SameBut a s.heap h'->(FrmAt s.heap a->FrmAt h' a)->
   Q () p { s with heap:=h',toks:=s.toks + 1 }):Sem.wp M Γ (nsSet a name v) Q E p s:=by
 refine ob3_4 hn fun o es ep ho hd hk hm=>?_
 simp only [nsSet,strHash,Sem.wp_bind',Sem.wp_cmd_ask,Sem.wp_pure',Sem.wp_cmd_mkText]
 rw [Sem.wp_loadPart_of M Γ E p { s with toks:=s.toks + 1 } (o:=o) _ ho]
 have hany:es.any (·.refKey)=false:=by
  rw [Array.any_eq_false'];intro e he;refine ob2_1 (hk e he) fun n t h=>?_;simp [DictEntry.refKey,h]
 simp only [hd,aRefKeyMayBeTheName_eq,aRefKeyMayBeTheNameByArray,hany,Bool.and_false,Bool.false_eq_true,if_false,Sem.wp_cmd_updatePart]
 obtain ⟨c,d,dt,sl⟩:=o
 subst hd
 refine ⟨by rw [ho];rfl,hQ _ ?_ (Heap.SameBut.update ..) ?_⟩
 ·cases hi:es.findIdx? (·.key.isStr name) with
  | some i=>
   refine in3_4 _ _ ep (Heap.get?_update_self _ ho (by simp only [Obj.putName_eq,Obj.putNameByArray,hi];rfl)) (by simp only [Obj.putName_eq,Obj.putNameByArray,hi];rfl) (hk.modify _ _) (fun x=>?_)
   show _=if x=name then some v else m x
   rw [← hm];exact findBy_modify (fun n v=>v.isStr n) Value.isStr_inj es name x v i hi
  | none=>
   refine in3_4 _ _ (ep + 1) (Heap.get?_update_self _ ho (by simp only [Obj.putName_eq,Obj.putNameByArray,hi];rfl)) (by simp only [Obj.putName_eq,Obj.putNameByArray,hi];rfl) (hk.push _ _ _ _) (fun x=>?_)
   show _=if x=name then some v else m x
   rw [← hm]
   exact findBy_push (fun n v=>v.isStr n) es name x _ _ v (fun y=>by
    show (name == y)=decide (y=name)
    by_cases h:y=name
    ·subst h;simp
    ·have:¬ name=y:=fun e=>h e.symm
     simp [h,this]) hi
 ·intro z0;refine ob1_3 z0 fun o' e' f1 f2=>?_
  rw [ho] at e'
  obtain rfl:=Qo e'
  cases hi:es.findIdx? (·.key.isStr name) with
  | some i=>exact in1_3 _ (Heap.get?_update_self _ ho (by simp only [Obj.putName_eq,Obj.putNameByArray,hi];rfl)) (by simp only [Obj.putName_eq,Obj.putNameByArray,hi];exact f1) ⟨_,_,by simp only [Obj.putName_eq,Obj.putNameByArray,hi];rfl⟩
  | none=>exact in1_3 _ (Heap.get?_update_self _ ho (by simp only [Obj.putName_eq,Obj.putNameByArray,hi];rfl)) (by simp only [Obj.putName_eq,Obj.putNameByArray,hi];exact f1) ⟨_,_,by simp only [Obj.putName_eq,Obj.putNameByArray,hi];rfl⟩
end
section
variable {M:Model}{A:Around}{E:Value->Shared->Prop}{s:Shared}
theorem Qc5{a:Addr}{m:Str->Option Value}{name:Str}{v:Value}{Q:Unit->Shared->Prop}(hn:s.heap.Ns a m)
  (h:∀ h',h'.Ns a (fun x=>if x=name then some v else m x)->Heap.SameBut a s.heap h'->(FrmAt s.heap a->FrmAt h' a)->Q () { s with heap:=h',toks:=s.toks + 1 }):
  wpAny M A (nsSet a name v) Q E s:=fun Γ p _=>wp_nsSetF hn name v _ h
theorem Ja{env:Env}{name:Str}{m:Str->Option Value}{v:Value}{Q:Unit->Shared->Prop}(hl:env.kindOf name=some .local)
  (hn:s.heap.Ns env.locals m)
  (h:∀ h',h'.Ns env.locals (fun x=>if x=name then some v else m x)->Heap.SameBut env.locals s.heap h'->(FrmAt s.heap env.locals->FrmAt h' env.locals)->
   Q () { s with heap:=h',toks:=s.toks + 1 })
  (hp:(env.scope.kind == .class || (env.scope.kind == .module && env.locals != env.globals))=false:=by rfl):wpAny M A (storeName env name v) Q E s:=by
 refine wG (storeName_local hl hp ..) ?_;exact Qc5 hn h
theorem FrmAt.sameBut{h h':Heap}{a b:Addr}(x:FrmAt h a)(hs:Heap.SameBut b h h')(ne:a≠b):FrmAt h' a:=by
 refine ob1_2 x fun o e f=>?_
 exact in1_2 o ((hs.2 a ne).trans e) f
theorem FrmAt.keeps{h h':Heap}{a:Addr}(x:FrmAt h a)(k:∀ b o,h.get? b=some o->h'.get? b=some o):FrmAt h' a:=by
 refine ob1_2 x fun o e f=>?_
 exact in1_2 o (k _ _ e) f
theorem Zs{scope:Scope}{globals:Addr}{closure:List (Str × Addr)}{binds:List (Str × Value)}{qual:Str}
  {func:Option Addr}{code:Value}{builtins:Addr}{Q:Env->Shared->Prop}
  (hc:∀ x ∈ scope.names,x.2≠.cell)(hl:∀ x ∈ binds,scope.names.lookup x.1=some .local)
  (hQ:∀ h',h'.Ns s.heap.objs.size (fun x=>binds.reverse.lookup x)->
   Heap.SameBut s.heap.objs.size (s.heap.push { cls:=.type "frame",data:=.dict #[] }) h'->FrmAt h' s.heap.objs.size->
   Q (newEnv scope s.heap.objs.size globals closure qual func code none builtins) { s with heap:=h',toks:=s.toks + binds.length })
  (hk:scope.kind=.function:=by rfl):
  wpAny M A (newFunctionEnv scope globals closure binds qual func code none builtins) Q E s:=by
 simp only [newFunctionEnv,Option.isSome_none,Bool.false_eq_true,if_false]
 simp only [newEnv] at hQ
 refine wpAny_bind (wpAny_alloc ?_)
 rw [forIn_yield_id closure (fun x hx c=>by
  obtain ⟨name,kind⟩:=x
  have:(kind == NameKind.cell)=false:=by simpa using hc _ hx
  simp only [this,Bool.false_eq_true,if_false])]
 refine wpAny_bind (wpAny_pure (wpAny_bind ?_))
 refine wpAny_forIn_list _
  (fun rest _ s'=>∃ done h',binds=done ++ rest∧s'={ s with heap:=h',toks:=s.toks + done.length }∧
   h'.Ns s.heap.objs.size (fun x=>done.reverse.lookup x)∧
   Heap.SameBut s.heap.objs.size (s.heap.push { cls:=.type "frame",data:=.dict #[] }) h'∧FrmAt h' s.heap.objs.size) _ ?_ ?_ binds _
  ⟨[],_,rfl,rfl,Heap.Ns.new ..,Heap.SameBut.refl ..,⟨_,Heap.get?_push_size _ rfl,rfl,_,_,rfl⟩⟩
 ·rintro ⟨name,v⟩ rest _ s' ⟨done,h',hb,rfl,hns,hsb,hfr⟩
  have hk':Env.kindOf { scope,locals:=s.heap.objs.size,globals,cells:=closure,qual,func,code,frame:=some s.heap.objs.size,builtins } name=some .local:=
   hl (name,v) (by rw [hb];simp)
  have hp:(({ scope,locals:=s.heap.objs.size,globals,cells:=closure,qual,func,code,frame:=some s.heap.objs.size,builtins }:Env).scope.kind == .class || (({ scope,locals:=s.heap.objs.size,globals,cells:=closure,qual,func,code,frame:=some s.heap.objs.size,builtins }:Env).scope.kind == .module &&
    ({ scope,locals:=s.heap.objs.size,globals,cells:=closure,qual,func,code,frame:=some s.heap.objs.size,builtins }:Env).locals != ({ scope,locals:=s.heap.objs.size,globals,cells:=closure,qual,func,code,frame:=some s.heap.objs.size,builtins }:Env).globals))=false:=by
   show (scope.kind == .class || (scope.kind == .module && _))=false
   refine wG hk ?_;rfl
  simp only [storeName_local hk' hp]
  refine wpAny_bind (Qc5 hns fun h'' hns' hsb' hf'=>wpAny_pure ⟨done ++ [(name,v)],h'',by simp [hb],?_,?_,hsb.trans hsb',hf' hfr⟩)
  ·simp [Nat.add_assoc]
  ·rw [lookup_reverse_snoc];exact hns'
 ·intro _ s' z0;refine ob2_5 z0 ?_;rintro done h' hb rfl hns hsb hfr
  rw [List.append_nil] at hb;subst hb
  exact wpAny_pure (hQ h' hns hsb hfr)
end
section
variable {M:Model}{A:Around}{E:Value->Shared->Prop}{s₀ s:Shared}{m cm:Str->Option Value}{env:Env}
theorem stLCF{n:Str}{v:Value}{Q:Unit->Shared->Prop}(x:InCallC s₀ env.locals m env.cells cm s)(f:FrmAt s.heap env.locals)(hk:env.scope.kind=.function)(hl:env.kindOf n=some .local)
  (h:∀ s',InCallC s₀ env.locals (fun y=>if y=n then some v else m y) env.cells cm s'->FrmAt s'.heap env.locals->Q () s'):wpAny M A (storeName env n v) Q E s:=by
 refine Ja hl x.toInCall.ns (fun h' hn' hs' hf=>h _ ⟨⟨?_,hn',fun b o e=>?_,x.toInCall.fresh⟩,fun k c hc=>?_,x.apart,x.above⟩ (hf f)) (by refine wG hk ?_;rfl)
 ·refine ob2_1 x.toInCall.same ?_;rintro h1 tk rfl
  exact in2_1 h' _ rfl
 ·exact hs'.extBut b o (Nat.ne_of_lt (Nat.lt_of_lt_of_le (Heap.lt_size e) x.toInCall.fresh)) (x.toInCall.keep b o e)
 ·exact (x.cell k c hc).sameBut hs' (Nat.ne_of_gt (x.above k c (mem_of_lookup hc)))
theorem stCCF{n:Str}{c:Addr}{v:Value}{Q:Unit->Shared->Prop}(x:InCallC s₀ env.locals m env.cells cm s)(f:FrmAt s.heap env.locals)(hk:env.scope.kind=.function)(hl:env.kindOf n=some .cell)
  (hc:env.cells.lookup n=some c)
  (h:∀ s',InCallC s₀ env.locals m env.cells (fun y=>if y=n then some v else cm y) s'->FrmAt s'.heap env.locals->Q () s'):wpAny M A (storeName env n v) Q E s:=by
 have hLc:=x.above n c (mem_of_lookup hc)
 refine wpAny_storeName_cell hk hl hc (x.cell n c hc) fun h' hc' hs'=>h _ ⟨⟨?_,x.toInCall.ns.sameBut hs' (Nat.ne_of_lt hLc),fun b o e=>?_,x.toInCall.fresh⟩,fun k c' hk'=>?_,x.apart,x.above⟩ (f.sameBut hs' (Nat.ne_of_lt hLc))
 ·refine ob2_1 x.toInCall.same ?_;rintro h1 tk rfl
  exact in2_1 h' _ rfl
 ·exact hs'.extBut b o (Nat.ne_of_lt (Nat.lt_trans (Nat.lt_of_lt_of_le (Heap.lt_size e) x.toInCall.fresh) hLc)) (x.toInCall.keep b o e)
 ·by_cases hkn:k=n
  ·subst hkn
   rw [hc] at hk';obtain rfl:=Qo hk'
   simpa using hc'
  ·rw [if_neg hkn]
   exact (x.cell k c' hk').sameBut hs' fun e=>hkn (name_of_addr x.apart (mem_of_lookup hk') (e ▸ mem_of_lookup hc))
theorem Jc(f:Str × Value->PUnit->Sem (ForInStep PUnit))(hf:∀ n v u,f (n,v) u=(do storeName env n v;pure (.yield ⟨⟩)))(hk:env.scope.kind=.function):
  ∀ (binds:List (Str × Value)) (m cm:Str->Option Value) (s:Shared) (Q:PUnit->Shared->Prop),InCallC s₀ env.locals m env.cells cm s->FrmAt s.heap env.locals->
   (∀ x ∈ binds,env.kindOf x.1=some .local∨(env.kindOf x.1=some .cell∧(env.cells.lookup x.1).isSome=true))->
   (∀ s',InCallC s₀ env.locals (bindL env.kindOf binds m) env.cells (bindC env.kindOf binds cm) s'->FrmAt s'.heap env.locals->Q ⟨⟩ s')->wpAny M A (forIn binds ⟨⟩ f) Q E s
 | [],m,cm,s,Q,x,fr,_,h=>by refine wG List.forIn_nil ?_;exact wpAny_pure (h s x fr)
 | (n,v) :: r,m,cm,s,Q,x,fr,hkind,h=>by
  refine wG (List.forIn_cons ..) (wG (hf ..) ?_)
  have hr:∀ y ∈ r,env.kindOf y.1=some .local∨(env.kindOf y.1=some .cell∧(env.cells.lookup y.1).isSome=true):=fun y hy=>hkind y (List.mem_cons_of_mem _ hy)
  rcases hkind (n,v) List.mem_cons_self with hl | ⟨hl,hc⟩
  ·refine wpAny_bind (wpAny_bind (stLCF x fr hk hl fun s' x' fr'=>wpAny_pure (Jc f hf hk r _ _ s' Q x' fr' hr fun s'' x'' fr''=>h s'' ?_ fr'')))
   unfold bindL bindC;refine wG (if_pos hl) (wG (if_pos hl) ?_);exact x''
  ·obtain ⟨c,hc⟩:=Option.isSome_iff_exists.mp hc
   have hnl:¬ env.kindOf n=some .local:=by rw [hl];decide
   refine wpAny_bind (wpAny_bind (stCCF x fr hk hl hc fun s' x' fr'=>wpAny_pure (Jc f hf hk r _ _ s' Q x' fr' hr fun s'' x'' fr''=>h s'' ?_ fr'')))
   unfold bindL bindC;refine wG (if_neg hnl) (wG (if_neg hnl) ?_);exact x''
end
section
variable {M:Model}{A:Around}{E:Value->Shared->Prop}{s:Shared}
theorem Jq{scope:Scope}{globals:Addr}{binds:List (Str × Value)}{qual:Str}{func:Option Addr}{code:Value}{builtins:Addr}{Q:Env->Shared->Prop}
  (hk:scope.kind=.function)
  (hkind:∀ x ∈ binds,scope.names.lookup x.1=some .local∨(scope.names.lookup x.1=some .cell∧((cellsFrom (s.heap.objs.size + 1) scope.names []).lookup x.1).isSome=true))
  (hQ:∀ env,env=newEnv scope s.heap.objs.size globals (cellsFrom (s.heap.objs.size + 1) scope.names []) qual func code none builtins->
   ∀ s',InCallC s env.locals (bindL env.kindOf binds fun _=>none) env.cells (bindC env.kindOf binds fun _=>none) s'->FrmAt s'.heap env.locals->Q env s'):
  wpAny M A (newFunctionEnv scope globals [] binds qual func code none builtins) Q E s:=by
 simp only [newFunctionEnv,Option.isSome_none,Bool.false_eq_true,if_false]
 refine wpAny_bind (wpAny_alloc ?_)
 refine wpAny_bind (wpAny_layCells _ (fun name kind cells=>by cases hkc:kind == NameKind.cell <;> simp [hkc]) _ _ _ _ ?_)
 have ok:=cellsFrom_ok scope.names (s.heap.push { cls:=.type "frame",data:=.dict #[] }) (s.heap.objs.size + 1) [] ⟨fun _ _ hm=>(nomatch hm),List.Pairwise.nil⟩ (by rw [Heap.size_push];exact Nat.le_refl _)
 rw [Heap.size_push] at ok;replace ok:=ok
 refine wG (show ({ s with heap:=s.heap.push { cls:=.type "frame",data:=.dict #[] } }:Shared).heap.objs.size=s.heap.objs.size + 1 from Heap.size_push ..) ?_
 refine wpAny_bind (Jc (s₀:=s) (env:=newEnv scope s.heap.objs.size globals (cellsFrom (s.heap.objs.size + 1) scope.names []) qual func code none builtins)
  _ (fun _ _ _=>rfl) hk binds (fun _=>none) (fun _=>none) _ _
  ⟨⟨⟨_,_,rfl⟩,(Heap.Ns.new s.heap (.type "frame")).keeps (pushCells_keeps _ _),fun b o e=>pushCells_keeps _ _ b o (Heap.get?_push_of_some _ e),Nat.le_refl _⟩,
   fun n c hc=>(ok.empty n c (mem_of_lookup hc)).1,ok.apart,fun n c hm=>(ok.empty n c hm).2⟩ ⟨_,pushCells_keeps _ _ _ _ (Heap.get?_push_size _ rfl),rfl,_,_,rfl⟩
  hkind fun s' x f=>wpAny_pure (hQ _ rfl s' x f))
end
section
variable {prog:Program}{w:World}{A:Around}{s:Shared}
theorem Jy{R:Result->Shared->Prop}{a:Addr}{o:Obj}{fd:FuncData}{body:List Stmt}{vals:List Value}{binds:List (Str × Value)}
  (hroom:A.depth < recursionLimit)(ho:s.heap.get? a=some o)(hdata:o.data=.func fd)(hlim:s.heap.NoLimit)(hcd:s.heap.CodeRec fd.code fd.qualname)
  (hbody:fd.body=.stmts body)(hbind:bindArgs fd ⟨vals,[]⟩=pure binds)(hclo:fd.closure=[])
  (hkind:∀ x ∈ binds,fd.scope.names.lookup x.1=some .local∨(fd.scope.names.lookup x.1=some .cell∧((cellsFrom (s.heap.objs.size + 1) fd.scope.names []).lookup x.1).isSome=true))
  (h:∀ s₁,InCallC s (callEnvC fd s.heap.objs.size a).locals (bindL (callEnvC fd s.heap.objs.size a).kindOf binds fun _=>none) (callEnvC fd s.heap.objs.size a).cells
    (bindC (callEnvC fd s.heap.objs.size a).kindOf binds fun _=>none) s₁->FrmAt s₁.heap s.heap.objs.size->
   wpAny (model prog w) (A.deeper (callEnvC fd s.heap.objs.size a)) (execs body (callEnvC fd s.heap.objs.size a)) (fun f s'=>R (.ok (.ret (match f with | .ret v=>v | _=>.none))) s')
    (fun e s'=>wpAny (model prog w) (A.deeper (callEnvC fd s.heap.objs.size a)) (leaving (callEnvC fd s.heap.objs.size a) e) (fun _ s''=>R (.error e) s'') (fun e' s''=>R (.error e') s'') s') s₁)
  (hco:fd.scope.isCoroutine=false:=by rfl) (hgen:fd.scope.isGenerator=false:=by rfl) (hk:fd.scope.kind=.function:=by rfl):
  codeAny (model prog w) A (.call (.ref a) ⟨vals,[]⟩) R s:=by
 refine codeAny_call_function hroom ho hdata hco hgen hbody hcd ?_
 refine wG hbind (wG hclo ?_)
 refine wpAny_pure (Jq hk hkind fun env he s' x f=>?_)
 subst he
 exact ⟨hlim.keeps x.toInCall.keep,codeAny_func (h s' x f)⟩
end
theorem Qk9{M:Model}{A:Around}{α:Type}{x:Sem α}{Q:α->Shared->Prop}{E:Value->Shared->Prop}{s:Shared}
  (h:∀ (Q':α->Shared->Prop) (E':Value->Shared->Prop),(∀ a s,Q a s->Q' a s)->(∀ v s,E v s->E' v s)->wpAny M A x Q' E' s):wpAny M A x Q E s:=
 h Q E (fun _ _=>id) fun _ _=>id
theorem Zf{M:Model}{A:Around}{α:Type}{x:Sem α}{Q:α->Shared->Prop}{E:Value->Shared->Prop}{s:Shared}
  (h:let Q':=Q;let E':=E;wpAny M A x Q' E' s):wpAny M A x Q E s:=h
theorem Qg{M:Model}{A:Around}{α β:Type}{m:Sem α}{f:α->Sem β}{Q:β->Shared->Prop}{E:Value->Shared->Prop}{s s2:Shared}{v:α}
  (h1:∀ K:α->Shared->Prop,K v s2->wpAny M A m K E s)(h2:wpAny M A (f v) Q E s2):wpAny M A (m >>= f) Q E s:=wpAny_bind (h1 _ h2)
theorem Ze{M:Model}{A:Around}{α β:Type}{m:Sem α}{f:α->Sem β}{Q:β->Shared->Prop}{E:Value->Shared->Prop}{s:Shared}(v:α)
  (h1:m=pure v)(h2:wpAny M A (f v) Q E s):wpAny M A (m >>= f) Q E s:=wpAny_bind (wpAny_of_eq h1 h2)
theorem Qcp{M:Model}{A:Around}{α β:Type}{v:α}{f:α->Sem β}{Q:β->Shared->Prop}{E:Value->Shared->Prop}{s:Shared}
  (h2:wpAny M A (f v) Q E s):wpAny M A (pure v >>= f) Q E s:=wpAny_bind (wpAny_pure h2)
theorem jpF{M:Model}{A:Around}{β:Type}{c:Prop}[Decidable c]{r:Sem PUnit}{k:PUnit->Sem β}{Q:β->Shared->Prop}{E:Value->Shared->Prop}{s:Shared}
  (hc:decide c=false)(h:wpAny M A (k PUnit.unit) Q E s):wpAny M A (if c then r >>= k else k PUnit.unit) Q E s:=wpAny_ite_false hc h
structure Amb where
 prog:Program
 w:World
 h₀:Heap
 mg:Str->Option Value
 mb:Str->Option Value
 K:Frag
 C:Addr
 hot:Prop
structure Ent where
 u:List Str
 r:List Int
 d:Option Int
 q:Option Int
inductive D where
 | data (d:PyData)
 | ent (e:Ent)
 | ents (l:List Ent)
 | raw (v:Value)
 | plain (l:List PyData)
noncomputable def Qdq(h:Heap)(a:Addr):Prop:=∃ ps:Array Value,h.get? a=some { cls:=.none,data:=.fields ps }
noncomputable def Tup(o:Obj):Prop:=o.cls=.type "tuple"∧∃ xs n,o.data=.seq xs n
noncomputable def Same(W:Addr->Prop)(b:Addr)(o o':Obj):Prop:=
 ¬ W b∨Tup o->o'.cls=o.cls∧o'.data=o.data∧(o.cls≠.type "frame"->o'=o)
structure Step (G:Amb) (W:Addr->Prop) (s s':Shared):Prop where
 form:∃ h' tk,s'={ s with heap:=h',toks:=tk }
 keep:∀ b o,s.heap.get? b=some o->∃ o',s'.heap.get? b=some o'∧Same W b o o'
 base:∀ b o,G.h₀.get? b=some o->s.heap.get? b=some o->s'.heap.get? b=some o
 frm:∀ b,FrmAt s.heap b->FrmAt s'.heap b
 tab:∀ b,Qdq s.heap b->Qdq s'.heap b
theorem Same.refl(W:Addr->Prop)(b:Addr)(o:Obj):Same W b o o:=fun _=>⟨rfl,rfl,fun _=>rfl⟩
theorem Same.trans{W:Addr->Prop}{b:Addr}{o o' o'':Obj}(x:Same W b o o')(y:Same W b o' o''):Same W b o o'':=fun hw=>by
 have a:=x hw
 have c:=y (hw.imp id fun z0=>Qx z0 fun e1 e2=>⟨a.1.trans e1,by refine wG a.2.1 ?_;exact e2⟩)
 refine Jw (c.1.trans a.1) (c.2.1.trans a.2.1) (fun hf=>?_)
 exact wG (c.2.2 (by rw [a.1];exact hf)) (wG (a.2.2 hf) rfl)
theorem Same.mono{W W':Addr->Prop}{b:Addr}{o o':Obj}(x:Same W b o o')(k:W b->W' b):Same W' b o o':=
 fun hw=>x (hw.imp (fun n q=>n (k q)) id)
namespace Step
variable {G:Amb}{W W':Addr->Prop}{s s' s'':Shared}
theorem refl:Step G W s s:=⟨⟨_,_,rfl⟩,fun b o e=>⟨o,e,Same.refl W b o⟩,fun _ _ _ e=>e,fun _ f=>f,fun _ f=>f⟩
theorem trans(x:Step G W s s')(y:Step G W s' s''):Step G W s s'':=by
 refine ob2_1 x.form ?_;rintro h1 t1 rfl
 refine ob2_1 y.form ?_;rintro h2 t2 rfl
 refine ⟨⟨_,_,rfl⟩,fun b o e=>?_,fun b o e0 e=>y.base b o e0 (x.base b o e0 e),fun b f=>y.frm b (x.frm b f),fun b f=>y.tab b (x.tab b f)⟩
 refine ob1_2 (x.keep b o e) fun o' e' a=>?_
 refine ob1_2 (y.keep b o' e') fun o'' e'' c=>?_
 exact in1_2 o'' e'' (a.trans c)
theorem mono(x:Step G W s s')(k:∀ b,W b->W' b):Step G W' s s':=
 ⟨x.form,fun b o e=>ob1_2 (x.keep b o e) fun o' e' a=>⟨o',e',a.mono (k b)⟩,x.base,x.frm,x.tab⟩
theorem of_heap{h':Heap}{tk:Nat}(k:∀ b o,s.heap.get? b=some o->h'.get? b=some o):Step G W s { s with heap:=h',toks:=tk }:=
 ⟨⟨_,_,rfl⟩,fun b o e=>⟨o,k b o e,Same.refl W b o⟩,fun b o _ e=>k b o e,fun b f=>f.keeps k,fun b z0=>ob1_1 z0 fun ps e=>⟨ps,k b _ e⟩⟩
theorem of_keeps(k:Keeps s s'):Step G W s s':=by
 refine ob2_2 k ?_;rintro h' tk rfl k
 exact of_heap k
theorem toks(s:Shared)(tk:Nat):Step G W s { s with toks:=tk }:=of_heap (s:=s) (h':=s.heap) fun _ _ e=>e
theorem push(s:Shared)(o:Obj):Step G W s { s with heap:=s.heap.push o }:=
 of_heap (s:=s) (tk:=s.toks) fun _ _ e=>Heap.get?_push_of_some _ e
theorem baseIn(x:Step G W s s')(b:G.h₀.StaysIn s.heap):G.h₀.StaysIn s'.heap:=fun a o e=>x.base a o e (b a o e)
theorem os(x:Step G W s s'):s'.os=s.os∧s'.gens=s.gens∧s'.drawn=s.drawn:=by
 refine ob2_1 x.form ?_;rintro h1 t1 rfl;exact Jw rfl rfl rfl
theorem exact(x:Step G W s s'){b:Addr}{o:Obj}(e:s.heap.get? b=some o)(hw:¬ W b∨Tup o)(hf:o.cls≠.type "frame"):s'.heap.get? b=some o:=by
 refine ob1_2 (x.keep b o e) fun o' e' a=>?_
 exact wG e' (wG ((a hw).2.2 hf) rfl)
end Step
noncomputable def Jm(W:Addr->Prop)(h h':Heap):Prop:=∀ b o,h.get? b=some o->(¬ W b∨Tup o)->o.cls≠.type "frame"->h'.get? b=some o
theorem Step.keepX{G:Amb}{V W:Addr->Prop}{s s':Shared}(x:Step G V s s')(k:∀ b,V b->W b):Jm W s.heap s'.heap:=
 fun b o e hw hf=>x.exact e (hw.imp (fun n q=>n (k b q)) id) hf
theorem Ql4{W:Addr->Prop}{h h':Heap}(k:Jm W h h'){v:Value}{d:PyData}{as:List Addr}(r:Reads h v d as):(∀ a ∈ as,¬ W a)->Reads h' v d as:=
 Reads.rec (motive_1:=fun v d as _=>(∀ a ∈ as,¬ W a)->Reads h' v d as) (motive_2:=fun v d as _=>(∀ a ∈ as,¬ W a)->ReadsAll h' v d as)
  (fun _=>.none) (fun b _=>.bool b) (fun i t _=>.int i t) (fun x t _=>.str x t)
  (fun e c q _ ih p=>.list (k _ _ e (.inl (p _ (.head _))) (by rw [c];decide)) c q (ih fun a ha=>p a (.tail _ ha)))
  (fun e c q _ ih p=>.tuple (k _ _ e (.inr ⟨c,_,_,q⟩) (by rw [c];decide)) c q (ih p))
  (fun e c q _ _ ih ih' p=>.dict (k _ _ e (.inl (p _ (.head _))) (by rw [c];decide)) c q (ih fun a ha=>p a (.tail _ (List.mem_append_left _ ha))) (ih' fun a ha=>p a (.tail _ (List.mem_append_right _ ha))))
  (fun _=>.nil) (fun _ _ ih ih' p=>.cons (ih fun a ha=>p a (List.mem_append_left _ ha)) (ih' fun a ha=>p a (List.mem_append_right _ ha))) r
theorem Qgs{W:Addr->Prop}{h h':Heap}(k:Jm W h h'){v:List Value}{d:List PyData}{as:List Addr}(r:ReadsAll h v d as):(∀ a ∈ as,¬ W a)->ReadsAll h' v d as:=
 ReadsAll.rec (motive_1:=fun v d as _=>(∀ a ∈ as,¬ W a)->Reads h' v d as) (motive_2:=fun v d as _=>(∀ a ∈ as,¬ W a)->ReadsAll h' v d as)
  (fun _=>.none) (fun b _=>.bool b) (fun i t _=>.int i t) (fun x t _=>.str x t)
  (fun e c q _ ih p=>.list (k _ _ e (.inl (p _ (.head _))) (by rw [c];decide)) c q (ih fun a ha=>p a (.tail _ ha)))
  (fun e c q _ ih p=>.tuple (k _ _ e (.inr ⟨c,_,_,q⟩) (by rw [c];decide)) c q (ih p))
  (fun e c q _ _ ih ih' p=>.dict (k _ _ e (.inl (p _ (.head _))) (by rw [c];decide)) c q (ih fun a ha=>p a (.tail _ (List.mem_append_left _ ha))) (ih' fun a ha=>p a (.tail _ (List.mem_append_right _ ha))))
  (fun _=>.nil) (fun _ _ ih ih' p=>.cons (ih fun a ha=>p a (List.mem_append_left _ ha)) (ih' fun a ha=>p a (List.mem_append_right _ ha))) r
noncomputable def RepD(h:Heap)(W:Addr->Prop)(v:Value)(d:PyData):Prop:=∃ as,Reads h v d as∧∀ a ∈ as,¬ W a
noncomputable def RepDs(h:Heap)(W:Addr->Prop)(vs:List Value)(ds:List PyData):Prop:=∃ as,ReadsAll h vs ds as∧∀ a ∈ as,¬ W a
theorem RepD.mono{W:Addr->Prop}{h h':Heap}{v:Value}{d:PyData}(x:RepD h W v d)(k:Jm W h h'):RepD h' W v d:=ob1_2 x fun as r p=>⟨as,Ql4 k r p,p⟩
theorem RepDs.mono{W:Addr->Prop}{h h':Heap}{vs:List Value}{ds:List PyData}(x:RepDs h W vs ds)(k:Jm W h h'):RepDs h' W vs ds:=ob1_2 x fun as r p=>⟨as,Qgs k r p,p⟩
theorem RepD.weak{W W':Addr->Prop}{h:Heap}{v:Value}{d:PyData}(x:RepD h W v d)(k:∀ a,W' a->W a):RepD h W' v d:=let ⟨as,r,p⟩:=x;⟨as,r,fun a ha q=>p a ha (k a q)⟩
theorem RepDs.weak{W W':Addr->Prop}{h:Heap}{vs:List Value}{ds:List PyData}(x:RepDs h W vs ds)(k:∀ a,W' a->W a):RepDs h W' vs ds:=let ⟨as,r,p⟩:=x;⟨as,r,fun a ha q=>p a ha (k a q)⟩
theorem RepDs.nil{W:Addr->Prop}{h:Heap}:RepDs h W [] []:=⟨[],.nil,fun _ h=>nomatch h⟩
theorem RepDs.cons{W:Addr->Prop}{h:Heap}{v:Value}{d:PyData}{vs:List Value}{ds:List PyData}(x:RepD h W v d)(y:RepDs h W vs ds):RepDs h W (v :: vs) (d :: ds):=
 let ⟨as,r,p⟩:=x;let ⟨bs,r',p'⟩:=y
 ⟨as ++ bs,.cons r r',fun a ha=>(List.mem_append.mp ha).elim (p a) (p' a)⟩
theorem RepDs.inv{W:Addr->Prop}{h:Heap}{vs:List Value}{d:PyData}{ds:List PyData}(x:RepDs h W vs (d :: ds)):∃ v vs',vs=v :: vs'∧RepD h W v d∧RepDs h W vs' ds:=by
 refine ob1_2 x fun as r p=>?_
 cases r with
 | cons r rs=>exact in2_3 _ _ rfl ⟨_,r,fun a ha=>p a (List.mem_append_left _ ha)⟩ ⟨_,rs,fun a ha=>p a (List.mem_append_right _ ha)⟩
theorem RepDs.inv_nil{W:Addr->Prop}{h:Heap}{vs:List Value}(x:RepDs h W vs []):vs=[]:=by
 refine ob1_2 x fun as r p=>?_
 cases r;rfl
theorem RepDs.snoc{W:Addr->Prop}{h:Heap}{v:Value}{d:PyData}:∀ {vs:List Value}{ds:List PyData},RepDs h W vs ds->RepD h W v d->RepDs h W (vs ++ [v]) (ds ++ [d])
 | vs,[],x,y=>by refine wG x.inv_nil ?_;exact .cons y .nil
 | vs,e :: ds,x,y=>by
  refine ob2_3 x.inv ?_;rintro v' vs' rfl a b
  exact .cons a (RepDs.snoc b y)
theorem RepDs.length{W:Addr->Prop}{h:Heap}:∀ {vs:List Value}{ds:List PyData},RepDs h W vs ds->vs.length=ds.length
 | vs,[],x=>by rw [x.inv_nil];rfl
 | vs,e :: ds,x=>by
  refine ob2_3 x.inv ?_;rintro v' vs' rfl a b
  simp [RepDs.length b]
theorem RepDs.get{W:Addr->Prop}{h:Heap}:∀ {vs:List Value}{ds:List PyData},RepDs h W vs ds->∀ {i:Nat}{v:Value},vs[i]?=some v->∃ d,ds[i]?=some d∧RepD h W v d
 | vs,[],x,i,v,e=>by rw [x.inv_nil] at e;simp at e
 | vs,d :: ds,x,i,v,e=>by
  refine ob2_3 x.inv ?_;rintro v' vs' rfl a b
  cases i with
  | zero=>simp at e;subst e;exact in1_2 d (by simp) a
  | succ i=>simpa using RepDs.get b (by simpa using e)
theorem RepD.list_iff{W:Addr->Prop}{h:Heap}{v:Value}{ds:List PyData}(x:RepD h W v (.list ds)):
  ∃ a vs,v=.ref a∧¬ W a∧h.IsList a (List.toArray vs)∧RepDs h W vs ds:=by
 refine ob1_2 x fun as r p=>?_
 cases r with
 | list e c q r=>exact in2_4 _ _ rfl (p _ (.head _)) ⟨_,e,c,_,by simpa using q⟩ ⟨_,r,fun a ha=>p a (.tail _ ha)⟩
theorem RepD.list{W:Addr->Prop}{h:Heap}{a:Addr}{vs:List Value}{ds:List PyData}(hw:¬ W a)(hl:h.IsList a (List.toArray vs))(x:RepDs h W vs ds):RepD h W (.ref a) (.list ds):=by
 refine ob1_3 hl ?_;rintro o e c ⟨n,q⟩
 refine ob1_2 x fun as r p=>?_
 exact ⟨a :: as,.list e c q (by simpa using r),fun b hb=>by
  rcases List.mem_cons.mp hb with rfl | hb
  ·exact hw
  ·exact p b hb⟩
theorem RepD.tuple_iff{W:Addr->Prop}{h:Heap}{v:Value}{ds:List PyData}(x:RepD h W v (.tuple ds)):
  ∃ a o vs n,v=.ref a∧h.get? a=some o∧o.cls=.type "tuple"∧o.data=.seq (List.toArray vs) n∧RepDs h W vs ds:=by
 refine ob1_2 x fun as r p=>?_
 cases r with
 | tuple e c q r=>exact in4_5 _ _ _ _ rfl e c (by simpa using q) ⟨_,r,p⟩
theorem RepD.tuple{W:Addr->Prop}{h:Heap}{a:Addr}{o:Obj}{vs:List Value}{n:Nat}{ds:List PyData}(e:h.get? a=some o)(c:o.cls=.type "tuple")(q:o.data=.seq (List.toArray vs) n)(x:RepDs h W vs ds):RepD h W (.ref a) (.tuple ds):=by
 refine ob1_2 x fun as r p=>?_
 exact in1_2 as (.tuple e c q (by simpa using r)) p
theorem RepD.none{W:Addr->Prop}{h:Heap}:RepD h W .none .none:=⟨[],.none,fun _ h=>nomatch h⟩
theorem RepD.bool{W:Addr->Prop}{h:Heap}(b:Bool):RepD h W (.bool b) (.bool b):=⟨[],.bool b,fun _ h=>nomatch h⟩
theorem RepD.int{W:Addr->Prop}{h:Heap}(i:Int)(t:Tok):RepD h W (.int i t) (.int i):=⟨[],.int i t,fun _ h=>nomatch h⟩
theorem RepD.str{W:Addr->Prop}{h:Heap}(x:Str)(t:Tok):RepD h W (.str x t) (.str x):=⟨[],.str x t,fun _ h=>nomatch h⟩
theorem RepD.none_inv{W:Addr->Prop}{h:Heap}{v:Value}(x:RepD h W v .none):v=.none:=by obtain ⟨_,r,_⟩:=x;cases r;rfl
theorem RepD.bool_inv{W:Addr->Prop}{h:Heap}{v:Value}{b:Bool}(x:RepD h W v (.bool b)):v=.bool b:=by obtain ⟨_,r,_⟩:=x;cases r;rfl
theorem RepD.int_inv{W:Addr->Prop}{h:Heap}{v:Value}{i:Int}(x:RepD h W v (.int i)):∃ t,v=.int i t:=by obtain ⟨_,r,_⟩:=x;cases r;exact ⟨_,rfl⟩
theorem RepD.str_inv{W:Addr->Prop}{h:Heap}{v:Value}{i:Str}(x:RepD h W v (.str i)):∃ t,v=.str i t:=by obtain ⟨_,r,_⟩:=x;cases r;exact ⟨_,rfl⟩
noncomputable def optD:Option Int->PyData
 | none=>.none
 | some i=>.int i
inductive EntAtC (C:Addr) (h:Heap) (W:Addr->Prop) (v:Value) (e:Ent):Prop
 | mk (x dx:Addr) (es:List DictEntry) (n:Nat) (vu vr vd vq:Value) (hv:v=.ref x) (a:¬ W x) (b:¬ W dx) (ex:h.get? x=some (instObj C dx)) (ed:h.get? dx=some (dictOf es n))
  (g1:getL "useragents" es=some (some vu)) (g2:getL "rulelines" es=some (some vr)) (g3:getL "delay" es=some (some vd)) (g4:getL "req_rate" es=some (some vq))
  (r1:RepD h W vu (.list (e.u.map .str))) (r2:RepD h W vr (.list (e.r.map .int))) (r3:RepD h W vd (optD e.d)) (r4:RepD h W vq (optD e.q)):EntAtC C h W v e
noncomputable abbrev EntAt(G:Amb)(h:Heap)(W:Addr->Prop)(v:Value)(e:Ent):Prop:=EntAtC G.C h W v e
theorem EntAt.mono{G:Amb}{W:Addr->Prop}{h h':Heap}{v:Value}{e:Ent}(x:EntAt G h W v e)(k:Jm W h h'):EntAt G h' W v e:=by
 obtain ⟨x,dx,es,n,vu,vr,vd,vq,rfl,a,b,ex,ed,g1,g2,g3,g4,r1,r2,r3,r4⟩:=x
 exact ⟨x,dx,es,n,vu,vr,vd,vq,rfl,a,b,k _ _ ex (.inl a) (by intro q;cases q),k _ _ ed (.inl b) (by show Value.type "dict"≠_;decide),g1,g2,g3,g4,r1.mono k,r2.mono k,r3.mono k,r4.mono k⟩
theorem EntAt.weak{G:Amb}{W W':Addr->Prop}{h:Heap}{v:Value}{e:Ent}(x:EntAt G h W v e)(k:∀ a,W' a->W a):EntAt G h W' v e:=by
 obtain ⟨x,dx,es,n,vu,vr,vd,vq,rfl,a,b,ex,ed,g1,g2,g3,g4,r1,r2,r3,r4⟩:=x
 exact ⟨x,dx,es,n,vu,vr,vd,vq,rfl,fun q=>a (k _ q),fun q=>b (k _ q),ex,ed,g1,g2,g3,g4,r1.weak k,r2.weak k,r3.weak k,r4.weak k⟩
noncomputable def EntsAt(G:Amb)(h:Heap)(W:Addr->Prop):List Value->List Ent->Prop
 | [],[]=>True
 | v :: vs,e :: es=>EntAt G h W v e∧EntsAt G h W vs es
 | _,_=>False
theorem EntsAt.mono{G:Amb}{W:Addr->Prop}{h h':Heap}(k:Jm W h h'):∀ {vs:List Value}{es:List Ent},EntsAt G h W vs es->EntsAt G h' W vs es
 | [],[],_=>trivial
 | _ :: _,_ :: _,x=>⟨x.1.mono k,EntsAt.mono k x.2⟩
 | [],_ :: _,x=>x.elim
 | _ :: _,[],x=>x.elim
theorem EntsAt.weak{G:Amb}{W W':Addr->Prop}{h:Heap}(k:∀ a,W' a->W a):∀ {vs:List Value}{es:List Ent},EntsAt G h W vs es->EntsAt G h W' vs es
 | [],[],_=>trivial
 | _ :: _,_ :: _,x=>⟨x.1.weak k,EntsAt.weak k x.2⟩
 | [],_ :: _,x=>x.elim
 | _ :: _,[],x=>x.elim
theorem EntsAt.length{G:Amb}{W:Addr->Prop}{h:Heap}:∀ {vs:List Value}{es:List Ent},EntsAt G h W vs es->vs.length=es.length
 | [],[],_=>rfl
 | _ :: _,_ :: _,x=>by simp [EntsAt.length x.2]
 | [],_ :: _,x=>x.elim
 | _ :: _,[],x=>x.elim
theorem EntsAt.snoc{G:Amb}{W:Addr->Prop}{h:Heap}{v:Value}{e:Ent}:∀ {vs:List Value}{es:List Ent},EntsAt G h W vs es->EntAt G h W v e->EntsAt G h W (vs ++ [v]) (es ++ [e])
 | [],[],_,y=>⟨y,trivial⟩
 | _ :: _,_ :: _,x,y=>⟨x.1,EntsAt.snoc x.2 y⟩
 | [],_ :: _,x,_=>x.elim
 | _ :: _,[],x,_=>x.elim
theorem EntsAt.get{G:Amb}{W:Addr->Prop}{h:Heap}:∀ {vs:List Value}{es:List Ent},EntsAt G h W vs es->∀ {i:Nat}{v:Value},vs[i]?=some v->∃ e,es[i]?=some e∧EntAt G h W v e
 | [],[],_,i,v,q=>by simp at q
 | _ :: _,e :: _,x,i,v,q=>by
  cases i with
  | zero=>simp at q;subst q;exact in1_2 e (by simp) x.1
  | succ i=>simpa using EntsAt.get x.2 (by simpa using q)
 | [],_ :: _,x,_,_,_=>x.elim
 | _ :: _,[],x,_,_,_=>x.elim
noncomputable def Rep(G:Amb)(h:Heap)(W:Addr->Prop)(v:Value):D->Prop
 | .data d=>RepD h W v d
 | .ent e=>EntAt G h W v e
 | .ents es=>∃ a vs,v=.ref a∧¬ W a∧h.IsList a (List.toArray vs)∧EntsAt G h W vs es
 | .raw u=>v=u
 | .plain l=>∃ a vs,v=.ref a∧¬ W a∧h.PlainList a (List.toArray vs)∧RepDs h W vs l
theorem Qfs{W:Addr->Prop}{h h':Heap}{a:Addr}{vs:Array Value}(x:h.PlainList a vs)(k:Jm W h h')(hw:¬ W a):h'.PlainList a vs:=
 ob1_1 x fun n e=>⟨n,k a _ e (.inl hw) (by show Value.type "list"≠_;decide)⟩
theorem Qs{W:Addr->Prop}{h h':Heap}{a:Addr}{vs:Array Value}(x:h.IsList a vs)(k:Jm W h h')(hw:¬ W a):h'.IsList a vs:=
 ob1_3 x fun o e c r=>⟨o,k a o e (.inl hw) (by rw [c];decide),c,r⟩
theorem Rep.mono{G:Amb}{W:Addr->Prop}{h h':Heap}{v:Value}(k:Jm W h h'){d:D}(x:Rep G h W v d):Rep G h' W v d:=by
 cases d with
 | data _=>exact RepD.mono x k
 | ent _=>exact EntAt.mono x k
 | ents _=>exact ob2_4 x fun a vs e hw hl r=>in2_4 a vs e hw (Qs hl k hw) (r.mono k)
 | raw _=>exact x
 | plain _=>exact ob2_4 x fun a vs e hw hl r=>in2_4 a vs e hw (Qfs hl k hw) (r.mono k)
theorem Rep.weak{G:Amb}{W W':Addr->Prop}{h:Heap}{v:Value}(k:∀ a,W' a->W a){d:D}(x:Rep G h W v d):Rep G h W' v d:=by
 cases d with
 | data _=>exact RepD.weak x k
 | ent _=>exact EntAt.weak x k
 | ents _=>exact ob2_4 x fun a vs e hw hl r=>in2_4 a vs e (fun q=>hw (k _ q)) hl (r.weak k)
 | raw _=>exact x
 | plain _=>exact ob2_4 x fun a vs e hw hl r=>in2_4 a vs e (fun q=>hw (k _ q)) hl (r.weak k)
noncomputable def RepL(G:Amb)(h:Heap)(W:Addr->Prop):List Value->List D->Prop
 | [],[]=>True
 | v :: vs,d :: ds=>Rep G h W v d∧RepL G h W vs ds
 | _,_=>False
theorem RepL.mono{G:Amb}{W:Addr->Prop}{h h':Heap}(k:Jm W h h'):∀ {vs:List Value}{ds:List D},RepL G h W vs ds->RepL G h' W vs ds
 | [],[],_=>trivial
 | _ :: _,_ :: _,x=>⟨x.1.mono k,RepL.mono k x.2⟩
 | [],_ :: _,x=>x.elim
 | _ :: _,[],x=>x.elim
theorem RepL.weak{G:Amb}{W W':Addr->Prop}{h:Heap}(k:∀ a,W' a->W a):∀ {vs:List Value}{ds:List D},RepL G h W vs ds->RepL G h W' vs ds
 | [],[],_=>trivial
 | _ :: _,_ :: _,x=>⟨x.1.weak k,RepL.weak k x.2⟩
 | [],_ :: _,x=>x.elim
 | _ :: _,[],x=>x.elim
noncomputable def Stk(G:Amb)(A:Around)(h:Heap):Prop:=
 ∃ envs,A.frames=some envs∧∀ env ∈ envs,env.scope.kind=.function∧∃ L,env.frame=some L∧FrmAt h L∧G.h₀.get? L=none
theorem Stk.step{G:Amb}{A:Around}{W:Addr->Prop}{s s':Shared}(x:Stk G A s.heap)(k:Step G W s s'):Stk G A s'.heap:=by
 refine ob1_2 x fun envs e p=>?_
 refine in1_2 envs e (fun env he=>?_)
 refine Qx (p env he) ?_;intro a z0;refine ob1_3 z0 fun L b c f=>?_
 exact ⟨a,L,b,k.frm L c,f⟩
class Qab (G:Amb):Prop where
 cold:¬ G.hot
structure Good (G:Amb) (n:Nat) (A:Around) (h:Heap):Prop where
 base:G.h₀.StaysIn h
 handled:G.hot∨A.handled=none
 depth:A.depth + n < 1000
 units:A.units + 20 * n < 9000
 stk:Stk G A h
theorem Good.cold{G:Amb}[c:Qab G]{n:Nat}{A:Around}{h:Heap}(g:Good G n A h):A.handled=none:=g.handled.resolve_left c.cold
theorem Good.step{G:Amb}{n:Nat}{A:Around}{W:Addr->Prop}{s s':Shared}(x:Good G n A s.heap)(k:Step G W s s'):Good G n A s'.heap:=
 ⟨k.baseIn x.base,x.handled,x.depth,x.units,x.stk.step k⟩
structure Excl (h:Heap) (V W:Addr->Prop):Prop where
 sub:∀ a,V a->W a
 live:∀ a,W a->∃ o,h.get? a=some o
theorem Excl.step{G:Amb}{V W U:Addr->Prop}{s s':Shared}(x:Excl s.heap V W)(k:Step G U s s'):Excl s'.heap V W:=
 ⟨x.sub,fun a ha=>let ⟨o,e⟩:=x.live a ha;ob1_2 (k.keep a o e) fun o' e' _=>⟨o',e'⟩⟩
theorem Excl.fresh{h:Heap}{V W:Addr->Prop}(x:Excl h V W){a:Addr}(e:h.get? a=none):¬ W a:=fun q=>by
 refine ob1_1 (x.live a q) fun o e'=>?_
 rw [e] at e';exact nSo e'
theorem Excl.new{h:Heap}{V W:Addr->Prop}(x:Excl h V W){a:Addr}(e:h.objs.size <= a):¬ W a:=x.fresh (Heap.get?_none_of_le e)
noncomputable def qD(d:D):Option PyData:=D.casesOn d some (fun _=>none) (fun _=>none) (fun _=>none) (fun _=>none)
theorem qD_inv{d:D}{x:PyData}:qD d=some x->d=.data x:=D.casesOn (motive:=fun d=>qD d=some x->d=.data x) d (fun _ h=>congrArg D.data (Option.some.inj h)) (fun _ h=>nSo h) (fun _ h=>nSo h) (fun _ h=>nSo h) (fun _ h=>nSo h)
noncomputable def qR(d:D):Option Value:=D.casesOn d (fun _=>none) (fun _=>none) (fun _=>none) some (fun _=>none)
theorem qR_inv{d:D}{x:Value}:qR d=some x->d=.raw x:=D.casesOn (motive:=fun d=>qR d=some x->d=.raw x) d (fun _ h=>nSo h) (fun _ h=>nSo h) (fun _ h=>nSo h) (fun _ h=>congrArg D.raw (Option.some.inj h)) (fun _ h=>nSo h)
noncomputable def qE(d:D):Option (List Ent):=D.casesOn d (fun _=>none) (fun _=>none) some (fun _=>none) (fun _=>none)
theorem qE_inv{d:D}{x:List Ent}:qE d=some x->d=.ents x:=D.casesOn (motive:=fun d=>qE d=some x->d=.ents x) d (fun _ h=>nSo h) (fun _ h=>nSo h) (fun _ h=>congrArg D.ents (Option.some.inj h)) (fun _ h=>nSo h) (fun _ h=>nSo h)
noncomputable def qEn(d:D):Option Ent:=D.casesOn d (fun _=>none) some (fun _=>none) (fun _=>none) (fun _=>none)
theorem qEn_inv{d:D}{x:Ent}:qEn d=some x->d=.ent x:=D.casesOn (motive:=fun d=>qEn d=some x->d=.ent x) d (fun _ h=>nSo h) (fun _ h=>congrArg D.ent (Option.some.inj h)) (fun _ h=>nSo h) (fun _ h=>nSo h) (fun _ h=>nSo h)
noncomputable def qP(d:D):Option (List PyData):=D.casesOn d (fun _=>none) (fun _=>none) (fun _=>none) (fun _=>none) some
theorem qP_inv{d:D}{x:List PyData}:qP d=some x->d=.plain x:=D.casesOn (motive:=fun d=>qP d=some x->d=.plain x) d (fun _ h=>nSo h) (fun _ h=>nSo h) (fun _ h=>nSo h) (fun _ h=>nSo h) (fun _ h=>congrArg D.plain (Option.some.inj h))
noncomputable def pI(d:PyData):Option Int:=PyData.casesOn d none (fun _=>none) some (fun _=>none) (fun _=>none) (fun _=>none) (fun _=>none)
theorem pI_inv{d:PyData}{x:Int}:pI d=some x->d=.int x:=PyData.casesOn (motive_1:=fun d=>pI d=some x->d=.int x) d (fun h=>nSo h) (fun _ h=>nSo h) (fun _ h=>congrArg PyData.int (Option.some.inj h)) (fun _ h=>nSo h) (fun _ h=>nSo h) (fun _ h=>nSo h) (fun _ h=>nSo h)
noncomputable def pL(d:PyData):Option (List PyData):=PyData.casesOn d none (fun _=>none) (fun _=>none) (fun _=>none) some (fun _=>none) (fun _=>none)
theorem Qh1{d:PyData}{x:List PyData}:pL d=some x->d=.list x:=PyData.casesOn (motive_1:=fun d=>pL d=some x->d=.list x) d (fun h=>nSo h) (fun _ h=>nSo h) (fun _ h=>nSo h) (fun _ h=>nSo h) (fun _ h=>congrArg PyData.list (Option.some.inj h)) (fun _ h=>nSo h) (fun _ h=>nSo h)
noncomputable def pT(d:PyData):Option (List PyData):=PyData.casesOn d none (fun _=>none) (fun _=>none) (fun _=>none) (fun _=>none) some (fun _=>none)
theorem pT_inv{d:PyData}{x:List PyData}:pT d=some x->d=.tuple x:=PyData.casesOn (motive_1:=fun d=>pT d=some x->d=.tuple x) d (fun h=>nSo h) (fun _ h=>nSo h) (fun _ h=>nSo h) (fun _ h=>nSo h) (fun _ h=>nSo h) (fun _ h=>congrArg PyData.tuple (Option.some.inj h)) (fun _ h=>nSo h)
noncomputable def pS(d:PyData):Option Str:=PyData.casesOn d none (fun _=>none) (fun _=>none) some (fun _=>none) (fun _=>none) (fun _=>none)
theorem pS_inv{d:PyData}{x:Str}:pS d=some x->d=.str x:=PyData.casesOn (motive_1:=fun d=>pS d=some x->d=.str x) d (fun h=>nSo h) (fun _ h=>nSo h) (fun _ h=>nSo h) (fun _ h=>congrArg PyData.str (Option.some.inj h)) (fun _ h=>nSo h) (fun _ h=>nSo h) (fun _ h=>nSo h)
noncomputable def pB(d:PyData):Option Bool:=PyData.casesOn d none some (fun _=>none) (fun _=>none) (fun _=>none) (fun _=>none) (fun _=>none)
theorem pB_inv{d:PyData}{x:Bool}:pB d=some x->d=.bool x:=PyData.casesOn (motive_1:=fun d=>pB d=some x->d=.bool x) d (fun h=>nSo h) (fun _ h=>congrArg PyData.bool (Option.some.inj h)) (fun _ h=>nSo h) (fun _ h=>nSo h) (fun _ h=>nSo h) (fun _ h=>nSo h) (fun _ h=>nSo h)
theorem bnd{α β γ:Type}{o:Option α}{f:α->Option β}{b:β}{g:α->γ}{d:γ}(i:∀ {x},o=some x->d=g x)(h:o.bind f=some b):∃ x,d=g x∧f x=some b:=
 ob1_2 (Option.bind_eq_some_iff.mp h) fun x e q=>⟨x,i e,q⟩
noncomputable def aI(d:D):Option Int:=(qD d).bind pI
noncomputable def aL(d:D):Option (List PyData):=(qD d).bind pL
noncomputable def aT(d:D):Option (List PyData):=(qD d).bind pT
noncomputable def aS(d:D):Option Str:=(qD d).bind pS
noncomputable def aB(d:D):Option Bool:=(qD d).bind pB
theorem Qby{α:Type}{p:PyData->Option α}{c:α->PyData}(i:∀ {d x},p d=some x->d=c x){d:D}{x:α}(h:(qD d).bind p=some x):d=.data (c x):=
 ob1_2 (Option.bind_eq_some_iff.mp h) fun y e q=>(qD_inv e).trans (congrArg D.data (i q))
section
variable {β:Type}{d:D}{b:β}
theorem ivD{f:PyData->Option β}:(qD d).bind f=some b->∃ x,d=.data x∧f x=some b:=bnd qD_inv
theorem ivR{f:Value->Option β}:(qR d).bind f=some b->∃ x,d=.raw x∧f x=some b:=bnd qR_inv
theorem ivE{f:List Ent->Option β}:(qE d).bind f=some b->∃ x,d=.ents x∧f x=some b:=bnd qE_inv
theorem iv1{f:Ent->Option β}:(qEn d).bind f=some b->∃ x,d=.ent x∧f x=some b:=bnd qEn_inv
theorem ivP{f:List PyData->Option β}:(qP d).bind f=some b->∃ x,d=.plain x∧f x=some b:=bnd qP_inv
theorem ivI{f:Int->Option β}:(aI d).bind f=some b->∃ x,d=.data (.int x)∧f x=some b:=bnd (Qby pI_inv)
theorem ivL{f:List PyData->Option β}:(aL d).bind f=some b->∃ x,d=.data (.list x)∧f x=some b:=bnd (Qby Qh1)
theorem ivT{f:List PyData->Option β}:(aT d).bind f=some b->∃ x,d=.data (.tuple x)∧f x=some b:=bnd (Qby pT_inv)
theorem ivS{f:Str->Option β}:(aS d).bind f=some b->∃ x,d=.data (.str x)∧f x=some b:=bnd (Qby pS_inv)
theorem ivB{f:Bool->Option β}:(aB d).bind f=some b->∃ x,d=.data (.bool x)∧f x=some b:=bnd (Qby pB_inv)
end
theorem ivI2{β:Type}{d e:D}{b:β}{f:Int->Int->Option β}(h:((aI d).bind fun x=>(aI e).bind fun y=>f x y)=some b):∃ x y,d=.data (.int x)∧e=.data (.int y)∧f x y=some b:=
 ob1_2 (ivI h) fun x p h=>ob1_2 (ivI h) fun y q h=>⟨x,y,p,q,h⟩
theorem ivL2{β:Type}{d e:D}{b:β}{f:List PyData->List PyData->Option β}(h:((aL d).bind fun x=>(aL e).bind fun y=>f x y)=some b):∃ x y,d=.data (.list x)∧e=.data (.list y)∧f x y=some b:=
 ob1_2 (ivL h) fun x p h=>ob1_2 (ivL h) fun y q h=>⟨x,y,p,q,h⟩
theorem orr{α:Type}{o p:Option α}{a:α}(h:o.or p=some a):o=some a∨p=some a:=(Option.or_eq_some_iff.mp h).imp_right (·.2)
theorem elS{α β γ:Type}{g:α->γ}{o:Option α}{n:Option β}{f:α->Option β}{b:β}{d:γ}(i:∀ {x},o=some x->d=g x)(h:o.elim n f=some b):(∃ x,d=g x∧f x=some b)∨n=some b:=by
 cases o with
 | none=>exact .inr h
 | some x=>exact .inl ⟨x,i rfl,h⟩
theorem elL{β:Type}{d:D}{b:β}{n:Option β}{f:List PyData->Option β}:(aL d).elim n f=some b->(∃ x,d=.data (.list x)∧f x=some b)∨n=some b:=elS (Qby Qh1)
theorem elT{β:Type}{d:D}{b:β}{n:Option β}{f:List PyData->Option β}:(aT d).elim n f=some b->(∃ x,d=.data (.tuple x)∧f x=some b)∨n=some b:=elS (Qby pT_inv)
theorem ifS{α:Type}{c:Prop}[Decidable c]{o:Option α}{a:α}(h:(if c then o else none)=some a):c∧o=some a:=by
 by_cases q:c
 ·rw [if_pos q] at h;exact ⟨q,h⟩
 ·rw [if_neg q] at h;exact nSo h
noncomputable def l1{α:Type}(l:List α):Option α:=List.casesOn l none fun x r=>List.casesOn r (some x) fun _ _=>none
noncomputable def l2{α:Type}(l:List α):Option (α × α):=List.casesOn l none fun x r=>(l1 r).map fun y=>(x,y)
theorem l1_inv{α:Type}{l:List α}{x:α}(h:l1 l=some x):l=[x]:=by
 cases l with
 | nil=>exact nSo h
 | cons y r=>cases r with
  | nil=>exact congrArg (fun y=>[y]) (Option.some.inj h)
  | cons _ _=>exact nSo h
theorem l2_inv{α:Type}{l:List α}{x:α × α}(h:l2 l=some x):l=[x.1,x.2]:=by
 cases l with
 | nil=>exact nSo h
 | cons y r=>
  refine ob1_2 (Option.map_eq_some_iff.mp h) fun z e q=>?_
  rw [← q,l1_inv e]
theorem iv_1{α β:Type}{l:List α}{b:β}{f:α->Option β}:(l1 l).bind f=some b->∃ x,l=[x]∧f x=some b:=bnd l1_inv
theorem iv_2{α β:Type}{l:List α}{b:β}{f:α × α->Option β}(h:(l2 l).bind f=some b):∃ x y,l=[x,y]∧f (x,y)=some b:=ob1_2 (bnd l2_inv h) fun x e q=>⟨x.1,x.2,e,q⟩
noncomputable abbrev Qi:=List (Str × NameKind)
structure Qv (G:Amb):Prop where
 g:G.h₀.Ns mainGlobals G.mg
 b:G.h₀.Ns builtinsNs G.mb
 builtins:∀ x:Str,x≠"__name__"->G.mb x=bootBuiltins x
 nolimit:G.h₀.NoLimit
 kIn:G.K.In G.h₀
 entGet:findIn G.K (.ref G.C) "__getattribute__"=some (some (.builtin "object.__getattribute__"))
 entHas:hasDictIn G.K G.C=true
 entAttr:∀ a ∈ (["useragents","rulelines","delay","req_rate"]:List Str),findIn G.K (.ref G.C) a=some none
inductive SLoc (h:Heap) (env:Env) (x:Str) (v:Value):Prop
 | mk (k:env.kindOf x=some .local) (m:Str->Option Value) (hn:h.Ns env.locals m) (hm:m x=some v):SLoc h env x v
inductive SCel (h:Heap) (env:Env) (x:Str) (v:Value):Prop
 | mk (k:env.kindOf x=some .cell∨env.kindOf x=some .free) (nd:(x == ("__classdict__":Str))=false) (c:Addr) (hc:env.cells.lookup x=some c) (hv:h.IsCell c (some v)):SCel h env x v
noncomputable def Sees(h:Heap)(env:Env)(x:Str)(v:Value):Prop:=SLoc h env x v∨SCel h env x v
noncomputable def dot0:Str:=".0"
noncomputable def Vis(ks:Qi)(x:Str):Bool:=if x == dot0 then false else match ks.lookup x with
 | some .local=>true
 | some .cell=>true
 | some .free=>true
 | _=>false
theorem Qkj{ks:Qi}{x:Str}(h:Vis ks x=true):ks.lookup x=some .local∨ks.lookup x=some .cell∨ks.lookup x=some .free:=by
 unfold Vis at h
 split at h
 ·exact fT h
 ·cases hk:ks.lookup x with
  | none=>rw [hk] at h;exact fT h
  | some k=>rw [hk] at h;cases k <;> simp at h ⊢
theorem Qgi{ks:Qi}{x:Str}(h:Vis ks x=true):x≠dot0:=by
 unfold Vis at h
 split at h
 ·exact fT h
 ·rename_i q;simpa using q
structure EnvOk (G:Amb) (V:Addr->Prop) (ks:Qi) (env:Env):Prop where
 kind:env.scope.kind=.function
 names:env.scope.names=ks
 globals:env.globals=mainGlobals
 builtins:env.builtins=builtinsNs
 cells:∀ y,ks.lookup y=some .cell∨ks.lookup y=some .free->∃ c,env.cells.lookup y=some c
 apart:¬ V env.locals∧∀ y c,env.cells.lookup y=some c->¬ V c
 inj:∀ y y' c,env.cells.lookup y=some c->env.cells.lookup y'=some c->y=y'
noncomputable abbrev Qf:=Str->Option D
noncomputable def FrameRep(G:Amb)(h:Heap)(W:Addr->Prop)(env:Env)(ks:Qi)(ρ:Qf):Prop:=
 ∀ x d,Vis ks x=true->ρ x=some d->∃ v,Sees h env x v∧Rep G h W v d
structure Cx (G:Amb) (n:Nat) (V:Addr->Prop) (ks:Qi) (A:Around) (env:Env) (s:Shared) (W:Addr->Prop) (ρ:Qf):Prop where
 good:Good G n A s.heap
 ok:EnvOk G V ks env
 excl:Excl s.heap V W
 vars:FrameRep G s.heap W env ks ρ
 ns:∃ m,s.heap.Ns env.locals m
 cellsAt:∀ y c,env.cells.lookup y=some c->∃ v,s.heap.IsCell c v
theorem Qb4{G:Amb}{V:Addr->Prop}{s s':Shared}(k:Step G V s s'){L:Addr}{m:Str->Option Value}(hn:s.heap.Ns L m)(hv:¬ V L):s'.heap.Ns L m:=by
 refine ob3_4 hn fun o es ep e d a c=>?_
 refine ob1_2 (k.keep L o e) fun o' e' sm=>?_
 exact in3_4 o' es ep e' ((sm (.inl hv)).2.1.trans d) a c
theorem Qao{G:Amb}{V:Addr->Prop}{s s':Shared}(k:Step G V s s'){c:Addr}{v:Option Value}(hn:s.heap.IsCell c v)(hv:¬ V c):s'.heap.IsCell c v:=by
 refine ob1_2 hn fun o e d=>?_
 refine ob1_2 (k.keep c o e) fun o' e' sm=>?_
 exact in1_2 o' e' ((sm (.inl hv)).2.1.trans d)
theorem Sees.step{G:Amb}{V:Addr->Prop}{ks:Qi}{env:Env}{s s':Shared}{x:Str}{v:Value}(y:Sees s.heap env x v)(k:Step G V s s')(he:EnvOk G V ks env):Sees s'.heap env x v:=by
 rcases y with ⟨a,m,hn,hm⟩ | ⟨a,nd,c,hc,hv⟩
 ·exact .inl ⟨a,m,Qb4 k hn he.apart.1,hm⟩
 ·exact .inr ⟨a,nd,c,hc,Qao k hv (he.apart.2 _ _ hc)⟩
theorem FrameRep.step{G:Amb}{V W:Addr->Prop}{ks:Qi}{env:Env}{s s':Shared}{ρ:Qf}(y:FrameRep G s.heap W env ks ρ)(k:Step G V s s')(he:EnvOk G V ks env)(hx:Excl s.heap V W):FrameRep G s'.heap W env ks ρ:=fun x d hv hd=>by
 refine ob1_2 (y x d hv hd) fun v a b=>?_
 exact in1_2 v (a.step k he) (b.mono (k.keepX hx.sub))
theorem Cx.step{G:Amb}{n:Nat}{V:Addr->Prop}{ks:Qi}{A:Around}{env:Env}{s s':Shared}{W:Addr->Prop}{ρ:Qf}(c:Cx G n V ks A env s W ρ)(k:Step G V s s'):Cx G n V ks A env s' W ρ:=
 ⟨c.good.step k,c.ok,c.excl.step k,c.vars.step k c.ok c.excl,ob1_1 c.ns fun m e=>⟨m,Qb4 k e c.ok.apart.1⟩,fun y a e=>ob1_1 (c.cellsAt y a e) fun v q=>⟨v,Qao k q (c.ok.apart.2 y a e)⟩⟩
theorem Cx.mono{G:Amb}{n:Nat}{V:Addr->Prop}{ks:Qi}{A:Around}{env:Env}{s s':Shared}{W:Addr->Prop}{ρ:Qf}(c:Cx G n V ks A env s W ρ)(k:Step G V s s'){v:Value}{d:D}(r:Rep G s.heap W v d):Rep G s'.heap W v d:=
 r.mono (k.keepX c.excl.sub)
noncomputable def Zo(G:Amb)(n:Nat)(V:Addr->Prop)(ks:Qi)(e:Expr)(f:Qf->Option D):Prop:=
 ∀ (A:Around) (env:Env) (s:Shared) (W:Addr->Prop) (ρ:Qf) (d:D) (Q:Value->Shared->Prop) (E:Value->Shared->Prop),
  Cx G n V ks A env s W ρ->f ρ=some d->(∀ v s',Step G V s s'->Rep G s'.heap W v d->Q v s')->wpAny (model G.prog G.w) A (eval e env) Q E s
noncomputable def Qap(G:Amb)(n:Nat)(V:Addr->Prop)(ks:Qi)(e:Expr)(f:Qf->Option Bool):Prop:=
 ∀ (A:Around) (env:Env) (s:Shared) (W:Addr->Prop) (ρ:Qf) (b:Bool) (Q:Bool->Shared->Prop) (E:Value->Shared->Prop),
  Cx G n V ks A env s W ρ->f ρ=some b->(∀ s',Step G V s s'->Q b s')->wpAny (model G.prog G.w) A (isTrue e env (eval e env)) Q E s
noncomputable def Qe7(G:Amb)(n:Nat)(V:Addr->Prop)(t:Value->Value->Sem Value)(g:D->D->Option D):Prop:=
 ∀ (A:Around) (s:Shared) (W:Addr->Prop) (v u:Value) (a b d:D) (Q:Value->Shared->Prop) (E:Value->Shared->Prop),
  Good G n A s.heap->Excl s.heap V W->Rep G s.heap W v a->Rep G s.heap W u b->g a b=some d->(∀ x s',Step G V s s'->Rep G s'.heap W x d->Q x s')->wpAny (model G.prog G.w) A (t v u) Q E s
noncomputable def UnOk(G:Amb)(n:Nat)(V:Addr->Prop)(t:Value->Sem Value)(g:D->Option D):Prop:=
 ∀ (A:Around) (s:Shared) (W:Addr->Prop) (v:Value) (a d:D) (Q:Value->Shared->Prop) (E:Value->Shared->Prop),
  Good G n A s.heap->Excl s.heap V W->Rep G s.heap W v a->g a=some d->(∀ x s',Step G V s s'->Rep G s'.heap W x d->Q x s')->wpAny (model G.prog G.w) A (t v) Q E s
noncomputable def Qhj(G:Amb)(n:Nat)(g:D->Option Bool):Prop:=
 ∀ (A:Around) (s:Shared) (W:Addr->Prop) (v:Value) (a:D) (b:Bool) (Q:Bool->Shared->Prop) (E:Value->Shared->Prop),
  Good G n A s.heap->Rep G s.heap W v a->g a=some b->Q b s->wpAny (model G.prog G.w) A (truthy v) Q E s
section
variable {G:Amb}{n:Nat}{V:Addr->Prop}{ks:Qi}
theorem Qj(i:Int)(k:Nat)(pos:Pos):Zo G n V ks (.Constant (.int i) k pos) (fun _=>some (.data (.int i))):=by
 intro A env s W ρ d Q E c hf h
 obtain rfl:=Qo hf
 exact wpAny_Constant_int (h _ _ (.toks s _) (RepD.int i _))
theorem Qbv(x:Str)(k:Nat)(pos:Pos):Zo G n V ks (.Constant (.str x) k pos) (fun _=>some (.data (.str x))):=by
 intro A env s W ρ d Q E c hf h
 obtain rfl:=Qo hf
 exact wpAny_Constant_str (h _ _ (.toks s _) (RepD.str x _))
theorem Qaj(k:Nat)(pos:Pos):Zo G n V ks (.Constant .none k pos) (fun _=>some (.data .none)):=by
 intro A env s W ρ d Q E c hf h
 obtain rfl:=Qo hf
 exact wpAny_Constant_none (h _ _ .refl RepD.none)
theorem Qb9(b:Bool)(k:Nat)(pos:Pos):Zo G n V ks (.Constant (.bool b) k pos) (fun _=>some (.data (.bool b))):=by
 intro A env s W ρ d Q E c hf h
 obtain rfl:=Qo hf
 exact wpAny_Constant_bool (h _ _ .refl (RepD.bool b))
theorem vis_of{ks:Qi}{x:Str}{k:NameKind}(e:ks.lookup x=some k)(hk:k=.local∨k=.cell∨k=.free)(hd:x≠dot0):Vis ks x=true:=by
 unfold Vis;refine wG (if_neg (by simpa using hd)) (wG e ?_);rcases hk with rfl | rfl | rfl <;> rfl
theorem wp_sees{A:Around}{env:Env}{s:Shared}{x:Str}{v:Value}{Q:Value->Shared->Prop}{E:Value->Shared->Prop}{M:Model}(he:EnvOk G V ks env)(y:Sees s.heap env x v)(h:Q v s):wpAny M A (loadName env x) Q E s:=by
 rcases y with ⟨a,m,hn,hm⟩ | ⟨a | a,nd,c,hc,hv⟩
 ·exact wpAny_loadName_local he.kind a hn hm h
 ·exact wpAny_loadName_cell he.kind a hc hv h
 ·exact wpAny_loadName_free he.kind a hc hv h nd
theorem Qb(x:Str)(pos:Pos)(hv:Vis ks x=true)(hd:(x == ("__debug__":Str))=false):Zo G n V ks (.Name x pos) (fun ρ=>ρ x):=by
 intro A env s W ρ d Q E c hf h
 refine ob1_2 (c.vars x d hv hf) fun v a b=>?_
 exact wpAny_Name (wp_sees c.ok a (h v s .refl b)) hd
theorem Zc{op:Operator}{l r:Expr}{pos:Pos}{f g:Qf->Option D}{o:D->D->Option D}(ho:Qe7 G n V (binaryOp op) o)(hl:Zo G n V ks l f)(hr:Zo G n V ks r g):
  Zo G n V ks (.BinOp l op r pos) (fun ρ=>(f ρ).bind fun a=>(g ρ).bind fun b=>o a b):=by
 intro A env s W ρ d Q E c hf h
 simp only [Option.bind_eq_some_iff] at hf
 refine ob1_2 hf ?_;intro a ha z0;refine ob1_2 z0 fun b hb hd=>?_
 refine wpAny_BinOp (hl A env s W ρ a _ E c ha fun v s₁ k1 r₁=>hr A env s₁ W ρ b _ E (c.step k1) hb fun u s2 k2 r₂=>?_)
 have c₂:=(c.step k1).step k2
 exact ho A s2 W v u a b d Q E c₂.good c₂.excl ((c.step k1).mono k2 r₁) r₂ hd fun x s3 k3 r₃=>h x s3 ((k1.trans k2).trans k3) r₃
theorem ev_cmp{op:CmpOp}{l r:Expr}{pos:Pos}{f g:Qf->Option D}{o:D->D->Option D}(ho:Qe7 G n V (compareOp op) o)(hl:Zo G n V ks l f)(hr:Zo G n V ks r g)(hm:behindInMarks op r=false):
  Zo G n V ks (.Compare l [op] [r] pos) (fun ρ=>(f ρ).bind fun a=>(g ρ).bind fun b=>o a b):=by
 intro A env s W ρ d Q E c hf h
 simp only [Option.bind_eq_some_iff] at hf
 refine ob1_2 hf ?_;intro a ha z0;refine ob1_2 z0 fun b hb hd=>?_
 refine wpAny_Compare1 (hl A env s W ρ a _ E c ha fun v s₁ k1 r₁=>hr A env s₁ W ρ b _ E (c.step k1) hb fun u s2 k2 r₂=>?_) hm
 have c₂:=(c.step k1).step k2
 exact ho A s2 W v u a b d Q E c₂.good c₂.excl ((c.step k1).mono k2 r₁) r₂ hd fun x s3 k3 r₃=>h x s3 ((k1.trans k2).trans k3) r₃
theorem ev_un{op:UnaryOp}{x:Expr}{pos:Pos}{f:Qf->Option D}{o:D->Option D}(ho:UnOk G n V (unaryOp op) o)(hx:Zo G n V ks x f):
  Zo G n V ks (.UnaryOp op x pos) (fun ρ=>(f ρ).bind o):=by
 intro A env s W ρ d Q E c hf h
 simp only [Option.bind_eq_some_iff] at hf
 refine ob1_2 hf fun a ha hd=>?_
 refine wpAny_UnaryOp (hx A env s W ρ a _ E c ha fun v s₁ k1 r₁=>?_)
 have c1:=c.step k1
 exact ho A s₁ W v a d Q E c1.good c1.excl r₁ hd fun x s2 k2 r₂=>h x s2 (k1.trans k2) r₂
theorem Qmm{t b o:Expr}{pos:Pos}{ft:Qf->Option Bool}{fb fo:Qf->Option D}(ht:Qap G n V ks t ft)(hb:Zo G n V ks b fb)(ho:Zo G n V ks o fo):
  Zo G n V ks (.IfExp t b o pos) (fun ρ=>(ft ρ).bind fun c=>if c then fb ρ else fo ρ):=by
 intro A env s W ρ d Q E c hf h
 simp only [Option.bind_eq_some_iff] at hf
 refine ob1_2 hf fun q hq hd=>?_
 refine wpAny_IfExp (ht A env s W ρ q _ E c hq fun s₁ k1=>?_)
 cases q with
 | true=>exact hb A env s₁ W ρ d Q E (c.step k1) hd fun v s2 k2 r₂=>h v s2 (k1.trans k2) r₂
 | false=>exact ho A env s₁ W ρ d Q E (c.step k1) hd fun v s2 k2 r₂=>h v s2 (k1.trans k2) r₂
theorem ev_and{x y:Expr}{pos:Pos}{f g:Qf->Option D}{tr:D->Option Bool}(ht:Qhj G n tr)(hx:Zo G n V ks x f)(hy:Zo G n V ks y g):
  Zo G n V ks (.BoolOp .And [x,y] pos) (fun ρ=>(f ρ).bind fun a=>(tr a).bind fun c=>if c then g ρ else some a):=by
 intro A env s W ρ d Q E c hf h
 simp only [Option.bind_eq_some_iff] at hf
 obtain ⟨a,ha,q,hq,hd⟩:=hf
 refine wpAny_And2 (hx A env s W ρ a _ E c ha fun v s₁ k1 r₁=>ht A s₁ W v a q _ E (c.step k1).good r₁ hq ?_)
 cases q with
 | true=>exact hy A env s₁ W ρ d Q E (c.step k1) hd fun v s2 k2 r₂=>h v s2 (k1.trans k2) r₂
 | false=>simp at hd;subst hd;exact h v s₁ k1 r₁
theorem Ql{op:CmpOp}{l r:Expr}{pos:Pos}{f g:Qf->Option D}{o:D->D->Option D}{tr:D->Option Bool}(ho:Qe7 G n V (compareOp op) o)(ht:Qhj G n tr)(hl:Zo G n V ks l f)(hr:Zo G n V ks r g)(hm:behindInMarks op r=false):
  Qap G n V ks (.Compare l [op] [r] pos) (fun ρ=>(f ρ).bind fun a=>(g ρ).bind fun b=>(o a b).bind tr):=by
 intro A env s W ρ q Q E c hf h
 simp only [Option.bind_eq_some_iff] at hf
 refine ob1_2 hf ?_;intro a ha z0;refine ob1_2 z0 ?_;rintro b hb ⟨d,hd,hq⟩
 refine wpAny_isTrue_Compare1 (hl A env s W ρ a _ E c ha fun v s₁ k1 r₁=>hr A env s₁ W ρ b _ E (c.step k1) hb fun u s2 k2 r₂=>?_) hm
 have c₂:=(c.step k1).step k2
 exact ho A s2 W v u a b d _ E c₂.good c₂.excl ((c.step k1).mono k2 r₁) r₂ hd fun x s3 k3 r₃=>ht A s3 W x d q Q E (c₂.step k3).good r₃ hq (h s3 ((k1.trans k2).trans k3))
theorem test_not{x:Expr}{pos:Pos}{f:Qf->Option Bool}(hx:Qap G n V ks x f):Qap G n V ks (.UnaryOp .Not x pos) (fun ρ=>(f ρ).map (!·)):=by
 intro A env s W ρ q Q E c hf h
 simp only [Option.map_eq_some_iff] at hf
 obtain ⟨a,ha,rfl⟩:=hf
 exact wpAny_isTrue_Not (hx A env s W ρ a _ E c ha h)
theorem test_or{x y:Expr}{pos:Pos}{f g:Qf->Option Bool}(hx:Qap G n V ks x f)(hy:Qap G n V ks y g):Qap G n V ks (.BoolOp .Or [x,y] pos) (fun ρ=>(f ρ).bind fun a=>if a then some true else g ρ):=by
 intro A env s W ρ q Q E c hf h
 simp only [Option.bind_eq_some_iff] at hf
 obtain ⟨a,ha,hb⟩:=hf
 refine wpAny_isTrue_BoolOp (wpAny_allTrue_Or_cons (hx A env s W ρ a _ E c ha fun s₁ k1=>?_))
 cases a with
 | true=>simp at hb;subst hb;exact h s₁ k1
 | false=>
  refine wpAny_allTrue_Or_cons (hy A env s₁ W ρ q _ E (c.step k1) hb fun s2 k2=>?_)
  cases q with
  | true=>exact h s2 (k1.trans k2)
  | false=>exact wpAny_allTrue_Or_nil (h s2 (k1.trans k2))
theorem test_and{x y:Expr}{pos:Pos}{f g:Qf->Option Bool}(hx:Qap G n V ks x f)(hy:Qap G n V ks y g):Qap G n V ks (.BoolOp .And [x,y] pos) (fun ρ=>(f ρ).bind fun a=>if a then g ρ else some false):=by
 intro A env s W ρ q Q E c hf h
 simp only [Option.bind_eq_some_iff] at hf
 obtain ⟨a,ha,hb⟩:=hf
 refine wpAny_isTrue_BoolOp (wpAny_allTrue_And_cons (hx A env s W ρ a _ E c ha fun s₁ k1=>?_))
 cases a with
 | false=>simp at hb;subst hb;exact h s₁ k1
 | true=>
  refine wpAny_allTrue_And_cons (hy A env s₁ W ρ q _ E (c.step k1) hb fun s2 k2=>?_)
  cases q with
  | false=>exact h s2 (k1.trans k2)
  | true=>exact wpAny_allTrue_And_nil (h s2 (k1.trans k2))
theorem test_val{e:Expr}{f:Qf->Option D}{tr:D->Option Bool}(ht:Qhj G n tr)(hx:Zo G n V ks e f)
  (he:∀ env whole,isTrue e env whole=(do let v ← whole;standAt e.pos;holding [v] (truthy v))):Qap G n V ks e (fun ρ=>(f ρ).bind tr):=by
 intro A env s W ρ q Q E c hf h
 simp only [Option.bind_eq_some_iff] at hf
 refine ob1_2 hf fun a ha hq=>?_
 exact wpAny_isTrue_value (hx A env s W ρ a _ E c ha fun v s₁ k1 r₁=>ht A s₁ W v a q _ E (c.step k1).good r₁ hq (h s₁ k1)) (he _ _)
noncomputable def trD(d:D):Option Bool:=D.casesOn d (fun x=>PyData.casesOn x (some false) some (fun i=>some (i != 0)) (fun _=>none) (fun _=>none) (fun _=>none) (fun _=>none)) (fun _=>none) (fun _=>none) (fun _=>none) (fun _=>none)
theorem Jz(b:Bool):trD (.data (.bool b))=some b:=rfl
theorem Qq:Qhj G n trD:=by
 intro A s W v a b Q E g r hb hq
 cases a with
 | data d=>
  cases d with
  | bool c=>obtain rfl:=Qo hb;rw [RepD.bool_inv r];exact wpAny_truthy_bool hq
  | int i=>obtain rfl:=Qo hb;refine ob1_1 (RepD.int_inv r) ?_;rintro t rfl;exact truthy_int hq
  | none=>obtain rfl:=Qo hb;rw [RepD.none_inv r];exact wpAny_pure hq
  | _=>exact nSo hb
 | _=>exact nSo hb
noncomputable def Qc4(G:Amb)(n:Nat)(V:Addr->Prop)(ks:Qi)(es:List Expr)(f:Qf->Option (List D)):Prop:=
 (∀ env,∀ p ∈ starEach es env,p.1=false)∧∀ (A:Around) (env:Env) (s:Shared) (W:Addr->Prop) (ρ:Qf) (ds:List D) (pos:Pos) (Q:List Value->Shared->Prop) (E:Value->Shared->Prop),
  Cx G n V ks A env s W ρ->f ρ=some ds->(∀ vs s',Step G V s s'->RepL G s'.heap W vs ds->Q vs s')->wpAny (model G.prog G.w) A (spliced (backTo pos (starEach es env))) Q E s
theorem evs_nil:Qc4 G n V ks [] (fun _=>some []):=
 ⟨fun _ _ hp=>(nomatch hp),fun A env s W ρ ds pos Q E _ hf h=>by obtain rfl:=Qo hf;exact spliced_none (h [] s .refl trivial)⟩
theorem Qc{e:Expr}{es:List Expr}{f:Qf->Option D}{g:Qf->Option (List D)}(he:∀ env,starEach (e :: es) env=(false,eval e env) :: starEach es env)(hx:Zo G n V ks e f)(hy:Qc4 G n V ks es g):
  Qc4 G n V ks (e :: es) (fun ρ=>(f ρ).bind fun a=>(g ρ).map (a :: ·)):=by
 refine ⟨fun env p hp=>?_,fun A env s W ρ ds pos Q E c hf h=>?_⟩
 ·rw [he] at hp;replace hp:=hp
  rcases List.mem_cons.mp hp with rfl | hp
  ·rfl
  ·exact hy.1 env p hp
 ·simp only [Option.bind_eq_some_iff,Option.map_eq_some_iff] at hf
  obtain ⟨a,ha,as,has,rfl⟩:=hf
  refine spliced_more (hx A env s W ρ a _ E c ha fun v s₁ k1 r₁=>hy.2 A env s₁ W ρ as pos _ E (c.step k1) has fun vs s2 k2 r₂=>?_) (he env)
  exact h _ s2 (k1.trans k2) ⟨(c.step k1).mono k2 r₁,r₂⟩
theorem Xn{pos:Pos}:∀ {l:List (Bool × Sem Value)},(∀ p ∈ l,p.1=false)->(backTo pos l).any (·.1)=false
 | [],_=>rfl
 | p :: l,h=>by
  show (p.1 || (backTo pos l).any (·.1))=false
  refine wG (h p (.head _)) (wG (Xn fun q hq=>h q (.tail _ hq)) ?_);rfl
theorem Zm{M:Model}{A:Around}{E:Value->Shared->Prop}{s:Shared}{f:Value}{Q:Args->Shared->Prop}:∀ {l:List (Bool × Sem Value)},l.any (·.1)=false->
  wpAny M A (spliced l) (fun vs s'=>Q ⟨vs,[]⟩ s') E s->wpAny M A (evalArgs f true l []) Q E s
 | [],_,h=>by
  unfold evalArgs
  show wpAny M A (spliced [] >>= _) Q E s
  refine wpAny_bind (wpAny_mono h (fun vs s' h'=>wpAny_bind (wpAny_pure ?_)) fun _ _ x=>x)
  refine wpAny_holding ?_
  exact wpAny_bind (wpAny_pure (wpAny_bind (wpAny_pure (wpAny_pure h'))))
 | (true,x) :: l,hl,_=>by simp at hl
 | (false,x) :: l,_,h=>Calls.evalArgs_plain h
end
noncomputable def upd(ρ:Qf)(x:Str)(d:D):Qf:=fun y=>if y=x then some d else ρ y
theorem Qd(ρ:Qf)(x:Str)(d:D):upd ρ x d x=some d:=by simp [upd]
theorem Zb(ρ:Qf){x y:Str}(d:D)(h:y≠x):upd ρ x d y=ρ y:=by simp [upd,h]
theorem Qh6{h:Heap}{L:Addr}{m m':Str->Option Value}(x:h.Ns L m)(y:h.Ns L m'):m=m':=by
 refine ob3_4 x fun o es ep e d _ c=>?_
 refine ob3_4 y fun o' es' ep' e' d' _ c'=>?_
 rw [e] at e';obtain rfl:=Qo e'
 replace d':=d ▸ d';cases d'
 funext z
 exact wS (c z) (wS (c' z) rfl)
structure Qki (ks:Qi) (env:Env) (O:Addr->Prop) (x:Str):Prop where
 loc:O env.locals
 kind:ks.lookup x=some .local∨(ks.lookup x=some .cell∧∀ c,env.cells.lookup x=some c->O c)
 noCd:(x == ("__classdict__":Str))=false
theorem Qn{G:Amb}{O:Addr->Prop}{s:Shared}{a:Addr}{h':Heap}{tk:Nat}(hs:Heap.SameBut a s.heap h')(ha:O a)(h0:G.h₀.get? a=none)(hl:∃ o,h'.get? a=some o)(hd:∀ o,s.heap.get? a=some o->¬ Tup o)(hf:FrmAt s.heap a->FrmAt h' a)(ht:Qdq s.heap a->Qdq h' a):
  Step G O s { s with heap:=h',toks:=tk }:=by
 refine ⟨⟨_,_,rfl⟩,fun b o e=>?_,fun b o e0 e=>?_,fun b f=>?_,fun b f=>?_⟩
 ·by_cases hb:b=a
  ·subst hb
   obtain ⟨o',e'⟩:=hl
   exact in1_2 o' e' (fun hw=>(hw.elim (fun n=>n ha) (fun t=>hd o e t)).elim)
  ·exact in1_2 o ((hs.2 b hb).trans e) (Same.refl O b o)
 ·by_cases hb:b=a
  ·subst hb;rw [h0] at e0;exact nSo e0
  ·exact (hs.2 b hb).trans e
 ·by_cases hb:b=a
  ·subst hb;exact hf f
  ·exact f.sameBut hs hb
 ·by_cases hb:b=a
  ·subst hb;exact ht f
  ·refine ob1_1 f fun ps e=>?_
   exact ⟨ps,(hs.2 b hb).trans e⟩
theorem Qay{h h':Heap}{a:Addr}{o:Obj}(e:h.get? a=some o)(hc:o.cls≠.none):Qdq h a->Qdq h' a:=by
 rintro ⟨ps,q⟩
 rw [e] at q
 obtain rfl:=Qo q
 exact absurd rfl hc
theorem Jr{h h':Heap}{a:Addr}{o:Obj}(e:h.get? a=some o)(hc:o.cls≠.type "frame"):FrmAt h a->FrmAt h' a:=by
 intro z0;refine ob1_3 z0 fun o' e' f _=>?_
 rw [e] at e'
 obtain rfl:=Qo e'
 exact absurd f hc
section
variable {G:Amb}{n:Nat}{V O:Addr->Prop}{ks:Qi}{A:Around}{env:Env}{s:Shared}{W:Addr->Prop}{ρ:Qf}
theorem Qt{x:Str}{v:Value}{d:D}{M:Model}{Q:Unit->Shared->Prop}{E:Value->Shared->Prop}(c:Cx G n V ks A env s W ρ)(hO:∀ a,O a->W a)(h0:∀ a,O a->G.h₀.get? a=none)(hx:Qki ks env O x)(r:Rep G s.heap W v d)
  (h:∀ s',Step G O s s'->Cx G n V ks A env s' W (upd ρ x d)->Q () s'):wpAny M A (storeName env x v) Q E s:=by
 refine ob1_1 c.ns fun m hn=>?_
 have hkx:env.kindOf x=ks.lookup x:=by unfold Env.kindOf;rw [c.ok.names]
 rcases hx.kind with hk | ⟨hk,hc⟩
 ·refine Ja (hkx.trans hk) hn (fun h' hn' hs hfr=>?_) (by refine wG c.ok.kind ?_;rfl)
  have k:Step G O s { s with heap:=h',toks:=s.toks + 1 }:=Qn hs hx.loc (h0 _ hx.loc) (ob3_2 hn' fun o _ _ e _=>⟨o,e⟩)
   (fun o e t=>by refine ob3_3 hn fun o' es ep e' d' _=>?_;rw [e] at e';obtain rfl:=Qo e';refine Qx t ?_;rintro _ ⟨xs,k,q⟩;rw [d'] at q;cases q) hfr
   (fun z0=>ob1_1 z0 fun ps q=>by refine ob3_3 hn fun o' es ep e' d' _=>?_;rw [e'] at q;obtain rfl:=Qo q;cases d')
  refine h _ k ⟨c.good.step k,c.ok,c.excl.step k,fun y d' hv hd=>?_,⟨_,hn'⟩,fun y a e=>?_⟩
  ·by_cases hy:y=x
   ·subst hy
    rw [Qd] at hd;obtain rfl:=Qo hd
    exact in1_2 v (.inl ⟨hkx.trans hk,_,hn',by simp⟩) (r.mono (k.keepX hO))
   ·rw [Zb _ _ hy] at hd
    refine ob1_2 (c.vars y d' hv hd) fun u a b=>?_
    refine in1_2 u ?_ (b.mono (k.keepX hO))
    rcases a with ⟨a,m1,hn1,hm1⟩ | ⟨a,nd,q,hq,hv'⟩
    ·rw [Qh6 hn1 hn] at hm1
     exact .inl ⟨a,_,hn',by simp [hy,hm1]⟩
    ·refine .inr ⟨a,nd,q,hq,hv'.sameBut hs ?_⟩
     rintro rfl
     refine ob1_2 hv' fun o e d1=>?_
     refine ob3_3 hn fun o' es ep e' d2 _=>?_
     rw [e] at e';obtain rfl:=Qo e';rw [d1] at d2;cases d2
  ·refine ob1_1 (c.cellsAt y a e) fun u hu=>?_
   refine ⟨u,hu.sameBut hs ?_⟩
   rintro rfl
   refine ob1_2 hu fun o e d1=>?_
   refine ob3_3 hn fun o' es ep e' d2 _=>?_
   rw [e] at e';obtain rfl:=Qo e';rw [d1] at d2;cases d2
 ·refine ob1_1 (c.ok.cells x (.inl hk)) fun q hq=>?_
  refine ob1_1 (c.cellsAt x q hq) fun v0 hv0=>?_
  have neL:env.locals≠q:=by
   rintro e
   refine ob1_2 hv0 fun o e1 d1=>?_
   refine ob3_3 hn fun o' es ep e' d2 _=>?_
   rw [e,e1] at e';obtain rfl:=Qo e';rw [d1] at d2;cases d2
  refine wpAny_storeName_cell c.ok.kind (hkx.trans hk) hq hv0 (fun h' hv' hs=>?_)
  have k:Step G O s { s with heap:=h',toks:=s.toks }:=Qn hs (hc q hq) (h0 _ (hc q hq)) (ob1_2 hv' fun o e _=>⟨o,e⟩)
   (fun o e t=>by refine ob1_2 hv0 fun o' e' d'=>?_;rw [e] at e';obtain rfl:=Qo e';refine Qx t ?_;rintro _ ⟨xs,k,q⟩;rw [d'] at q;cases q)
   (fun f=>by refine ob1_3 f ?_;intro o e _ z0;refine ob2_1 z0 fun es k q=>?_;refine ob1_2 hv0 fun o' e' d'=>?_;rw [e] at e';obtain rfl:=Qo e';replace q:=d' ▸ q;cases q)
   (fun z0=>ob1_1 z0 fun ps q=>by refine ob1_2 hv0 fun o' e' d'=>?_;rw [e'] at q;obtain rfl:=Qo q;cases d')
  refine h _ k ⟨c.good.step k,c.ok,c.excl.step k,fun y d' hv hd=>?_,⟨_,hn.sameBut hs neL⟩,fun y a e=>?_⟩
  ·by_cases hy:y=x
   ·subst hy
    rw [Qd] at hd;obtain rfl:=Qo hd
    exact in1_2 v (.inr ⟨.inl (hkx.trans hk),hx.noCd,q,hq,hv'⟩) (r.mono (k.keepX hO))
   ·rw [Zb _ _ hy] at hd
    refine ob1_2 (c.vars y d' hv hd) fun u a b=>?_
    refine in1_2 u ?_ (b.mono (k.keepX hO))
    rcases a with ⟨a,m1,hn1,hm1⟩ | ⟨a,nd,q',hq',hu⟩
    ·exact .inl ⟨a,_,hn1.sameBut hs neL,hm1⟩
    ·refine .inr ⟨a,nd,q',hq',hu.sameBut hs ?_⟩
     rintro rfl
     exact hy (c.ok.inj _ _ _ hq' hq)
  ·by_cases ha:a=q
   ·subst ha;exact ⟨_,hv'⟩
   ·refine ob1_1 (c.cellsAt y a e) fun u hu=>?_
    exact ⟨u,hu.sameBut hs ha⟩
end
noncomputable def ItAt(G:Amb)(h:Heap)(W:Addr->Prop)(I:Addr)(ds:List D):Prop:=
 (∃ l vs i,h.IsListIter I l i∧¬ W l∧h.IsList l (List.toArray vs)∧RepL G h W (vs.drop i) ds)∨
 (∃ x left,IsRangeIter h I x left 1∧ds=(List.range left.toNat).map fun k=>D.data (.int (x + (k:Nat))))
theorem ItAt.mono{G:Amb}{W:Addr->Prop}{h h':Heap}{I:Addr}{ds:List D}(x:ItAt G h W I ds)(k:Jm W h h')(hI:∀ o,h.get? I=some o->o.cls≠.type "frame"->h'.get? I=some o):ItAt G h' W I ds:=by
 rcases x with ⟨l,vs,i,⟨o,e,c,d⟩,hl,hL,r⟩ | ⟨x,left,hr,e⟩
 ·exact .inl ⟨l,vs,i,⟨o,hI o e (by rw [c];decide),c,d⟩,hl,Qs hL k hl,r.mono k⟩
 ·exact .inr ⟨x,left,hI _ hr (by show Value.type "range_iterator"≠_;decide),e⟩
theorem ItAt.cls{G:Amb}{W:Addr->Prop}{h:Heap}{I:Addr}{ds:List D}(x:ItAt G h W I ds):∃ o,h.get? I=some o∧¬ Tup o:=by
 rcases x with ⟨l,vs,i,⟨o,e,c,d⟩,hl,hL,r⟩ | ⟨x,left,hr,e⟩
 ·exact in1_2 o e (fun t=>absurd t.1 (by rw [c];decide))
 ·exact in1_2 _ hr (fun t=>absurd t.1 (by show Value.type "range_iterator"≠_;decide))
theorem ItAt.noFrm{G:Amb}{W:Addr->Prop}{h h':Heap}{I:Addr}{ds:List D}(x:ItAt G h W I ds):FrmAt h I->FrmAt h' I:=by
 rcases x with ⟨l,vs,i,⟨o,e,c,d⟩,hl,hL,r⟩ | ⟨x,left,hr,e⟩
 ·exact Jr e (by rw [c];decide)
 ·exact Jr hr (by show Value.type "range_iterator"≠_;decide)
theorem ItAt.noTab{G:Amb}{W:Addr->Prop}{h h':Heap}{I:Addr}{ds:List D}(x:ItAt G h W I ds):Qdq h I->Qdq h' I:=by
 rcases x with ⟨l,vs,i,⟨o,e,c,d⟩,hl,hL,r⟩ | ⟨x,left,hr,e⟩
 ·exact Qay e (by rw [c];decide)
 ·exact Qay hr (by show Value.type "range_iterator"≠_;decide)
theorem Qg4{W:Addr->Prop}{h h':Heap}{I:Addr}(hs:Heap.SameBut I h h')(hW:W I)(hd:∀ o,h.get? I=some o->¬ Tup o):Jm W h h':=fun b o e hw _=>by
 by_cases hb:b=I
 ·subst hb;exact (hw.elim (fun q=>q hW) (fun t=>hd o e t)).elim
 ·exact (hs.2 b hb).trans e
section
variable {G:Amb}{W:Addr->Prop}{A:Around}{s:Shared}{I:Addr}
theorem Qbc{d:D}{ds:List D}{Q:Option Value->Shared->Prop}{E:Value->Shared->Prop}(x:ItAt G s.heap W I (d :: ds))(hW:W I)
  (h:∀ v h' tk,Heap.SameBut I s.heap h'->ItAt G h' W I ds->Rep G h' W v d->Q (some v) { s with heap:=h',toks:=tk }):wpAny (model G.prog G.w) A (pyNext (.ref I)) Q E s:=by
 refine ob1_2 x.cls fun oI eI tI=>?_
 rcases x with ⟨l,vs,i,hit,hl,hL,r⟩ | ⟨x,left,hr,e⟩
 ·cases hv:vs.drop i with
  | nil=>rw [hv] at r;exact r.elim
  | cons v vs'=>
   rw [hv] at r;replace r:=r
   have hi:(List.toArray vs)[i]?=some v:=by
    have:=congrArg List.head? hv
    simpa [List.head?_drop] using this
   have hne:l≠I:=by
    rintro rfl
    refine ob1_3 hit fun o e c _=>?_;refine ob1_3 hL fun o' e' c' _=>?_
    rw [e] at e';obtain rfl:=Qo e';rw [c] at c';exact absurd c' (by decide)
   refine wpAny_pyNext_list_item hit hL hi fun h' hit' hs=>?_
   have k:Jm W s.heap h':=Qg4 hs hW (fun o e t=>by rw [eI] at e;obtain rfl:=Qo e;exact tI t)
   refine h v h' s.toks hs (.inl ⟨l,vs,i + 1,hit',hl,Qs hL k hl,?_⟩) (r.1.mono k)
   have:vs.drop (i + 1)=vs':=by refine wS List.tail_drop (wG hv ?_);rfl
   rw [this];exact r.2.mono k
 ·cases hn:left.toNat with
  | zero=>rw [hn] at e;simp at e
  | succ k=>
   have hpos:0 < left:=by lia
   have hl1:(left - 1).toNat=k:=(Int.pred_toNat _).trans (congrArg Nat.pred hn)
   rw [hn,List.range_succ_eq_map,List.map_cons,List.map_map] at e;replace e:=e
   refine Qx (List.cons.inj e) ?_;rintro rfl rfl
   refine wpAny_pyNext_range_item hr hpos fun h' hit' hs=>?_
   refine h _ h' _ hs (.inr ⟨x + 1,left - 1,hit',?_⟩) (by simpa [Rep] using RepD.int x _)
   rw [hl1]
   refine List.map_congr_left fun j _=>?_
   simp only [Function.comp]
   congr 2
   push_cast
   lia
theorem Qcf{Q:Option Value->Shared->Prop}{E:Value->Shared->Prop}(x:ItAt G s.heap W I [])(hh:A.handled=none)(h:∀ h',Heap.ExtBut I s.heap h'->Q none { s with heap:=h' }):wpAny (model G.prog G.w) A (pyNext (.ref I)) Q E s:=by
 rcases x with ⟨l,vs,i,hit,hl,hL,r⟩ | ⟨x,left,hr,e⟩
 ·cases hv:vs.drop i with
  | nil=>
   refine wpAny_pyNext_list_end hh hit hL ?_ h
   have:vs.length <= i:=List.drop_eq_nil_iff.mp hv
   simpa using this
  | cons v vs'=>rw [hv] at r;exact r.elim
 ·refine wpAny_pyNext_range_end hh hr ?_ h
  cases hn:left.toNat with
  | zero=>lia
  | succ k=>rw [hn] at e;simp [List.range_succ_eq_map] at e
theorem Qen{ds:List D}{Q:Value->Shared->Prop}{E:Value->Shared->Prop}(x:ItAt G s.heap W I ds)(h:Q (.ref I) s):wpAny (model G.prog G.w) A (pyIter (.ref I)) Q E s:=by
 rcases x with ⟨l,vs,i,hit,hl,hL,r⟩ | ⟨x,left,hr,e⟩
 ·exact wpAny_pyIter_listiter hit h
 ·exact wpAny_pyIter_rangeiter hr h
end
noncomputable def Qd0(h:Heap)(W W':Addr->Prop):Prop:=∀ a o,h.get? a=some o->W' a->W a
theorem RepD.strong{h:Heap}{W W':Addr->Prop}{v:Value}{d:PyData}(x:RepD h W v d)(k:Qd0 h W W'):RepD h W' v d:=
 ob1_2 x fun as r p=>⟨as,r,fun a ha q=>ob1_1 (PyProof.On.reads_mem_get r a ha) fun o e=>p a ha (k a o e q)⟩
theorem EntAt.strong{G:Amb}{h:Heap}{W W':Addr->Prop}{v:Value}{e:Ent}(x:EntAt G h W v e)(k:Qd0 h W W'):EntAt G h W' v e:=by
 obtain ⟨x,dx,es,n,vu,vr,vd,vq,rfl,a,b,ex,ed,g1,g2,g3,g4,r1,r2,r3,r4⟩:=x
 exact ⟨x,dx,es,n,vu,vr,vd,vq,rfl,fun q=>a (k _ _ ex q),fun q=>b (k _ _ ed q),ex,ed,g1,g2,g3,g4,r1.strong k,r2.strong k,r3.strong k,r4.strong k⟩
theorem EntsAt.strong{G:Amb}{h:Heap}{W W':Addr->Prop}(k:Qd0 h W W'):∀ {vs:List Value}{es:List Ent},EntsAt G h W vs es->EntsAt G h W' vs es
 | [],[],_=>trivial
 | _ :: _,_ :: _,x=>⟨x.1.strong k,EntsAt.strong k x.2⟩
 | [],_ :: _,x=>x.elim
 | _ :: _,[],x=>x.elim
theorem Rep.strong{G:Amb}{h:Heap}{W W':Addr->Prop}{v:Value}(k:Qd0 h W W'){d:D}(x:Rep G h W v d):Rep G h W' v d:=by
 cases d with
 | data _=>exact RepD.strong x k
 | ent _=>exact EntAt.strong x k
 | ents _=>exact ob2_4 x fun a vs e hw hl r=>in2_4 a vs e (fun q=>hw (ob1_2 hl fun o e _=>k a o e q)) hl (r.strong k)
 | raw _=>exact x
 | plain _=>exact ob2_4 x fun a vs e hw hl r=>in2_4 a vs e (fun q=>hw (ob1_1 hl fun _ e=>k a _ e q)) hl (ob1_2 r fun as q p=>⟨as,q,fun a ha z=>ob1_1 (PyProof.On.readsAll_mem_get q a ha) fun o e=>p a ha (k a o e z)⟩)
theorem RepL.strong{G:Amb}{h:Heap}{W W':Addr->Prop}(k:Qd0 h W W'):∀ {vs:List Value}{ds:List D},RepL G h W vs ds->RepL G h W' vs ds
 | [],[],_=>trivial
 | _ :: _,_ :: _,x=>⟨x.1.strong k,RepL.strong k x.2⟩
 | [],_ :: _,x=>x.elim
 | _ :: _,[],x=>x.elim
theorem ItAt.strong{G:Amb}{h:Heap}{W W':Addr->Prop}{I:Addr}{ds:List D}(x:ItAt G h W I ds)(k:Qd0 h W W'):ItAt G h W' I ds:=by
 rcases x with ⟨l,vs,i,hit,hl,hL,r⟩ | y
 ·exact .inl ⟨l,vs,i,hit,fun q=>hl (let ⟨o,e,_⟩:=hL;k l o e q),hL,r.strong k⟩
 ·exact .inr y
theorem FrameRep.strong{G:Amb}{h:Heap}{W W':Addr->Prop}{env:Env}{ks:Qi}{ρ:Qf}(x:FrameRep G h W env ks ρ)(k:Qd0 h W W'):FrameRep G h W' env ks ρ:=
 fun y d hv hd=>ob1_2 (x y d hv hd) fun v a b=>⟨v,a,b.strong k⟩
theorem RepL.length{G:Amb}{h:Heap}{W:Addr->Prop}:∀ {vs:List Value}{ds:List D},RepL G h W vs ds->vs.length=ds.length
 | [],[],_=>rfl
 | _ :: _,_ :: _,x=>by simp [RepL.length x.2]
 | [],_ :: _,x=>x.elim
 | _ :: _,[],x=>x.elim
theorem RepL.snoc{G:Amb}{h:Heap}{W:Addr->Prop}{v:Value}{d:D}:∀ {vs:List Value}{ds:List D},RepL G h W vs ds->Rep G h W v d->RepL G h W (vs ++ [v]) (ds ++ [d])
 | [],[],_,y=>⟨y,trivial⟩
 | _ :: _,_ :: _,x,y=>⟨x.1,RepL.snoc x.2 y⟩
 | [],_ :: _,x,_=>x.elim
 | _ :: _,[],x,_=>x.elim
noncomputable def Xz(l:List D):Option (List PyData):=List.rec (some []) (fun d _ r=>(qD d).bind fun e=>r.map (e :: ·)) l
noncomputable def Qgc(l:List D):Option (List Ent):=List.rec (some []) (fun d _ r=>(qEn d).bind fun e=>r.map (e :: ·)) l
theorem asDatas_d(d:PyData)(r:List D):Xz (.data d :: r)=(Xz r).map (d :: ·):=rfl
theorem Qln(d:Ent)(r:List D):Qgc (.ent d :: r)=(Qgc r).map (d :: ·):=rfl
noncomputable def Qcs(ds:List D):Option D:=(Xz ds).elim ((Qgc ds).map .ents) fun l=>some (.data (.list l))
theorem Qgq{G:Amb}{h:Heap}{W:Addr->Prop}{vs:List Value}{ds:List D}{l:List PyData}(x:RepL G h W vs ds)(e:Xz ds=some l):RepDs h W vs l:=by
 induction ds generalizing vs l with
 | nil=>cases vs with
  | nil=>obtain rfl:=Qo e;exact .nil
  | cons _ _=>exact False.elim x
 | cons d ds ih=>cases vs with
  | nil=>exact False.elim x
  | cons v vs=>
   refine ob1_2 (ivD e) ?_;rintro d rfl e
   refine ob1_2 (Option.map_eq_some_iff.mp e) ?_;rintro r hr rfl
   exact .cons x.1 (ih x.2 hr)
theorem entsAt_of{G:Amb}{h:Heap}{W:Addr->Prop}{vs:List Value}{ds:List D}{l:List Ent}(x:RepL G h W vs ds)(e:Qgc ds=some l):EntsAt G h W vs l:=by
 induction ds generalizing vs l with
 | nil=>cases vs with
  | nil=>obtain rfl:=Qo e;trivial
  | cons _ _=>exact False.elim x
 | cons d ds ih=>cases vs with
  | nil=>exact False.elim x
  | cons v vs=>
   refine ob1_2 (iv1 e) ?_;rintro d rfl e
   refine ob1_2 (Option.map_eq_some_iff.mp e) ?_;rintro r hr rfl
   exact ⟨x.1,ih x.2 hr⟩
theorem Qds{G:Amb}{h:Heap}{W:Addr->Prop}{a:Addr}{vs:List Value}{ds:List D}{d:D}(r:RepL G h W vs ds)(e:Qcs ds=some d)(hw:¬ W a)(hl:h.IsList a (List.toArray vs)):Rep G h W (.ref a) d:=by
 unfold Qcs at e
 rcases elS (g:=fun l:List PyData=>some l) (d:=Xz ds) (fun q=>q) e with e | e
 ·refine ob1_2 e fun l hl' e=>?_
  obtain rfl:=Qo e
  exact RepD.list hw hl (Qgq r hl')
 ·simp only [Option.map_eq_some_iff] at e;replace e:=e
  refine ob1_2 e ?_;rintro l hl' rfl
  exact in2_4 a vs rfl hw hl (entsAt_of r hl')
noncomputable def Ju(d:D):Option (List D):=(aL d).elim ((qE d).bind fun l=>some (l.map .ent)) fun l=>some (l.map .data)
theorem Jh(l:List PyData):Ju (.data (.list l))=some (l.map .data):=rfl
theorem Ji(l:List Ent):Ju (.ents l)=some (l.map .ent):=rfl
theorem Qfo{G:Amb}{h:Heap}{W:Addr->Prop}:∀ {vs:List Value}{l:List PyData},RepDs h W vs l->RepL G h W vs (l.map .data)
 | vs,[],x=>by refine wG x.inv_nil ?_;trivial
 | vs,d :: l,x=>by
  refine ob2_3 x.inv ?_;rintro v vs' rfl a b
  exact ⟨a,Qfo b⟩
theorem Qec{G:Amb}{h:Heap}{W:Addr->Prop}:∀ {vs:List Value}{l:List Ent},EntsAt G h W vs l->RepL G h W vs (l.map .ent)
 | [],[],_=>trivial
 | _ :: _,_ :: _,x=>⟨x.1,Qec x.2⟩
 | [],_ :: _,x=>x.elim
 | _ :: _,[],x=>x.elim
theorem rep_items{G:Amb}{h:Heap}{W:Addr->Prop}{v:Value}{d:D}{ds:List D}(r:Rep G h W v d)(e:Ju d=some ds):∃ a vs,v=.ref a∧¬ W a∧h.IsList a (List.toArray vs)∧RepL G h W vs ds:=by
 unfold Ju at e
 rcases elL e with e | e
 ·refine ob1_2 e ?_;rintro l rfl e
  obtain rfl:=Qo e
  refine ob2_4 (RepD.list_iff r) ?_;rintro a vs rfl hw hl rs
  exact in2_4 a vs rfl hw hl (Qfo rs)
 ·refine ob1_2 (ivE e) ?_;rintro l rfl e
  obtain rfl:=Qo e
  refine ob2_4 r ?_;rintro a vs rfl hw hl rs
  exact in2_4 a vs rfl hw hl (Qec rs)
noncomputable def Qc3(G:Amb)(n:Nat)(V:Addr->Prop)(ks:Qi)(e:Expr)(f:Qf->Option (List D)):Prop:=
 ∀ (A:Around) (env:Env) (s:Shared) (W:Addr->Prop) (ρ:Qf) (ds:List D) (Q:Value->Shared->Prop) (E:Value->Shared->Prop),
  Cx G n V ks A env s W ρ->f ρ=some ds->(∀ I s',Step G V s s'->s.heap.get? I=none->ItAt G s'.heap (fun a=>W a∨a=I) I ds->Q (.ref I) s')->
  wpAny (model G.prog G.w) A (eval e env) (fun x s₁=>wpAny (model G.prog G.w) A (pyIter x) Q E s₁) E s
theorem newX_push{h:Heap}{W:Addr->Prop}:Qd0 h W (fun a=>W a∨a=h.objs.size):=fun a o e hw=>hw.elim id fun q=>by
 subst q;exact absurd (Heap.lt_size e) (Nat.lt_irrefl _)
section
variable {G:Amb}{n:Nat}{V:Addr->Prop}{ks:Qi}
theorem Zj{e:Expr}{f:Qf->Option D}(h:Zo G n V ks e f):Qc3 G n V ks e (fun ρ=>(f ρ).bind Ju):=by
 intro A env s W ρ ds Q E c hf hQ
 refine Zf ?_;intro Q0 E0
 simp only [Option.bind_eq_some_iff] at hf
 refine ob1_2 hf fun d hd hi=>?_
 refine h A env s W ρ d _ E c hd fun v s₁ k1 r₁=>?_
 refine ob2_4 (rep_items r₁ hi) ?_;rintro a vs rfl hw hl rs
 refine wpAny_pyIter_list hl ?_
 have k2:Step G V s₁ { s₁ with heap:=s₁.heap.push { cls:=.type "list_iterator",data:=.fields #[.ref a,.int 0 0] } }:=.push s₁ _
 have hne:a≠s₁.heap.objs.size:=fun q=>by
  refine ob1_2 hl fun o e _=>?_
  rw [q] at e;exact absurd (Heap.lt_size e) (Nat.lt_irrefl _)
 refine hQ _ _ (k1.trans k2) ?_ (.inl ⟨a,vs,0,⟨_,Heap.get?_push_size _ rfl,rfl,rfl⟩,fun q=>q.elim hw hne,?_,?_⟩)
 ·cases q:s.heap.get? s₁.heap.objs.size with
  | none=>rfl
  | some o=>
   refine ob1_2 (k1.keep _ o q) fun o' e' _=>?_
   exact absurd (Heap.lt_size e') (Nat.lt_irrefl _)
 ·exact hl.push _
 ·rw [List.drop_zero]
  exact (rs.strong newX_push).mono fun b o e _ _=>Heap.get?_push_of_some _ e
noncomputable def Qdu(ks names:Qi):Qi:=names.map fun p=>if (p.2 == .free && ks.lookup p.1 == some .cell) then (p.1,.cell) else p
noncomputable def Qbm(ks:Qi)(scope:Scope)(x:Str):Bool:=
 scope.kind == .function && scope.names.all (fun p=>match p.2 with
  | .local=>(p.1 == x || p.1 == dot0) && scope.names.lookup p.1 == some .local
  | .cell=>p.1 == x
  | .free=>p.1 != x && (ks.lookup p.1 == some .cell || ks.lookup p.1 == some .free) && !(p.1 == ("__classdict__":Str))
  | _=>true) && (scope.names.lookup x == some .local || scope.names.lookup x == some .cell) && !(x == ("__classdict__":Str))
noncomputable def Qc2(cells:List (Str × Addr)):Qi->List (Str × Addr)->List (Str × Addr)
 | [],acc=>acc
 | (n,k) :: r,acc=>Qc2 cells r (if k == .free then (match cells.lookup n with | some c=>(n,c) :: acc | none=>acc) else acc)
theorem Qcn{env:Env}{scope:Scope}(hf:∀ p ∈ scope.names,p.2=.free->∃ c,env.cells.lookup p.1=some c):closureFor scope env=pure (Qc2 env.cells scope.names []):=by
 have go:∀ (names:Qi) (acc:List (Str × Addr)),(∀ p ∈ names,p.2=.free->∃ c,env.cells.lookup p.1=some c)->
   (forIn names acc fun x r=>if (x.2 == NameKind.free)=true then do let c ← cellOf env x.1;pure (ForInStep.yield ((x.1,c) :: r)) else pure (ForInStep.yield r):Sem _)=pure (Qc2 env.cells names acc):=by
  intro names
  induction names with
  | nil=>intro acc _;rfl
  | cons p r ih=>
   intro acc hp
   obtain ⟨m,k⟩:=p
   rw [List.forIn_cons]
   by_cases hk:(k == NameKind.free)=true
   ·refine ob1_1 (hp (m,k) (.head _) (by simpa using hk)) fun c hc=>?_
    have e1:cellOf env m=pure c:=by unfold cellOf;rw [show env.cells.lookup m=some c from hc]
    simp only [hk,if_true,e1,pure_bind]
    rw [ih _ fun q hq=>hp q (.tail _ hq)]
    show _=pure (Qc2 env.cells r _)
    simp only [hk,if_true,show env.cells.lookup m=some c from hc]
   ·simp only [hk,Bool.false_eq_true,if_false,pure_bind]
    rw [ih _ fun q hq=>hp q (.tail _ hq)]
    show _=pure (Qc2 env.cells r _)
    simp only [hk]
    kernel_rfl
 unfold closureFor
 exact (by simpa using congrArg (fun t=>(do let cs ← t;return cs:Sem _)) (go scope.names [] hf))
theorem Qiu{cells:List (Str × Addr)}:∀ {names:Qi}{acc:List (Str × Addr)}{y:Str}{c:Addr},(y,c) ∈ Qc2 cells names acc->(y,c) ∈ acc∨((y,NameKind.free) ∈ names∧cells.lookup y=some c)
 | [],_,_,_,h=>.inl h
 | (m,k) :: r,acc,y,c,h=>by
  unfold Qc2 at h
  rcases Qiu h with h | ⟨h,e⟩
  ·split at h
   ·rename_i hk
    split at h
    ·rename_i c' hc'
     rcases List.mem_cons.mp h with h | h
     ·cases h
      exact .inr ⟨by rw [eq_of_beq hk];exact .head _,hc'⟩
     ·exact .inl h
    ·exact .inl h
   ·exact .inl h
  ·exact .inr ⟨.tail _ h,e⟩
theorem Qiw{cells:List (Str × Addr)}:∀ {names:Qi}{acc:List (Str × Addr)}{p:Str × Addr},p ∈ acc->p ∈ Qc2 cells names acc
 | [],_,_,h=>h
 | (m,k) :: r,acc,p,h=>by
  unfold Qc2
  apply Qiw
  split
  ·split
   ·exact .tail _ h
   ·exact h
  ·exact h
theorem Qiv{cells:List (Str × Addr)}:∀ {names:Qi}{acc:List (Str × Addr)}{y:Str}{c:Addr},(y,NameKind.free) ∈ names->cells.lookup y=some c->(y,c) ∈ Qc2 cells names acc
 | (m,k) :: r,acc,y,c,h,e=>by
  unfold Qc2
  rcases List.mem_cons.mp h with h | h
  ·cases h
   apply Qiw
   simp [e]
  ·exact Qiv h e
theorem Qax:∀ {names:Qi}{h:Heap}{acc:List (Str × Addr)}{y:Str}{c:Addr},(y,c) ∈ cellsFrom h.objs.size names acc->(y,c) ∈ acc∨((y,NameKind.cell) ∈ names∧h.objs.size <= c∧(pushCells h names).IsCell c none)
 | [],_,_,_,_,h=>.inl h
 | (m,k) :: r,hp,acc,y,c,h=>by
  unfold cellsFrom at h
  unfold pushCells
  split at h
  ·rename_i hk
   rw [if_pos hk]
   have e1:hp.objs.size + 1=(hp.push { cls:=.type "cell",data:=.cell none }).objs.size:=by rw [Heap.size_push]
   replace h:=e1 ▸ h
   rcases Qax h with h | ⟨h1,h2,h3⟩
   ·rcases List.mem_cons.mp h with h | h
    ·cases h
     refine .inr ⟨by rw [eq_of_beq hk];exact .head _,Nat.le_refl _,?_⟩
     exact in1_2 _ (pushCells_keeps _ _ _ _ (Heap.get?_push_size _ rfl)) rfl
    ·exact .inl h
   ·replace h2:=(e1).symm ▸ h2
    exact .inr ⟨.tail _ h1,by lia,h3⟩
  ·rename_i hk
   rw [if_neg hk]
   rcases Qax h with h | ⟨h1,h2,h3⟩
   ·exact .inl h
   ·exact .inr ⟨.tail _ h1,h2,h3⟩
theorem Jp:∀ {names:Qi}{n:Nat}{acc:List (Str × Addr)}{p:Str × Addr},p ∈ acc->p ∈ cellsFrom n names acc
 | [],_,_,_,h=>h
 | (m,k) :: r,n,acc,p,h=>by
  unfold cellsFrom
  split
  ·exact Jp (.tail _ h)
  ·exact Jp h
theorem Xe:∀ {names:Qi}{n:Nat}{acc:List (Str × Addr)}{y:Str},(y,NameKind.cell) ∈ names->∃ c,(y,c) ∈ cellsFrom n names acc
 | (m,k) :: r,n,acc,y,h=>by
  unfold cellsFrom
  rcases List.mem_cons.mp h with h | h
  ·cases h
   exact ⟨n,by simp;exact Jp (.head _)⟩
  ·split
   ·exact Xe h
   ·exact Xe h
theorem Za{α:Type}:∀ {l:List (Str × α)}{y:Str}{c:α},(y,c) ∈ l->∃ c',l.lookup y=some c'
 | (k,v) :: r,y,c,h=>by
  refine wG List.lookup_cons ?_
  cases hb:y == k with
  | true=>exact ⟨v,rfl⟩
  | false=>
   rcases List.mem_cons.mp h with h | h
   ·cases h;simp at hb
   ·exact Za h
theorem Qgg{M:Model}{A:Around}{s:Shared}{E:Value->Shared->Prop}{scope:Scope}{globals:Addr}{cl:List (Str × Addr)}{qual:Str}{outer:Env}{Q:Env->Shared->Prop}
  (h:Q (newEnv scope s.heap.objs.size globals (cellsFrom (s.heap.objs.size + 1) scope.names cl) qual none .none (some outer) builtinsNs)
   { s with heap:=pushCells (s.heap.push { cls:=.type "dict",data:=.dict #[] }) scope.names }):
  wpAny M A (newFunctionEnv scope globals cl [] qual none .none (some outer)) Q E s:=by
 simp only [newFunctionEnv,Option.isSome_some,if_true]
 refine Qg (fun K k=>wpAny_alloc k) ?_
 refine wpAny_bind (wpAny_layCells _ (fun name kind cells=>by cases hkc:kind == NameKind.cell <;> simp [hkc]) _ _ _ _ ?_)
 refine wG (show ({ s with heap:=s.heap.push { cls:=.type "dict",data:=.dict #[] } }:Shared).heap.objs.size=s.heap.objs.size + 1 from Heap.size_push ..) ?_
 refine wG List.forIn_nil ?_
 exact wpAny_bind (wpAny_pure (wpAny_pure h))
end
theorem Step.later{G:Amb}{V U:Addr->Prop}{s s' s'':Shared}(x:Step G V s s')(y:Step G U s' s'')(k:∀ a,U a->s.heap.get? a=none∨V a):Step G V s s'':=by
 refine ob2_1 x.form ?_;rintro h1 t1 rfl
 refine ob2_1 y.form ?_;rintro h2 t2 rfl
 refine ⟨⟨_,_,rfl⟩,fun b o e=>?_,fun b o e0 e=>y.base b o e0 (x.base b o e0 e),fun b f=>y.frm b (x.frm b f),fun b f=>y.tab b (x.tab b f)⟩
 refine ob1_2 (x.keep b o e) fun o' e' a=>?_
 refine ob1_2 (y.keep b o' e') fun o'' e'' c=>?_
 refine in1_2 o'' e'' (a.trans fun hw=>c ?_)
 rcases hw with hw | hw
 ·refine .inl fun q=>?_
  rcases k b q with r | r
  ·rw [r] at e;exact nSo e
  ·exact hw r
 ·exact .inr hw
theorem Step.ext{G:Amb}{V:Addr->Prop}{s s':Shared}{I:Addr}{h':Heap}(x:Step G V s s')(y:Heap.ExtBut I s'.heap h')(k:s.heap.get? I=none)(k0:G.h₀.get? I=none):Step G V s { s' with heap:=h' }:=by
 refine ob2_1 x.form ?_;rintro h1 t1 rfl
 refine ⟨⟨_,_,rfl⟩,fun b o e=>?_,fun b o e0 e=>?_,fun b f=>?_,fun b f=>?_⟩
 ·refine ob1_2 (x.keep b o e) fun o' e' a=>?_
  exact in1_2 o' (y b o' (by rintro rfl;rw [k] at e;exact nSo e) e') a
 ·exact y b o (by rintro rfl;rw [k] at e;exact nSo e) (x.base b o e0 e)
 ·refine ob1_2 (x.frm b f) fun o e hf=>?_
  refine ob1_2 f fun o0 e0 _=>?_
  exact in1_2 o (y b o (by rintro rfl;rw [k] at e0;exact nSo e0) e) hf
 ·refine ob1_1 (x.tab b f) fun ps e=>?_
  refine ob1_1 f fun ps0 e0=>?_
  exact ⟨ps,y b _ (by rintro rfl;rw [k] at e0;exact nSo e0) e⟩
theorem Step.get_none{G:Amb}{V:Addr->Prop}{s s':Shared}(x:Step G V s s'){a:Addr}(e:s'.heap.get? a=none):s.heap.get? a=none:=by
 cases q:s.heap.get? a with
 | none=>rfl
 | some o=>refine ob1_2 (x.keep a o q) fun o' e' _=>?_;rw [e] at e';exact nSo e'
theorem Cx.stepU{G:Amb}{n:Nat}{V U:Addr->Prop}{ks:Qi}{A:Around}{env:Env}{s s':Shared}{W:Addr->Prop}{ρ:Qf}(c:Cx G n V ks A env s W ρ)(k:Step G U s s')(hU:∀ a,U a->W a)(hL:¬ U env.locals)
  (hc:∀ y a,env.cells.lookup y=some a->¬ U a):Cx G n V ks A env s' W ρ:=by
 refine ⟨c.good.step k,c.ok,c.excl.step k,fun x d hv hd=>?_,ob1_1 c.ns fun m e=>⟨m,Qb4 k e hL⟩,fun y a e=>ob1_1 (c.cellsAt y a e) fun v q=>⟨v,Qao k q (hc y a e)⟩⟩
 refine ob1_2 (c.vars x d hv hd) fun v a b=>?_
 refine in1_2 v ?_ (b.mono (k.keepX hU))
 rcases a with ⟨a,m,hn,hm⟩ | ⟨a,nd,q,hq,hv⟩
 ·exact .inl ⟨a,m,Qb4 k hn hL,hm⟩
 ·exact .inr ⟨a,nd,q,hq,Qao k hv (hc _ _ hq)⟩
noncomputable def Xl(x:Str)(c:Qf->Option Bool)(f:Qf->Option D)(ρ:Qf):List D->Option (List D)
 | []=>some []
 | d :: ds=>(c (upd ρ x d)).bind fun b=>if b then (f (upd ρ x d)).bind fun a=>(Xl x c f ρ ds).map (a :: ·) else Xl x c f ρ ds
noncomputable def Qi3(G:Amb)(n:Nat)(V:Addr->Prop)(ks:Qi)(ifs:List Expr)(f:Qf->Option Bool):Prop:=
 ∀ (A:Around) (env:Env) (s:Shared) (W:Addr->Prop) (ρ:Qf) (b:Bool) (Q:Bool->Shared->Prop) (E:Value->Shared->Prop),
  Cx G n V ks A env s W ρ->f ρ=some b->(∀ s',Step G V s s'->Q b s')->
  wpAny (model G.prog G.w) A (forIn ifs true fun c r=>if r=true then do let ok ← isTrue c env (eval c env);pure (ForInStep.yield ok) else pure (ForInStep.yield r)) Q E s
theorem Qai{G:Amb}{n:Nat}{V:Addr->Prop}{ks:Qi}:Qi3 G n V ks [] (fun _=>some true):=by
 intro A env s W ρ b Q E c hf h
 obtain rfl:=Qo hf
 exact wpAny_tests_nil (h s .refl)
theorem Qah{G:Amb}{n:Nat}{V:Addr->Prop}{ks:Qi}{e:Expr}{f:Qf->Option Bool}(h:Qap G n V ks e f):Qi3 G n V ks [e] f:=by
 intro A env s W ρ b Q E c hf hQ
 exact wpAny_tests_one (h A env s W ρ b Q E c hf hQ)
noncomputable def Qhk(G:Amb)(V:Addr->Prop)(s:Shared)(W:Addr->Prop)(rs:List D)(M:Model)(A:Around)(Q:Value->Shared->Prop)(E:Value->Shared->Prop)(use:Option (Value->Sem Unit)):Prop:=
 ∀ (L C:Addr) (s':Shared) (vs:List Value),Step G V s s'->s.heap.get? L=none->s.heap.get? C=none->L≠C->(∃ m,s'.heap.Ns C m)->G.h₀.get? C=none->
  s'.heap.PlainList L (List.toArray vs)->RepL G s'.heap (fun a=>W a∨a=C) vs rs->
  match use with
  | none=>∀ h',Heap.SameBut C s'.heap h'->Q (.ref L) { s' with heap:=h' }
  | some u=>wpAny M A (u (.ref L)) (fun _ s''=>∃ m,s''.heap.Ns C m∧∀ h',Heap.SameBut C s''.heap h'->Q .none { s'' with heap:=h' }) E s'
section
variable {G:Amb}[Qab G] {n:Nat}{V:Addr->Prop}{ks:Qi}
theorem Qcv{ks names:Qi}{x:Str}{k:NameKind}(hk:k=.local∨k=.cell):∀ {names:Qi},names.lookup x=some k->(Qdu ks names).lookup x=some k
 | [],h=>by simp at h
 | (m,j) :: r,h=>by
  rw [List.lookup_cons] at h
  unfold Qdu
  rw [List.map_cons]
  cases hb:x == m with
  | true=>
   rw [hb] at h;obtain rfl:=Qo h
   have e:(k == NameKind.free)=false:=by rcases hk with rfl | rfl <;> rfl
   exact wG (if_neg (by simp [e])) (wG List.lookup_cons (wG hb rfl))
  | false=>
   rw [hb] at h
   have ih:=Qcv (ks:=ks) (names:=names) (x:=x) hk h
   unfold Qdu at ih
   split <;> (refine wG List.lookup_cons (wG hb ?_);exact ih)
theorem Qbi{ks:Qi}{y:Str}{k:NameKind}{names:Qi}(h:(Qdu ks names).lookup y=some k):(y,k) ∈ names∨((y,NameKind.free) ∈ names∧k=.cell):=by
 have:=mem_of_lookup h
 unfold Qdu at this
 refine ob1_2 (List.mem_map.mp this) fun p hp e=>?_
 split at e
 ·rename_i hc
  cases e
  simp only [Bool.and_eq_true,beq_iff_eq] at hc
  refine .inr ⟨?_,rfl⟩
  rw [← hc.1];exact hp
 ·subst e;exact .inl hp
structure Qd1 (ks:Qi) (scope:Scope) (xs:List Str):Prop where
 kind:scope.kind=.function
 own:∀ p ∈ scope.names,p.2=.cell->p.1 ∈ xs
 ownL:∀ p ∈ scope.names,p.2=.local->p.1 ∈ xs∨p.1=dot0
 loc:∀ p ∈ scope.names,p.2=.local->scope.names.lookup p.1=some .local
 free:∀ p ∈ scope.names,p.2=.free->p.1 ∉ xs∧(ks.lookup p.1=some .cell∨ks.lookup p.1=some .free)∧(p.1 == ("__classdict__":Str))=false
 here:∀ x ∈ xs,scope.names.lookup x=some .local∨scope.names.lookup x=some .cell
 noCd:∀ x ∈ xs,(x == ("__classdict__":Str))=false
 oneCell:∀ x ∈ xs,∀ y ∈ xs,(x,NameKind.cell) ∈ scope.names->(y,NameKind.cell) ∈ scope.names->x=y
theorem Qav{ks:Qi}{scope:Scope}{x:Str}(h:Qbm ks scope x=true):Qd1 ks scope [x]:=by
 unfold Qbm at h
 simp only [Bool.and_eq_true,List.all_eq_true,Bool.or_eq_true,beq_iff_eq] at h
 obtain ⟨⟨⟨h1,h2⟩,h3⟩,h4⟩:=h
 refine ⟨h1,fun p hp hk=>?_,fun p hp hk=>?_,fun p hp hk=>?_,fun p hp hk=>?_,fun y hy=>by refine wG (List.mem_singleton.mp hy) ?_;exact h3,fun y hy=>by rw [List.mem_singleton.mp hy];simpa using h4,fun a ha b hb _ _=>by exact wG (List.mem_singleton.mp ha) (wG (List.mem_singleton.mp hb) rfl)⟩
 ·have:=h2 p hp
  rw [hk] at this;simpa using this
 ·have:=h2 p hp
  rw [hk] at this
  simp only [Bool.and_eq_true,Bool.or_eq_true,beq_iff_eq] at this
  exact this.1.imp (fun e=>by simp [e]) id
 ·have:=h2 p hp
  rw [hk] at this
  simp only [Bool.and_eq_true,beq_iff_eq] at this
  exact this.2
 ·have:=h2 p hp
  rw [hk] at this
  simp only [Bool.and_eq_true,Bool.or_eq_true,beq_iff_eq,bne_iff_ne,Bool.not_eq_true'] at this
  exact Jw (by simpa using this.1.1) this.1.2 this.2
noncomputable def Qev(ks:Qi)(scope:Scope)(x y:Str):Bool:=
 scope.kind == .function && scope.names.all (fun p=>match p.2 with
  | .local=>(p.1 == x || p.1 == y || p.1 == dot0) && scope.names.lookup p.1 == some .local
  | .cell=>false
  | .free=>p.1 != x && p.1 != y && (ks.lookup p.1 == some .cell || ks.lookup p.1 == some .free) && !(p.1 == ("__classdict__":Str))
  | _=>true) && (scope.names.lookup x == some .local && scope.names.lookup y == some .local) && !(x == ("__classdict__":Str)) && !(y == ("__classdict__":Str))
theorem Qit{ks:Qi}{scope:Scope}{x y:Str}(h:Qev ks scope x y=true):Qd1 ks scope [x,y]:=by
 unfold Qev at h
 simp only [Bool.and_eq_true,List.all_eq_true,Bool.or_eq_true,beq_iff_eq] at h
 obtain ⟨⟨⟨⟨h1,h2⟩,h3⟩,h4⟩,h5⟩:=h
 have noCell:∀ p ∈ scope.names,p.2≠.cell:=fun p hp hk=>by have:=h2 p hp;rw [hk] at this;simp at this
 refine ⟨h1,fun p hp hk=>absurd hk (noCell p hp),fun p hp hk=>?_,fun p hp hk=>?_,fun p hp hk=>?_,fun z hz=>?_,fun z hz=>?_,fun a _ b _ ha _=>absurd rfl (noCell _ ha)⟩
 ·have:=h2 p hp
  rw [hk] at this
  simp only [Bool.and_eq_true,Bool.or_eq_true,beq_iff_eq] at this
  rcases this.1 with (e | e) | e
  ·exact .inl (by simp [e])
  ·exact .inl (by simp [e])
  ·exact .inr e
 ·have:=h2 p hp
  rw [hk] at this
  simp only [Bool.and_eq_true,beq_iff_eq] at this
  exact this.2
 ·have:=h2 p hp
  rw [hk] at this
  simp only [Bool.and_eq_true,Bool.or_eq_true,beq_iff_eq,bne_iff_ne,Bool.not_eq_true'] at this
  exact Jw (by simpa using ⟨this.1.1.1,this.1.1.2⟩) this.1.2 this.2
 ·rcases List.mem_cons.mp hz with rfl | hz
  ·exact .inl h3.1
  ·rw [List.mem_singleton.mp hz];exact .inl h3.2
 ·rcases List.mem_cons.mp hz with rfl | hz
  ·simpa using h4
  ·rw [List.mem_singleton.mp hz];simpa using h5
structure Qi2 (G:Amb) (V:Addr->Prop) (ks':Qi) (s:Shared) (W W₂ O:Addr->Prop) (cenv:Env) (I L:Addr) (xs:List Str):Prop where
 wI:W₂ I
 wL:W₂ L
 wO:∀ a,O a->W₂ a
 wW:∀ a,W a->W₂ a
 oI:¬ O I
 oL:¬ O L
 iL:I≠L
 newI:s.heap.get? I=none
 newL:s.heap.get? L=none
 newO:∀ a,O a->s.heap.get? a=none
 baseI:G.h₀.get? I=none
 baseL:G.h₀.get? L=none
 baseO:∀ a,O a->G.h₀.get? a=none
 loc:O cenv.locals
 store:∀ x ∈ xs,Qki ks' cenv O x
 cells:∀ y a,cenv.cells.lookup y=some a->a≠I∧a≠L
inductive CompInv (G:Amb) (n:Nat) (V:Addr->Prop) (ks':Qi) (A:Around) (cenv:Env) (s:Shared) (W₂:Addr->Prop) (I L:Addr) (x:Str) (fc:Qf->Option Bool) (fe:Qf->Option D) (ρ:Qf) (rs:List D) (k:Nat) (s':Shared):Prop
 | mk (rest done:List D) (vs:List Value) (ρ':Qf) (r2:List D) (k₀:Step G V s s') (c₀:Cx G n V ks' A cenv s' W₂ ρ') (hρ:∀ d,upd ρ' x d=upd ρ x d) (it₀:ItAt G s'.heap W₂ I rest) (l₀:s'.heap.PlainList L (List.toArray vs)) (r₀:RepL G s'.heap W₂ vs done)
  (hc:Xl x fc fe ρ rest=some r2) (hr:done ++ r2=rs) (hz:vs.length + rest.length <= 1000) (hk:k=rest.length):CompInv G n V ks' A cenv s W₂ I L x fc fe ρ rs k s'
theorem comp_loop{elt iter:Expr}{ifs:List Expr}{scope:Scope}{pos xp:Pos}{x:Str}{ks':Qi}{A:Around}{s:Shared}{W W2 O:Addr->Prop}{cenv:Env}{I L:Addr}{ρ:Qf}{rs:List D}
  {use:Option (Value->Sem Unit)}{Q:Value->Shared->Prop}{E:Value->Shared->Prop}{fc:Qf->Option Bool}{fe:Qf->Option D}
  (X:Qi2 G V ks' s W W2 O cenv I L [x])(hx:Excl s.heap V W)(hifs:Qi3 G n V ks' ifs fc)(helt:Zo G n V ks' elt fe)(hend:Qhk G V s W rs (model G.prog G.w) A Q E use)
  (rest done:List D)(vs:List Value)(s':Shared)(ρ' r2:_)(k0:Step G V s s')(c0:Cx G n V ks' A cenv s' W2 ρ')(hρ:∀ d,upd ρ' x d=upd ρ x d)(it0:ItAt G s'.heap W2 I rest)(l₀:s'.heap.PlainList L (List.toArray vs))(r0:RepL G s'.heap W2 vs done)
  (hc0:Xl x fc fe ρ rest=some r2)(hr0:done ++ r2=rs)(hz0:vs.length + rest.length <= 1000):
  codeAny (model G.prog G.w) A (.compLoop (.ListComp elt [⟨.Name x xp,iter,ifs,0⟩] scope pos) 0 (.ref I) (.ref L) cenv) (compPost (model G.prog G.w) A E use Q (.ref L) cenv.locals) s':=by
 have notV:∀ a,s.heap.get? a=none->¬ V a:=fun a e q=>by
  obtain ⟨o,e'⟩:=hx.live a (hx.sub a q)
  rw [e] at e';exact nSo e'
 have hCI:cenv.locals≠I:=fun e=>X.oI (e ▸ X.loc)
 have hCL:cenv.locals≠L:=fun e=>X.oL (e ▸ X.loc)
 refine codeAny_compLoop_tests
  (CompInv G n V ks' A cenv s W2 I L x fc fe ρ rs) ?_ rest.length ⟨rest,done,vs,ρ',r2,k0,c0,hρ,it0,l₀,r0,hc0,hr0,hz0,rfl⟩
 clear k0 c0 hρ it0 l₀ r0 hc0 hr0 hz0
 rintro k s₁ ⟨rest,done,vs,ρ',r2,k1,c1,hρ,it1,l1,r₁,hc,hr,hz,rfl⟩
 refine ob1_2 it1.cls fun oI eI tI=>?_
 obtain ⟨nL,eL⟩:=id l1
 have cls0:∀ (dt:Data),({ cls:=.type "list",data:=dt }:Obj).cls≠.type "frame":=fun _=>by show Value.type "list"≠_;decide
 cases rest with
 | nil=>
  simp only [Xl,Option.some.injEq] at hc
  subst hc
  rw [List.append_nil] at hr
  subst hr
  refine Qcf it1 c1.good.cold fun h' he=>?_
  have kx:Jm W2 s₁.heap h':=fun b o e hw _=>he b o (by
   rintro rfl
   rcases hw with hw | hw
   ·exact hw X.wI
   ·rw [eI] at e;obtain rfl:=Qo e;exact tI hw) e
  have k2:Step G V s { s₁ with heap:=h' }:=k1.ext he X.newI X.baseI
  have hn:∃ m,h'.Ns cenv.locals m:=ob4_2 c1.ns fun m o es ep e r=>⟨m,o,es,ep,he _ _ hCI e,r⟩
  have hl:h'.PlainList L (List.toArray vs):=⟨nL,he _ _ (Ne.symm X.iL) eL⟩
  have hend':=hend L cenv.locals { s₁ with heap:=h' } vs k2 X.newL (X.newO _ X.loc) (Ne.symm hCL) hn (X.baseO _ X.loc) hl ((r₁.mono kx).weak fun a ha=>ha.elim (X.wW a) fun q=>q ▸ X.wO _ X.loc)
  cases use with
  | none=>exact let ⟨m,hm⟩:=hn;⟨m,hm,fun h'' hs=>hend' h'' hs⟩
  | some u=>exact hend'
 | cons d rest=>
  simp only [Xl,Option.bind_eq_some_iff] at hc
  refine ob1_2 hc fun b hb hc=>?_
  refine Qbc it1 X.wI fun v h1 tk1 hs1 it2 rv2=>?_
  refine Zf ?_;intro Q0 E0
  have kI:Step G (fun a=>a=I) s₁ { s₁ with heap:=h1,toks:=tk1 }:=Qn hs1 rfl X.baseI (ob1_2 it2.cls fun o e _=>⟨o,e⟩) (fun o e t=>by rw [eI] at e;obtain rfl:=Qo e;exact tI t) it1.noFrm it1.noTab
  have c₂:=c1.stepU kI (fun a ha=>ha ▸ X.wI) hCI (fun y a ha q=>(X.cells y a ha).1 q)
  have kx2:=kI.keepX (W:=W2) (fun a ha=>ha ▸ X.wI)
  have k2:=k1.later kI (fun a ha=>.inl (ha ▸ X.newI))
  have l2:(Shared.heap { s₁ with heap:=h1,toks:=tk1 }).PlainList L (List.toArray vs):=⟨nL,kI.exact eL (.inl fun q=>X.iL q.symm) (cls0 _)⟩
  refine wpAny_assign_Name (Qt c₂ X.wO X.baseO (X.store x (.head _)) rv2 fun s3 k3 c3=>?_)
  refine Zf ?_;intro Q0 E0
  rw [hρ] at c3;replace c3:=c3
  have kx3:=k3.keepX X.wO
  have it3:=it2.mono kx3 (fun o e hf=>k3.exact e (.inl X.oI) hf)
  refine ob1_1 (id l2) fun nL2 eL2=>?_
  have l3:s3.heap.PlainList L (List.toArray vs):=⟨nL2,k3.exact eL2 (.inl X.oL) (cls0 _)⟩
  have r₃:=(r₁.mono kx2).mono kx3
  have k3':=k2.later k3 (fun a ha=>.inl (X.newO a ha))
  refine hifs A cenv s3 W2 _ b _ _ c3 hb fun s4 k4=>?_
  have c4:=c3.step k4
  have kx4:=k4.keepX c3.excl.sub
  have nVI:¬ V I:=notV I X.newI
  have nVL:¬ V L:=notV L X.newL
  have it4:=it3.mono kx4 (fun o e hf=>k4.exact e (.inl nVI) hf)
  refine ob1_1 (id l3) fun nL3 eL3=>?_
  have l4:s4.heap.PlainList L (List.toArray vs):=⟨nL3,k4.exact eL3 (.inl nVL) (cls0 _)⟩
  have r₄:=r₃.mono kx4
  have k4':=k3'.trans k4
  cases b with
  | false=>
   simp only [Bool.false_eq_true,if_false] at hc ⊢
   exact in1_2 rest.length (by simp) ⟨rest,done,vs,_,r2,k4',c4,fun d'=>by funext z;simp only [upd];split <;> rfl,it4,l4,r₄,hc,hr,by simp at hz;lia,rfl⟩
  | true=>
   simp only [if_true,Option.bind_eq_some_iff,Option.map_eq_some_iff] at hc ⊢
   refine ob1_2 hc ?_;intro a ha z0;refine ob1_2 z0 ?_;rintro r3 hr3 rfl
   refine helt A cenv s4 W2 _ a _ _ c4 ha fun y s5 k5 ry=>?_
   refine Zf ?_;intro Q0 E0
   have c₅:=c4.step k5
   have kx5:=k5.keepX c4.excl.sub
   have it5:=it4.mono kx5 (fun o e hf=>k5.exact e (.inl nVI) hf)
   refine ob1_1 (id l4) fun nL4 eL4=>?_
   have l5:s5.heap.PlainList L (List.toArray vs):=⟨nL4,k5.exact eL4 (.inl nVL) (cls0 _)⟩
   have r5:=r₄.mono kx5
   have k5':=k4'.trans k5
   refine wpAny_list_append_plain (hsz:=by refine wG List.size_toArray (wG sizeLine_eq ?_);lia) l5 fun h6 hl6 hs6=>?_
   have k6:Step G (fun a=>a=L) s5 { s5 with heap:=h6,toks:=s5.toks }:=Qn hs6 rfl X.baseL (ob1_1 hl6 fun _ e=>⟨_,e⟩)
    (fun o e t=>by refine ob1_1 l5 fun _ e'=>?_;rw [e] at e';obtain rfl:=Qo e';exact absurd t.1 (by show Value.type "list"≠_;decide)) (let ⟨_,e'⟩:=l5;Jr e' (by show Value.type "list"≠_;decide)) (let ⟨_,e'⟩:=l5;Qay e' (by show Value.type "list"≠_;decide))
   have kx6:=k6.keepX (W:=W2) (fun a ha=>ha ▸ X.wL)
   refine ⟨rest.length,by simp,rest,done ++ [a],vs ++ [y],_,r3,k5'.later k6 (fun a ha=>.inl (ha ▸ X.newL)),c₅.stepU k6 (fun a ha=>ha ▸ X.wL) hCL (fun y a ha q=>(X.cells y a ha).2 q),fun d'=>by funext z;simp only [upd];split <;> rfl,
    it5.mono kx6 (fun o e hf=>k6.exact e (.inl fun q=>X.iL q) hf),?_,(r5.mono kx6).snoc (ry.mono kx6),hr3,by rw [List.append_assoc];exact hr,by simp at hz ⊢;lia,rfl⟩
   have:List.toArray (vs ++ [y])=(List.toArray vs).push y:=by simp
   rw [this];exact hl6
end
section
variable {G:Amb}[Qab G] {n:Nat}{V:Addr->Prop}{ks:Qi}
theorem Qgr{env:Env}{scope:Scope}(he:EnvOk G V ks env):(relabel scope env).names=Qdu ks scope.names:=by
 unfold relabel Qdu
 refine List.map_congr_left fun p _=>?_
 obtain ⟨m,k⟩:=p
 have e:(env.scope.kind == ScopeKind.function)=true:=by rw [he.kind];rfl
 have e2:env.kindOf m=ks.lookup m:=by unfold Env.kindOf;rw [he.names]
 simp only [e,Bool.and_true,e2]
theorem Qf9{elt iter:Expr}{ifs:List Expr}{more:List Comprehension}{scope:Scope}{pos p xp:Pos}{x:Str}{xs:List Str}{A:Around}{env:Env}{s:Shared}{W:Addr->Prop}{ρ:Qf}{ds:List D}
  {use:Option (Value->Sem Unit)}{Q:Value->Shared->Prop}{E:Value->Shared->Prop}{fs:Qf->Option (List D)}
  (c:Cx G n V ks A env s W ρ)(hst:Qd1 ks scope xs)(hsrc:Qc3 G n V ks iter fs)(hfold:∀ v,foldedSetIterable iter env v=pure v)
  (hf:fs ρ=some ds)
  (hloop:∀ (s₄:Shared) (W2 O:Addr->Prop) (cenv:Env) (I L:Addr),Step G V s s₄->Qi2 G V (Qdu ks scope.names) s W W2 O cenv I L xs->Cx G n V (Qdu ks scope.names) A cenv s₄ W2 (fun y=>if y ∈ xs then none else ρ y)->
   ItAt G s₄.heap W2 I ds->s₄.heap.PlainList L (List.toArray [])->
   codeAny (model G.prog G.w) A (.compLoop (.ListComp elt (⟨.Name x xp,iter,ifs,0⟩ :: more) scope pos) 0 (.ref I) (.ref L) cenv) (compPost (model G.prog G.w) A E use Q (.ref L) cenv.locals) s₄):
  wpAny (model G.prog G.w) A (comprehension (.ListComp elt (⟨.Name x xp,iter,ifs,0⟩ :: more) scope pos) scope env p (newList []) false (eval iter env) use) Q E s:=by
 have hcl:∀ q ∈ scope.names,q.2=.free->∃ c,env.cells.lookup q.1=some c:=fun q hq hk=>c.ok.cells _ (hst.free q hq hk).2.1
 refine wpAny_comprehension_free rfl hfold (Qcn hcl) hst.kind hst.loc ?_
 refine hsrc A env s W ρ ds _ E c hf fun I s2 k2 hI it2=>?_
 refine wpAny_newObj_type ?_ (by show ([]:List Value).toArray.size <= sizeLine;exact Nat.zero_le _)
 refine Qdb (({ s2 with heap:=s2.heap.push { cls:=.type "list",data:=.seq ([]:List Value).toArray } }:Shared)) fun s3 hs3=>?_
 have h3:s3.heap=s2.heap.push { cls:=.type "list",dict:=none,data:=.seq ([]:List Value).toArray }:=by rw [← hs3]
 have k3:Step G V s2 s3:=by rw [← hs3];exact .push s2 _
 refine Qgg ?_
 generalize hL:s2.heap.objs.size=L
 have hC:s3.heap.objs.size=L + 1:=by rw [h3,Heap.size_push,hL]
 refine Qdb (cellsFrom (s3.heap.objs.size + 1) scope.names (Qc2 env.cells scope.names [])) fun cells hcells=>?_
 refine Qdb (({ s3 with heap:=pushCells (s3.heap.push { cls:=.type "dict",data:=.dict #[] }) scope.names }:Shared)) fun s₄ hs4=>?_
 have h4:s₄.heap=pushCells (s3.heap.push { cls:=.type "dict",data:=.dict #[] }) scope.names:=by rw [← hs4]
 have keep4:∀ b o,s3.heap.get? b=some o->s₄.heap.get? b=some o:=fun b o e=>by rw [h4];exact pushCells_keeps _ _ b o (Heap.get?_push_of_some _ e)
 have k4:Step G V s3 s₄:=by rw [← hs4];exact .of_heap (s:=s3) (tk:=s3.toks) fun b o e=>pushCells_keeps _ _ b o (Heap.get?_push_of_some _ e)
 have k24:Step G V s s₄:=(k2.trans k3).trans k4
 have c₄:=c.step k24
 let O:Addr->Prop:=fun a=>s3.heap.get? a=none∧∃ o,s₄.heap.get? a=some o
 let W2:Addr->Prop:=fun a=>((W a∨a=I)∨a=L)∨O a
 have newL2:s2.heap.get? L=none:=by rw [← hL];exact Heap.get?_none_of_le (Nat.le_refl _)
 have newX2:Qd0 s2.heap (fun a=>W a∨a=I) W2:=fun a o e hw=>by
  rcases hw with (hw | hw) | hw
  ·exact hw
  ·rw [hw,newL2] at e;exact nSo e
  ·have:=k3.get_none hw.1;rw [this] at e;exact nSo e
 have keep3:∀ b o,s2.heap.get? b=some o->s3.heap.get? b=some o:=fun b o e=>by rw [h3];exact Heap.get?_push_of_some _ e
 have noBase:∀ a,s.heap.get? a=none->G.h₀.get? a=none:=fun a e=>by
  cases q:G.h₀.get? a with
  | none=>rfl
  | some o=>rw [c.good.base a o q] at e;exact noS e
 refine ob1_2 it2.cls fun oI eI tI=>?_
 have eI4:=keep4 _ _ (keep3 _ _ eI)
 have eL3:s3.heap.get? L=some { cls:=.type "list",dict:=none,data:=.seq ([]:List Value).toArray }:=by rw [h3,← hL];exact Heap.get?_push_size _ rfl
 have newL:s.heap.get? L=none:=k2.get_none newL2
 have newO:∀ a,O a->s.heap.get? a=none:=fun a ha=>(k2.trans k3).get_none ha.1
 have iL:I≠L:=fun e=>by rw [e,newL2] at eI;exact nSo eI
 have nsC:s₄.heap.Ns s3.heap.objs.size (fun _=>none):=by rw [h4];exact (Heap.Ns.new s3.heap (.type "dict")).keeps (pushCells_keeps _ _)
 have oC:O s3.heap.objs.size:=⟨Heap.get?_none_of_le (Nat.le_refl _),ob3_2 nsC fun o _ _ e _=>⟨o,e⟩⟩
 have cellFact:∀ y a,cells.lookup y=some a->(env.cells.lookup y=some a∧(y,NameKind.free) ∈ scope.names)∨((y ∈ xs∧(y,NameKind.cell) ∈ scope.names)∧L + 1 < a∧s₄.heap.IsCell a none∧O a):=fun y a e=>by
  have hm:=mem_of_lookup e
  rw [← hcells,show s3.heap.objs.size + 1=(s3.heap.push { cls:=.type "dict",data:=.dict #[] }).objs.size from (Heap.size_push ..).symm] at hm
  rcases Qax hm with hm | ⟨h1,h2,h3'⟩
  ·rcases Qiu hm with hm | ⟨h1,h2⟩
   ·cases hm
   ·exact .inl ⟨h2,h1⟩
  ·rw [Heap.size_push,hC] at h2
   rw [← h4] at h3'
   refine .inr ⟨⟨hst.own _ h1 rfl,h1⟩,h2,h3',Heap.get?_none_of_le (by rw [hC];lia),?_⟩
   refine ob1_2 h3' fun o e _=>?_
   exact ⟨o,e⟩
 refine Qdb (({ newEnv scope s3.heap.objs.size env.globals cells env.qual none .none (some env) builtinsNs with scope:=relabel scope env }:Env)) fun cenv hcenv=>?_
 have e_scope:cenv.scope=relabel scope env:=by rw [← hcenv]
 have e_loc:cenv.locals=s3.heap.objs.size:=by rw [← hcenv];rfl
 have e_cells:cenv.cells=cells:=by rw [← hcenv];rfl
 have e_glob:cenv.globals=env.globals:=by rw [← hcenv];rfl
 have e_bi:cenv.builtins=env.builtins:=by rw [← hcenv];rfl
 have freeKs:∀ y,(y,NameKind.free) ∈ scope.names->y ∉ xs∧(ks.lookup y=some .cell∨ks.lookup y=some .free)∧(y == ("__classdict__":Str))=false:=fun y hy=>hst.free _ hy rfl
 have lookFree:∀ y c',(y,NameKind.free) ∈ scope.names->env.cells.lookup y=some c'->cells.lookup y=some c':=fun y c' hy e=>by
  have hm:(y,c') ∈ cells:=by rw [← hcells];exact Jp (Qiv hy e)
  refine ob1_1 (Za hm) fun c'' e''=>?_
  rcases cellFact y c'' e'' with ⟨q,_⟩ | ⟨q,_⟩
  ·rw [e] at q;rw [e''];exact q.symm
  ·exact absurd q.1 (freeKs y hy).1
 have eok:EnvOk G V (Qdu ks scope.names) cenv:=by
  refine ⟨by rw [e_scope];exact hst.kind,by rw [e_scope];exact Qgr c.ok,by rw [e_glob];exact c.ok.globals,by rw [e_bi];exact c.ok.builtins,fun y hy=>?_,⟨fun q=>?_,fun y a e q=>?_⟩,fun y y' a e e'=>?_⟩
  ·rw [e_cells]
   have:(y,NameKind.cell) ∈ scope.names∨(y,NameKind.free) ∈ scope.names:=by
    rcases hy with hy | hy
    ·rcases Qbi hy with h | ⟨h,_⟩
     ·exact .inl h
     ·exact .inr h
    ·rcases Qbi hy with h | ⟨_,h⟩
     ·exact .inr h
     ·cases h
   rcases this with h | h
   ·refine ob1_1 (Xe (n:=s3.heap.objs.size + 1) (acc:=Qc2 env.cells scope.names []) h) fun c' hc'=>?_
    rw [hcells] at hc'
    exact Za hc'
   ·refine ob1_1 (hcl _ h rfl) fun c' hc'=>?_
    exact ⟨c',lookFree y c' h hc'⟩
  ·rw [e_loc] at q
   refine ob1_1 (c.excl.live _ (c.excl.sub _ q)) fun o e=>?_
   rw [newO _ oC] at e;exact nSo e
  ·rw [e_cells] at e;replace e:=e
   rcases cellFact y a e with ⟨h,_⟩ | ⟨_,_,_,h⟩
   ·exact c.ok.apart.2 y a h q
   ·refine ob1_1 (c.excl.live _ (c.excl.sub _ q)) fun o e'=>?_
    rw [newO _ h] at e';exact nSo e'
  ·rw [e_cells] at e e'
   rcases cellFact y a e with ⟨h,_⟩ | ⟨hx,_,_,h⟩ <;> rcases cellFact y' a e' with ⟨h',_⟩ | ⟨hx',_,_,h'⟩
   ·exact c.ok.inj y y' a h h'
   ·refine ob2_2 (c.cellsAt y a h) fun v o e1 _=>?_
    rw [newO a h'] at e1;exact nSo e1
   ·refine ob2_2 (c.cellsAt y' a h') fun v o e1 _=>?_
    rw [newO a h] at e1;exact nSo e1
   ·exact hst.oneCell y hx.1 y' hx'.1 hx.2 hx'.2
 have hfoldW:∀ a,W a->W2 a:=fun a ha=>.inl (.inl (.inl ha))
 have exW:Excl s₄.heap V W2:=⟨fun a ha=>hfoldW a (c.excl.sub a ha),fun a ha=>by
  rcases ha with ((ha | ha) | ha) | ha
  ·exact c₄.excl.live a ha
  ·exact ⟨oI,ha ▸ eI4⟩
  ·exact ⟨_,ha ▸ keep4 _ _ eL3⟩
  ·exact ha.2⟩
 have nx4:Qd0 s.heap W W2:=fun a o e hw=>by
  rcases hw with ((hw | hw) | hw) | hw
  ·exact hw
  ·rw [hw,hI] at e;exact nSo e
  ·rw [hw,newL] at e;exact nSo e
  ·rw [newO a hw] at e;exact nSo e
 have c4:Cx G n V (Qdu ks scope.names) A cenv s₄ W2 (fun y=>if y ∈ xs then none else ρ y):=by
  refine ⟨c₄.good,eok,exW,fun y d hv hd=>?_,⟨_,by rw [e_loc];exact nsC⟩,fun y a e=>?_⟩
  ·have hy:y ∉ xs:=fun q=>by simp [q] at hd
   simp only [hy,if_false] at hd;replace hd:=hd
   have hfree:(y,NameKind.free) ∈ scope.names:=by
    rcases Qkj hv with hk | hk | hk
    ·rcases Qbi hk with h | ⟨h,_⟩
     ·rcases hst.ownL _ h rfl with e | e
      ·exact absurd e hy
      ·exact absurd e (Qgi hv)
     ·exact h
    ·rcases Qbi hk with h | ⟨h,_⟩
     ·exact absurd (hst.own _ h rfl) hy
     ·exact h
    ·rcases Qbi hk with h | ⟨h,_⟩
     ·exact h
     ·exact h
   have hk:=(freeKs y hfree).2.1
   have hvis:Vis ks y=true:=by
    refine hk.elim (fun hk=>?_) fun hk=>?_
    ·exact vis_of hk (.inr (.inl rfl)) (Qgi hv)
    ·exact vis_of hk (.inr (.inr rfl)) (Qgi hv)
   refine ob1_2 (c₄.vars y d hvis hd) fun v a b=>?_
   refine in1_2 v ?_ ?_
   ·have ekind:env.kindOf y=ks.lookup y:=by unfold Env.kindOf;rw [c.ok.names]
    rcases a with ⟨a,_⟩ | ⟨_,_,q,hq,hv'⟩
    ·rw [ekind] at a;rcases hk with hk | hk <;> (rw [hk] at a;cases a)
    ·refine .inr ⟨?_,(freeKs y hfree).2.2,q,by rw [e_cells];exact lookFree y q hfree hq,hv'⟩
     unfold Env.kindOf
     rw [eok.names]
     rcases Qkj hv with hk' | hk' | hk'
     ·rcases Qbi hk' with h | ⟨_,h⟩
      ·rcases hst.ownL _ h rfl with e | e
       ·exact absurd e hy
       ·exact absurd e (Qgi hv)
      ·cases h
     ·exact .inl hk'
     ·exact .inr hk'
   ·
    refine ob1_2 (c.vars y d hvis hd) fun v' a' b'=>?_
    have:v'=v:=by
     have s4:=a'.step k24 c.ok
     rcases s4 with ⟨q1,m1,n1,e1⟩ | ⟨q1,_,cc,l1,z1⟩ <;> rcases a with ⟨q2,m2,n2,e2⟩ | ⟨q2,_,cc2,l2,z2⟩
     ·rw [Qh6 n1 n2] at e1;rw [e1] at e2;exact Option.some.inj e2
     ·rw [q1] at q2;rcases q2 with q2 | q2 <;> cases q2
     ·rw [q2] at q1;rcases q1 with q1 | q1 <;> cases q1
     ·rw [l1] at l2;obtain rfl:=Qo l2
      refine ob1_2 z1 fun o1 f1 g1=>?_;refine ob1_2 z2 fun o2 f2 g2=>?_
      rw [f1] at f2;obtain rfl:=Qo f2;rw [g1] at g2;cases g2;rfl
    rw [← this]
    exact (b'.strong nx4).mono (k24.keepX fun a ha=>hfoldW a (c.excl.sub a ha))
  ·rw [e_cells] at e
   rcases cellFact y a e with ⟨h,_⟩ | ⟨_,_,h,_⟩
   ·exact c₄.cellsAt y a h
   ·exact ⟨_,h⟩
 have X:Qi2 G V (Qdu ks scope.names) s W W2 O cenv I L xs:=by
  refine ⟨.inl (.inl (.inr rfl)),.inl (.inr rfl),fun a ha=>.inr ha,hfoldW,fun q=>?_,fun q=>?_,iL,hI,newL,newO,noBase I hI,noBase L newL,fun a ha=>noBase a (newO a ha),by rw [e_loc];exact oC,fun x hx=>⟨by rw [e_loc];exact oC,?_,hst.noCd x hx⟩,fun y a e=>?_⟩
  ·have:=keep3 _ _ eI;rw [q.1] at this;exact nSo this
  ·rw [q.1] at eL3;exact nSo eL3
  ·rcases hst.here x hx with h | h
   ·exact .inl (Qcv (names:=[]) (.inl rfl) h)
   ·refine .inr ⟨Qcv (names:=[]) (.inr rfl) h,fun a e=>?_⟩
    rw [e_cells] at e
    rcases cellFact x a e with ⟨_,h'⟩ | ⟨_,_,_,h'⟩
    ·exact absurd hx (freeKs x h').1
    ·exact h'
  ·rw [e_cells] at e
   rcases cellFact y a e with ⟨h,_⟩ | ⟨_,h1,_,h2⟩
   ·refine ob2_2 (c.cellsAt y a h) fun v o e1 _=>?_
    exact ⟨fun q=>(by rw [q,hI] at e1;exact nSo e1),fun q=>(by rw [q,newL] at e1;exact nSo e1)⟩
   ·exact ⟨fun q=>(by have:=keep3 _ _ eI;rw [← q,h2.1] at this;exact nSo this),fun q=>(by rw [q] at h1;exact absurd h1 (Nat.not_lt_of_le (Nat.le_succ L)))⟩
 have kx4:Jm W2 s2.heap s₄.heap:=fun b o e _ _=>keep4 _ _ (keep3 _ _ e)
 have it4:ItAt G s₄.heap W2 I ds:=(it2.strong newX2).mono kx4 fun o e _=>keep4 _ _ (keep3 _ _ e)
 have l4:s₄.heap.PlainList L (List.toArray []):=⟨0,keep4 _ _ eL3⟩
 have loop:=hloop s₄ W2 O cenv I L k24 X c4 it4 l4
 rw [e_loc] at loop
 subst hcenv
 exact codeAny_compStart_list loop (Qen it4 loop)
theorem Qck{elt iter:Expr}{ifs:List Expr}{scope:Scope}{pos p xp:Pos}{x:Str}{A:Around}{env:Env}{s:Shared}{W:Addr->Prop}{ρ:Qf}{ds rs:List D}
  {use:Option (Value->Sem Unit)}{Q:Value->Shared->Prop}{E:Value->Shared->Prop}{fs:Qf->Option (List D)}{fc:Qf->Option Bool}{fe:Qf->Option D}
  (c:Cx G n V ks A env s W ρ)(hst:Qd1 ks scope [x])(hsrc:Qc3 G n V ks iter fs)(hfold:∀ v,foldedSetIterable iter env v=pure v)(hifs:Qi3 G n V (Qdu ks scope.names) ifs fc)(helt:Zo G n V (Qdu ks scope.names) elt fe)
  (hf:fs ρ=some ds)(hz:ds.length <= 1000)(hc:Xl x fc fe ρ ds=some rs)(hend:Qhk G V s W rs (model G.prog G.w) A Q E use):
  wpAny (model G.prog G.w) A (comprehension (.ListComp elt [⟨.Name x xp,iter,ifs,0⟩] scope pos) scope env p (newList []) false (eval iter env) use) Q E s:=by
 refine Qf9 c hst hsrc hfold hf fun s4 W2 O cenv I L k24 X c4 it4 l4=>?_
 exact comp_loop (elt:=elt) (iter:=iter) (pos:=pos) (xp:=xp) (scope:=scope) (use:=use) (Q:=Q) (E:=E) X c.excl hifs helt hend ds [] [] s4 _ rs k24 c4
  (fun d=>by funext z;simp only [upd,List.mem_singleton];split <;> simp_all) it4 l4 trivial hc rfl (by simpa using hz)
theorem Jg{elt iter:Expr}{ifs:List Expr}{scope:Scope}{pos xp:Pos}{x:Str}{fs:Qf->Option (List D)}{fc:Qf->Option Bool}{fe:Qf->Option D}
  (hst:Qbm ks scope x=true)(hsrc:Qc3 G n V ks iter fs)(hfold:∀ env v,foldedSetIterable iter env v=pure v)(hifs:Qi3 G n V (Qdu ks scope.names) ifs fc)(helt:Zo G n V (Qdu ks scope.names) elt fe):
  Zo G n V ks (.ListComp elt [⟨.Name x xp,iter,ifs,0⟩] scope pos) (fun ρ=>(fs ρ).bind fun ds=>if ds.length <= 1000 then (Xl x fc fe ρ ds).bind Qcs else none):=by
 intro A env s W ρ d Q E c hf h
 simp only [Option.bind_eq_some_iff] at hf
 refine ob1_2 hf fun ds hds hf=>?_
 split at hf
 ·rename_i hz
  simp only [Option.bind_eq_some_iff] at hf
  refine ob1_2 hf fun rs hrs hp=>?_
  rw [eval_ListComp]
  refine Qck (use:=none) c (Qav hst) hsrc (hfold env) hifs helt hds hz hrs ?_
  intro L C s' vs k nL nC hLC hn bC hl r h' hs
  have k':Step G V s { s' with heap:=h' }:=k.ext hs.extBut nC bC
  have kx:Jm (fun a=>W a∨a=C) s'.heap h':=fun b o e hw _=>hs.extBut b o (by
   rintro rfl
   rcases hw with hw | ⟨hc,xs,m,hq⟩
   ·exact hw (.inr rfl)
   ·refine ob4_3 hn fun m' o' es ep e' d' _=>?_
    rw [e] at e';obtain rfl:=Qo e';rw [hq] at d';cases d') e
  have hL:¬ W L:=c.excl.fresh nL
  have hl':h'.IsList L (List.toArray vs):=Qs (Heap.PlainList.isList hl) kx (fun q=>q.elim hL hLC)
  exact h _ _ k' (Qds ((r.mono kx).weak fun a ha=>.inl ha) hp hL hl')
 ·exact nSo hf
end
section
open PySem.AutoSeq1 (wpAny_loadPart')
open PySem.MeetsSeq PySem.MeetsSeq2 PySem.MeetsSeq3 PySem.SeqAt
noncomputable def ltL:List Str->List Str->Bool
 | _,[]=>false
 | [],_ :: _=>true
 | x :: xs,y :: ys=>if x == y then ltL xs ys else decide (x.cps.toList < y.cps.toList)
noncomputable def Zv(vs:List Value)(xs:List Str):Prop:=vs.length=xs.length∧∀ (j:Nat) (x:Str),xs[j]?=some x->∃ t:Tok,vs[j]?=some (Value.str x t)
theorem Qy{h:Heap}{W:Addr->Prop}:∀ {vs:List Value}{xs:List Str},RepDs h W vs (xs.map .str)->Zv vs xs
 | vs,[],x=>by rw [x.inv_nil];exact ⟨rfl,fun j x e=>by simp at e⟩
 | vs,y :: xs,x=>by
  refine ob2_3 x.inv ?_;rintro v vs' rfl a b
  obtain ⟨t,rfl⟩:=a.str_inv
  have ih:=Qy b
  refine ⟨by simp [ih.1],fun j x e=>?_⟩
  cases j with
  | zero=>simp at e;subst e;exact ⟨t,by simp⟩
  | succ j=>simpa using ih.2 j x (by simpa using e)
theorem lt_loopAt(l b:Addr)(vs us:List Value)(n n2:Nat)(dd dd2:Option Addr)(sl sl2:Array (Option Value))(xs ys:List Str)(hx:Zv vs xs)(hy:Zv us ys)(k:Nat):
  ∀ i:Nat,i <= vs.length->i <= us.length->vs.length - i=k->Meets (Builtin.«list.__eq__.loop» ⟨[.ref l,.ref b,rawInt i,rawInt 0],[]⟩)
   (fun _ R s=>s.heap.get? l=some { cls:=.type "list",dict:=dd,data:=.seq (List.toArray vs) n,slots:=sl }∧s.heap.get? b=some { cls:=.type "list",dict:=dd2,data:=.seq (List.toArray us) n2,slots:=sl2 }∧
    R (.ok (.ret (.bool (ltL (xs.drop i) (ys.drop i))))) s):=by
 induction k with
 | zero=>
  intro i hiv hiu hk prog w A R s h
  obtain ⟨hp,g,d,tk,os⟩:=s;refine Jo h fun hl hb h=>?_
  wp_walk using wpAny_loadPart' hl,wpAny_loadPart' hb
  have hi1:(List.toArray vs)[((i:Nat):Int).toNat]?=none:=by simp;omega
  have hd:xs.drop i=[]:=by have:=hx.1;simp;omega
  rw [hd] at h;replace h:=h
  rw [hi1]
  have hdec:(ltL ([]:List Str) (ys.drop i))=decide (vs.length < us.length):=by
   have:=hx.1
   cases hyd:ys.drop i with
   | nil=>
    have:=hy.1
    have h2:ys.length <= i:=List.drop_eq_nil_iff.mp hyd
    have:¬ (vs.length < us.length):=by omega
    rw [decide_eq_false this];rfl
   | cons y r=>
    have:=hy.1
    have h2:i < ys.length:=by
     rcases Nat.lt_or_ge i ys.length with q | q
     ·exact q
     ·rw [List.drop_of_length_le q] at hyd;cases hyd
    rw [show (ltL ([]:List Str) (y :: r))=decide (vs.length < us.length) from by
     have:(vs.length < us.length):=by omega
     rw [decide_eq_true this];rfl]
  rw [hdec] at h
  cases (List.toArray us)[((i:Nat):Int).toNat]? <;> (wp_walk using wpAny_loadPart' hl,wpAny_loadPart' hb;show R (.ok (.ret (.bool (decide ((List.toArray vs).size < (List.toArray us).size))))) _;simpa using h)
 | succ k ih=>
  intro i hiv hiu hk prog w A R s h
  obtain ⟨hp,g,d,tk,os⟩:=s;refine Jo h fun hl hb h=>?_
  wp_walk using wpAny_loadPart' hl,wpAny_loadPart' hb
  have hlt:i < xs.length:=by have:=hx.1;omega
  refine ob1_1 (hx.2 i xs[i] (by simp [hlt])) fun t ht=>?_
  have hi1:(List.toArray vs)[((i:Nat):Int).toNat]?=some (.str xs[i] t):=by simpa using ht
  have hd:xs.drop i=xs[i] :: xs.drop (i + 1):=List.drop_eq_getElem_cons hlt
  rw [hd] at h
  rw [hi1]
  rcases Nat.lt_or_ge i ys.length with hlt2 | hge
  ·refine ob1_1 (hy.2 i ys[i] (by simp [hlt2])) fun t2 ht2=>?_
   have hi2:(List.toArray us)[((i:Nat):Int).toNat]?=some (.str ys[i] t2):=by simpa using ht2
   have hd2:ys.drop i=ys[i] :: ys.drop (i + 1):=List.drop_eq_getElem_cons hlt2
   have hc:((i:Int) + 1)=((i + 1:Nat):Int):=by push_cast;rfl
   rw [hd2] at h;replace h:=h
   rw [hi2]
   refine wpAny_bind (eqBool_str ?_)
   cases hb':xs[i] == ys[i] with
   | true=>
    have hb2:(ys[i] == xs[i])=true:=by rw [beq_iff_eq] at hb' ⊢;exact hb'.symm
    simp only [ltL,hb',hb2,if_true] at h
    wp_walk
    rw [hc]
    exact ⟨plainId_quiet plain_eq_loop _,codeAny_builtin entry_eq_loop (by
     rw [Around.under_plainId plain_eq_loop _]
     exact ih (i + 1) (by have:=hx.1;omega) (by have:=hy.1;omega) (congrArg Nat.pred hk) prog w A R _ ⟨hl,hb,h⟩)⟩
   | false=>
    have hb2:(ys[i] == xs[i])=false:=by rw [beq_eq_false_iff_ne] at hb' ⊢;exact hb'.symm
    simp only [ltL,hb',hb2,Bool.false_eq_true,if_false] at h
    wp_walk using wpAny_loadPart' hl,wpAny_loadPart' hb
    rw [hi1,hi2]
    dsimp only
    refine wpAny_bind ?_
    have cmp:∀ Q:Value->Shared->Prop,Q (.bool (decide (xs[i].cps.toList < ys[i].cps.toList))) ⟨hp,g,d,tk,os⟩->wpAny (model prog w) A.in1 (richCompare .Lt (.str xs[i] t) (.str ys[i] t2)) Q (fun e s'=>R (.error e) s') ⟨hp,g,d,tk,os⟩:=fun Q hq=>lt_str hq
    refine cmp _ ?_
    wp_walk
    exact h
  ·have hi2:(List.toArray us)[((i:Nat):Int).toNat]?=none:=by have:=hy.1;simp;omega
   have hd2:ys.drop i=[]:=List.drop_of_length_le hge
   rw [hd2] at h
   rw [hi2]
   wp_walk using wpAny_loadPart' hl,wpAny_loadPart' hb
   show R (.ok (.ret (.bool (decide (vs.length < us.length))))) _
   have:=hx.1
   have:=hy.1
   simp only [ltL] at h
   have e:decide (vs.length < us.length)=false:=by simp;omega
   rw [e];exact h
theorem Qia(l b:Addr)(vs us:List Value)(n n2:Nat)(dd dd2:Option Addr)(sl sl2:Array (Option Value))(xs ys:List Str)(hx:Zv vs xs)(hy:Zv us ys):
  Meets (Builtin.«list.__lt__» ⟨[.ref l,.ref b],[]⟩)
   (fun _ R s=>s.heap.get? l=some { cls:=.type "list",dict:=dd,data:=.seq (List.toArray vs) n,slots:=sl }∧s.heap.get? b=some { cls:=.type "list",dict:=dd2,data:=.seq (List.toArray us) n2,slots:=sl2 }∧
    R (.ok (.ret (.bool (ltL xs ys)))) s):=by
 intro prog w A R s h
 obtain ⟨hp,g,d,tk,os⟩:=s;refine Jo h fun hl hb h=>?_
 have f3:=AutoSeq1.sub_list_list
 wp_walk using wpAny_loadPart' hl,wpAny_loadPart' hb
 exact ⟨plainId_quiet plain_eq_loop _,codeAny_builtin entry_eq_loop (by
  rw [Around.under_plainId plain_eq_loop _]
  exact lt_loopAt l b vs us n n2 dd dd2 sl sl2 xs ys hx hy _ 0 (Nat.zero_le _) (Nat.zero_le _) rfl prog w A R _ ⟨hl,hb,by simpa using h⟩)⟩
theorem lt_lists{prog:Program}{w:World}{A:Around}{s:Shared}{E:Value->Shared->Prop}{Q:Value->Shared->Prop}{l b:Addr}{vs us:List Value}{xs ys:List Str}(hl:s.heap.IsList l (List.toArray vs))(hb:s.heap.IsList b (List.toArray us))(hx:Zv vs xs)(hy:Zv us ys)(hu:A.units < cLine)
  (h:Q (.bool (ltL xs ys)) s):wpAny (model prog w) A (compareOp .Lt (.ref l) (.ref b)) Q E s:=by
 refine ob1_3 (id hl) ?_;rintro ⟨cls,dd,data,sl⟩ ho hc ⟨n,hd⟩
 refine ob1_3 (id hb) ?_;rintro ⟨cls2,dd2,data2,sl2⟩ ho2 hc2 ⟨n2,hd2⟩
 simp only at hc hd hc2 hd2
 subst hc hd hc2 hd2
 exact richCompare_meets_room (op:=.Lt) ⟨_,ho,rfl⟩ ⟨_,ho2,rfl⟩ F.slot_list_lt F.entry_list_lt (F.args_list_lt_2 _ _) (Qia l b vs us n n2 dd dd2 sl sl2 xs ys hx hy)
  ⟨ho,ho2,show Value.bool _≠Value.notImplemented∧Q (.bool _) s from ⟨(fun x=>nomatch x),h⟩⟩ hu
theorem gt_loopAt(l b:Addr)(vs us:List Value)(n n2:Nat)(dd dd2:Option Addr)(sl sl2:Array (Option Value))(xs ys:List Str)(hx:Zv vs xs)(hy:Zv us ys)(k:Nat):
  ∀ i:Nat,i <= vs.length->i <= us.length->vs.length - i=k->Meets (Builtin.«list.__eq__.loop» ⟨[.ref l,.ref b,rawInt i,rawInt 4],[]⟩)
   (fun _ R s=>s.heap.get? l=some { cls:=.type "list",dict:=dd,data:=.seq (List.toArray vs) n,slots:=sl }∧s.heap.get? b=some { cls:=.type "list",dict:=dd2,data:=.seq (List.toArray us) n2,slots:=sl2 }∧
    R (.ok (.ret (.bool (ltL (ys.drop i) (xs.drop i))))) s):=by
 induction k with
 | zero=>
  intro i hiv hiu hk prog w A R s h
  obtain ⟨hp,g,d,tk,os⟩:=s;refine Jo h fun hl hb h=>?_
  wp_walk using wpAny_loadPart' hl,wpAny_loadPart' hb
  have hi1:(List.toArray vs)[((i:Nat):Int).toNat]?=none:=by simp;omega
  have hd:xs.drop i=[]:=by have:=hx.1;simp;omega
  rw [hd] at h;replace h:=h
  rw [hi1]
  have hdec:(ltL (ys.drop i) ([]:List Str))=decide (vs.length > us.length):=by
   have:=hx.1
   cases hyd:ys.drop i with
   | nil=>
    have:=hy.1
    have h2:ys.length <= i:=List.drop_eq_nil_iff.mp hyd
    have:¬ (vs.length > us.length):=by omega
    rw [decide_eq_false this];rfl
   | cons y r=>
    have:=hy.1
    have h2:i < ys.length:=by
     rcases Nat.lt_or_ge i ys.length with q | q
     ·exact q
     ·rw [List.drop_of_length_le q] at hyd;cases hyd
    rw [show (ltL (y :: r) ([]:List Str))=decide (vs.length > us.length) from by
     have:¬ (vs.length > us.length):=by omega
     rw [decide_eq_false this];rfl]
  rw [hdec] at h
  cases (List.toArray us)[((i:Nat):Int).toNat]? <;> (wp_walk using wpAny_loadPart' hl,wpAny_loadPart' hb;show R (.ok (.ret (.bool (decide ((List.toArray vs).size > (List.toArray us).size))))) _;simpa using h)
 | succ k ih=>
  intro i hiv hiu hk prog w A R s h
  obtain ⟨hp,g,d,tk,os⟩:=s;refine Jo h fun hl hb h=>?_
  wp_walk using wpAny_loadPart' hl,wpAny_loadPart' hb
  have hlt:i < xs.length:=by have:=hx.1;omega
  refine ob1_1 (hx.2 i xs[i] (by simp [hlt])) fun t ht=>?_
  have hi1:(List.toArray vs)[((i:Nat):Int).toNat]?=some (.str xs[i] t):=by simpa using ht
  have hd:xs.drop i=xs[i] :: xs.drop (i + 1):=List.drop_eq_getElem_cons hlt
  rw [hd] at h
  rw [hi1]
  rcases Nat.lt_or_ge i ys.length with hlt2 | hge
  ·refine ob1_1 (hy.2 i ys[i] (by simp [hlt2])) fun t2 ht2=>?_
   have hi2:(List.toArray us)[((i:Nat):Int).toNat]?=some (.str ys[i] t2):=by simpa using ht2
   have hd2:ys.drop i=ys[i] :: ys.drop (i + 1):=List.drop_eq_getElem_cons hlt2
   have hc:((i:Int) + 1)=((i + 1:Nat):Int):=by push_cast;rfl
   rw [hd2] at h;replace h:=h
   rw [hi2]
   refine wpAny_bind (eqBool_str ?_)
   cases hb':xs[i] == ys[i] with
   | true=>
    have hb2:(ys[i] == xs[i])=true:=by rw [beq_iff_eq] at hb' ⊢;exact hb'.symm
    simp only [ltL,hb',hb2,if_true] at h
    wp_walk
    rw [hc]
    exact ⟨plainId_quiet plain_eq_loop _,codeAny_builtin entry_eq_loop (by
     rw [Around.under_plainId plain_eq_loop _]
     exact ih (i + 1) (by have:=hx.1;omega) (by have:=hy.1;omega) (congrArg Nat.pred hk) prog w A R _ ⟨hl,hb,h⟩)⟩
   | false=>
    have hb2:(ys[i] == xs[i])=false:=by rw [beq_eq_false_iff_ne] at hb' ⊢;exact hb'.symm
    simp only [ltL,hb',hb2,Bool.false_eq_true,if_false] at h
    wp_walk using wpAny_loadPart' hl,wpAny_loadPart' hb
    rw [hi1,hi2]
    dsimp only
    refine wpAny_bind ?_
    have cmp:∀ Q:Value->Shared->Prop,Q (.bool (decide (ys[i].cps.toList < xs[i].cps.toList))) ⟨hp,g,d,tk,os⟩->wpAny (model prog w) A.in1 (richCompare .Gt (.str xs[i] t) (.str ys[i] t2)) Q (fun e s'=>R (.error e) s') ⟨hp,g,d,tk,os⟩:=fun Q hq=>PySem.P.gt_str hq
    refine cmp _ ?_
    wp_walk
    exact h
  ·have hi2:(List.toArray us)[((i:Nat):Int).toNat]?=none:=by have:=hy.1;simp;omega
   have hd2:ys.drop i=[]:=List.drop_of_length_le hge
   rw [hd2] at h
   rw [hi2]
   wp_walk using wpAny_loadPart' hl,wpAny_loadPart' hb
   show R (.ok (.ret (.bool (decide (vs.length > us.length))))) _
   have:=hx.1
   have:=hy.1
   simp only [ltL] at h
   have e:decide (vs.length > us.length)=true:=by simp;omega
   rw [e];exact h
theorem list_gtAt(l b:Addr)(vs us:List Value)(n n2:Nat)(dd dd2:Option Addr)(sl sl2:Array (Option Value))(xs ys:List Str)(hx:Zv vs xs)(hy:Zv us ys):
  Meets (Builtin.«list.__gt__» ⟨[.ref l,.ref b],[]⟩)
   (fun _ R s=>s.heap.get? l=some { cls:=.type "list",dict:=dd,data:=.seq (List.toArray vs) n,slots:=sl }∧s.heap.get? b=some { cls:=.type "list",dict:=dd2,data:=.seq (List.toArray us) n2,slots:=sl2 }∧
    R (.ok (.ret (.bool (ltL ys xs)))) s):=by
 intro prog w A R s h
 obtain ⟨hp,g,d,tk,os⟩:=s;refine Jo h fun hl hb h=>?_
 have f3:=AutoSeq1.sub_list_list
 wp_walk using wpAny_loadPart' hl,wpAny_loadPart' hb
 exact ⟨plainId_quiet plain_eq_loop _,codeAny_builtin entry_eq_loop (by
  rw [Around.under_plainId plain_eq_loop _]
  exact gt_loopAt l b vs us n n2 dd dd2 sl sl2 xs ys hx hy _ 0 (Nat.zero_le _) (Nat.zero_le _) rfl prog w A R _ ⟨hl,hb,by simpa using h⟩)⟩
theorem gt_lists{prog:Program}{w:World}{A:Around}{s:Shared}{E:Value->Shared->Prop}{Q:Value->Shared->Prop}{l b:Addr}{vs us:List Value}{xs ys:List Str}(hl:s.heap.IsList l (List.toArray vs))(hb:s.heap.IsList b (List.toArray us))(hx:Zv vs xs)(hy:Zv us ys)(hu:A.units < cLine)
  (h:Q (.bool (ltL ys xs)) s):wpAny (model prog w) A (compareOp .Gt (.ref l) (.ref b)) Q E s:=by
 refine ob1_3 (id hl) ?_;rintro ⟨cls,dd,data,sl⟩ ho hc ⟨n,hd⟩
 refine ob1_3 (id hb) ?_;rintro ⟨cls2,dd2,data2,sl2⟩ ho2 hc2 ⟨n2,hd2⟩
 simp only at hc hd hc2 hd2
 subst hc hd hc2 hd2
 exact richCompare_meets_room (op:=.Gt) ⟨_,ho,rfl⟩ ⟨_,ho2,rfl⟩ F.slot_list_gt F.entry_list_gt (F.args_list_gt_2 _ _) (list_gtAt l b vs us n n2 dd dd2 sl sl2 xs ys hx hy)
  ⟨ho,ho2,show Value.bool _≠Value.notImplemented∧Q (.bool _) s from ⟨(fun x=>nomatch x),h⟩⟩ hu
end
noncomputable def okD(d:PyData):Bool:=d.canLay0 && decide (d.depth <= 9)
theorem Jf{d:PyData}(h:okD d=true):d.canLay0=true∧d.depth <= 9:=by simpa [okD] using h
noncomputable def Zq:List PyData->Option (List Str)
 | []=>some []
 | .str x :: r=>(Zq r).map (x :: ·)
 | _ :: _=>none
theorem Xh:∀ {l:List PyData}{xs:List Str},Zq l=some xs->l=xs.map .str
 | [],xs,h=>by obtain rfl:=Qo h;rfl
 | .str x :: r,xs,h=>by
  simp only [Zq,Option.map_eq_some_iff] at h;replace h:=h
  refine ob1_2 h ?_;rintro ys hy rfl
  refine wG (Xh hy) ?_;rfl
 | .none :: _,_,h=>by exact nSo h
 | .bool _ :: _,_,h=>by exact nSo h
 | .int _ :: _,_,h=>by exact nSo h
 | .list _ :: _,_,h=>by exact nSo h
 | .tuple _ :: _,_,h=>by exact nSo h
 | .dict _ :: _,_,h=>by exact nSo h
theorem strsOf?_map(xs:List Str):Zq (xs.map .str)=some xs:=by
 induction xs with
 | nil=>rfl
 | cons x r ih=>simp [Zq,ih]
noncomputable def addD(a b:D):Option D:=((aI a).bind fun a=>(aI b).bind fun b=>some (.data (.int (a + b)))).or ((aL a).bind fun xs=>(aL b).bind fun ys=>if xs.length + ys.length <= 1000 then some (.data (.list (xs ++ ys))) else none)
noncomputable def Qi9(a b:D):Option D:=((aI a).bind fun a=>(aI b).bind fun b=>some (.data (.int (a - b)))).or ((aB a).bind fun a=>(aB b).bind fun b=>some (.data (.int (b2i a - b2i b))))
noncomputable def mulD(a b:D):Option D:=(aI a).bind fun a=>(aI b).bind fun b=>if -(2 ^ 64) < a∧a < 2 ^ 64 then some (.data (.int (a * b))) else none
noncomputable def Qff(a b:D):Option D:=(aI a).bind fun a=>(aI b).bind fun b=>if 0 < b∧b < 1073741824 then some (.data (.int (a / b))) else none
noncomputable def Qdn(a b:D):Option D:=(aI a).bind fun a=>(aI b).bind fun b=>if 0 < b then some (.data (.int (a % b))) else none
noncomputable def powD(a b:D):Option D:=(aI a).bind fun a=>(aI b).bind fun b=>if 0 <= b∧b <= 1000000∧a.natAbs < 2 ^ 64 then some (.data (.int (a ^ b.toNat))) else none
noncomputable def eqD(a b:D):Option D:=(qD a).bind fun a=>(qD b).bind fun b=>if okD a && okD b then some (.data (.bool (PyData.eqv a b))) else none
noncomputable def neD(a b:D):Option D:=(qD a).bind fun a=>(qD b).bind fun b=>if okD a && okD b then some (.data (.bool (!PyData.eqv a b))) else none
noncomputable def ltD(a b:D):Option D:=((aI a).bind fun a=>(aI b).bind fun b=>some (.data (.bool (decide (a < b))))).or ((aL a).bind fun a=>(aL b).bind fun b=>(Zq a).bind fun x=>(Zq b).map fun y=>.data (.bool (ltL x y)))
noncomputable def gtD(a b:D):Option D:=((aI a).bind fun a=>(aI b).bind fun b=>some (.data (.bool (decide (a > b))))).or ((aL a).bind fun a=>(aL b).bind fun b=>(Zq a).bind fun x=>(Zq b).map fun y=>.data (.bool (ltL y x)))
noncomputable def geD(a b:D):Option D:=(aI a).bind fun a=>(aI b).bind fun b=>some (.data (.bool (decide (a ≥ b))))
noncomputable def inD(a b:D):Option D:=(qD a).bind fun a=>(aL b).bind fun xs=>if okD a && okD (.list xs) then some (.data (.bool (xs.any fun y=>PyData.eqv y a))) else none
noncomputable def Qej(a b:D):Option D:=(qD a).bind fun a=>(aL b).bind fun xs=>if okD a && okD (.list xs) then some (.data (.bool (!xs.any fun y=>PyData.eqv y a))) else none
noncomputable def isNone(d:D):Bool:=D.casesOn d (fun x=>PyData.casesOn x true (fun _=>false) (fun _=>false) (fun _=>false) (fun _=>false) (fun _=>false) (fun _=>false)) (fun _=>false) (fun _=>false) (fun _=>false) fun _=>false
noncomputable def isRw(d:D):Bool:=(qR d).isSome
theorem isRw_ne{a:D}(h:isRw a=false)(u:Value)(e:a=.raw u):False:=by subst e;cases h
theorem Qf1{d:D}(h:isNone d=true):d=.data .none:=by
 cases d with
 | data x=>cases x with
  | none=>rfl
  | _=>exact fT h
 | _=>exact fT h
noncomputable def isD(a b:D):Option D:=if isNone b then if isRw a then none else some (.data (.bool (isNone a))) else none
noncomputable def isNotD(a b:D):Option D:=if isNone b then if isRw a then none else some (.data (.bool (!isNone a))) else none
noncomputable def negD(a:D):Option D:=(aI a).bind fun a=>some (.data (.int (-a)))
section
variable {G:Amb}{n:Nat}{V:Addr->Prop}
theorem Qeg:Qe7 G n V (binaryOp .Add) addD:=by
 intro A s W v u a b d Q E g x rv ru e h
 unfold addD at e
 rcases orr e with e | e
 ·refine ob2_3 (ivI2 e) ?_;rintro x y rfl rfl e
  obtain rfl:=Qo e
  obtain ⟨t,rfl⟩:=RepD.int_inv rv
  obtain ⟨t',rfl⟩:=RepD.int_inv ru
  exact add_int (h _ _ (.toks s _) (RepD.int _ _))
 ·refine ob2_3 (ivL2 e) ?_;rintro xs ys rfl rfl e
  refine Qx (ifS e) fun hz e=>?_
  obtain rfl:=Qo e
  refine ob2_4 (RepD.list_iff rv) ?_;rintro a vs rfl wa la ra
  refine ob2_4 (RepD.list_iff ru) ?_;rintro b us rfl wb lb rb
  refine ob1_3 (id la) ?_;rintro ⟨cls,dd,data,sl⟩ ho hc ⟨m,hd⟩
  refine ob1_3 (id lb) ?_;rintro ⟨cls2,dd2,data2,sl2⟩ ho2 hc2 ⟨m2,hd2⟩
  simp only at hc hd hc2 hd2
  subst hc hd hc2 hd2
  have e1:List.toArray vs ++ List.toArray us=List.toArray (vs ++ us):=by simp
  have l1:=ra.length
  have l2:=rb.length
  refine concat_meets ⟨_,ho,rfl⟩ ⟨_,ho2,rfl⟩ noFill_list_add seq_list_add PySem.F.slot_list_add PySem.F.entry_list_add (PySem.F.args_list_add_2 _ _) (list_addW a b (List.toArray vs) (List.toArray us) m m2 dd dd2 sl sl2 (by rw [sizeLine_eq];simp;lia)) ⟨ho,ho2,?_⟩
  rw [e1]
  have k:Step G V s { s with heap:=s.heap.push { cls:=.type "list",data:=.seq (List.toArray (vs ++ us)) } }:=.push s _
  have kx:=k.keepX x.sub
  refine h _ _ k (RepD.list (x.new (Nat.le_refl _)) ⟨_,Heap.get?_push_size _ rfl,rfl,0,rfl⟩ ?_)
  have app:∀ {vs:List Value}{xs:List PyData},RepDs s.heap W vs xs->RepDs s.heap W (vs ++ us) (xs ++ ys):=by
   intro vs xs
   induction xs generalizing vs with
   | nil=>intro r;refine wG r.inv_nil ?_;exact rb
   | cons y r ih=>
    intro q
    refine ob2_3 q.inv ?_;rintro v' vs' rfl a' b'
    exact .cons a' (ih b')
  exact (app ra).mono kx
theorem Qef:Qe7 G n V (binaryOp .Sub) Qi9:=by
 intro A s W v u a b d Q E g x rv ru e h
 unfold Qi9 at e
 rcases orr e with e | e
 ·refine ob2_3 (ivI2 e) ?_;rintro x y rfl rfl e
  obtain rfl:=Qo e
  refine ob1_1 (RepD.int_inv rv) ?_;rintro t rfl
  refine ob1_1 (RepD.int_inv ru) ?_;rintro t' rfl
  exact PySem.P.sub_int (h _ _ (.toks s _) (RepD.int _ _))
 ·refine ob1_2 (ivB e) ?_;rintro x rfl e
  refine ob1_2 (ivB e) ?_;rintro y rfl e
  obtain rfl:=Qo e
  refine wG (RepD.bool_inv rv) (wG (RepD.bool_inv ru) ?_)
  exact sub_bool (h _ _ (.toks s _) (RepD.int _ _))
theorem Qky:Qe7 G n V (binaryOp .Mult) mulD:=by
 intro A s W v u a b d Q E g x rv ru e h
 unfold mulD at e
 refine ob2_3 (ivI2 e) ?_;rintro x y rfl rfl e
 refine Qx (ifS e) fun hz e=>?_
 obtain rfl:=Qo e
 obtain ⟨t,rfl⟩:=RepD.int_inv rv
 obtain ⟨t',rfl⟩:=RepD.int_inv ru
 exact PySem.P.mul_int (h _ _ (.toks s _) (RepD.int _ _)) (IntMulOk.of_left (intBits_le_64 hz.1 hz.2))
theorem Qbb:Qe7 G n V (binaryOp .FloorDiv) Qff:=by
 intro A s W v u a b d Q E g x rv ru e h
 unfold Qff at e
 refine ob2_3 (ivI2 e) ?_;rintro x y rfl rfl e
 refine Qx (ifS e) fun hz e=>?_
 obtain rfl:=Qo e
 obtain ⟨t,rfl⟩:=RepD.int_inv rv
 obtain ⟨t',rfl⟩:=RepD.int_inv ru
 exact floordiv_int (by lia) (by rw [PyProof.Rows.fdiv_eq _ hz.1];exact h _ _ (.toks s _) (RepD.int _ _)) (.inl (PyProof.noPylong_small (by lia)))
theorem Qas:Qe7 G n V (binaryOp .Mod) Qdn:=by
 intro A s W v u a b d Q E g x rv ru e h
 unfold Qdn at e
 refine ob2_3 (ivI2 e) ?_;rintro x y rfl rfl e
 refine Qx (ifS e) fun hz e=>?_
 obtain rfl:=Qo e
 obtain ⟨t,rfl⟩:=RepD.int_inv rv
 obtain ⟨t',rfl⟩:=RepD.int_inv ru
 exact mod_int' (by lia) (by rw [PyProof.Rows.fmod_eq _ hz];exact h _ _ (.toks s _) (RepD.int _ _))
theorem op_pow:Qe7 G n V (binaryOp .Pow) powD:=by
 intro A s W v u a b d Q E g x rv ru e h
 unfold powD at e
 refine ob2_3 (ivI2 e) ?_;rintro x y rfl rfl e
 refine Qx (ifS e) fun hz e=>?_
 obtain rfl:=Qo e
 obtain ⟨t,rfl⟩:=RepD.int_inv rv
 obtain ⟨t',rfl⟩:=RepD.int_inv ru
 exact pow_int_small hz.1 hz.2.1 hz.2.2 (h _ _ (.toks s _) (RepD.int _ _))
theorem room_eq{A:Around}{h:Heap}(g:Good G n A h){a b:PyData}(ha:okD a=true):A.units + min a.depth b.depth < cLine:=by
 have:=(Jf ha).2
 have:=g.units
 have:cLine=9900:=rfl
 have:min a.depth b.depth <= a.depth:=Nat.min_le_left _ _
 lia
theorem Qh4:Qe7 G n V (compareOp .Eq) eqD:=by
 intro A s W v u a b d Q E g x rv ru e h
 unfold eqD at e
 refine ob1_2 (ivD e) ?_;rintro x rfl e
 refine ob1_2 (ivD e) ?_;rintro y rfl e
 refine Qx (ifS e) fun hz e=>?_
 simp only [Bool.and_eq_true] at hz
 obtain rfl:=Qo e
 refine ob1_2 rv fun as ra _=>?_
 refine ob1_2 ru fun bs rb _=>?_
 exact SeqAt.compareEq_reads ra rb (Jf hz.1).1 (Jf hz.2).1 (room_eq g hz.1) (h _ _ .refl (RepD.bool _))
theorem Qfa:Qe7 G n V (compareOp .NotEq) neD:=by
 intro A s W v u a b d Q E g x rv ru e h
 unfold neD at e
 refine ob1_2 (ivD e) ?_;rintro x rfl e
 refine ob1_2 (ivD e) ?_;rintro y rfl e
 refine Qx (ifS e) fun hz e=>?_
 simp only [Bool.and_eq_true] at hz
 obtain rfl:=Qo e
 refine ob1_2 rv fun as ra _=>?_
 refine ob1_2 ru fun bs rb _=>?_
 exact SeqAt.compareNe_reads ra rb (Jf hz.1).1 (Jf hz.2).1 (room_eq g hz.1) (h _ _ .refl (RepD.bool _))
theorem Qcu{A:Around}{h:Heap}(g:Good G n A h):A.units < cLine:=by
 have:=g.units
 have:cLine=9900:=rfl
 lia
theorem op_lt:Qe7 G n V (compareOp .Lt) ltD:=by
 intro A s W v u a b d Q E g x rv ru e h
 unfold ltD at e
 rcases orr e with e | e
 ·refine ob2_3 (ivI2 e) ?_;rintro x y rfl rfl e
  obtain rfl:=Qo e
  obtain ⟨t,rfl⟩:=RepD.int_inv rv
  obtain ⟨t',rfl⟩:=RepD.int_inv ru
  exact PySem.P.lt_int (h _ _ .refl (RepD.bool _))
 ·refine ob2_3 (ivL2 e) ?_;rintro x y rfl rfl e
  simp only [Option.bind_eq_some_iff,Option.map_eq_some_iff] at e;replace e:=e
  refine ob1_2 e ?_;intro xs hx z0;refine ob1_2 z0 ?_;rintro ys hy rfl
  replace rv:=(Xh hx) ▸ rv
  rw [Xh hy] at ru;replace ru:=ru
  refine ob2_4 (RepD.list_iff rv) ?_;rintro a vs rfl wa la ra
  refine ob2_4 (RepD.list_iff ru) ?_;rintro b us rfl wb lb rb
  exact lt_lists la lb (Qy ra) (Qy rb) (Qcu g) (h _ _ .refl (RepD.bool _))
theorem op_gt:Qe7 G n V (compareOp .Gt) gtD:=by
 intro A s W v u a b d Q E g x rv ru e h
 unfold gtD at e
 rcases orr e with e | e
 ·refine ob2_3 (ivI2 e) ?_;rintro x y rfl rfl e
  obtain rfl:=Qo e
  obtain ⟨t,rfl⟩:=RepD.int_inv rv
  obtain ⟨t',rfl⟩:=RepD.int_inv ru
  exact PySem.P.gt_int (h _ _ .refl (RepD.bool _))
 ·refine ob2_3 (ivL2 e) ?_;rintro x y rfl rfl e
  simp only [Option.bind_eq_some_iff,Option.map_eq_some_iff] at e;replace e:=e
  refine ob1_2 e ?_;intro xs hx z0;refine ob1_2 z0 ?_;rintro ys hy rfl
  replace rv:=(Xh hx) ▸ rv
  rw [Xh hy] at ru;replace ru:=ru
  refine ob2_4 (RepD.list_iff rv) ?_;rintro a vs rfl wa la ra
  refine ob2_4 (RepD.list_iff ru) ?_;rintro b us rfl wb lb rb
  exact gt_lists la lb (Qy ra) (Qy rb) (Qcu g) (h _ _ .refl (RepD.bool _))
theorem op_ge:Qe7 G n V (compareOp .GtE) geD:=by
 intro A s W v u a b d Q E g x rv ru e h
 unfold geD at e
 refine ob2_3 (ivI2 e) ?_;rintro x y rfl rfl e
 obtain rfl:=Qo e
 obtain ⟨t,rfl⟩:=RepD.int_inv rv
 obtain ⟨t',rfl⟩:=RepD.int_inv ru
 exact PySem.P.ge_int (h _ _ .refl (RepD.bool _))
theorem Qkv{A:Around}{h:Heap}(g:Good G n A h){xs:List PyData}{b:PyData}(ha:okD b=true):A.units + 1 + min (PyData.depthAll xs) b.depth < cLine:=by
 have:=(Jf ha).2
 have:=g.units
 have:cLine=9900:=rfl
 have:min (PyData.depthAll xs) b.depth <= b.depth:=Nat.min_le_right _ _
 lia
theorem op_in:Qe7 G n V (compareOp .In) inD:=by
 intro A s W v u a b d Q E g x rv ru e h
 unfold inD at e
 refine ob1_2 (ivD e) ?_;rintro x rfl e
 refine ob1_2 (ivL e) ?_;rintro y rfl e
 refine Qx (ifS e) fun hz e=>?_
 simp only [Bool.and_eq_true] at hz
 obtain rfl:=Qo e
 refine ob1_2 rv fun as ra _=>?_
 refine ob1_2 ru fun bs rb _=>?_
 exact SeqAt.in_list_reads rb ra (by have:=(Jf hz.2).1;simpa [PyData.canLay0] using this) (Jf hz.1).1 (Qkv g hz.1) (h _ _ .refl (RepD.bool _))
theorem Qgw:Qe7 G n V (compareOp .NotIn) Qej:=by
 intro A s W v u a b d Q E g x rv ru e h
 unfold Qej at e
 refine ob1_2 (ivD e) ?_;rintro x rfl e
 refine ob1_2 (ivL e) ?_;rintro y rfl e
 refine Qx (ifS e) fun hz e=>?_
 simp only [Bool.and_eq_true] at hz
 obtain rfl:=Qo e
 refine ob1_2 rv fun as ra _=>?_
 refine ob1_2 ru fun bs rb _=>?_
 exact SeqAt.notIn_list_reads rb ra (by have:=(Jf hz.2).1;simpa [PyData.canLay0] using this) (Jf hz.1).1 (Qkv g hz.1) (h _ _ .refl (RepD.bool _))
theorem Qkw{G:Amb}{h:Heap}{W:Addr->Prop}{v:Value}{a:D}(r:Rep G h W v a)(hr:∀ u,a≠.raw u):plainIs v .none=true∧(v == .none)=isNone a:=by
 cases a with
 | raw u=>exact absurd rfl (hr u)
 | data d=>
  obtain ⟨as,r,_⟩:=r
  cases r <;> exact ⟨rfl,rfl⟩
 | ent e=>obtain ⟨x,dx,es,n,vu,vr,vd,vq,rfl,_⟩:=r;exact ⟨rfl,rfl⟩
 | ents l=>obtain ⟨x,vs,rfl,_⟩:=r;exact ⟨rfl,rfl⟩
 | plain l=>obtain ⟨x,vs,rfl,_⟩:=r;exact ⟨rfl,rfl⟩
theorem op_is:Qe7 G n V (compareOp .Is) isD:=by
 intro A s W v u a b d Q E g x rv ru e h
 unfold isD at e
 refine Qx (ifS e) fun hn e=>?_
 obtain rfl:=Qf1 hn
 have hr:isRw a=false:=by
  cases q:isRw a with
  | false=>rfl
  | true=>rw [q] at e;exact nSo e
 rw [hr] at e
 obtain rfl:=Qo e
 rw [RepD.none_inv ru]
 refine Qx (Qkw rv (isRw_ne hr)) fun p q=>?_
 exact wpAny_is_plain p (by rw [q];exact h _ _ .refl (RepD.bool _))
theorem op_isNot:Qe7 G n V (compareOp .IsNot) isNotD:=by
 intro A s W v u a b d Q E g x rv ru e h
 unfold isNotD at e
 refine Qx (ifS e) fun hn e=>?_
 obtain rfl:=Qf1 hn
 have hr:isRw a=false:=by
  cases q:isRw a with
  | false=>rfl
  | true=>rw [q] at e;exact nSo e
 rw [hr] at e
 obtain rfl:=Qo e
 rw [RepD.none_inv ru]
 refine Qx (Qkw rv (isRw_ne hr)) fun p q=>?_
 exact wpAny_isNot_plain p (by rw [q];exact h _ _ .refl (RepD.bool _))
theorem Qkk:UnOk G n V (unaryOp .USub) negD:=by
 intro A s W v a d Q E g x rv e h
 unfold negD at e
 refine ob1_2 (ivI e) ?_;rintro x rfl e
 obtain rfl:=Qo e
 refine ob1_1 (RepD.int_inv rv) ?_;rintro t rfl
 exact PySem.P.neg_int (h _ _ (.toks s _) (RepD.int _ _))
end
theorem addD_l(a b:List PyData):addD (.data (.list a)) (.data (.list b))=if a.length + b.length <= 1000 then some (.data (.list (a ++ b))) else none:=rfl
theorem subD_i(a b:Int):Qi9 (.data (.int a)) (.data (.int b))=some (.data (.int (a - b))):=rfl
theorem mulD_i(a b:Int):mulD (.data (.int a)) (.data (.int b))=if -(2 ^ 64) < a∧a < 2 ^ 64 then some (.data (.int (a * b))) else none:=rfl
theorem fdivD_i(a b:Int):Qff (.data (.int a)) (.data (.int b))=if 0 < b∧b < 1073741824 then some (.data (.int (a / b))) else none:=rfl
theorem fmodD_i(a b:Int):Qdn (.data (.int a)) (.data (.int b))=if 0 < b then some (.data (.int (a % b))) else none:=rfl
theorem powD_i(a b:Int):powD (.data (.int a)) (.data (.int b))=if 0 <= b∧b <= 1000000∧a.natAbs < 2 ^ 64 then some (.data (.int (a ^ b.toNat))) else none:=rfl
theorem geD_i(a b:Int):geD (.data (.int a)) (.data (.int b))=some (.data (.bool (decide (a ≥ b)))):=rfl
theorem eqD_d(a b:PyData):eqD (.data a) (.data b)=if okD a && okD b then some (.data (.bool (PyData.eqv a b))) else none:=rfl
theorem Qjs(a b:PyData):neD (.data a) (.data b)=if okD a && okD b then some (.data (.bool (!PyData.eqv a b))) else none:=rfl
theorem inD_d(a:PyData)(b:List PyData):inD (.data a) (.data (.list b))=if okD a && okD (.list b) then some (.data (.bool (b.any fun y=>PyData.eqv y a))) else none:=rfl
theorem Qk1(a:PyData)(b:List PyData):Qej (.data a) (.data (.list b))=if okD a && okD (.list b) then some (.data (.bool (!b.any fun y=>PyData.eqv y a))) else none:=rfl
theorem ltD_l(a b:List PyData):ltD (.data (.list a)) (.data (.list b))=(Zq a).bind fun x=>(Zq b).map fun y=>.data (.bool (ltL x y)):=rfl
theorem gtD_l(a b:List PyData):gtD (.data (.list a)) (.data (.list b))=(Zq a).bind fun x=>(Zq b).map fun y=>.data (.bool (ltL y x)):=rfl
theorem isD_n(a:PyData):isD (.data a) (.data .none)=some (.data (.bool (isNone (.data a)))):=rfl
theorem isNotD_n(a:PyData):isNotD (.data a) (.data .none)=some (.data (.bool (!isNone (.data a)))):=rfl
theorem isNone_n:isNone (.data .none)=true:=rfl
theorem isNone_i(i:Int):isNone (.data (.int i))=false:=rfl
theorem negD_i(i:Int):negD (.data (.int i))=some (.data (.int (-i))):=rfl
theorem subD_b(a b:Bool):Qi9 (.data (.bool a)) (.data (.bool b))=some (.data (.int (b2i a - b2i b))):=rfl
noncomputable def usedNames:List Str:=["len","range","sum","list","filter","set","sorted","enumerate","type","iter","next","int","TypeError","StopIteration","IndexError","object"]
noncomputable def Zp(G:Amb):Prop:=∀ x ∈ usedNames,G.mg x=none
section
variable {G:Amb}{n:Nat}{V:Addr->Prop}{ks:Qi}
theorem Qh{A:Around}{env:Env}{s:Shared}{E:Value->Shared->Prop}{M:Model}{x:Str}{v:Value}{pos:Pos}{Q:Value->Shared->Prop}(AG:Qv G)(hb:G.h₀.StaysIn s.heap)(he:EnvOk G V ks env)
  (hk:ks.lookup x=some .globalImplicit)(hm:G.mg x=none)(hv:bootBuiltins x=some v)(hn:x≠"__name__")(hd:(x == ("__debug__":Str))=false)(h:Q v s):wpAny M A (eval (.Name x pos) env) Q E s:=by
 refine Calls.Name_function_global he.kind (by unfold Env.kindOf;rw [he.names];exact hk) ?_ hd
 refine Calls.loadGlobal_builtin (by rw [he.globals];exact AG.g.keeps hb) hm (by rw [he.builtins];exact AG.b.keeps hb) ((AG.builtins x hn).trans hv) h
theorem Xc{A:Around}{env:Env}{s:Shared}{E:Value->Shared->Prop}{M:Model}{x:Str}{v:Value}{pos:Pos}{Q:Value->Shared->Prop}(AG:Qv G)(hb:G.h₀.StaysIn s.heap)(he:EnvOk G V ks env)
  (hk:ks.lookup x=some .globalImplicit)(hm:G.mg x=some v)(hd:(x == ("__debug__":Str))=false)(h:Q v s):wpAny M A (eval (.Name x pos) env) Q E s:=by
 refine Calls.Name_function_global he.kind (by unfold Env.kindOf;rw [he.names];exact hk) ?_ hd
 exact Calls.loadGlobal_global (by rw [he.globals];exact AG.g.keeps hb) hm h
noncomputable def Qb5(a b:D):Option D:=(aI b).bind fun i=>
 (aL a).elim ((aT a).elim ((qE a).bind fun l=>if 0 <= i∧i < 2 ^ 62 then (l[i.toNat]?).map .ent else none) fun l=>if 0 <= i∧i < l.length∧i < 2 ^ 62 then (l[i.toNat]?).map .data else none)
  fun l=>if 0 <= i∧i < 2 ^ 62 then (l[i.toNat]?).map .data else if i < 0∧-(l.length:Int) <= i∧l.length <= 1000 then (l[(i + l.length).toNat]?).map .data else none
theorem Qak{h:Heap}{W:Addr->Prop}:∀ {vs:List Value}{ds:List PyData}{i:Nat}{d:PyData},RepDs h W vs ds->ds[i]?=some d->∃ v,vs[i]?=some v∧RepD h W v d
 | vs,[],i,d,_,e=>by simp at e
 | vs,x :: ds,i,d,r,e=>by
  refine ob2_3 r.inv ?_;rintro v vs' rfl a b
  cases i with
  | zero=>simp at e;subst e;exact in1_2 v (by simp) a
  | succ i=>simpa using Qak b (by simpa using e)
theorem Qf6{h:Heap}{W:Addr->Prop}:∀ {vs:List Value}{ds:List Ent}{i:Nat}{d:Ent},EntsAt G h W vs ds->ds[i]?=some d->∃ v,vs[i]?=some v∧EntAt G h W v d
 | [],[],i,d,_,e=>by simp at e
 | v :: vs,x :: ds,i,d,r,e=>by
  cases i with
  | zero=>simp at e;subst e;exact in1_2 v (by simp) r.1
  | succ i=>simpa using Qf6 r.2 (by simpa using e)
 | [],_ :: _,_,_,r,_=>r.elim
 | _ :: _,[],_,_,r,_=>r.elim
theorem Zu{value slice:Expr}{pos:Pos}{f g:Qf->Option D}(hs:∀ l k u,subscripted slice false (.ref l) (.int k u)=operate [.ref l,.int k u] (getItem (.ref l) (.int k u)))
  (hv:Zo G n V ks value f)(hi:Zo G n V ks slice g):Zo G n V ks (.Subscript value slice pos) (fun ρ=>(f ρ).bind fun a=>(g ρ).bind fun b=>Qb5 a b):=by
 intro A env s W ρ d Q E c hf h
 simp only [Option.bind_eq_some_iff] at hf
 obtain ⟨a,ha,b,hb,hd⟩:=hf
 refine Subscript_ (hv A env s W ρ a _ E c ha fun v s₁ k1 r₁=>hi A env s₁ W ρ b _ E (c.step k1) hb fun u s2 k2 r₂=>?_)
 have r1':=(c.step k1).mono k2 r₁
 have k12:=k1.trans k2
 unfold Qb5 at hd
 refine ob1_2 (ivI hd) ?_;rintro i rfl hd
 obtain ⟨t,rfl⟩:=RepD.int_inv r₂
 rcases elL hd with hd | hd
 ·refine ob1_2 hd ?_;rintro l rfl hd
  refine ob2_4 (RepD.list_iff r1') ?_;rintro x vs rfl wx lx rx
  split at hd
  ·rename_i hz
   simp only [Option.map_eq_some_iff] at hd
   obtain ⟨d',hd',rfl⟩:=hd
   refine ob1_2 (Qak rx hd') fun y hy ry=>?_
   exact subscriptTail_builtinR lx.typeIs slot_list_getitem.lookup (wpAny_getItem_list lx hz.1 (by lia) (x:=y) (by simpa using hy) ⟨rfl,h y s2 k12 ry⟩) (hs _ _ _)
  ·split at hd
   ·rename_i hz
    simp only [Option.map_eq_some_iff] at hd;replace hd:=hd
    obtain ⟨d',hd',rfl⟩:=hd
    refine ob1_2 (Qak rx hd') fun y hy ry=>?_
    have hl:=rx.length
    exact subscriptTail_builtinR lx.typeIs slot_list_getitem.lookup (wpAny_getItem_list_neg lx hz.1 (by rw [List.size_toArray];lia) (by lia) (x:=y) (by refine wG List.size_toArray (wG hl ?_);simpa using hy) ⟨rfl,h y s2 k12 ry⟩) (hs _ _ _)
   ·exact nSo hd
 rcases elT hd with hd | hd
 ·refine ob1_2 hd ?_;rintro l rfl hd
  refine ob4_5 (RepD.tuple_iff r1') ?_;rintro x o vs m rfl ex cx dx rx
  split at hd
  ·rename_i hz
   simp only [Option.map_eq_some_iff] at hd
   refine ob1_2 hd ?_;rintro d' hd' rfl
   refine ob1_2 (Qak rx hd') fun y hy ry=>?_
   have hl:=rx.length
   refine item_tupleT (l:=vs) ⟨o,ex,cx,m,dx⟩ (by lia) (by lia) (j:=i.toNat) ?_ hy (h y s2 k12 ry) (hs _ _ _)
   rw [hl]
   unfold seqIndex?
   simp
   rw [if_neg (Int.not_lt.mpr hz.1)]
   exact ⟨⟨hz.1,hz.2.1⟩,rfl⟩
  ·exact nSo hd
 ·refine ob1_2 (ivE hd) ?_;rintro l rfl hd
  refine ob2_4 r1' ?_;rintro x vs rfl wx lx rx
  split at hd
  ·rename_i hz
   simp only [Option.map_eq_some_iff] at hd
   obtain ⟨d',hd',rfl⟩:=hd
   refine ob1_2 (Qf6 rx hd') fun y hy ry=>?_
   exact subscriptTail_builtinR lx.typeIs slot_list_getitem.lookup (wpAny_getItem_list lx hz.1 (by lia) (x:=y) (by simpa using hy) ⟨rfl,h y s2 k12 ry⟩) (hs _ _ _)
  ·exact nSo hd
noncomputable def Je{α:Type}(l:List α)(lo hi st:Option Int):List α:=
 (sliceRange (sliceBounds lo hi st l.length).1 (sliceBounds lo hi st l.length).2.1 (sliceBounds lo hi st l.length).2.2).filterMap (l[·]?)
theorem Qa7(vs:List Value)(lo hi st:Option Int):slicePick (List.toArray vs) lo hi st=List.toArray (Je vs lo hi st):=by
 unfold slicePick Je
 simp
noncomputable def Qa8(lo hi st:Option Int)(a:D):Option D:=
 (aL a).elim ((qE a).bind fun l=>if st≠some 0∧l.length <= 1000 then some (.ents (Je l lo hi st)) else none) fun l=>if st≠some 0∧l.length <= 1000 then some (.data (.list (Je l lo hi st))) else none
theorem Qfp{h:Heap}{W:Addr->Prop}{vs:List Value}{ds:List PyData}(r:RepDs h W vs ds)(lo hi st:Option Int):RepDs h W (Je vs lo hi st) (Je ds lo hi st):=by
 unfold Je
 refine wG r.length ?_
 generalize (sliceRange _ _ _)=js
 induction js with
 | nil=>exact .nil
 | cons j js ih=>
  cases hv:vs[j]? with
  | none=>
   have:ds[j]?=none:=by
    have:=r.length
    simp only [List.getElem?_eq_none_iff] at hv ⊢
    lia
   simp only [List.filterMap_cons,hv,this];exact ih
  | some v=>
   refine ob1_2 (r.get hv) fun d hd rd=>?_
   simp only [List.filterMap_cons,hv,hd]
   exact .cons rd ih
theorem Qj6{h:Heap}{W:Addr->Prop}{vs:List Value}{ds:List Ent}(r:EntsAt G h W vs ds)(lo hi st:Option Int):EntsAt G h W (Je vs lo hi st) (Je ds lo hi st):=by
 unfold Je
 refine wG r.length ?_
 generalize (sliceRange _ _ _)=js
 induction js with
 | nil=>trivial
 | cons j js ih=>
  cases hv:vs[j]? with
  | none=>
   have:ds[j]?=none:=by
    have:=r.length
    simp only [List.getElem?_eq_none_iff] at hv ⊢
    lia
   simp only [List.filterMap_cons,hv,this];exact ih
  | some v=>
   refine ob1_2 (r.get hv) fun d hd rd=>?_
   simp only [List.filterMap_cons,hv,hd]
   exact ⟨rd,ih⟩
noncomputable def Qcq(G:Amb)(n:Nat)(V:Addr->Prop)(ks:Qi)(e:Option Expr)(f:Qf->Option (Option Int)):Prop:=
 ∀ (A:Around) (env:Env) (s:Shared) (W:Addr->Prop) (ρ:Qf) (i:Option Int) (Q:Value->Shared->Prop) (E:Value->Shared->Prop),
  Cx G n V ks A env s W ρ->f ρ=some i->(∀ v s',Step G V s s'->IsPart v i->Q v s')->wpAny (model G.prog G.w) A (evalPart e env) Q E s
theorem Qba:Qcq G n V ks none (fun _=>some none):=by
 intro A env s W ρ i Q E c hf h
 obtain rfl:=Qo hf
 exact wpAny_evalPart_none (h _ s .refl .none)
noncomputable def intD(d:D):Option (Option Int):=(aI d).bind fun i=>some (some i)
theorem Qal{e:Expr}{f:Qf->Option D}(he:Zo G n V ks e f):Qcq G n V ks (some e) (fun ρ=>(f ρ).bind intD):=by
 intro A env s W ρ i Q E c hf h
 simp only [Option.bind_eq_some_iff] at hf;replace hf:=hf
 refine ob1_2 hf fun d hd hi=>?_
 refine wpAny_evalPart_some (he A env s W ρ d Q E c hd fun v s' k r=>?_)
 unfold intD at hi
 refine ob1_2 (ivI hi) ?_;rintro x rfl hi
 obtain rfl:=Qo hi
 refine ob1_1 (RepD.int_inv r) ?_;rintro t rfl
 exact h _ s' k (.int _ _)
theorem Qfn{s:Shared}{W:Addr->Prop}{v:Value}{a d:D}{lo hi st:Option Int}{sl:Obj}(x:Excl s.heap V W)(r:Rep G s.heap W v a)(e:Qa8 lo hi st a=some d):
  ∃ l items,v=.ref l∧s.heap.IsList l items∧items.size <= sizeLine∧st≠some 0∧Rep G ((s.heap.push sl).push { cls:=.type "list",data:=.seq (slicePick items lo hi st) }) W (.ref (s.heap.objs.size + 1)) d:=by
 have kx:Jm W s.heap ((s.heap.push sl).push { cls:=.type "list",data:=.seq (slicePick (#[]:Array Value) lo hi st) }):=fun b o e _ _=>Heap.get?_push_of_some _ (Heap.get?_push_of_some _ e)
 have newW:¬ W (s.heap.objs.size + 1):=x.new (Nat.le_succ _)
 have isl:∀ items:Array Value,((s.heap.push sl).push { cls:=.type "list",data:=.seq items }).IsList (s.heap.objs.size + 1) items:=fun items=>by
  have e1:(s.heap.push sl).objs.size=s.heap.objs.size + 1:=Heap.size_push ..
  exact in1_3 _ (by rw [← e1];exact Heap.get?_push_size _ rfl) rfl ⟨0,rfl⟩
 unfold Qa8 at e
 rcases elL e with e | e
 ·refine ob1_2 e ?_;rintro l rfl e
  split at e
  ·rename_i hz
   obtain rfl:=Qo e
   refine ob2_4 (RepD.list_iff r) ?_;rintro l vs rfl wl ll rl
   refine in2_5 l _ rfl ll (by rw [List.size_toArray,rl.length,sizeLine_eq];lia) hz.1 ?_
   rw [Qa7]
   exact RepD.list newW (isl _) ((Qfp rl lo hi st).mono fun b o e _ _=>Heap.get?_push_of_some _ (Heap.get?_push_of_some _ e))
  ·exact nSo e
 ·refine ob1_2 (ivE e) ?_;rintro l rfl e
  split at e
  ·rename_i hz
   obtain rfl:=Qo e
   refine ob2_4 r ?_;rintro l vs rfl wl ll rl
   refine in2_5 l _ rfl ll (by rw [List.size_toArray,rl.length,sizeLine_eq];lia) hz.1 ?_
   rw [Qa7]
   exact in2_4 _ _ rfl newW (isl _) ((Qj6 rl lo hi st).mono fun b o e _ _=>Heap.get?_push_of_some _ (Heap.get?_push_of_some _ e))
  ·exact nSo e
theorem Qlf{value:Expr}{lower upper:Option Expr}{p pos:Pos}{f:Qf->Option D}{fl fu:Qf->Option (Option Int)}(ht:∀ o r,letTemporaryGo value o r=pure ())
  (hv:Zo G n V ks value f)(hl:Qcq G n V ks lower fl)(hu:Qcq G n V ks upper fu):Zo G n V ks (.Subscript value (.Slice lower upper none p) pos) (fun ρ=>(f ρ).bind fun a=>(fl ρ).bind fun lo=>(fu ρ).bind fun hi=>Qa8 lo hi none a):=by
 intro A env s W ρ d Q E c hf h
 simp only [Option.bind_eq_some_iff] at hf
 refine ob1_2 hf ?_;intro a ha z0;refine ob1_2 z0 ?_;rintro lo hlo ⟨hi,hhi,hd⟩
 refine wpAny_Subscript_list_slice (hv A env s W ρ a _ E c ha fun v s₁ k1 r₁=>hl A env s₁ W ρ lo _ E (c.step k1) hlo fun vl s2 k2 pl=>hu A env s2 W ρ hi _ E ((c.step k1).step k2) hhi fun vu s3 k3 pu=>?_) ht
 have c3:=((c.step k1).step k2).step k3
 have r₃:=((c.step k1).step k2).mono k3 ((c.step k1).mono k2 r₁)
 refine ob2_5 (Qfn (sl:={ cls:=.type "slice",data:=.fields #[vl,vu,.none] }) c3.excl r₃ hd) ?_;rintro l items rfl ll hz _ rr
 refine in4_6 l items lo hi rfl ll hz pl pu (h _ _ (((k1.trans k2).trans k3).trans ?_) rr)
 exact .of_heap (s:=s3) (tk:=s3.toks) fun b o e=>Heap.get?_push_of_some _ (Heap.get?_push_of_some _ e)
theorem ev_slice3{value st:Expr}{lower upper:Option Expr}{p pos:Pos}{f:Qf->Option D}{fl fu ft:Qf->Option (Option Int)}(ht:∀ o r,letTemporaryGo value o r=pure ())
  (hv:Zo G n V ks value f)(hl:Qcq G n V ks lower fl)(hu:Qcq G n V ks upper fu)(hst:Qcq G n V ks (some st) ft):
  Zo G n V ks (.Subscript value (.Slice lower upper (some st) p) pos) (fun ρ=>(f ρ).bind fun a=>(fl ρ).bind fun lo=>(fu ρ).bind fun hi=>(ft ρ).bind fun st=>Qa8 lo hi st a):=by
 intro A env s W ρ d Q E c hf h
 simp only [Option.bind_eq_some_iff] at hf
 refine ob1_2 hf ?_;intro a ha z0;refine ob1_2 z0 ?_;rintro lo hlo ⟨hi,hhi,k,hk,hd⟩
 refine wpAny_Subscript_Slice_step (T:="list") list_getitem_lookup (hv A env s W ρ a _ E c ha fun v s₁ k1 r₁=>wpAny_Slice (hl A env s₁ W ρ lo _ E (c.step k1) hlo fun vl s2 k2 pl=>hu A env s2 W ρ hi _ E ((c.step k1).step k2) hhi fun vu s3 k3 pu=>
  hst A env s3 W ρ k _ E (((c.step k1).step k2).step k3) hk fun vk s4 k4 pk=>?_)) ht
 have c4:=(((c.step k1).step k2).step k3).step k4
 have r₄:=(((c.step k1).step k2).step k3).mono k4 (((c.step k1).step k2).mono k3 ((c.step k1).mono k2 r₁))
 refine ob2_5 (Qfn (sl:={ cls:=.type "slice",data:=.fields #[vl,vu,vk] }) c4.excl r₄ hd) ?_;rintro l items rfl ll hz h0 rr
 refine ⟨(ll.push _).typeIs,wpAny_getItem_list_slice (ll.push _) (Heap.IsSliceOf.new ..) pl pu pk h0 ?_ hz⟩
 have:=h _ { s4 with heap:=(s4.heap.push { cls:=.type "slice",data:=.fields #[vl,vu,vk] }).push { cls:=.type "list",data:=.seq (slicePick items lo hi k) } } ((((k1.trans k2).trans k3).trans k4).trans (.of_heap (s:=s4) (tk:=s4.toks) fun b o e=>Heap.get?_push_of_some _ (Heap.get?_push_of_some _ e))) rr
 replace this:=(show s4.heap.objs.size + 1=(s4.heap.push { cls:=.type "slice",data:=.fields #[vl,vu,vk] }).objs.size from (Heap.size_push ..).symm) ▸ this
 exact this
end
theorem idxD_l(l:List PyData)(i:Int):Qb5 (.data (.list l)) (.data (.int i))=if 0 <= i∧i < 2 ^ 62 then (l[i.toNat]?).map .data else if i < 0∧-(l.length:Int) <= i∧l.length <= 1000 then (l[(i + l.length).toNat]?).map .data else none:=rfl
theorem idxD_e(l:List Ent)(i:Int):Qb5 (.ents l) (.data (.int i))=if 0 <= i∧i < 2 ^ 62 then (l[i.toNat]?).map .ent else none:=rfl
theorem Qkr(lo hi st:Option Int)(l:List PyData):Qa8 lo hi st (.data (.list l))=if st≠some 0∧l.length <= 1000 then some (.data (.list (Je l lo hi st))) else none:=rfl
theorem sliceD_e(lo hi st:Option Int)(l:List Ent):Qa8 lo hi st (.ents l)=if st≠some 0∧l.length <= 1000 then some (.ents (Je l lo hi st)) else none:=rfl
theorem intD_i(i:Int):intD (.data (.int i))=some (some i):=rfl
theorem idxD_t(l:List PyData)(i:Int):Qb5 (.data (.tuple l)) (.data (.int i))=if 0 <= i∧i < l.length∧i < 2 ^ 62 then (l[i.toNat]?).map .data else none:=rfl
section
variable {G:Amb}{n:Nat}{V:Addr->Prop}{ks:Qi}
noncomputable def Qma(d:D):Option D:=(aL d).elim ((qE d).bind fun l=>if l.length <= 1000 then some (.data (.int l.length)) else none) fun l=>if l.length <= 1000 then some (.data (.int l.length)) else none
noncomputable def Jv:List PyData->Option (List Int)
 | []=>some []
 | .int x :: r=>(Jv r).map (x :: ·)
 | _ :: _=>none
noncomputable def sumD(d:D):Option D:=(aL d).bind fun l=>(Jv l).map fun ns=>.data (.int ns.sum)
theorem Qc1{h:Heap}{W:Addr->Prop}:∀ {vs:List Value}{l:List PyData}{ns:List Int},RepDs h W vs l->Jv l=some ns->IntsAre vs ns
 | vs,[],ns,r,e=>by obtain rfl:=Qo e;rw [r.inv_nil];exact .nil
 | vs,.int x :: l,ns,r,e=>by
  simp only [Jv,Option.map_eq_some_iff] at e
  refine ob1_2 e ?_;rintro ms hm rfl
  refine ob2_3 r.inv ?_;rintro v vs' rfl a b
  refine ob1_1 a.int_inv ?_;rintro t rfl
  exact .cons _ _ (Qc1 b hm)
 | _,.none :: _,_,_,e=>by exact nSo e
 | _,.bool _ :: _,_,_,e=>by exact nSo e
 | _,.str _ :: _,_,_,e=>by exact nSo e
 | _,.list _ :: _,_,_,e=>by exact nSo e
 | _,.tuple _ :: _,_,_,e=>by exact nSo e
 | _,.dict _ :: _,_,_,e=>by exact nSo e
noncomputable def Qi4(G:Amb)(n:Nat)(V:Addr->Prop)(f:Value)(F:List D->Option D):Prop:=
 ∀ (A:Around) (s:Shared) (W:Addr->Prop) (vs:List Value) (ds:List D) (d:D) (Q:Value->Shared->Prop) (E:Value->Shared->Prop),
  Good G n A s.heap->Excl s.heap V W->RepL G s.heap W vs ds->F ds=some d->(∀ v s',Step G V s s'->Rep G s'.heap W v d->Q v s')->wpAny (model G.prog G.w) A (call f vs) Q E s
theorem Xr{h:Heap}{W:Addr->Prop}{vs:List Value}{d:D}(r:RepL G h W vs [d]):∃ v,vs=[v]∧Rep G h W v d:=by
 match vs,r with
 | [v],r=>exact in1_2 v rfl r.1
 | [],r=>exact r.elim
 | _ :: _ :: _,r=>exact r.2.elim
theorem Qdt{h:Heap}{W:Addr->Prop}{vs:List Value}{a b:D}(r:RepL G h W vs [a,b]):∃ v u,vs=[v,u]∧Rep G h W v a∧Rep G h W u b:=by
 match vs,r with
 | [v,u],r=>exact in2_3 v u rfl r.1 r.2.1
 | [],r=>exact r.elim
 | [_],r=>exact r.2.elim
 | _ :: _ :: _ :: _,r=>exact r.2.2.elim
noncomputable def one(g:D->Option D)(ds:List D):Option D:=(l1 ds).bind g
theorem fun_len:Qi4 G n V (.builtin "len") (one Qma):=by
 intro A s W vs ds d Q E g x r e h
 unfold one at e
 ·refine ob1_2 (iv_1 e) ?_;rintro dd rfl e
  refine ob1_2 (Xr r) ?_;rintro v rfl rv
  unfold Qma at e
  rcases elL e with e | e
  ·refine ob1_2 e ?_;rintro l rfl e
   split at e
   ·obtain rfl:=Qo e
    refine ob2_4 (RepD.list_iff rv) ?_;rintro a us rfl wa la ra
    have hl:=ra.length
    refine len_list la (by rw [List.size_toArray];lia) (h _ _ (.toks s _) ?_)
    refine wG List.size_toArray (wG hl ?_);exact RepD.int _ _
   ·exact nSo e
  ·refine ob1_2 (ivE e) ?_;rintro l rfl e
   split at e
   ·obtain rfl:=Qo e
    refine ob2_4 rv ?_;rintro a us rfl wa la ra
    have hl:=ra.length
    refine len_list la (by rw [List.size_toArray];lia) (h _ _ (.toks s _) ?_)
    refine wG List.size_toArray (wG hl ?_);exact RepD.int _ _
   ·exact nSo e
theorem fun_sum[Qab G]:Qi4 G n V (.builtin "sum") (one sumD):=by
 intro A s W vs ds d Q E g x r e h
 unfold one at e
 ·refine ob1_2 (iv_1 e) ?_;rintro dd rfl e
  refine ob1_2 (Xr r) ?_;rintro v rfl rv
  unfold sumD at e
  ·refine ob1_2 (ivL e) ?_;rintro l rfl e
   simp only [Option.map_eq_some_iff] at e;replace e:=e
   refine ob1_2 e ?_;rintro ns hns rfl
   refine ob2_4 (RepD.list_iff rv) ?_;rintro a us rfl wa la ra
   have hi:=Qc1 ra hns
   refine ob1_1 hi.allInts.items fun xs hxs=>?_
   rw [hxs] at la
   refine sum_intListG g.cold la fun h' tk t' hk=>?_
   have e1:=nums_intItems xs
   rw [← hxs] at e1
   have e2:numsOf (List.toArray us).toList=ns:=hi.numsOf
   refine wG (preSum_eq ..) (wG (List.take_of_length_le (by simp) ..) ?_)
   have:(xs.toList.map (·.1)).sum=ns.sum:=by exact wS e2 (wG e1 rfl)
   refine wG this ?_
   exact h _ _ (.of_heap hk) (RepD.int _ _)
theorem Qbl{x:Str}{id:String}{np pos:Pos}{args:List Expr}{fs:Qf->Option (List D)}{F:List D->Option D}(AG:Qv G)(hk:ks.lookup x=some .globalImplicit)(hm:G.mg x=none)(hv:bootBuiltins x=some (.builtin id))(hn:x≠"__name__")
  (hd:(x == ("__debug__":Str))=false)(hf:Qi4 G n V (.builtin id) F)(ha:Qc4 G n V ks args fs):Zo G n V ks (.Call (.Name x np) args [] pos) (fun ρ=>(fs ρ).bind F):=by
 intro A env s W ρ d Q E c hq h
 simp only [Option.bind_eq_some_iff] at hq
 refine ob1_2 hq fun ds hds hF=>?_
 refine wpAny_Call_NameR (Qh AG c.good.base c.ok hk hm hv hn hd ?_)
 refine Calls.callWith_builtin (Xn (ha.1 env)) (Zm (Xn (ha.1 env)) (ha.2 A env s W ρ ds pos _ E c hds fun vs s₁ k1 r₁=>?_))
 have c1:=c.step k1
 exact hf A s₁ W vs ds d Q E c1.good c1.excl r₁ hF fun v s2 k2 r₂=>h v s2 (k1.trans k2) r₂
theorem Qjk(a b:Int):(List.range (Builtin.Range.rangeSize a b 1).toNat)=List.range (b - a).toNat:=by
 rw [rangeSize_one];split
 ·rfl
 ·have:(b - a).toNat=0:=by lia
  rw [this];rfl
noncomputable def Qa9(a b:Int):List D:=(List.range (b - a).toNat).map fun k=>D.data (.int (a + (k:Nat)))
noncomputable def Zi(ds:List D):Option (List D):=(l1 ds).elim ((l2 ds).bind fun p=>(aI p.1).bind fun a=>(aI p.2).bind fun b=>if -(2 ^ 60) <= a∧a < 2 ^ 60∧-(2 ^ 60) <= b∧b < 2 ^ 60 then some (Qa9 a b) else none) fun d=>(aI d).bind fun b=>if -(2 ^ 60) <= b∧b < 2 ^ 60 then some (Qa9 0 b) else none
theorem Xk{np pos:Pos}{args:List Expr}{fs:Qf->Option (List D)}(AG:Qv G)(hk:ks.lookup (Str.ofString "range")=some .globalImplicit)(hm:G.mg (Str.ofString "range")=none)(ha:Qc4 G n V ks args fs):
  Qc3 G n V ks (.Call (.Name (Str.ofString "range") np) args [] pos) (fun ρ=>(fs ρ).bind Zi):=by
 intro A env s W ρ ds Q E c hf hQ
 simp only [Option.bind_eq_some_iff] at hf;replace hf:=hf
 refine ob1_2 hf fun as has hr=>?_
 refine wpAny_Call_NameR (Qh AG c.good.base c.ok hk hm PyProof.Rows.Boot.«range» (by decide) (by decide) ?_)
 refine PySem.callWith_type (Xn (ha.1 env)) (Zm (Xn (ha.1 env)) (ha.2 A env s W ρ as pos _ E c has fun vs s₁ k1 r₁=>?_))
 have fin:∀ (a b:Int) (t u v:Tok) (tk:Nat),-(2 ^ 60) <= a∧a < 2 ^ 60∧-(2 ^ 60) <= b∧b < 2 ^ 60->ds=Qa9 a b->
   wpAny (model G.prog G.w) A (pyIter (.ref s₁.heap.objs.size)) Q E { s₁ with heap:=s₁.heap.push { cls:=.type "range",data:=.fields #[.int a t,.int b u,.int 1 v] },toks:=tk }:=by
  intro a b t u v tk hz hds
  refine wpAny_pyIter_range (IsRange.new ..) (small_one (by lia) (by lia) (by lia) (by lia)) ?_
  have k2:Step G V s₁ { s₁ with heap:=(s₁.heap.push { cls:=.type "range",data:=.fields #[.int a t,.int b u,.int 1 v] }).push { cls:=.type "range_iterator",data:=.fields #[rawInt a,rawInt (Builtin.Range.rangeSize a b 1),rawInt 1] },toks:=tk }:=
   .of_heap (s:=s₁) fun b o e=>Heap.get?_push_of_some _ (Heap.get?_push_of_some _ e)
  refine hQ _ _ (k1.trans k2) ?_ (.inr ⟨a,Builtin.Range.rangeSize a b 1,Heap.get?_push_size _ rfl,?_⟩)
  ·exact k1.get_none (Heap.get?_none_of_le (by show s₁.heap.objs.size <= (s₁.heap.push _).objs.size;rw [Heap.size_push];exact Nat.le_succ _))
  ·refine wG (hds ..) (wG (Qjk ..) ?_);rfl
 unfold Zi at hr
 rcases elS l1_inv hr with hr | hr
 ·refine ob1_2 hr ?_;rintro dd rfl hr
  refine ob1_2 (ivI hr) ?_;rintro b rfl hr
  refine Qx (ifS hr) fun hz hr=>?_
  obtain rfl:=Qo hr
  refine ob1_2 (Xr r₁) ?_;rintro v rfl rv
  obtain ⟨t,rfl⟩:=RepD.int_inv rv
  exact call_range_1 (fin 0 _ _ _ _ _ ⟨by decide,by decide,hz.1,hz.2⟩ rfl)
 ·refine ob2_2 (iv_2 hr) ?_;rintro d1 d2 rfl hr
  refine ob2_3 (ivI2 hr) ?_;intro a b e1 e2 hr
  cases e1;cases e2
  refine Qx (ifS hr) fun hz hr=>?_
  obtain rfl:=Qo hr
  refine ob2_3 (Qdt r₁) ?_;rintro v u rfl rv ru
  obtain ⟨t,rfl⟩:=RepD.int_inv rv
  obtain ⟨t',rfl⟩:=RepD.int_inv ru
  exact call_range_2 (fin _ _ _ _ _ _ hz rfl)
theorem Qji{s:Shared}{W:Addr->Prop}{vs:List Value}{ds:List D}{d:D}(x:Excl s.heap V W)(r:RepL G s.heap W vs ds)(e:Qcs ds=some d):
  Rep G (s.heap.push { cls:=.type "list",data:=.seq (List.toArray vs) }) W (.ref s.heap.objs.size) d:=
 Qds (r.mono fun b o e _ _=>Heap.get?_push_of_some _ e) e (x.new (Nat.le_refl _)) ⟨_,Heap.get?_push_size _ rfl,rfl,0,rfl⟩
theorem Qau{elts:List Expr}{pos:Pos}{fs:Qf->Option (List D)}(ha:Qc4 G n V ks elts fs):Zo G n V ks (.List elts pos) (fun ρ=>(fs ρ).bind fun ds=>if ds.length <= 1000 then Qcs ds else none):=by
 intro A env s W ρ d Q E c hq h
 simp only [Option.bind_eq_some_iff] at hq
 refine ob1_2 hq fun ds hds hq=>?_
 split at hq
 ·rename_i hz
  refine List_ (ha.2 A env s W ρ ds pos _ E c hds fun vs s₁ k1 r₁=>?_)
  refine wpAny_newList (h _ _ (k1.trans (.push s₁ _)) (Qji (c.step k1).excl r₁ hq)) (by refine wG r₁.length (wG sizeLine_eq ?_);lia)
 ·exact nSo hq
theorem Qdy{elts:List Expr}{k:Nat}{pos:Pos}{fs:Qf->Option (List D)}(ha:Qc4 G n V ks elts fs):Zo G n V ks (.Tuple elts k pos) (fun ρ=>(fs ρ).bind fun ds=>if ds.length <= 1000 then (Xz ds).map fun l=>.data (.tuple l) else none):=by
 intro A env s W ρ d Q E c hq h
 simp only [Option.bind_eq_some_iff] at hq;replace hq:=hq
 refine ob1_2 hq fun ds hds hq=>?_
 split at hq
 ·rename_i hz
  simp only [Option.map_eq_some_iff] at hq;replace hq:=hq
  refine ob1_2 hq ?_;rintro l hl rfl
  refine Tuple_ (ha.2 A env s W ρ ds pos _ E c hds fun vs s₁ k1 r₁=>?_)
  refine wpAny_newObj_type (T:="tuple") (data:=.seq (List.toArray vs)) (h _ _ (k1.trans (.push s₁ _)) ?_) (by show (List.toArray vs).size <= sizeLine;refine wG List.size_toArray (wG r₁.length (wG sizeLine_eq ?_));lia)
  exact RepD.tuple (Heap.get?_push_size _ rfl) rfl rfl ((Qgq r₁ hl).mono fun b o e _ _=>Heap.get?_push_of_some _ e)
 ·exact nSo hq
inductive Qbq:Str->(Ent->PyData)->Prop
 | u:Qbq "useragents" (fun e=>.list (e.u.map .str))
 | r:Qbq "rulelines" (fun e=>.list (e.r.map .int))
 | d:Qbq "delay" (fun e=>optD e.d)
 | q:Qbq "req_rate" (fun e=>optD e.q)
noncomputable def attrD(sel:Ent->PyData):D->Option D
 | .ent e=>some (.data (sel e))
 | _=>none
theorem Qbk{h:Heap}{W:Addr->Prop}{v:Value}{d:PyData}(r:RepD h W v d):handedIn v=true:=by
 obtain ⟨as,r,_⟩:=r
 cases r <;> rfl
theorem get_field{A:Around}{s:Shared}{W:Addr->Prop}{v:Value}{e:Ent}{a:Str}{sel:Ent->PyData}{ex:Bool}{Q:Value->Shared->Prop}{E:Value->Shared->Prop}(AG:Qv G)(hb:G.h₀.StaysIn s.heap)(hf:Qbq a sel)(r:EntAt G s.heap W v e)
  (h:∀ u,RepD s.heap W u (sel e)->Q u { s with toks:=s.toks + 1 }):wpAny (model G.prog G.w) A (getAttr v a ex) Q E s:=by
 obtain ⟨x,dx,es,m,vu,vr,vd,vq,rfl,wx,wd,ex,ed,g1,g2,g3,g4,r1,r2,r3,r4⟩:=r
 have I:InstAt s.heap x (instObj G.C dx) G.C (some (dictOf es m)):=⟨ex,rfl,rfl,ed⟩
 have X:G.K.In s.heap:=AG.kIn.keeps hb
 cases hf with
 | u=>exact get_value X I AG.entGet (findObj_own AG.entHas (AG.entAttr _ (by decide)) rfl (by rw [lookIn_dict];exact g1)) (Qbk r1) (h _ r1)
 | r=>exact get_value X I AG.entGet (findObj_own AG.entHas (AG.entAttr _ (by decide)) rfl (by rw [lookIn_dict];exact g2)) (Qbk r2) (h _ r2)
 | d=>exact get_value X I AG.entGet (findObj_own AG.entHas (AG.entAttr _ (by decide)) rfl (by rw [lookIn_dict];exact g3)) (Qbk r3) (h _ r3)
 | q=>exact get_value X I AG.entGet (findObj_own AG.entHas (AG.entAttr _ (by decide)) rfl (by rw [lookIn_dict];exact g4)) (Qbk r4) (h _ r4)
theorem Zr{value:Expr}{a:Str}{pos:Pos}{f:Qf->Option D}{sel:Ent->PyData}(AG:Qv G)(hf:Qbq a sel)
  (he:∀ env,eval (.Attribute value a pos) env=(do
   let o ← eval value env
   standAt pos.atName
   let r ← holding [o] (getAttr o a true)
   letTemporaryGo value o r
   pure r)) (hv:Zo G n V ks value f):Zo G n V ks (.Attribute value a pos) (fun ρ=>(f ρ).bind (attrD sel)):=by
 intro A env s W ρ d Q E c hq h
 simp only [Option.bind_eq_some_iff] at hq;replace hq:=hq
 refine ob1_2 hq fun b hb hd=>?_
 refine Attribute_any_ (hv A env s W ρ b _ E c hb fun v s₁ k1 r₁=>?_) (he env)
 unfold attrD at hd
 split at hd
 ·obtain rfl:=Qo hd
  exact get_field AG (c.step k1).good.base hf r₁ fun u ru=>h u _ (k1.trans (.toks s₁ _)) ru
 ·exact nSo hd
structure FnOk (G:Amb) (n:Nat) (V:Addr->Prop) (name:Str) (F:List D->Option D):Prop where
 ex:∃ fa o fd,G.mg name=some (.ref fa)∧G.h₀.get? fa=some o∧o.data=.func fd∧Qi4 G n V (.ref fa) F
theorem Good.less{m:Nat}{A:Around}{h:Heap}(g:Good G n A h)(hm:m <= n):Good G m A h:=⟨g.base,g.handled,by have:=g.depth;lia,by have:=g.units;lia,g.stk⟩
theorem Excl.sub'{h:Heap}{U W:Addr->Prop}(x:Excl h V W)(k:∀ a,U a->V a):Excl h U W:=⟨fun a ha=>x.sub a (k a ha),x.live⟩
theorem Zw{x:Str}{np pos:Pos}{args:List Expr}{fs:Qf->Option (List D)}{F:List D->Option D}{m:Nat}{U:Addr->Prop}(AG:Qv G)(hf:FnOk G m U x F)(hk:ks.lookup x=some .globalImplicit)(hmn:m <= n)(hU:∀ a,U a->V a)
  (hd:(x == ("__debug__":Str))=false)(ha:Qc4 G n V ks args fs):Zo G n V ks (.Call (.Name x np) args [] pos) (fun ρ=>(fs ρ).bind F):=by
 refine ob3_4 hf.ex fun fa o fd hm ho hod hF=>?_
 intro A env s W ρ d Q E c hq h
 simp only [Option.bind_eq_some_iff] at hq
 refine ob1_2 hq fun ds hds hFd=>?_
 refine wpAny_Call_NameR (Xc AG c.good.base c.ok hk hm hd ?_)
 refine callWith_of (P:=fun h=>G.h₀.StaysIn h) (by rw [Xn (ha.1 env)];rfl) (fun h hb=>⟨.frame,.inl rfl,?_⟩) (Zm (Xn (ha.1 env)) (ha.2 A env s W ρ ds pos _ E c hds fun vs s₁ k1 r₁=>⟨(c.step k1).good.base,?_⟩))
 ·refine (Looks.ld (part:=none) (hb _ _ ho)).andThen ?_
  refine wG hod ?_;exact .now
 ·have c1:=c.step k1
  exact hF A s₁ W vs ds d Q E (c1.good.less hmn) (c1.excl.sub' hU) r₁ hFd fun v s2 k2 r₂=>h v s2 (k1.trans (k2.mono hU)) r₂
end
theorem Qk2(l:List PyData):Qma (.data (.list l))=if l.length <= 1000 then some (.data (.int l.length)) else none:=rfl
theorem lenD_e(l:List Ent):Qma (.ents l)=if l.length <= 1000 then some (.data (.int l.length)) else none:=rfl
theorem one_1(g:D->Option D)(d:D):one g [d]=g d:=rfl
theorem Qb2(b:Int):Zi [.data (.int b)]=if -(2 ^ 60) <= b∧b < 2 ^ 60 then some (Qa9 0 b) else none:=rfl
theorem Qee(a b:Int):Zi [.data (.int a),.data (.int b)]=if -(2 ^ 60) <= a∧a < 2 ^ 60∧-(2 ^ 60) <= b∧b < 2 ^ 60 then some (Qa9 a b) else none:=rfl
inductive Out where
 | next (ρ:Qf)
 | ret (d:D)
structure Own (G:Amb) (ks:Qi) (env:Env) (W O:Addr->Prop):Prop where
 sub:∀ a,O a->W a
 base:∀ a,O a->G.h₀.get? a=none
 loc:O env.locals
 cells:∀ x c,ks.lookup x=some .cell->env.cells.lookup x=some c->O c
theorem Own.store{G:Amb}{ks:Qi}{env:Env}{W O:Addr->Prop}(o:Own G ks env W O){x:Str}(hk:ks.lookup x=some .local∨ks.lookup x=some .cell)(hd:(x == ("__classdict__":Str))=false):Qki ks env O x:=
 ⟨o.loc,hk.imp id fun h=>⟨h,fun c hc=>o.cells x c h hc⟩,hd⟩
noncomputable def Or2(V O:Addr->Prop):Addr->Prop:=fun a=>V a∨O a
noncomputable def OutAt(G:Amb)(n:Nat)(V:Addr->Prop)(ks:Qi)(A:Around)(env:Env)(W:Addr->Prop):Out->Flow->Shared->Prop
 | .next ρ,fl,s'=>fl=.next∧Cx G n V ks A env s' W ρ
 | .ret d,fl,s'=>∃ v,fl=.ret v∧Rep G s'.heap W v d
noncomputable def Qm1(G:Amb)(n:Nat)(V:Addr->Prop)(ks:Qi)(st:Stmt)(g:Qf->Option Out):Prop:=
 ∀ (A:Around) (env:Env) (s:Shared) (W O:Addr->Prop) (ρ:Qf) (out:Out) (Q:Flow->Shared->Prop) (E:Value->Shared->Prop),
  Cx G n V ks A env s W ρ->Own G ks env W O->g ρ=some out->(∀ fl s',Step G (Or2 V O) s s'->OutAt G n V ks A env W out fl s'->Q fl s')->wpAny (model G.prog G.w) A (exec st env) Q E s
noncomputable def ExOk(G:Amb)(n:Nat)(V:Addr->Prop)(ks:Qi)(ss:List Stmt)(g:Qf->Option Out):Prop:=
 ∀ (A:Around) (env:Env) (s:Shared) (W O:Addr->Prop) (ρ:Qf) (out:Out) (Q:Flow->Shared->Prop) (E:Value->Shared->Prop),
  Cx G n V ks A env s W ρ->Own G ks env W O->g ρ=some out->(∀ fl s',Step G (Or2 V O) s s'->OutAt G n V ks A env W out fl s'->Q fl s')->wpAny (model G.prog G.w) A (execs ss env) Q E s
section
variable {G:Amb}{n:Nat}{V:Addr->Prop}{ks:Qi}
theorem Zh:ExOk G n V ks [] (fun ρ=>some (.next ρ)):=by
 intro A env s W O ρ out Q E c o hg h
 obtain rfl:=Qo hg
 exact wpAny_execs_nil (h _ s .refl ⟨rfl,c⟩)
theorem Qk{st:Stmt}{ss:List Stmt}{g1 g2:Qf->Option Out}(h1:Qm1 G n V ks st g1)(h2:ExOk G n V ks ss g2):
  ExOk G n V ks (st :: ss) (fun ρ=>(g1 ρ).bind fun o=>match o with | .next ρ'=>g2 ρ' | .ret d=>some (.ret d)):=by
 intro A env s W O ρ out Q E c o hg h
 simp only [Option.bind_eq_some_iff] at hg;replace hg:=hg
 refine ob1_2 hg fun o1 ho1 hg=>?_
 refine wpAny_execs_cons (h1 A env s W O ρ o1 _ E c o ho1 fun fl s₁ k1 r₁=>?_)
 cases o1 with
 | next ρ'=>
  obtain ⟨rfl,c1⟩:=r₁
  exact h2 A env s₁ W O ρ' out Q E c1 o hg fun fl s2 k2 r₂=>h fl s2 (k1.trans k2) r₂
 | ret d=>
  obtain rfl:=Qo hg
  refine ob1_2 r₁ ?_;rintro v rfl r
  exact h _ s₁ k1 ⟨v,rfl,r⟩
theorem Zx{x:Str}{px pos:Pos}{e:Expr}{f:Qf->Option D}(he:Zo G n V ks e f)(hk:ks.lookup x=some .local∨ks.lookup x=some .cell)(hd:(x == ("__classdict__":Str))=false)
  (hs:∀ env,EnvOk G V ks env->swapsWith e (some (.Name x px)) pos.line env=pure false):Qm1 G n V ks (.Assign [.Name x px] e pos) (fun ρ=>(f ρ).map fun d=>.next (upd ρ x d)):=by
 intro A env s W O ρ out Q E c o hg h
 simp only [Option.map_eq_some_iff] at hg
 obtain ⟨d,hd',rfl⟩:=hg
 refine wpAny_Assign_Name (he A env s W ρ d _ E c hd' fun v s₁ k1 r₁=>?_) (hs env c.ok)
 exact Qt (c.step k1) o.sub o.base (o.store hk hd) r₁ fun s2 k2 c₂=>h _ s2 ((k1.mono fun _=>.inl).trans (k2.mono fun _=>.inr)) ⟨rfl,c₂⟩
theorem Qu{e:Expr}{pos:Pos}{f:Qf->Option D}(he:Zo G n V ks e f):Qm1 G n V ks (.Return (some e) pos) (fun ρ=>(f ρ).map .ret):=by
 intro A env s W O ρ out Q E c o hg h
 simp only [Option.map_eq_some_iff] at hg
 obtain ⟨d,hd',rfl⟩:=hg
 exact wpAny_Return_some (he A env s W ρ d _ E c hd' fun v s₁ k1 r₁=>h _ s₁ (k1.mono fun _=>.inl) ⟨v,rfl,r₁⟩)
theorem Qgl{t:Expr}{b o:List Stmt}{pos:Pos}{ft:Qf->Option Bool}{gb go:Qf->Option Out}(ht:Qap G n V ks t ft)(hb:ExOk G n V ks b gb)(ho:ExOk G n V ks o go):
  Qm1 G n V ks (.If t b o pos) (fun ρ=>(ft ρ).bind fun c=>if c then gb ρ else go ρ):=by
 intro A env s W O ρ out Q E c ow hg h
 simp only [Option.bind_eq_some_iff] at hg
 refine ob1_2 hg fun q hq hg=>?_
 refine wpAny_If (ht A env s W ρ q _ E c hq fun s₁ k1=>?_)
 have k1':Step G (Or2 V O) s s₁:=k1.mono fun _=>.inl
 cases q with
 | true=>exact hb A env s₁ W O ρ out Q E (c.step k1) ow hg fun fl s2 k2 r₂=>h fl s2 (k1'.trans k2) r₂
 | false=>exact ho A env s₁ W O ρ out Q E (c.step k1) ow hg fun fl s2 k2 r₂=>h fl s2 (k1'.trans k2) r₂
theorem Cx.widen{A:Around}{env:Env}{s s':Shared}{W W':Addr->Prop}{ρ:Qf}(c:Cx G n V ks A env s W ρ)(k:Step G V s s')(hW:∀ a,W a->W' a)(hn:Qd0 s.heap W W')(hl:∀ a,W' a->∃ o,s'.heap.get? a=some o):Cx G n V ks A env s' W' ρ:=by
 refine ⟨c.good.step k,c.ok,⟨fun a ha=>hW a (c.excl.sub a ha),hl⟩,fun x d hv hd=>?_,(c.step k).ns,(c.step k).cellsAt⟩
 refine ob1_2 (c.vars x d hv hd) fun v a b=>?_
 exact in1_2 v (a.step k c.ok) ((b.strong hn).mono (k.keepX fun a ha=>hW a (c.excl.sub a ha)))
theorem Cx.narrow{A:Around}{env:Env}{s:Shared}{W W':Addr->Prop}{ρ:Qf}(c:Cx G n V ks A env s W' ρ)(hW:∀ a,W a->W' a)(hV:∀ a,V a->W a):Cx G n V ks A env s W ρ:=
 ⟨c.good,c.ok,⟨hV,fun a ha=>c.excl.live a (hW a ha)⟩,fun x d hv hd=>ob1_2 (c.vars x d hv hd) fun v a b=>⟨v,a,b.weak hW⟩,c.ns,c.cellsAt⟩
theorem Qbe{elt:Expr}{gens:List Comprehension}{scope:Scope}{p:Pos}{x:Str}{px:Pos}{line:Nat}{env:Env}(he:EnvOk G V ks env):
  swapsWith (.ListComp elt gens scope p) (some (.Name x px)) line env=pure (ks.lookup x == some .local && px.line == p.line && !(scope.names.any fun q=>q.1 == x && (q.2 == .local || q.2 == .cell))):=by
 have e1:env.blockKind=.function:=by unfold Env.blockKind;refine wG he.kind ?_;rfl
 have e2:env.kindOf x=ks.lookup x:=by unfold Env.kindOf;rw [he.names]
 show (pure (env.blockKind == .function && env.kindOf x == some .local && px.line == p.line && !(scope.names.any fun (n,k)=>n == x && (k == .local || k == .cell))):Sem Bool)=_
 refine wG e1 (wG e2 ?_);rfl
theorem Qd5[Qab G]{elt iter:Expr}{ifs:List Expr}{scope:Scope}{pos xp px spos:Pos}{x y:Str}{fs:Qf->Option (List D)}{fc:Qf->Option Bool}{fe:Qf->Option D}
  (hst:Qbm ks scope x=true)(hsrc:Qc3 G n V ks iter fs)(hfold:∀ env v,foldedSetIterable iter env v=pure v)(hifs:Qi3 G n V (Qdu ks scope.names) ifs fc)(helt:Zo G n V (Qdu ks scope.names) elt fe)
  (hk:ks.lookup y=some .local)(hd:(y == ("__classdict__":Str))=false)(hl:px.line=pos.line)(hn:(scope.names.any fun q=>q.1 == y && (q.2 == .local || q.2 == .cell))=false):
  Qm1 G n V ks (.Assign [.Name y px] (.ListComp elt [⟨.Name x xp,iter,ifs,0⟩] scope pos) spos) (fun ρ=>((fs ρ).bind fun ds=>if ds.length <= 1000 then (Xl x fc fe ρ ds).bind Qcs else none).map fun d=>.next (upd ρ y d)):=by
 intro A env s W O ρ out Q E c o hg h
 simp only [Option.map_eq_some_iff,Option.bind_eq_some_iff] at hg
 obtain ⟨d,⟨ds,hds,hf⟩,rfl⟩:=hg
 split at hf
 ·rename_i hz
  simp only [Option.bind_eq_some_iff] at hf
  refine ob1_2 hf fun rs hrs hp=>?_
  refine wG (exec_Assign_Name_used _ _ _ _ (by rw [Qbe c.ok,hk,hl,hn];simp)) ?_
  refine wpAny_bind (wpAny_standAt (wpAny_bind ?_))
  show wpAny _ A (do let _ ← comprehension (.ListComp elt [⟨.Name x xp,iter,ifs,0⟩] scope pos) scope env _ (newList []) false (eval iter env) (some (assign (.Name y px) env))) _ _ s
  refine wpAny_bind (wpAny_mono (Qck (use:=some (assign (.Name y px) env)) (Q:=fun _ s'=>Q .next s') c (Qav hst) hsrc (hfold env) hifs helt hds hz hrs ?_) (fun _ s' hq=>wpAny_pure (wpAny_pure hq)) fun _ _ e=>e)
  intro L C s' vs k nL nC hLC hn' bC hl' r
  have hL:¬ W L:=c.excl.fresh nL
  have hC:¬ W C:=c.excl.fresh nC
  have rd:Rep G s'.heap (fun a=>W a∨a=C) (.ref L) d:=Qds r hp (fun q=>q.elim hL hLC) (Heap.PlainList.isList hl')
  have c1:Cx G n V ks A env s' (fun a=>W a∨a=C) ρ:=c.widen k (fun a ha=>.inl ha) (fun a ob e hw=>hw.elim id fun q=>by rw [q,nC] at e;exact nSo e)
   (fun a ha=>ha.elim (fun q=>(c.step k).excl.live a q) fun q=>by refine ob4_2 hn' fun m ob es ep e _=>?_;exact ⟨ob,q ▸ e⟩)
  have liveL:env.locals≠C:=fun e=>by refine ob4_2 c.ns fun m ob es ep e' _=>?_;rw [e,nC] at e';exact nSo e'
  have liveC:∀ y a,env.cells.lookup y=some a->a≠C:=fun y a e q=>by refine ob2_2 (c.cellsAt y a e) fun v ob e' _=>?_;rw [q,nC] at e';exact nSo e'
  have nO:¬ O C:=fun q=>hC (o.sub _ q)
  refine wpAny_assign_Name (Qt c1 (fun a ha=>.inl (o.sub a ha)) o.base (o.store (.inl hk) hd) rd fun s2 k2 c₂=>?_)
  obtain ⟨m,hm⟩:=hn'
  have hmC:=Qb4 k2 hm nO
  refine in1_2 m hmC (fun h' hs=>?_)
  have k3:Step G (Or2 V O) s s2:=(k.mono fun _=>.inl).trans (k2.mono fun _=>.inr)
  have kE:=k3.ext hs.extBut nC bC
  have kx:Jm (fun a=>W a∨a=C) s2.heap h':=fun b ob e hw _=>hs.extBut b ob (by
   rintro rfl
   rcases hw with hw | ⟨_,xs,q,hq⟩
   ·exact hw (.inr rfl)
   ·refine ob3_3 hmC fun ob' es ep e' d' _=>?_;rw [e] at e';obtain rfl:=Qo e';replace d':=hq ▸ d';cases d') e
  have keepL:∀ {mm},s2.heap.Ns env.locals mm->h'.Ns env.locals mm:=fun z0=>ob3_2 z0 fun ob es ep e r=>⟨ob,es,ep,hs.extBut _ _ liveL e,r⟩
  have keepC:∀ {y a v},env.cells.lookup y=some a->s2.heap.IsCell a v->h'.IsCell a v:=fun hy z0=>ob1_2 z0 fun ob e r=>⟨ob,hs.extBut _ _ (liveC _ _ hy) e,r⟩
  refine h _ _ kE ⟨rfl,⟨c.good.step kE,c.ok,c.excl.step kE,fun z d' hv hd'=>?_,ob1_1 c₂.ns fun mm hmm=>⟨mm,keepL hmm⟩,fun z a e=>ob1_1 (c₂.cellsAt z a e) fun v q=>⟨v,keepC e q⟩⟩⟩
  refine ob1_2 (c₂.vars z d' hv hd') fun v a b=>?_
  refine in1_2 v ?_ ((b.mono kx).weak fun a ha=>.inl ha)
  rcases a with ⟨a,mm,hmm,hz⟩ | ⟨a,nd,q,hq,hz⟩
  ·exact .inl ⟨a,mm,keepL hmm,hz⟩
  ·exact .inr ⟨a,nd,q,hq,keepC hq hz⟩
 ·exact nSo hf
end
section
variable {G:Amb}[Qab G] {n:Nat}{V:Addr->Prop}{ks:Qi}
theorem Own.wide{env:Env}{W W' O:Addr->Prop}(o:Own G ks env W O)(h:∀ a,W a->W' a):Own G ks env W' O:=⟨fun a ha=>h a (o.sub a ha),o.base,o.loc,o.cells⟩
theorem Cx.ext{A:Around}{env:Env}{s:Shared}{W W':Addr->Prop}{ρ:Qf}{I:Addr}{h':Heap}(c:Cx G n V ks A env s W' ρ)(he:Heap.ExtBut I s.heap h')(g:Good G n A h')(hI:W' I)
  (tI:∀ o,s.heap.get? I=some o->¬ Tup o)(nI:¬ W I)(hWW:∀ a,W a->W' a)(hV:∀ a,V a->W a)(hL:env.locals≠I)(hC:∀ y a,env.cells.lookup y=some a->a≠I):Cx G n V ks A env { s with heap:=h' } W ρ:=by
 have kx:Jm W' s.heap h':=fun b ob e hw _=>he b ob (by
  rintro rfl
  rcases hw with hw | hw
  ·exact hw hI
  ·exact tI _ e hw) e
 have keepL:∀ {mm},s.heap.Ns env.locals mm->h'.Ns env.locals mm:=fun z0=>ob3_2 z0 fun ob es ep e r=>⟨ob,es,ep,he _ _ hL e,r⟩
 have keepC:∀ {y a v},env.cells.lookup y=some a->s.heap.IsCell a v->h'.IsCell a v:=fun hy z0=>ob1_2 z0 fun ob e r=>⟨ob,he _ _ (hC _ _ hy) e,r⟩
 refine ⟨g,c.ok,⟨hV,fun a ha=>ob1_1 (c.excl.live a (hWW a ha)) fun ob e=>⟨ob,he a ob (fun q=>nI (q ▸ ha)) e⟩⟩,fun z d' hv hd'=>?_,ob1_1 c.ns fun mm hmm=>⟨mm,keepL hmm⟩,fun z a e=>ob1_1 (c.cellsAt z a e) fun v q=>⟨v,keepC e q⟩⟩
 refine ob1_2 (c.vars z d' hv hd') fun v a b=>?_
 refine in1_2 v ?_ ((b.mono kx).weak hWW)
 rcases a with ⟨a,mm,hmm,hz⟩ | ⟨a,nd,q,hq,hz⟩
 ·exact .inl ⟨a,mm,keepL hmm,hz⟩
 ·exact .inr ⟨a,nd,q,hq,keepC hq hz⟩
inductive Qi5 (G:Amb) (n:Nat) (V:Addr->Prop) (ks:Qi) (A:Around) (env:Env) (s:Shared) (U W:Addr->Prop) (I:Addr) (J:List D->Qf->Shared->Prop) (k:Nat) (s':Shared):Prop
 | mk (rest:List D) (ρ':Qf) (h1:Step G U s s') (h2:Cx G n V ks A env s' W ρ') (h3:ItAt G s'.heap W I rest) (h4:J rest ρ' s') (h5:k=rest.length):Qi5 G n V ks A env s U W I J k s'
theorem for_any{A:Around}{env:Env}{s:Shared}{W O U:Addr->Prop}{ρ:Qf}{ds:List D}{fs:Qf->Option (List D)}{x:Str}{px pos:Pos}{iter:Expr}{body:List Stmt}
  {Q:Flow->Shared->Prop}{E:Value->Shared->Prop}
  (c:Cx G n V ks A env s W ρ)(o:Own G ks env W O)(hk:ks.lookup x=some .local∨ks.lookup x=some .cell)(hd:(x == ("__classdict__":Str))=false)
  (hsrc:Qc3 G n V ks iter fs)(hfold:∀ env v,foldedSetIterable iter env v=pure v)(hf:fs ρ=some ds)
  (hOU:∀ a,O a->U a)(hVU:∀ a,V a->U a)(hUW:∀ a,U a->W a)
  (J:List D->Qf->Shared->Prop)(h0:∀ s₁,Step G V s s₁->J ds ρ s₁)
  (item:∀ I d rest ρ₁ s₁ s2,s.heap.get? I=none->J (d :: rest) ρ₁ s₁->Step G U s s₁->Step G (fun a=>a=I∨O a) s₁ s2->Step G U s s2->Cx G n V ks A env s2 (fun a=>W a∨a=I) (upd ρ₁ x d)->
   wpAny (model G.prog G.w) A (execs body env) (fun fl s3=>Step G U s2 s3∧match fl with
    | .next | .cont=>∃ ρ2,Cx G n V ks A env s3 (fun a=>W a∨a=I) ρ2∧J rest ρ2 s3
    | .brk=>Q .next s3
    | .ret v=>Q (.ret v) s3) (cameBackBy (model G.prog G.w) A env E |> notedBy (model G.prog G.w) A env) s2)
  (fin:∀ I ρ₁ s₁ h',s.heap.get? I=none->J [] ρ₁ s₁->Step G U s s₁->Heap.ExtBut I s₁.heap h'->Step G U s { s₁ with heap:=h' }->Cx G n V ks A env { s₁ with heap:=h' } W ρ₁->Q .next { s₁ with heap:=h' }):
  wpAny (model G.prog G.w) A (exec (.For (.Name x px) iter body [] pos) env) Q E s:=by
 refine wpAny_For (hsrc A env s W ρ ds _ E c hf fun I s₁ k1 hI it1=>?_) (hfold env)
 have nV:¬ V I:=fun q=>by obtain ⟨ob,e⟩:=c.excl.live I (c.excl.sub I q);rw [hI] at e;exact nSo e
 have nW:¬ W I:=c.excl.fresh hI
 have nU:¬ U I:=fun q=>nW (hUW I q)
 have nO:¬ O I:=fun q=>nU (hOU I q)
 have bI:G.h₀.get? I=none:=by
  cases q:G.h₀.get? I with
  | none=>rfl
  | some ob=>rw [c.good.base I ob q] at hI;exact noS hI
 have liveL:env.locals≠I:=fun e=>by refine ob4_2 c.ns fun m ob es ep e' _=>?_;rw [e,hI] at e';exact nSo e'
 have liveC:∀ y a,env.cells.lookup y=some a->a≠I:=fun y a e q=>by refine ob2_2 (c.cellsAt y a e) fun v ob e' _=>?_;rw [q,hI] at e';exact nSo e'
 refine ob1_2 it1.cls fun oI eI _=>?_
 have c1:Cx G n V ks A env s₁ (fun a=>W a∨a=I) ρ:=c.widen k1 (fun a ha=>.inl ha) (fun a ob e hw=>hw.elim id fun q=>by rw [q,hI] at e;exact nSo e)
  (fun a ha=>ha.elim (fun q=>(c.step k1).excl.live a q) fun q=>⟨oI,q ▸ eI⟩)
 refine codeAny_forLoop (Qi5 G n V ks A env s U (fun a=>W a∨a=I) I J) ?_ ds.length
  ⟨ds,ρ,k1.mono hVU,c1,it1,h0 s₁ k1,rfl⟩
 rintro k s2 ⟨rest,ρ',k2,c₂,it2,j2,rfl⟩
 refine Zf ?_;intro Q0 E0
 refine ob1_2 it2.cls fun oI2 eI2 tI=>?_
 cases rest with
 | nil=>
  refine Qcf it2 c₂.good.cold fun h' he=>wpAny_execs_nil ?_
  have kE:=k2.ext he hI bI
  exact fin I ρ' s2 h' hI j2 k2 he kE (c₂.ext he (c.good.step kE) (.inr rfl) (fun ob e t=>by rw [eI2] at e;obtain rfl:=Qo e;exact tI t) nW (fun a ha=>.inl ha) c.excl.sub liveL liveC)
 | cons d rest=>
  refine Qbc it2 (.inr rfl) fun v h1 tk1 hs1 it3 rv3=>?_
  have kI:Step G (fun a=>a=I) s2 { s2 with heap:=h1,toks:=tk1 }:=Qn hs1 rfl bI (ob1_2 it3.cls fun ob e _=>⟨ob,e⟩) (fun ob e t=>by rw [eI2] at e;obtain rfl:=Qo e;exact tI t) it2.noFrm it2.noTab
  have c3:=c₂.stepU kI (fun a ha=>.inr ha) liveL (fun y a ha=>liveC y a ha)
  refine wpAny_assign_Name (Qt c3 (fun a ha=>.inl (o.sub a ha)) o.base (o.store hk hd) rv3 fun s4 k4 c4=>?_)
  refine Zf ?_;intro Q0 E0
  have kk:Step G (fun a=>a=I∨O a) s2 s4:=(kI.mono fun a ha=>.inl ha).trans (k4.mono fun a ha=>.inr ha)
  have it4:=it3.mono (k4.keepX (W:=fun a=>W a∨a=I) fun a ha=>.inl (o.sub a ha)) (fun ob e hf=>k4.exact e (.inl nO) hf)
  have k24:Step G U s s4:=k2.later kk (fun a ha=>ha.elim (fun q=>.inl (q ▸ hI)) fun q=>.inr (hOU a q))
  refine wpAny_mono (item I d rest ρ' s2 s4 hI j2 k2 kk k24 c4) (fun fl s5 hq=>?_) (fun _ _ e=>e)
  obtain ⟨k5,hq⟩:=hq
  have fin':(∃ ρ2,Cx G n V ks A env s5 (fun a=>W a∨a=I) ρ2∧J rest ρ2 s5)->∃ m,m < (d :: rest).length∧Qi5 G n V ks A env s U (fun a=>W a∨a=I) I J m s5:=by
   intro z0;refine ob1_2 z0 fun ρ2 c₅ j5=>?_
   refine in1_2 rest.length (by simp) ⟨rest,ρ2,k24.trans k5,c₅,it4.mono (k5.keepX (W:=fun a=>W a∨a=I) fun a ha=>.inl (hUW a ha)) (fun ob e hf=>k5.exact e (.inl nU) hf),j5,rfl⟩
  cases fl with
  | next=>exact fin' hq
  | cont=>exact fin' hq
  | brk=>exact hq
  | ret v=>exact hq
end
noncomputable def forL(x:Str)(g:Qf->Option Out):List D->Qf->Option Out
 | [],ρ=>some (.next ρ)
 | d :: ds,ρ=>(g (upd ρ x d)).bind fun o=>match o with | .next ρ'=>forL x g ds ρ' | .ret d=>some (.ret d)
section
variable {G:Amb}{n:Nat}{V:Addr->Prop}{ks:Qi}
theorem Qht[Qab G]{x:Str}{px pos:Pos}{iter:Expr}{body:List Stmt}{fs:Qf->Option (List D)}{g:Qf->Option Out}(hsrc:Qc3 G n V ks iter fs)(hfold:∀ env v,foldedSetIterable iter env v=pure v)
  (hk:ks.lookup x=some .local∨ks.lookup x=some .cell)(hd:(x == ("__classdict__":Str))=false)(hb:ExOk G n V ks body g):
  Qm1 G n V ks (.For (.Name x px) iter body [] pos) (fun ρ=>(fs ρ).bind fun ds=>forL x g ds ρ):=by
 intro A env s W O ρ out Q E c o hg h
 simp only [Option.bind_eq_some_iff] at hg;replace hg:=hg
 refine ob1_2 hg fun ds hds hg=>?_
 refine for_any (U:=Or2 V O) c o hk hd hsrc hfold hds (fun a=>.inr) (fun a=>.inl) (fun a ha=>ha.elim (c.excl.sub a) (o.sub a)) (fun rest ρ' _=>forL x g rest ρ'=some out) (fun _ _=>hg) ?_ ?_
 ·intro I d rest ρ₁ s₁ s2 hI hj k1 k12 k2 c₂
  simp only [forL,Option.bind_eq_some_iff] at hj;replace hj:=hj
  refine ob1_2 hj fun o1 ho1 hj=>?_
  refine hb A env s2 _ O _ o1 _ _ c₂ (o.wide fun a ha=>.inl ha) ho1 fun fl s3 k3 r₃=>⟨k3,?_⟩
  cases o1 with
  | next ρ'=>
   obtain ⟨rfl,c3⟩:=r₃
   exact in1_2 ρ' c3 hj
  | ret d'=>
   obtain rfl:=Qo hj
   refine ob1_2 r₃ ?_;rintro v rfl r
   exact h _ s3 (k2.trans k3) ⟨v,rfl,r.weak fun a ha=>.inl ha⟩
 ·intro I ρ₁ s₁ h' hI hj k1 he kE cE
  obtain rfl:=Qo hj
  exact h _ _ kE ⟨rfl,cE⟩
theorem Qe1[Qab G]{A:Around}{env:Env}{s:Shared}{W O:Addr->Prop}{ρ:Qf}{x y:Str}{px py p:Pos}{k:Nat}{t:Addr}{v u:Value}{a b:D}{Q:Unit->Shared->Prop}{E:Value->Shared->Prop}
  (c:Cx G n V ks A env s W ρ)(o:Own G ks env W O)(hkx:ks.lookup x=some .local∨ks.lookup x=some .cell)(hky:ks.lookup y=some .local∨ks.lookup y=some .cell)(hdx:(x == ("__classdict__":Str))=false)(hdy:(y == ("__classdict__":Str))=false)
  (ht:s.heap.IsTuple t #[v,u])(rv:Rep G s.heap W v a)(ru:Rep G s.heap W u b)(h:∀ s',Step G O s s'->Cx G n V ks A env s' W (upd (upd ρ x a) y b)->Q () s'):
  wpAny (model G.prog G.w) A (assign (.Tuple [.Name x px,.Name y py] k p) env (.ref t)) Q E s:=by
 refine wpAny_assign_Tuple c.good.cold ht rfl rfl fun h' he=>?_
 have k1:Step G (fun _=>False) s { s with heap:=h',toks:=s.toks }:=.of_heap fun b ob e=>he b ob (Nat.ne_of_lt (Heap.lt_size e)) e
 have c1:Cx G n V ks A env { s with heap:=h',toks:=s.toks } W ρ:=c.stepU k1 (fun _ q=>q.elim) id (fun _ _ _=>id)
 have kx:=k1.keepX (W:=W) (fun _ q=>q.elim)
 show wpAny _ A (do holding [u] (assign (.Name x px) env v);do holding [] (assign (.Name y py) env u);pure ()) _ _ _
 refine wpAny_bind (wpAny_holding (wpAny_assign_Name (Qt c1 o.sub o.base (o.store hkx hdx) (rv.mono kx) fun s2 k2 c₂=>?_)))
 refine wpAny_bind (wpAny_holding (wpAny_assign_Name (Qt c₂ o.sub o.base (o.store hky hdy) ((ru.mono kx).mono (k2.keepX o.sub)) fun s3 k3 c3=>wpAny_pure ?_)))
 exact h s3 (((k1.mono fun _ q=>q.elim).trans k2).trans k3) c3
noncomputable def pairD(d:D):Option (PyData × PyData):=(aT d).bind l2
theorem st_pair[Qab G]{x y:Str}{px py p pos:Pos}{k:Nat}{e:Expr}{f:Qf->Option D}(he:Zo G n V ks e f)(hkx:ks.lookup x=some .local∨ks.lookup x=some .cell)(hky:ks.lookup y=some .local∨ks.lookup y=some .cell)(hdx:(x == ("__classdict__":Str))=false)(hdy:(y == ("__classdict__":Str))=false)
  (hs:∀ env,swapsWithSole [.Tuple [.Name x px,.Name y py] k p] e pos.line env=pure false)(hw:∀ env,EnvOk G V ks env->swappedStores [.Tuple [.Name x px,.Name y py] k p] e env=pure none):
  Qm1 G n V ks (.Assign [.Tuple [.Name x px,.Name y py] k p] e pos) (fun ρ=>(f ρ).bind fun d=>(pairD d).map fun q=>.next (upd (upd ρ x (.data q.1)) y (.data q.2))):=by
 intro A env s W O ρ out Q E c o hg h
 simp only [Option.bind_eq_some_iff,Option.map_eq_some_iff] at hg
 obtain ⟨d,hd,⟨a,b⟩,hp,rfl⟩:=hg
 refine wpAny_Assign_stores (he A env s W ρ d _ E c hd fun v s₁ k1 r₁=>?_) (hs env) (hw env c.ok)
 unfold pairD at hp
 refine ob1_2 (ivT hp) ?_;rintro l rfl hp
 obtain rfl:=l2_inv hp
 refine ob4_5 (RepD.tuple_iff r₁) ?_;rintro t ob vs m rfl e1 e2 e3 rs
 refine ob2_3 rs.inv ?_;rintro v vs' rfl rv rs
 refine ob2_3 rs.inv ?_;rintro u vs' rfl ru rs
 have:=rs.inv_nil
 subst this
 exact Qe1 (k:=k) (a:=.data a) (b:=.data b) (c.step k1) o hkx hky hdx hdy ⟨ob,e1,e2,m,e3⟩ rv ru fun s2 k2 c₂=>h _ s2 ((k1.mono fun _=>.inl).trans (k2.mono fun _=>.inr)) ⟨rfl,c₂⟩
noncomputable def outD:Out->D
 | .ret d=>d
 | .next _=>.data .none
noncomputable def Xt(xs:List Str)(ds:List D):Qf:=fun y=>(xs.zip ds).lookup y
theorem Qey{K:Str->Option NameKind}{y:Str}:∀ {bs:List (Str × Value)}{m:Str->Option Value},(∀ b ∈ bs,b.1≠y)->bindL K bs m y=m y
 | [],_,_=>rfl
 | (x,v) :: r,m,h=>by
  unfold bindL
  rw [Qey fun b hb=>h b (.tail _ hb)]
  split
  ·exact if_neg fun e=>h (x,v) (.head _) e.symm
  ·rfl
theorem Qe0{K:Str->Option NameKind}{y:Str}:∀ {bs:List (Str × Value)}{m:Str->Option Value},(∀ b ∈ bs,b.1≠y)->bindC K bs m y=m y
 | [],_,_=>rfl
 | (x,v) :: r,m,h=>by
  unfold bindC
  rw [Qe0 fun b hb=>h b (.tail _ hb)]
  split
  ·rfl
  ·exact if_neg fun e=>h (x,v) (.head _) e.symm
theorem Qex{K:Str->Option NameKind}{y:Str}(hy:K y=some .local):∀ {xs:List Str}{vs:List Value}{v:Value}{m:Str->Option Value},xs.Nodup->(xs.zip vs).lookup y=some v->bindL K (xs.zip vs) m y=some v
 | [],_,_,_,_,h=>by simp at h
 | _ :: _,[],_,_,_,h=>by simp at h
 | x :: xs,u :: vs,v,m,hn,h=>by
  rw [List.zip_cons_cons,List.lookup_cons] at h
  rw [List.zip_cons_cons]
  unfold bindL
  cases hb:y == x with
  | true=>
   rw [hb] at h;obtain rfl:=Qo h
   have e:=eq_of_beq hb
   subst e
   refine wG (Qey fun b hb' e=>(List.nodup_cons.mp hn).1 (by have:=(List.of_mem_zip (a:=b.1) (b:=b.2) hb').1;rwa [e] at this)) (wG (if_pos hy) ?_)
   exact if_pos rfl
  | false=>
   rw [hb] at h
   exact Qex hy (List.nodup_cons.mp hn).2 h
theorem Qez{K:Str->Option NameKind}{y:Str}(hy:K y≠some .local):∀ {xs:List Str}{vs:List Value}{v:Value}{m:Str->Option Value},xs.Nodup->(xs.zip vs).lookup y=some v->bindC K (xs.zip vs) m y=some v
 | [],_,_,_,_,h=>by simp at h
 | _ :: _,[],_,_,_,h=>by simp at h
 | x :: xs,u :: vs,v,m,hn,h=>by
  rw [List.zip_cons_cons,List.lookup_cons] at h
  rw [List.zip_cons_cons]
  unfold bindC
  cases hb:y == x with
  | true=>
   rw [hb] at h;obtain rfl:=Qo h
   have e:=eq_of_beq hb
   subst e
   refine wG (Qe0 fun b hb' e=>(List.nodup_cons.mp hn).1 (by have:=(List.of_mem_zip (a:=b.1) (b:=b.2) hb').1;rwa [e] at this)) (wG (if_neg hy) ?_)
   exact if_pos rfl
  | false=>
   rw [hb] at h
   exact Qez hy (List.nodup_cons.mp hn).2 h
theorem Qar{h:Heap}{W:Addr->Prop}{y:Str}:∀ {xs:List Str}{vs:List Value}{ds:List D}{d:D},RepL G h W vs ds->(xs.zip ds).lookup y=some d->∃ v,(xs.zip vs).lookup y=some v∧Rep G h W v d
 | [],_,_,_,_,e=>by simp at e
 | _ :: _,[],[],_,_,e=>by simp at e
 | x :: xs,v :: vs,d' :: ds,d,r,e=>by
  rw [List.zip_cons_cons,List.lookup_cons] at e ⊢
  cases hb:y == x with
  | true=>rw [hb] at e;obtain rfl:=Qo e;exact in1_2 v rfl r.1
  | false=>rw [hb] at e;exact Qar r.2 e
 | _ :: _,[],_ :: _,_,r,_=>r.elim
 | _ :: _,_ :: _,[],_,r,_=>r.elim
theorem Good.deeper{A:Around}{h:Heap}{env:Env}{L:Addr}(g:Good G (n + 1) A h)(hk:env.scope.kind=.function)(hf:env.frame=some L)(hl:FrmAt h L)(h0:G.h₀.get? L=none):Good G n (A.deeper env) h:=by
 refine ⟨g.base,g.handled,?_,?_,?_⟩
 ·have:=g.depth
  show A.depth + 1 + n < 1000
  lia
 ·have:=g.units
  show A.units + 3 + 20 * n < 9000
  lia
 ·refine ob1_2 g.stk fun envs e p=>?_
  refine in1_2 (env :: envs) (by show A.frames.map (env :: ·)=_;rw [e];rfl) (fun e' he=>?_)
  rcases List.mem_cons.mp he with rfl | he
  ·exact ⟨hk,L,hf,hl,h0⟩
  ·exact p e' he
structure DefAt (G:Amb) (fa:Addr) (name:Str) (params:Arguments) (body:List Stmt) (scope:Scope):Prop where
 ex:∃ o pm code doc,G.h₀.get? fa=some o∧o.data=.func (Calls.docDef name params body scope pm code doc)∧G.h₀.CodeRec code name
theorem fun_def{fa:Addr}{name:Str}{params:Arguments}{body:List Stmt}{scope:Scope}{xs:List Str}{g:Qf->Option Out}(AG:Qv G)(hd:DefAt G fa name params body scope)
  (hbind:∀ pm code doc vs,vs.length=xs.length->bindArgs (Calls.docDef name params body scope pm code doc) ⟨vs,[]⟩=pure (xs.zip vs))
  (hxs:xs.all (fun x=>scope.names.lookup x == some .local || scope.names.lookup x == some .cell)=true)(hcd:scope.names.all (fun p=>!(p.1 == ("__classdict__":Str)))=true)(hnd:xs.Nodup)
  (hbody:ExOk G n V scope.names body g)(hco:scope.isCoroutine=false)(hgen:scope.isGenerator=false)(hk:scope.kind=.function)(hfree:scope.names.all (fun p=>!(p.2 == .free))=true):
  Qi4 G (n + 1) V (.ref fa) (fun ds=>if ds.length=xs.length then (g (Xt xs ds)).map outD else none):=by
 refine ob4_3 hd.ex fun o pm code doc ho hdat hcr=>?_
 intro A s W vs ds d Q E gd ex r hF h
 simp only at hF
 split at hF
 ·rename_i hlen
  simp only [Option.map_eq_some_iff] at hF;replace hF:=hF
  refine ob1_2 hF ?_;rintro out hout rfl
  have hvl:vs.length=xs.length:=r.length.trans hlen
  have hlocal:∀ x,x ∈ xs->scope.names.lookup x=some .local∨scope.names.lookup x=some .cell:=fun x hx=>by
   have:=List.all_eq_true.mp hxs x hx
   simpa using this
  refine wpAny_call (Jy (fd:=Calls.docDef name params body scope pm code doc) (binds:=xs.zip vs) (by have:=gd.depth;show A.depth < 1000;lia) (gd.base _ _ ho) hdat (AG.nolimit.keeps gd.base) (hcr.keeps gd.base) rfl (hbind pm code doc vs hvl) rfl
   (fun q hq=>?_) (fun s₁ X hfr=>?_) hco hgen hk)
  ·rcases hlocal q.1 (List.of_mem_zip hq).1 with e | e
   ·exact .inl e
   ·refine ob1_1 (Xe (n:=s.heap.objs.size + 1) (acc:=[]) (mem_of_lookup e)) fun c' hc'=>?_
    refine ob1_1 (Za hc') fun c'' hc''=>?_
    exact .inr ⟨e,by show ((cellsFrom (s.heap.objs.size + 1) scope.names []).lookup q.1).isSome=true;rw [hc''];rfl⟩
  ·revert X;refine Qdb (callEnvC (Calls.docDef name params body scope pm code doc) s.heap.objs.size fa) fun env henv=>?_;intro X
   have e_scope:env.scope=scope:=by rw [← henv];rfl
   have e_loc:env.locals=s.heap.objs.size:=by rw [← henv];rfl
   have e_cells:env.cells=cellsFrom (s.heap.objs.size + 1) scope.names []:=by rw [← henv];rfl
   have e_frame:env.frame=some s.heap.objs.size:=by rw [← henv];rfl
   have e_kind:∀ y,env.kindOf y=scope.names.lookup y:=fun y=>by unfold Env.kindOf;rw [e_scope]
   refine ob2_1 X.toInCall.same fun h₁ tk hs1=>?_
   have k1:Step G V s s₁:=by
    have hk':=X.toInCall.keep
    rw [hs1] at hk' ⊢
    exact .of_heap (s:=s) hk'
   let O:Addr->Prop:=fun a=>s.heap.get? a=none∧∃ o,s₁.heap.get? a=some o
   have nsL:=X.toInCall.ns
   have liveL:∃ o,s₁.heap.get? s.heap.objs.size=some o:=by
    refine ob3_2 nsL fun o es ep e _=>?_
    rw [e_loc] at e
    exact ⟨o,e⟩
   have newL:s.heap.get? s.heap.objs.size=none:=Heap.get?_none_of_le (Nat.le_refl _)
   have base0:∀ a,s.heap.get? a=none->G.h₀.get? a=none:=fun a e=>by
    cases q:G.h₀.get? a with
    | none=>rfl
    | some o=>rw [gd.base a o q] at e;exact noS e
   have cellNew:∀ y a,env.cells.lookup y=some a->O a∧s₁.heap.IsCell a (bindC env.kindOf (xs.zip vs) (fun _=>none) y):=fun y a e=>by
    have h1:=X.cell y a e
    have h2:=X.above y a (mem_of_lookup e)
    rw [e_loc] at h2
    refine ob1_2 (id h1) fun o e' _=>?_
    exact ⟨⟨Heap.get?_none_of_le (Nat.le_of_lt h2),o,e'⟩,h1⟩
   have oL:O env.locals:=by rw [e_loc];exact ⟨newL,liveL⟩
   have nV:∀ a,O a->¬ V a:=fun a ha q=>by refine ob1_1 (ex.live a (ex.sub a q)) fun o e=>?_;rw [ha.1] at e;exact nSo e
   have eok:EnvOk G V scope.names env:=by
    refine ⟨by rw [e_scope];exact hk,by rw [e_scope],by rw [← henv];rfl,by rw [← henv];rfl,fun y hy=>?_,⟨nV _ oL,fun y a e=>nV a (cellNew y a e).1⟩,fun y y' a e e'=>name_of_addr X.apart (mem_of_lookup e) (mem_of_lookup e')⟩
    refine wG e_cells ?_
    rcases hy with hy | hy
    ·refine ob1_1 (Xe (n:=s.heap.objs.size + 1) (acc:=[]) (mem_of_lookup hy)) fun c' hc'=>?_
     exact Za hc'
    ·have:=List.all_eq_true.mp hfree _ (mem_of_lookup hy)
     simp at this
   have nx:Qd0 s.heap W (fun a=>W a∨O a):=fun a ob e hw=>hw.elim id fun q=>by rw [q.1] at e;exact nSo e
   have cx:Cx G n V scope.names (A.deeper env) env s₁ (fun a=>W a∨O a) (Xt xs ds):=by
    refine ⟨(gd.step k1).deeper (by rw [e_scope];exact hk) e_frame hfr (base0 _ newL),eok,⟨fun a ha=>.inl (ex.sub a ha),fun a ha=>ha.elim (fun q=>(ex.step k1).live a q) fun q=>q.2⟩,fun y d' hv hd'=>?_,⟨_,nsL⟩,fun y a e=>⟨_,(cellNew y a e).2⟩⟩
    refine ob1_2 (Qar (r.strong nx) hd') fun v hv' rv=>?_
    refine in1_2 v ?_ (rv.mono (k1.keepX fun a ha=>.inl (ex.sub a ha)))
    have hy:y ∈ xs:=(List.of_mem_zip (mem_of_lookup hv')).1
    rcases hlocal y hy with e | e
    ·exact .inl ⟨(e_kind y).trans e,_,nsL,Qex ((e_kind y).trans e) hnd hv'⟩
    ·refine ob1_1 (eok.cells y (.inl e)) fun c' hc'=>?_
     refine .inr ⟨.inl ((e_kind y).trans e),?_,c',hc',?_⟩
     ·have:=List.all_eq_true.mp hcd _ (mem_of_lookup e)
      simpa using this
     ·have:=(cellNew y c' hc').2
      rw [Qez (by refine wG (e_kind ..) (wG (e ..) ?_);decide) hnd hv'] at this
      exact this
   have own:Own G scope.names env (fun a=>W a∨O a) O:=⟨fun a ha=>.inr ha,fun a ha=>base0 a ha.1,oL,fun y a _ e=>(cellNew y a e).1⟩
   refine hbody (A.deeper env) env s₁ _ O _ out _ _ cx own hout fun fl s2 k2 r₂=>?_
   have k12:Step G V s s2:=k1.later k2 fun a ha=>ha.elim .inr fun q=>.inl q.1
   cases out with
   | next ρ'=>
    refine Qx r₂ ?_;rintro rfl _
    exact h _ s2 k12 RepD.none
   | ret d=>
    refine ob1_2 r₂ ?_;rintro v rfl rv
    exact h _ s2 k12 (rv.weak fun a ha=>.inl ha)
 ·exact nSo hF
theorem FnOk.mk'{name:Str}{fa:Addr}{params:Arguments}{body:List Stmt}{scope:Scope}{F:List D->Option D}(hd:DefAt G fa name params body scope)(hm:G.mg name=some (.ref fa))(hf:Qi4 G n V (.ref fa) F):FnOk G n V name F:=by
 refine ob4_3 hd.ex fun o pm code doc ho hdat hcr=>?_
 exact ⟨fa,o,_,hm,ho,hdat,hf⟩
end
noncomputable def stOf(i:Nat):Option Stmt:=PySem.Challenge.pw_il0051_01.main.body[i]?
noncomputable def Jl(i:Nat):List Stmt:=match stOf i with
 | some (.FunctionDef _ _ b _ _ _ _ _ _ _)=>b
 | _=>[]
noncomputable def Qiz(i:Nat):Arguments:=match stOf i with
 | some (.FunctionDef _ a _ _ _ _ _ _ _ _)=>a
 | _=>default
noncomputable def Qe(i:Nat):Scope:=match stOf i with
 | some (.FunctionDef _ _ _ _ _ _ s _ _ _)=>s
 | _=>default
noncomputable def Jn(i:Nat):Str:=match stOf i with
 | some (.FunctionDef n _ _ _ _ _ _ _ _ _)=>n
 | _=>default
structure Xf (G:Amb) (i:Nat):Prop where
 ex:∃ fa,DefAt G fa (Jn i) (Qiz i) (Jl i) (Qe i)∧G.mg (Jn i)=some (.ref fa)
theorem ofString_inj(a b:String):Str.ofString a=Str.ofString b↔a=b:=by
 refine ⟨fun h=>?_,fun h=>by rw [h]⟩
 rw [Str.ofString_eq_toList,Str.ofString_eq_toList] at h
 have h1:=congrArg (fun s=>s.cps.toList) h
 simp only at h1
 have h2:a.toList=b.toList:=by
  have inj:∀ {l m:List Char},l.map Char.toNat=m.map Char.toNat->l=m:=by
   intro l
   induction l with
   | nil=>intro m h;cases m with
    | nil=>rfl
    | cons c r=>simp at h
   | cons c r ih=>intro m h;cases m with
    | nil=>simp at h
    | cons d t=>
     simp only [List.map_cons,List.cons.injEq] at h
     exact wG (ih h.2) (wG (Char.toNat_inj.mp h.1) rfl)
  exact inj h1
 exact String.toList_inj.mp h2
theorem Qfm(ds:List D)(y:Str):Xt [] ds y=none:=rfl
theorem Qp(x:Str)(xs:List Str)(d:D)(ds:List D)(y:Str):Xt (x :: xs) (d :: ds) y=if y=x then some d else Xt xs ds y:=by
 unfold Xt
 refine wG List.zip_cons_cons (wG List.lookup_cons ?_)
 by_cases h:y=x
 ·subst h;simp
 ·have:(y == x)=false:=by simpa using h
  exact wG this (wG (if_neg h) rfl)
section
variable {G:Amb}{n:Nat}{V:Addr->Prop}{ks:Qi}
theorem Qfe{i:Nat}{nm:Str}{xs:List Str}{g:Qf->Option Out}(AG:Qv G)(hd:Xf G i)(hn:Jn i=nm)
  (hbind:∀ pm code doc vs,vs.length=xs.length->bindArgs (Calls.docDef (Jn i) (Qiz i) (Jl i) (Qe i) pm code doc) ⟨vs,[]⟩=pure (xs.zip vs))
  (hxs:xs.all (fun x=>(Qe i).names.lookup x == some .local || (Qe i).names.lookup x == some .cell)=true)(hcd:(Qe i).names.all (fun p=>!(p.1 == ("__classdict__":Str)))=true)(hnd:xs.Nodup)
  (hco:(Qe i).isCoroutine=false)(hgen:(Qe i).isGenerator=false)(hk:(Qe i).kind=.function)(hfree:(Qe i).names.all (fun p=>!(p.2 == .free))=true)
  (hbody:ExOk G n V (Qe i).names (Jl i) g):
  FnOk G (n + 1) V nm (fun ds=>if ds.length=xs.length then (g (Xt xs ds)).map outD else none):=by
 refine ob1_2 hd.ex fun fa hd hm=>?_
 rw [hn] at hd hm hbind
 exact FnOk.mk' hd hm (fun_def AG hd hbind hxs hcd hnd hbody hco hgen hk hfree)
theorem Qip{np pos:Pos}{args:List Expr}{fs:Qf->Option (List D)}(AG:Qv G)(FO:Zp G)(hk:ks.lookup ("len":Str)=some .globalImplicit)(ha:Qc4 G n V ks args fs):Zo G n V ks (.Call (.Name "len" np) args [] pos) (fun ρ=>(fs ρ).bind (one Qma)):=
 Qbl AG hk (FO _ dk) PyProof.Rows.Boot.«len» dk dk fun_len ha
theorem ev_sum[Qab G]{np pos:Pos}{args:List Expr}{fs:Qf->Option (List D)}(AG:Qv G)(FO:Zp G)(hk:ks.lookup ("sum":Str)=some .globalImplicit)(ha:Qc4 G n V ks args fs):Zo G n V ks (.Call (.Name "sum" np) args [] pos) (fun ρ=>(fs ρ).bind (one sumD)):=
 Qbl AG hk (FO _ dk) PyProof.Rows.Boot.«sum» dk dk fun_sum ha
theorem Qlu{elt:Expr}{gens:List Comprehension}{scope:Scope}{p:Pos}{x:Str}{px:Pos}{line:Nat}{env:Env}(he:EnvOk G V ks env)(hk:ks.lookup x=some .cell):
  swapsWith (.ListComp elt gens scope p) (some (.Name x px)) line env=pure false:=by
 refine wG (Qbe he) (wG hk ?_);rfl
theorem bind1{nm:Str}{body:List Stmt}{scope:Scope}{a:Arguments}{pm code doc:Value}{x:Str}(h:∀ v,bindArgs (Calls.docDef nm a body scope pm code doc) ⟨[v],[]⟩=pure [(x,v)]):∀ vs:List Value,vs.length=[x].length->bindArgs (Calls.docDef nm a body scope pm code doc) ⟨vs,[]⟩=pure ([x].zip vs)
 | [v],_=>h v
 | [],e=>by simp at e
 | _ :: _ :: _,e=>by simp at e
theorem bind2{nm:Str}{body:List Stmt}{scope:Scope}{a:Arguments}{pm code doc:Value}{x y:Str}(h:∀ v u,bindArgs (Calls.docDef nm a body scope pm code doc) ⟨[v,u],[]⟩=pure [(x,v),(y,u)]):∀ vs:List Value,vs.length=[x,y].length->bindArgs (Calls.docDef nm a body scope pm code doc) ⟨vs,[]⟩=pure ([x,y].zip vs)
 | [v,u],_=>h v u
 | [],e=>by simp at e
 | [_],e=>by simp at e
 | _ :: _ :: _ :: _,e=>by simp at e
theorem bind0{nm:Str}{body:List Stmt}{scope:Scope}{a:Arguments}{pm code doc:Value}(h:bindArgs (Calls.docDef nm a body scope pm code doc) ⟨[],[]⟩=pure []):∀ vs:List Value,vs.length=([]:List Str).length->bindArgs (Calls.docDef nm a body scope pm code doc) ⟨vs,[]⟩=pure (([]:List Str).zip vs)
 | [],_=>h
 | _ :: _,e=>by simp at e
end
section
variable {G:Amb}{V:Addr->Prop}
noncomputable def b3(a b:List Str):Int:=b2i (ltL b a) - b2i (ltL a b)
noncomputable abbrev Qz(l:List Str):D:=.data (.list (l.map .str))
noncomputable abbrev Xa(l:List Int):D:=.data (.list (l.map .int))
theorem Qha(AG:Qv G)(hd:Xf G 10):∃ F,FnOk G 1 V "three_way_cmp" F∧∀ a b:List Str,F [Qz a,Qz b]=some (.data (.int (b3 a b))):=by
 refine ⟨_,Qfe (n:=0) (xs:=["x","y"]) AG hd rfl (fun _ _ _=>bind2 fun _ _=>rfl) dk dk dk rfl rfl rfl dk
  (Qk (Qu (Zc Qef (ev_cmp op_gt (Qb _ _ dk dk) (Qb _ _ dk dk) rfl) (ev_cmp op_lt (Qb _ _ dk dk) (Qb _ _ dk dk) rfl))) Zh),?_⟩
 intro a b
 simp [Qp,Qfm,ofString_inj,Qz,gtD_l,ltD_l,strsOf?_map,subD_b,outD,b3]
end
section
variable {G:Amb}[Qab G] {V:Addr->Prop}
noncomputable def texts:List Str:=["","*","Fig","fig","figs"]
theorem fn_texts(AG:Qv G)(hd:Xf G 12):∃ F,FnOk G 1 V "_law_texts" F∧F []=some (Qz texts):=by
 refine ⟨_,Qfe (n:=0) (xs:=[]) AG hd rfl (fun _ _ _=>bind0 rfl) dk dk dk rfl rfl rfl dk
  (Qk (Qu (Qau (Qc (fun _=>rfl) (Qbv _ _ _) (Qc (fun _=>rfl) (Qbv _ _ _) (Qc (fun _=>rfl) (Qbv _ _ _) (Qc (fun _=>rfl) (Qbv _ _ _) (Qc (fun _=>rfl) (Qbv _ _ _) evs_nil)))))))
  Zh),?_⟩
 kernel_rfl
noncomputable def Qad(w:Int):List Int:=([0,1,2,3]:List Int).filter fun k=>w / 2 ^ k.toNat % 2 == 1
theorem upto{P:Int->Prop}(h:∀ k:Nat,k < 16->P k)(w:Int)(h0:0 <= w)(h1:w < 16):P w:=by
 rcases Int.eq_ofNat_of_zero_le h0 with ⟨k,rfl⟩
 exact h k (Int.ofNat_lt.mp h1)
theorem belowS{P:Nat->Prop}{n:Nat}(h:∀ k,k < n->P k)(hn:P n)(k:Nat)(hk:k < n + 1):P k:=(Nat.lt_succ_iff_lt_or_eq.mp hk).elim (h k) (fun e=>e ▸ hn)
theorem below0{P:Nat->Prop}(k:Nat)(h:k < 0):P k:=absurd h (Nat.not_lt_zero k)
theorem Qmj(AG:Qv G)(FO:Zp G)(hd:Xf G 14):∃ F,FnOk G 1 V "_law_members" F∧∀ w:Int,0 <= w->w < 16->F [.data (.int w)]=some (Xa (Qad w)):=by
 refine ⟨_,Qfe (n:=0) (xs:=["which"]) AG hd rfl (fun _ _ _=>bind1 fun _=>rfl) dk dk dk rfl rfl rfl dk
  (Qk (Qu (Jg dk (Xk AG rfl (FO _ dk) (Qc (fun _=>rfl) (Qj _ _ _) evs_nil)) (fun _ _=>rfl) (Qah (Ql Qh4 Qq (Zc Qas (Zc Qbb (Qb _ _ dk dk) (Zc op_pow (Qj _ _ _) (Qb _ _ dk dk))) (Qj _ _ _)) (Qj _ _ _) rfl)) (Qb _ _ dk dk)))
  Zh),?_⟩
 refine upto ?_
 repeat refine belowS ?_ rfl
 exact below0
end
noncomputable def tm(f:Option (PyData->Bool))(d:PyData):Bool:=PyData.casesOn d true (fun _=>false) (fun _=>true) (fun x=>decide (x ∈ texts)) (fun xs=>f.elim false fun f=>xs.all f) (fun xs=>f.elim false fun f=>xs.all f) fun _=>false
noncomputable def Qlt(k:Nat):PyData->Bool:=Nat.rec (tm none) (fun _ f=>tm (some f)) k
theorem Qkl(k:Nat)(i:Int):Qlt k (.int i)=true:=by cases k <;> rfl
theorem Qgk(k:Nat)(x:Str):Qlt k (.str x)=decide (x ∈ texts):=by cases k <;> rfl
theorem Qcd(k:Nat)(xs:List PyData):Qlt (k + 1) (.list xs)=xs.all (Qlt k):=rfl
theorem Qja:∀ x ∈ texts,PyData.strOk x=true:=by decide +kernel
theorem Qkf{k:Nat}(ih:∀ d,Qlt k d=true->d.canLay0=true∧d.depth <= k):∀ xs:List PyData,xs.all (Qlt k)=true->PyData.canLayAll0 xs=true∧PyData.depthAll xs <= k
 | [],_=>⟨rfl,Nat.zero_le _⟩
 | x :: xs,h=>by
  rw [List.all_cons,Bool.and_eq_true] at h;replace h:=h
  have h1:=ih x h.1
  have h2:=Qkf ih xs h.2
  refine ⟨by rw [PyData.canLayAll0,h1.1,h2.1];rfl,by rw [PyData.depthAll];lia⟩
theorem tame_lay:∀ (k:Nat) (d:PyData),Qlt k d=true->d.canLay0=true∧d.depth <= k:=by
 have hs:∀ {k:Nat}{x:Str},Qlt k (.str x)=true->PyData.canLay0 (.str x)=true∧PyData.depth (.str x) <= k:=fun {k x} h=>by
  rw [Qgk] at h
  exact ⟨by rw [PyData.canLay0];exact Qja x (of_decide_eq_true h),by simp [PyData.depth]⟩
 intro k
 induction k with
 | zero=>
  intro d h
  cases d with
  | none=>exact ⟨rfl,by simp [PyData.depth]⟩
  | int _=>exact ⟨rfl,by simp [PyData.depth]⟩
  | str x=>exact hs h
  | _=>exact fT h
 | succ k ih=>
  intro d h
  cases d with
  | none=>exact ⟨rfl,by simp [PyData.depth]⟩
  | int _=>exact ⟨rfl,by simp [PyData.depth]⟩
  | str x=>exact hs h
  | list xs=>
   have:=Qkf ih xs h
   rw [PyData.canLay0,PyData.depth]
   exact ⟨this.1,by lia⟩
  | tuple xs=>
   have:=Qkf ih xs h
   rw [PyData.canLay0,PyData.depth]
   exact ⟨this.1,by lia⟩
  | _=>exact fT h
theorem Qbz{d:PyData}(h:Qlt 9 d=true):okD d=true:=by
 have:=tame_lay 9 d h
 simp [okD,this.1,this.2]
noncomputable def texty(l:List Str):Prop:=∀ x ∈ l,x ∈ texts
theorem Qb3{l:List Str}(h:texty l):okD (.list (l.map .str))=true:=Qbz (by
 simp only [Qcd,Qgk,List.all_map,List.all_eq_true,Function.comp,decide_eq_true_eq];exact h)
theorem Qjq(l:List Int):okD (.list (l.map .int))=true:=Qbz (by
 simp [Qcd,Qkl,List.all_map,List.all_eq_true])
theorem Qkz{x:Str}(h:x ∈ texts):okD (.str x)=true:=Qbz (by simpa [Qgk] using h)
theorem Qh5(i:Int):okD (.int i)=true:=Qbz rfl
theorem Qci:∀ a b:List Str,PyData.eqvAll (a.map .str) (b.map .str)=decide (a=b)
 | [],[]=>by simp [PyData.eqvAll]
 | [],_ :: _=>by simp [PyData.eqvAll]
 | _ :: _,[]=>by simp [PyData.eqvAll]
 | a :: r,b :: t=>by
  simp only [List.map_cons,PyData.eqvAll,PyData.eqv,Qci r t]
  by_cases h:a=b <;> by_cases h':r=t <;> simp [h,h']
theorem any_str(l:List Str)(x:Str):((l.map PyData.str).any fun y=>PyData.eqv y (.str x))=decide (x ∈ l):=by
 induction l with
 | nil=>simp
 | cons a r ih=>
  rw [List.map_cons,List.any_cons,ih,PyData.eqv]
  by_cases h:a=x
  ·simp [h]
  ·by_cases h':x ∈ r <;> simp [h,h',Ne.symm h]
theorem any_int(l:List Int)(x:Int):((l.map PyData.int).any fun y=>PyData.eqv y (.int x))=decide (x ∈ l):=by
 induction l with
 | nil=>simp
 | cons a r ih=>
  rw [List.map_cons,List.any_cons,ih,PyData.eqv]
  by_cases h:a=x
  ·simp [h]
  ·by_cases h':x ∈ r <;> simp [h,h',Ne.symm h]
theorem Qk8{x:Str}{l:List Str}(hx:x ∈ texts)(hl:texty l):inD (.data (.str x)) (Qz l)=some (.data (.bool (decide (x ∈ l)))):=by
 unfold Qz
 rw [inD_d]
 simp only [Qkz hx,Qb3 hl,any_str,Bool.and_self,if_true]
theorem notIn_str{x:Str}{l:List Str}(hx:x ∈ texts)(hl:texty l):Qej (.data (.str x)) (Qz l)=some (.data (.bool (!decide (x ∈ l)))):=by
 unfold Qz
 rw [Qk1]
 simp only [Qkz hx,Qb3 hl,any_str,Bool.and_self,if_true]
theorem in_int(x:Int)(l:List Int):inD (.data (.int x)) (Xa l)=some (.data (.bool (decide (x ∈ l)))):=by
 unfold Xa
 rw [inD_d]
 simp only [Qh5,Qjq,any_int,Bool.and_self,if_true]
theorem Qj5{a b:List Str}(ha:texty a)(hb:texty b):eqD (Qz a) (Qz b)=some (.data (.bool (decide (a=b)))):=by
 unfold Qz
 rw [eqD_d]
 simp only [Qb3 ha,Qb3 hb,PyData.eqv,Qci,Bool.and_self,if_true]
theorem ne_strs{a b:List Str}(ha:texty a)(hb:texty b):neD (Qz a) (Qz b)=some (.data (.bool (!decide (a=b)))):=by
 unfold Qz
 rw [Qjs]
 simp only [Qb3 ha,Qb3 hb,PyData.eqv,Qci,Bool.and_self,if_true]
theorem Qjr(a b:List Int):neD (Xa a) (Xa b)=some (.data (.bool (!decide (a=b)))):=by
 unfold Xa
 rw [Qjs]
 simp only [Qjq,PyData.eqv,ked_eqvAll,Bool.and_self,if_true]
theorem Qe2{α:Type}(g:α->PyData)(l:List α):Xz (l.map fun a=>D.data (g a))=some (l.map g):=by
 induction l with
 | nil=>rfl
 | cons a r ih=>simp [asDatas_d,ih]
theorem pack_map{α:Type}(g:α->PyData)(l:List α):Qcs (l.map fun a=>D.data (g a))=some (.data (.list (l.map g))):=by
 unfold Qcs;exact wG (Qe2 ..) rfl
theorem Xp{α:Type}{x:Str}{c:Qf->Option Bool}{f:Qf->Option D}{ρ:Qf}{h:α->D}{p:α->Bool}{q:α->D}:∀ {l:List α},(∀ a ∈ l,c (upd ρ x (h a))=some (p a))->(∀ a ∈ l,p a=true->f (upd ρ x (h a))=some (q a))->
  Xl x c f ρ (l.map h)=some ((l.filter p).map q)
 | [],_,_=>rfl
 | a :: r,hc,hf=>by
  have ih:=Xp (l:=r) (fun b hb=>hc b (.tail _ hb)) (fun b hb=>hf b (.tail _ hb))
  rw [List.map_cons,Xl,hc a (.head _),Option.bind_some]
  cases hp:p a with
  | true=>rw [if_pos rfl,hf a (.head _) hp,Option.bind_some,ih,List.filter_cons_of_pos (by simpa using hp)];rfl
  | false=>exact wG (if_neg (by decide)) (wG ih (wG (List.filter_cons_of_neg (by simpa using hp)) rfl))
theorem Xq{α:Type}{x:Str}{f:Qf->Option D}{ρ:Qf}{h:α->D}{q:α->D}{l:List α}(hf:∀ a ∈ l,f (upd ρ x (h a))=some (q a)):
  Xl x (fun _=>some true) f ρ (l.map h)=some (l.map q):=by
 exact wG (Xp (p:=fun _=>true) (q:=q) (fun _ _=>rfl) (fun a ha _=>hf a ha)) (wG (List.filter_eq_self.mpr (fun _ _=>rfl)) rfl)
section
variable {G:Amb}[Qab G] {V:Addr->Prop}
noncomputable abbrev optL(l:List (Option Int)):D:=.data (.list (l.map optD))
noncomputable def lastTold(l:List (Option Int)):Option Int:=((l.filter (·.isSome)).getLast?).join
theorem fn_last(AG:Qv G)(hd:Xf G 15):∃ F,FnOk G 1 V "_law_last_told" F∧∀ l:List (Option Int),l.length <= 100->F [optL l]=some (.data (optD (lastTold l))):=by
 refine ⟨_,Qfe (n:=0) (xs:=["values"]) AG hd rfl (fun _ _ _=>bind1 fun _=>rfl) dk dk dk rfl rfl rfl dk
  (Qk (Qd5 dk (Zj (Qb _ _ dk dk)) (fun _ _=>rfl) (Qah (Ql op_isNot Qq (Qb _ _ dk dk) (Qaj _ _) rfl)) (Qb _ _ dk dk) rfl dk rfl rfl)
  (Qk (Qu (Qmm (Ql Qfa Qq (Qb _ _ dk dk) (Qau evs_nil) rfl) (Zu (fun _ _ _=>rfl) (Qb _ _ dk dk) (ev_un Qkk (Qj _ _ _))) (Qaj _ _)))
  Zh)),?_⟩
 intro l hl
 simp only [List.length_cons,List.length_nil,if_true,Qp,Jh,Ji,List.map_map,Option.bind_some]
 rw [Xp (p:=fun o=>o.isSome) (q:=fun o=>.data (optD o))]
 ·have e1:l.filter (·.isSome)=(l.filter (·.isSome)).map fun o=>some (o.getD 0):=by
   induction l with
   | nil=>rfl
   | cons a r ih=>cases a with
    | none=>simpa using ih (by simp at hl;lia)
    | some i=>simpa using ih (by simp at hl;lia)
  generalize hk:(l.filter (·.isSome)).map (fun o=>o.getD 0)=ns
  have e2:(l.filter (·.isSome)).map optD=ns.map .int:=by
   refine wG e1 (wG List.map_map (wS hk (wG List.map_map ?_)));rfl
  have e3:lastTold l=ns.getLast?:=by
   unfold lastTold
   refine wG e1 (wG (List.getLast?_map) (wS hk (wG (List.getLast?_map) ?_)))
   cases (l.filter (·.isSome)).getLast? <;> rfl
  have hn:ns.length <= 100:=by refine wS (hk ..) (wG (List.length_map ..) ?_);exact Nat.le_trans (List.length_filter_le _ _) hl
  rw [e3]
  simp only [List.length_map,Nat.le_trans hl (by decide:100 <= 1000),if_true,Option.bind_some,pack_map,e2,Option.map_some,Qd]
  have e4:Qcs []=some (Xa []):=rfl
  simp only [e4,Nat.zero_le,if_true,Option.bind_some,Qjr,Jz,negD_i]
  rcases List.eq_nil_or_concat ns with rfl | ⟨r,i,rfl⟩
  ·kernel_rfl
  ·have hl':r.length + 1 <= 100:=by simpa using hn
   have e5:Qb5 (Xa (r.concat i)) (.data (.int (-1)))=some (.data (.int i)):=by
    rw [idxD_l]
    have h1:¬ ((0:Int) <= -1∧(-1:Int) < 2 ^ 62):=by lia
    have h2:((-1:Int) < 0∧-(((r.concat i).map PyData.int).length:Int) <= -1∧((r.concat i).map PyData.int).length <= 1000):=by
     simp only [List.length_map,List.length_concat];lia
    have h3:((-1:Int) + (((r.concat i).map PyData.int).length:Int)).toNat=r.length:=by
     simp only [List.length_map,List.length_concat];lia
    simp only [h1,h2,h3,if_true,if_false]
    simp
   have e6:(!decide (r.concat i=([]:List Int)))=true:=by simp
   simp only [e6,e5,if_true,Option.map_some,Option.bind_some,outD]
   simp [optD]
 ·intro o _
  cases o <;> simp [upd,optD,isNotD_n,isNone_n,isNone_i,Jz]
 ·intro o _ _
  kernel_rfl
theorem fn_row(AG:Qv G)(hd:Xf G 17)(h_t:∃ F,FnOk G 1 V "_law_texts" F∧F []=some (Qz texts)):∃ F,FnOk G 2 V "_law_row" F∧∀ e:Ent,texty e.u->F [.ent e]=some (Qz (texts.filter fun t=>decide (t ∈ e.u))):=by
 refine ob1_2 h_t fun F h__law_texts eF=>?_
 refine ⟨_,Qfe (n:=1) (xs:=["merged"]) AG hd rfl (fun _ _ _=>bind1 fun _=>rfl) dk dk dk rfl rfl rfl dk
  (Qk (Qu (Jg dk (Zj (Zw AG h__law_texts rfl (by lia) (fun _ h=>h) dk evs_nil)) (fun _ _=>rfl) (Qah (Ql op_in Qq (Qb _ _ dk dk) (Zr AG .u (fun _=>rfl) (Qb _ _ dk dk)) rfl)) (Qb _ _ dk dk)))
  Zh),?_⟩
 intro e he
 simp only [List.length_cons,List.length_nil,if_true,Qp,eF,Jh,Ji,List.map_map,Option.bind_some]
 rw [Xp (p:=fun t=>decide (t ∈ e.u)) (q:=fun t=>.data (.str t))]
 ·simp [pack_map,outD,texts]
 ·intro t ht
  simp [upd,Qp,ofString_inj,attrD,Qk8 ht he,Jz]
 ·intro t ht _
  kernel_rfl
noncomputable def choose:Nat->Nat->Nat
 | _,0=>1
 | 0,_ + 1=>0
 | n + 1,k + 1=>choose n k + choose n (k + 1)
@[elab_as_elim] theorem le5{P:Nat->Prop}(h0:P 0)(h1:P 1)(h2:P 2)(h3:P 3)(h4:P 4)(n:Nat)(h:n <= 4):P n:=
 match n,h with
 | 0,_=>h0
 | 1,_=>h1
 | 2,_=>h2
 | 3,_=>h3
 | 4,_=>h4
 | n + 5,h=>absurd h (Nat.not_le_of_lt (Nat.le_add_left 5 n))
theorem fn_ways(AG:Qv G)(FO:Zp G)(hd:Xf G 24):∃ F,FnOk G 1 V "_law_ways" F∧∀ few many:Nat,few <= many->many <= 4->F [.data (.int few),.data (.int many)]=some (.data (.int (choose many few))):=by
 refine ⟨_,Qfe (n:=0) (xs:=["few","many"]) AG hd rfl (fun _ _ _=>bind2 fun _ _=>rfl) dk dk dk rfl rfl rfl dk
  (Qk (Zx (Qj _ _ _) (.inl rfl) dk (fun _ _=>rfl))
  (Qk (Qht (Xk AG rfl (FO _ dk) (Qc (fun _=>rfl) (Qb _ _ dk dk) evs_nil)) (fun _ _=>rfl) (.inl rfl) dk (Qk (Zx (Zc Qbb (Zc Qky (Qb _ _ dk dk) (Zc Qef (Qb _ _ dk dk) (Qb _ _ dk dk))) (Zc Qeg (Qb _ _ dk dk) (Qj _ _ _))) (.inl rfl) dk (fun _ _=>rfl))
  Zh))
  (Qk (Qu (Qb _ _ dk dk))
  Zh))),?_⟩
 intro few many h1 h2
 have h4:=Nat.le_trans h1 h2
 revert h1
 refine le5 ?_ ?_ ?_ ?_ ?_ many h2 <;> refine le5 ?_ ?_ ?_ ?_ ?_ few h4 <;> intro h1 <;> first | exact absurd h1 (by decide) | kernel_rfl
end
section
variable {prog:Program}{w:World}{A:Around}{E:Value->Shared->Prop}{R:Result->Shared->Prop}{s:Shared}
theorem two_start{e:Expr}{elt t1 i1 t2 i2:Expr}{scope:Scope}{pos:Pos}{it acc:Value}{env:Env}(he:e=.ListComp elt [⟨t1,i1,[],0⟩,⟨t2,i2,[],0⟩] scope pos)
  (h0:codeAny (model prog w) A (.compLoop e 1 it acc env) R s)
  (h:wpAny (model prog w) A (pyIter it) (fun it' s'=>codeAny (model prog w) A (.compLoop e 1 it' acc env) R s')
   (notedBy (model prog w) A env fun x s'=>R (.error x) s') s):
  codeAny (model prog w) A (.compStart e 1 it acc env) R s:=by
 subst he
 refine codeAny_of_tree ?_;refine Zf ?_;intro Q0 E0
 show wpAny _ _ ((compStart (.ListComp elt [⟨t1,i1,[],0⟩,⟨t2,i2,[],0⟩] scope pos) 1 it acc env).onRaise (fun x=>do noteFrame x env;standAt theWindowsPlace)) _ _ s
 refine wpAny_notedAt ?_
 unfold compStart
 show wpAny _ _ (ask >>= _) _ _ s
 refine wpAny_bind (wpAny_askSetting (wpAny_ite ?_))
 split
 ·first
   | exact wpAny_bind (wpAny_pure (wpAny_pure (And.intro rfl h0)))
   | exact wpAny_pure (And.intro rfl h0)
 ·first
   | exact wpAny_bind (wpAny_rule (wpAny_bind (wpAny_standAt (wpAny_bind (wpAny_mono h (fun it' s' h'=>wpAny_pure (And.intro rfl h')) fun _ _ x=>x)))))
   | (refine wpAny_bind (wpAny_rule ?_);show wpAny _ _ (standAt i2.pos >>= _) _ _ s;exact wpAny_bind (wpAny_standAt (wpAny_bind (wpAny_mono h (fun it' s' h'=>wpAny_pure (And.intro rfl h')) fun _ _ x=>x))))
theorem Qi8(elt t1 i1 t2 i2:Expr)(scope:Scope)(pos:Pos)(it acc:Value)(env:Env):
  compTurn (.ListComp elt [⟨t1,i1,[],0⟩,⟨t2,i2,[],0⟩] scope pos) 1 it acc env=(standAt i2.pos >>= fun _=>pyNext it >>= fun r=>match r with
   | none=>pure (.done .next)
   | some v=>letOwnedTupleGo t2 it v >>= fun _=>assign t2 env v >>= fun _=>
    (eval elt env >>= fun x=>call (.builtin "list.append") [acc,x] >>= fun _=>pure ()) >>= fun _=>
     again (.compLoop (.ListComp elt [⟨t1,i1,[],0⟩,⟨t2,i2,[],0⟩] scope pos) 1 it acc env)):=by rfl
theorem Qhq(elt t1 i1 t2 i2:Expr)(scope:Scope)(pos:Pos)(it acc:Value)(env:Env):
  compTurn (.ListComp elt [⟨t1,i1,[],0⟩,⟨t2,i2,[],0⟩] scope pos) 0 it acc env=(standAt i1.pos >>= fun _=>pyNext it >>= fun r=>match r with
   | none=>pure (.done .next)
   | some v=>letOwnedTupleGo t1 it v >>= fun _=>assign t1 env v >>= fun _=>
    eval i2 env >>= fun x=>standAt i2.pos >>= fun _=>foldedSetIterable i2 env x >>= fun x=>holding [x] (pyIter x) >>= fun it'=>
     runOwn (.compStart (.ListComp elt [⟨t1,i1,[],0⟩,⟨t2,i2,[],0⟩] scope pos) 1 it' acc env) env >>= fun _=>
     again (.compLoop (.ListComp elt [⟨t1,i1,[],0⟩,⟨t2,i2,[],0⟩] scope pos) 0 it acc env)):=by rfl
theorem two_in{e elt t1 i1 t2 i2:Expr}{scope:Scope}{pos:Pos}{it acc:Value}{env:Env}(he:e=.ListComp elt [⟨t1,i1,[],0⟩,⟨t2,i2,[],0⟩] scope pos)(I:Nat->Shared->Prop)
  (turn:∀ n s,I n s->wpAny (model prog w) A (pyNext it) (fun r s₁=>match r with
   | none=>R (.ok .next) s₁
   | some v=>wpAny (model prog w) A (assign t2 env v) (fun _ s2=>wpAny (model prog w) A (eval elt env) (fun x s3=>
     wpAny (model prog w) A (call (.builtin "list.append") [acc,x]) (fun _ s4=>∃ m,m < n∧I m s4) (notedBy (model prog w) A env fun e s'=>R (.error e) s') s3)
     (notedBy (model prog w) A env fun e s'=>R (.error e) s') s2) (notedBy (model prog w) A env fun e s'=>R (.error e) s') s₁) (notedBy (model prog w) A env fun e s'=>R (.error e) s') s)
  (n:Nat) (h:I n s) (ht:∀ v,letOwnedTupleGo t2 it v=pure ():=by intro _;rfl):
  codeAny (model prog w) A (.compLoop e 1 it acc env) R s:=by
 subst he
 refine codeAny_loop rfl I (fun n s hI=>?_) n h
 show wpAny _ _ ((compTurn (.ListComp elt [⟨t1,i1,[],0⟩,⟨t2,i2,[],0⟩] scope pos) 1 it acc env).onRaise (fun x=>do noteFrame x env;theTreesLotGoes x)) _ _ s
 refine wpAny_noted ?_;refine Zf ?_;intro Q0 E0
 refine wG (Qi8 ..) ?_
 refine wpAny_bind (wpAny_standAt (wpAny_bind (wpAny_mono (turn n s hI) (fun r s₁ h1=>?_) fun _ _ h'=>h')))
 cases r with
 | none=>exact wpAny_pure h1
 | some v=>
  refine wpAny_bind (wpAny_of_eq (ht v) ?_)
  exact wpAny_bind (wpAny_mono h1 (fun _ s2 h2=>wpAny_bind (wpAny_bind (wpAny_mono h2 (fun x s3 h3=>wpAny_bind (wpAny_mono h3
   (fun _ s4 h4=>wpAny_pure (wpAny_pure ⟨rfl,h4⟩)) fun _ _ h'=>h')) fun _ _ h'=>h'))) fun _ _ h'=>h')
theorem two_out{e elt t1 i1 t2 i2:Expr}{scope:Scope}{pos:Pos}{it acc:Value}{env:Env}(he:e=.ListComp elt [⟨t1,i1,[],0⟩,⟨t2,i2,[],0⟩] scope pos)(I:Nat->Shared->Prop)
  (hfold:∀ x,foldedSetIterable i2 env x=pure x)
  (turn:∀ n s,I n s->wpAny (model prog w) A (pyNext it) (fun r s₁=>match r with
   | none=>R (.ok .next) s₁
   | some v=>wpAny (model prog w) A (assign t1 env v) (fun _ s2=>wpAny (model prog w) A (eval i2 env) (fun x s3=>wpAny (model prog w) A (pyIter x) (fun it' s4=>
     codeAny (model prog w) A (.compStart e 1 it' acc env) (fun r s5=>match r with
      | .ok _=>∃ m,m < n∧I m s5
      | .error x=>cameBackBy (model prog w) A env (notedBy (model prog w) A env fun e s'=>R (.error e) s') x s5) s4)
     (notedBy (model prog w) A env fun e s'=>R (.error e) s') s3)
     (notedBy (model prog w) A env fun e s'=>R (.error e) s') s2) (notedBy (model prog w) A env fun e s'=>R (.error e) s') s₁) (notedBy (model prog w) A env fun e s'=>R (.error e) s') s)
  (n:Nat) (h:I n s) (ht:∀ v,letOwnedTupleGo t1 it v=pure ():=by intro _;rfl):
  codeAny (model prog w) A (.compLoop e 0 it acc env) R s:=by
 subst he
 refine codeAny_loop rfl I (fun n s hI=>?_) n h
 show wpAny _ _ ((compTurn (.ListComp elt [⟨t1,i1,[],0⟩,⟨t2,i2,[],0⟩] scope pos) 0 it acc env).onRaise (fun x=>do noteFrame x env;theTreesLotGoes x)) _ _ s
 refine wpAny_noted ?_;refine Zf ?_;intro Q0 E0
 refine wG (Qhq ..) ?_
 refine wpAny_bind (wpAny_standAt (wpAny_bind (wpAny_mono (turn n s hI) (fun r s₁ h1=>?_) fun _ _ h'=>h')))
 cases r with
 | none=>exact wpAny_pure h1
 | some v=>
  refine wpAny_bind (wpAny_of_eq (ht v) ?_)
  refine wpAny_bind (wpAny_mono h1 (fun _ s2 h2=>wpAny_bind (wpAny_mono h2 (fun x s3 h3=>?_) fun _ _ h'=>h')) fun _ _ h'=>h')
  refine wpAny_bind (wpAny_standAt (wpAny_bind (wpAny_of_eq (hfold x) (wpAny_bind (wpAny_holding (wpAny_mono h3 (fun it' s4 h4=>?_) fun _ _ h'=>h'))))))
  refine wpAny_bind (wpAny_runOwn (codeAny_mono h4 fun r s5 h5=>?_))
  cases r with
  | ok f=>exact wpAny_pure ⟨rfl,h5⟩
  | error x=>exact h5
end
theorem Cx.drop{G:Amb}{n:Nat}{V:Addr->Prop}{ks:Qi}{A:Around}{env:Env}{s:Shared}{W:Addr->Prop}{ρ ρ':Qf}(c:Cx G n V ks A env s W ρ')(h:∀ z d,ρ z=some d->ρ' z=some d):Cx G n V ks A env s W ρ:=
 ⟨c.good,c.ok,c.excl,fun z d hv hd=>c.vars z d hv (h z d hd),c.ns,c.cellsAt⟩
noncomputable def Qis(xs:List Str)(ρ:Qf):Qf:=fun z=>if z ∈ xs then none else ρ z
noncomputable def Qcl(x y:Str)(f2:Qf->Option (List D))(fe:Qf->Option D)(ρ:Qf):List D->Option (List D)
 | []=>some []
 | d :: ds=>(f2 (upd ρ x d)).bind fun es=>(Xl y (fun _=>some true) fe (upd ρ x d) es).bind fun a=>(Qcl x y f2 fe ρ ds).map (a ++ ·)
section
variable {G:Amb}[Qab G] {n:Nat}{V:Addr->Prop}{ks:Qi}
theorem upd_drop{ρ ρ':Qf}{y:Str}(h:∀ d,upd ρ' y d=upd ρ y d):∀ z d,Qis [y] ρ z=some d->ρ' z=some d:=fun z d hz=>by
 unfold Qis at hz
 split at hz
 ·exact nSo hz
 ·rename_i hy
  have:=congrFun (h d) z
  have hzy:z≠y:=by simpa using hy
  rw [Zb _ _ hzy,Zb _ _ hzy] at this
  exact wG this (wG hz rfl)
inductive Comp2In (G:Amb) (n:Nat) (V:Addr->Prop) (ks':Qi) (A:Around) (cenv:Env) (s:Shared) (U W:Addr->Prop) (I L:Addr) (y:Str) (fe:Qf->Option D) (ρ:Qf) (rs:List D) (k:Nat) (s':Shared):Prop
 | mk (rest done:List D) (vs:List Value) (ρ':Qf) (r2:List D) (k₀:Step G U s s') (c₀:Cx G n V ks' A cenv s' W ρ') (hρ:∀ d,upd ρ' y d=upd ρ y d) (it₀:ItAt G s'.heap W I rest) (l₀:s'.heap.PlainList L (List.toArray vs)) (r₀:RepL G s'.heap W vs done)
  (hc:Xl y (fun _=>some true) fe ρ rest=some r2) (hr:done ++ r2=rs) (hz:vs.length + rest.length <= 1000) (hk:k=rest.length):Comp2In G n V ks' A cenv s U W I L y fe ρ rs k s'
inductive Qhl (G:Amb) (n:Nat) (V:Addr->Prop) (ks':Qi) (A:Around) (cenv:Env) (s:Shared) (W:Addr->Prop) (I L:Addr) (x y:Str) (f₂:Qf->Option (List D)) (fe:Qf->Option D) (ρ:Qf) (rs:List D) (k:Nat) (s':Shared):Prop
 | mk (rest done:List D) (vs:List Value) (r2:List D) (k₀:Step G V s s') (c₀:Cx G n V ks' A cenv s' W ρ) (it₀:ItAt G s'.heap W I rest) (l₀:s'.heap.PlainList L (List.toArray vs)) (r₀:RepL G s'.heap W vs done)
  (hc:Qcl x y f₂ fe ρ rest=some r2) (hr:done ++ r2=rs) (hk:k=rest.length):Qhl G n V ks' A cenv s W I L x y f₂ fe ρ rs k s'
theorem Qj7{elt t1 i1 i2 e:Expr}{scope:Scope}{pos yp:Pos}{x y:Str}{ks':Qi}{A:Around}{s s₁:Shared}{W W2 O:Addr->Prop}{cenv:Env}{I L I2:Addr}{R:Result->Shared->Prop}{fe:Qf->Option D}{ρx:Qf}{as:List D}{done₀:List D}
  (he:e=.ListComp elt [⟨t1,i1,[],0⟩,⟨.Name y yp,i2,[],0⟩] scope pos)(X:Qi2 G V ks' s W W2 O cenv I L [x,y])(hx:Excl s.heap V W)(helt:Zo G n V ks' elt fe)
  {ρ₁:Qf}(c1:Cx G n V ks' A cenv s₁ W2 ρ₁)
  (kmid:Step G V s s₁)(hI2:s₁.heap.get? I2=none)
  (hR:∀ s3 vs',Step G (fun a=>V a∨O a∨a=L) s₁ s3->Cx G n V ks' A cenv s3 W2 (Qis [y] ρx)->s3.heap.PlainList L (List.toArray vs')->RepL G s3.heap W2 vs' (done₀ ++ as)->R (.ok .next) s3)
  (rest done:List D)(vs:List Value)(s2:Shared)(ρ':Qf)(r2:List D)(k0:Step G (fun a=>V a∨O a∨a=L) s₁ s2)(c0:Cx G n V ks' A cenv s2 (fun a=>W2 a∨a=I2) ρ')(hρ:∀ d,upd ρ' y d=upd ρx y d)
  (it0:ItAt G s2.heap (fun a=>W2 a∨a=I2) I2 rest)(l₀:s2.heap.PlainList L (List.toArray vs))(r0:RepL G s2.heap (fun a=>W2 a∨a=I2) vs done)
  (hc0:Xl y (fun _=>some true) fe ρx rest=some r2)(hr0:done ++ r2=done₀ ++ as)(hz0:vs.length + rest.length <= 1000):
  codeAny (model G.prog G.w) A (.compLoop e 1 (.ref I2) (.ref L) cenv) R s2:=by
 have notV:∀ a,s.heap.get? a=none->¬ V a:=fun a e q=>by
  refine ob1_1 (hx.live a (hx.sub a q)) fun o e'=>?_
  rw [e] at e';exact nSo e'
 have hnew:s.heap.get? I2=none:=kmid.get_none hI2
 have nVI:¬ V I2:=notV I2 hnew
 have nVL:¬ V L:=notV L X.newL
 have nW:¬ W2 I2:=c1.excl.fresh hI2
 have nOI:¬ O I2:=fun q=>nW (X.wO _ q)
 have neL:L≠I2:=fun q=>nW (q ▸ X.wL)
 have hCI:cenv.locals≠I2:=fun q=>nOI (q ▸ X.loc)
 have hCL:cenv.locals≠L:=fun e=>X.oL (e ▸ X.loc)
 have hcI:∀ y a,cenv.cells.lookup y=some a->a≠I2:=fun y a e q=>by refine ob2_2 (c1.cellsAt y a e) fun v ob e' _=>?_;rw [q,hI2] at e';exact nSo e'
 have cls0:∀ (dt:Data),({ cls:=.type "list",data:=dt }:Obj).cls≠.type "frame":=fun _=>by show Value.type "list"≠_;decide
 have bI:G.h₀.get? I2=none:=by
  cases q:G.h₀.get? I2 with
  | none=>rfl
  | some ob=>rw [c1.good.base I2 ob q] at hI2;exact noS hI2
 have VW:∀ a,V a->W2 a:=c1.excl.sub
 refine two_in he (Comp2In G n V ks' A cenv s₁ (fun a=>V a∨O a∨a=L) (fun a=>W2 a∨a=I2) I2 L y fe ρx (done₀ ++ as)) ?_ rest.length
  ⟨rest,done,vs,ρ',r2,k0,c0,hρ,it0,l₀,r0,hc0,hr0,hz0,rfl⟩
 clear k0 c0 hρ it0 l₀ r0 hc0 hr0 hz0
 rintro k s2 ⟨rest,done,vs,ρ',r2,k2,c₂,hρ,it2,l2,r₂,hc,hr,hz2,rfl⟩
 refine ob1_2 it2.cls fun oI eI tI=>?_;refine Zf ?_;intro Q0 E0
 refine ob1_1 (id l2) fun nL eL=>?_
 cases rest with
 | nil=>
  simp only [Xl,Option.some.injEq] at hc
  subst hc
  rw [List.append_nil] at hr
  subst hr
  refine Qcf it2 c₂.good.cold fun h' hx'=>?_
  have kE:=k2.ext hx' hI2 bI
  have tI':∀ o,s2.heap.get? I2=some o->¬ Tup o:=fun o e=>by rw [eI] at e;obtain rfl:=Qo e;exact tI
  have kx:Jm (fun a=>W2 a∨a=I2) s2.heap h':=fun b o e hw _=>hx' b o (by
   rintro rfl
   rcases hw with hw | hw
   ·exact hw (.inr rfl)
   ·exact tI' _ e hw) e
  have cE:Cx G n V ks' A cenv { s2 with heap:=h' } W2 ρ':=Cx.ext c₂ hx' (c1.good.step kE) (.inr rfl) tI' nW (fun a ha=>.inl ha) VW hCI hcI
  exact hR _ vs kE (cE.drop (upd_drop hρ)) ⟨nL,hx' _ _ neL eL⟩ ((r₂.mono kx).weak fun a ha=>.inl ha)
 | cons d rest=>
  simp only [Xl,Option.bind_some,if_true,Option.bind_eq_some_iff,Option.map_eq_some_iff] at hc;replace hc:=hc
  refine ob1_2 hc ?_;intro a ha z0;refine ob1_2 z0 ?_;rintro r3 hr3 rfl
  refine Qbc it2 (.inr rfl) fun v h1 tk1 hs1 it3 rv3=>?_;refine Zf ?_;intro Q0 E0
  have kI:Step G (fun a=>a=I2) s2 { s2 with heap:=h1,toks:=tk1 }:=Qn hs1 rfl bI (ob1_2 it3.cls fun o e _=>⟨o,e⟩) (fun o e t=>by rw [eI] at e;obtain rfl:=Qo e;exact tI t) it2.noFrm it2.noTab
  have c3:=c₂.stepU kI (fun a ha=>.inr ha) hCI hcI
  have kx3:=kI.keepX (W:=fun a=>W2 a∨a=I2) (fun a ha=>.inr ha)
  have k3:=k2.later kI (fun a ha=>.inl (ha ▸ hI2))
  have l3:(Shared.heap { s2 with heap:=h1,toks:=tk1 }).PlainList L (List.toArray vs):=⟨nL,kI.exact eL (.inl neL) (cls0 _)⟩
  refine wpAny_assign_Name (Qt c3 (fun a ha=>.inl (X.wO a ha)) X.baseO (X.store y (by simp)) rv3 fun s4 k4 c4=>?_);refine Zf ?_;intro Q0 E0
  rw [hρ] at c4;replace c4:=c4
  have kx4:=k4.keepX (W:=fun a=>W2 a∨a=I2) fun a ha=>.inl (X.wO a ha)
  have it4:=it3.mono kx4 (fun o e hf=>k4.exact e (.inl nOI) hf)
  refine ob1_1 (id l3) fun nL3 eL3=>?_
  have l4:s4.heap.PlainList L (List.toArray vs):=⟨nL3,k4.exact eL3 (.inl X.oL) (cls0 _)⟩
  have r₄:=(r₂.mono kx3).mono kx4
  have k4':Step G (fun a=>V a∨O a∨a=L) s₁ s4:=k3.trans (k4.mono fun a ha=>.inr (.inl ha))
  refine helt A cenv s4 _ _ a _ _ c4 ha fun u s5 k5 ru=>?_
  have c₅:=c4.step k5
  have kx5:=k5.keepX c4.excl.sub
  have it5:=it4.mono kx5 (fun o e hf=>k5.exact e (.inl nVI) hf)
  refine ob1_1 (id l4) fun nL4 eL4=>?_
  have l5:s5.heap.PlainList L (List.toArray vs):=⟨nL4,k5.exact eL4 (.inl nVL) (cls0 _)⟩
  have r5:=r₄.mono kx5
  have k5':Step G (fun a=>V a∨O a∨a=L) s₁ s5:=k4'.trans (k5.mono fun a ha=>.inl ha)
  refine wpAny_list_append_plain (hsz:=by refine wG List.size_toArray (wG sizeLine_eq ?_);simp at hz2;lia) l5 fun h6 hl6 hs6=>?_
  have k6:Step G (fun a=>a=L) s5 { s5 with heap:=h6,toks:=s5.toks }:=Qn hs6 rfl X.baseL (ob1_1 hl6 fun _ e=>⟨_,e⟩)
   (fun o e t=>by refine ob1_1 l5 fun _ e'=>?_;rw [e] at e';obtain rfl:=Qo e';exact absurd t.1 (by show Value.type "list"≠_;decide)) (let ⟨_,e'⟩:=l5;Jr e' (by show Value.type "list"≠_;decide)) (let ⟨_,e'⟩:=l5;Qay e' (by show Value.type "list"≠_;decide))
  have kx6:=k6.keepX (W:=fun a=>W2 a∨a=I2) (fun a ha=>.inl (ha ▸ X.wL))
  refine ⟨rest.length,by simp,rest,done ++ [a],vs ++ [u],_,r3,k5'.trans (k6.mono fun a ha=>.inr (.inr ha)),c₅.stepU k6 (fun a ha=>.inl (ha ▸ X.wL)) hCL (fun y a ha q=>(X.cells y a ha).2 q),fun d'=>by funext z;simp only [upd];split <;> rfl,
   it5.mono kx6 (fun o e hf=>k6.exact e (.inl fun q=>neL q.symm) hf),?_,(r5.mono kx6).snoc (ru.mono kx6),hr3,by rw [List.append_assoc];exact hr,by simp at hz2 ⊢;lia,rfl⟩
  have:List.toArray (vs ++ [u])=(List.toArray vs).push u:=by simp
  rw [this];exact hl6
theorem Qmr{elt i1 i2:Expr}{scope:Scope}{pos xp yp:Pos}{x y:Str}{ks':Qi}{A:Around}{s:Shared}{W W2 O:Addr->Prop}{cenv:Env}{I L:Addr}{ρ:Qf}{rs:List D}
  {use:Option (Value->Sem Unit)}{Q:Value->Shared->Prop}{E:Value->Shared->Prop}{f2:Qf->Option (List D)}{fe:Qf->Option D}
  (X:Qi2 G V ks' s W W2 O cenv I L [x,y])(hx:Excl s.heap V W)(hsrc:Qc3 G n V ks' i2 f2)(hfold:∀ v,foldedSetIterable i2 cenv v=pure v)(helt:Zo G n V ks' elt fe)(hend:Qhk G V s W rs (model G.prog G.w) A Q E use)
  (hρ0:ρ x=none∧ρ y=none)(_hxy:x≠y)(hsize:rs.length <= 1000)
  (rest done:List D)(vs:List Value)(s':Shared)(r2:List D)(k0:Step G V s s')(c0:Cx G n V ks' A cenv s' W2 ρ)(it0:ItAt G s'.heap W2 I rest)(l₀:s'.heap.PlainList L (List.toArray vs))(r0:RepL G s'.heap W2 vs done)
  (hc0:Qcl x y f2 fe ρ rest=some r2)(hr0:done ++ r2=rs):
  codeAny (model G.prog G.w) A (.compLoop (.ListComp elt [⟨.Name x xp,i1,[],0⟩,⟨.Name y yp,i2,[],0⟩] scope pos) 0 (.ref I) (.ref L) cenv) (compPost (model G.prog G.w) A E use Q (.ref L) cenv.locals) s':=by
 have notV:∀ a,s.heap.get? a=none->¬ V a:=fun a e q=>by
  obtain ⟨o,e'⟩:=hx.live a (hx.sub a q)
  rw [e] at e';exact nSo e'
 have hCI:cenv.locals≠I:=fun e=>X.oI (e ▸ X.loc)
 have hCL:cenv.locals≠L:=fun e=>X.oL (e ▸ X.loc)
 have nVI:¬ V I:=notV I X.newI
 have cls0:∀ (dt:Data),({ cls:=.type "list",data:=dt }:Obj).cls≠.type "frame":=fun _=>by show Value.type "list"≠_;decide
 refine two_out rfl (Qhl G n V ks' A cenv s W2 I L x y f2 fe ρ rs) hfold ?_ rest.length ⟨rest,done,vs,r2,k0,c0,it0,l₀,r0,hc0,hr0,rfl⟩
 clear k0 c0 it0 l₀ r0 hc0 hr0
 rintro k s₁ ⟨rest,done,vs,r2,k1,c1,it1,l1,r₁,hc,hr,rfl⟩
 refine ob1_2 it1.cls fun oI eI tI=>?_
 refine ob1_1 (id l1) fun nL eL=>?_
 cases rest with
 | nil=>
  simp only [Qcl,Option.some.injEq] at hc;replace hc:=hc
  subst hc
  rw [List.append_nil] at hr;replace hr:=hr
  subst hr
  refine Qcf it1 c1.good.cold fun h' he=>?_
  have kx:Jm W2 s₁.heap h':=fun b o e hw _=>he b o (by
   rintro rfl
   rcases hw with hw | hw
   ·exact hw X.wI
   ·rw [eI] at e;obtain rfl:=Qo e;exact tI hw) e
  have k2:Step G V s { s₁ with heap:=h' }:=k1.ext he X.newI X.baseI
  have hn:∃ m,h'.Ns cenv.locals m:=ob4_2 c1.ns fun m o es ep e r=>⟨m,o,es,ep,he _ _ hCI e,r⟩
  have hl:h'.PlainList L (List.toArray vs):=⟨nL,he _ _ (Ne.symm X.iL) eL⟩
  have hend':=hend L cenv.locals { s₁ with heap:=h' } vs k2 X.newL (X.newO _ X.loc) (Ne.symm hCL) hn (X.baseO _ X.loc) hl ((r₁.mono kx).weak fun a ha=>ha.elim (X.wW a) fun q=>q ▸ X.wO _ X.loc)
  cases use with
  | none=>exact let ⟨m,hm⟩:=hn;⟨m,hm,fun h'' hs=>hend' h'' hs⟩
  | some u=>exact hend'
 | cons d rest=>
  simp only [Qcl,Option.bind_eq_some_iff,Option.map_eq_some_iff] at hc
  obtain ⟨es,hes,as,has,r3,hr3,rfl⟩:=hc
  refine Qbc it1 X.wI fun v h₁ tk1 hs1 it2 rv2=>?_
  have kI:Step G (fun a=>a=I) s₁ { s₁ with heap:=h₁,toks:=tk1 }:=Qn hs1 rfl X.baseI (ob1_2 it2.cls fun o e _=>⟨o,e⟩) (fun o e t=>by rw [eI] at e;obtain rfl:=Qo e;exact tI t) it1.noFrm it1.noTab
  have c₂:=c1.stepU kI (fun a ha=>ha ▸ X.wI) hCI (fun y a ha q=>(X.cells y a ha).1 q)
  have kx2:=kI.keepX (W:=W2) (fun a ha=>ha ▸ X.wI)
  have k2:=k1.later kI (fun a ha=>.inl (ha ▸ X.newI))
  have l2:(Shared.heap { s₁ with heap:=h₁,toks:=tk1 }).PlainList L (List.toArray vs):=⟨nL,kI.exact eL (.inl fun q=>X.iL q.symm) (cls0 _)⟩
  refine wpAny_assign_Name (Qt c₂ X.wO X.baseO (X.store x (.head _)) rv2 fun s3 k3 c3=>?_)
  have kx3:=k3.keepX X.wO
  have it3:=it2.mono kx3 (fun o e hf=>k3.exact e (.inl X.oI) hf)
  refine ob1_1 (id l2) fun nL2 eL2=>?_
  have l3:s3.heap.PlainList L (List.toArray vs):=⟨nL2,k3.exact eL2 (.inl X.oL) (cls0 _)⟩
  have r₃:=(r₁.mono kx2).mono kx3
  have k3':=k2.later k3 (fun a ha=>.inl (X.newO a ha))
  refine hsrc A cenv s3 W2 _ es _ _ c3 hes fun I2 s4 k4 hI2 it4=>?_
  have nW:¬ W2 I2:=c3.excl.fresh hI2
  refine ob1_2 it4.cls fun oI2 eI2 _=>?_
  have nx:Qd0 s3.heap W2 (fun a=>W2 a∨a=I2):=fun a ob e hw=>hw.elim id fun q=>by rw [q,hI2] at e;exact nSo e
  have c4:Cx G n V ks' A cenv s4 (fun a=>W2 a∨a=I2) (upd ρ x d):=c3.widen k4 (fun a ha=>.inl ha) nx
   (fun a ha=>ha.elim (fun q=>(c3.step k4).excl.live a q) fun q=>⟨oI2,q ▸ eI2⟩)
  have nVL:¬ V L:=notV L X.newL
  obtain ⟨nL3,eL3⟩:=id l3
  have l4:s4.heap.PlainList L (List.toArray vs):=⟨nL3,k4.exact eL3 (.inl nVL) (cls0 _)⟩
  have r₄:RepL G s4.heap (fun a=>W2 a∨a=I2) vs done:=(r₃.strong nx).mono (k4.keepX fun a ha=>.inl (c3.excl.sub a ha))
  have hlen:es.length=as.length:=by
   clear hr hr3 hes it4
   induction es generalizing as with
   | nil=>simp only [Xl,Option.some.injEq] at has;subst has;rfl
   | cons b bs ih=>
    simp only [Xl,Option.bind_some,if_true,Option.bind_eq_some_iff,Option.map_eq_some_iff] at has
    obtain ⟨_,_,t,ht,rfl⟩:=has
    simp [ih _ ht]
  have hz:vs.length + es.length <= 1000:=by
   have:=congrArg List.length hr
   simp only [List.length_append] at this
   have:=r₁.length
   lia
  have inner:=Qj7 (R:=fun r s5=>match r with
      | .ok _=>∃ m,m < (d :: rest).length∧Qhl G n V ks' A cenv s W2 I L x y f2 fe ρ rs m s5
      | .error x=>cameBackBy (model G.prog G.w) A cenv (notedBy (model G.prog G.w) A cenv fun e s'=>compPost (model G.prog G.w) A E use Q (.ref L) cenv.locals (.error e) s') x s5)
   (e:=.ListComp elt [⟨.Name x xp,i1,[],0⟩,⟨.Name y yp,i2,[],0⟩] scope pos) rfl X hx helt c3 k3' hI2 (as:=as) (done₀:=done) (ρx:=upd ρ x d) (fun s5 vs' k5 c₅ l5 r5=>?_)
   es done vs s4 (upd ρ x d) as (k4.mono fun a ha=>.inl ha) c4 (fun _=>rfl) it4 l4 r₄ has rfl hz
  ·exact two_start rfl inner (Qen it4 inner)
  ·have kU:∀ a,V a∨O a∨a=L->W2 a:=fun a ha=>by
    rcases ha with ha | ha | ha
    ·exact c3.excl.sub a ha
    ·exact X.wO a ha
    ·exact ha ▸ X.wL
   refine in1_2 rest.length (by simp) ⟨rest,done ++ as,vs',r3,k3'.later k5 (fun a ha=>?_),c₅.drop (fun z d' hz'=>?_),it3.mono (k5.keepX kU) (fun o e hf=>k5.exact e (.inl ?_) hf),l5,r5,hr3,by rw [List.append_assoc];exact hr,rfl⟩
   ·rcases ha with ha | ha | ha
    ·exact .inr ha
    ·exact .inl (X.newO a ha)
    ·exact .inl (ha ▸ X.newL)
   ·have h1:z≠x:=by rintro rfl;rw [hρ0.1] at hz';exact nSo hz'
    have h2:z≠y:=by rintro rfl;rw [hρ0.2] at hz';exact nSo hz'
    unfold Qis
    refine wG (if_neg (by simpa using h2)) (wG (Zb _ _ h1) ?_);exact hz'
   ·rintro (q | q | q)
    ·exact nVI q
    ·exact X.oI q
    ·exact X.iL q
theorem ev_comp2{elt i1 i2:Expr}{scope:Scope}{pos xp yp:Pos}{x y:Str}{fs f2:Qf->Option (List D)}{fe:Qf->Option D}
  (hst:Qev ks scope x y=true)(hxy:(x == y)=false)(hsrc:Qc3 G n V ks i1 fs)(hfold:∀ env v,foldedSetIterable i1 env v=pure v)(hsrc2:Qc3 G n V (Qdu ks scope.names) i2 f2)(hfold2:∀ env v,foldedSetIterable i2 env v=pure v)(helt:Zo G n V (Qdu ks scope.names) elt fe):
  Zo G n V ks (.ListComp elt [⟨.Name x xp,i1,[],0⟩,⟨.Name y yp,i2,[],0⟩] scope pos) (fun ρ=>(fs ρ).bind fun ds=>(Qcl x y f2 fe (Qis [x,y] ρ) ds).bind fun rs=>if rs.length <= 1000 then Qcs rs else none):=by
 intro A env s W ρ d Q E c hf h
 simp only [Option.bind_eq_some_iff] at hf
 refine ob1_2 hf ?_;intro ds hds z0;refine ob1_2 z0 fun rs hrs hf=>?_
 split at hf
 ·rename_i hz
  rw [eval_ListComp]
  have hend:Qhk G V s W rs (model G.prog G.w) A Q E none:=by
   intro L C s' vs k nL nC hLC hn bC hl r h' hs
   have k':Step G V s { s' with heap:=h' }:=k.ext hs.extBut nC bC
   have kx:Jm (fun a=>W a∨a=C) s'.heap h':=fun b o e hw _=>hs.extBut b o (by
    rintro rfl
    rcases hw with hw | ⟨hc,xs,m,hq⟩
    ·exact hw (.inr rfl)
    ·refine ob4_3 hn fun m' o' es ep e' d' _=>?_
     rw [e] at e';obtain rfl:=Qo e';replace d':=hq ▸ d';cases d') e
   have hL:¬ W L:=c.excl.fresh nL
   have hl':h'.IsList L (List.toArray vs):=Qs (Heap.PlainList.isList hl) kx (fun q=>q.elim hL hLC)
   exact h _ _ k' (Qds ((r.mono kx).weak fun a ha=>.inl ha) hf hL hl')
  refine Qf9 (use:=none) c (Qit hst) hsrc (hfold env) hds fun s4 W2 O cenv I L k24 X c4 it4 l4=>?_
  have e1:(fun z=>if z ∈ [x,y] then none else ρ z)=Qis [x,y] ρ:=rfl
  rw [e1] at c4
  exact Qmr X c.excl hsrc2 (hfold2 cenv) helt hend ⟨by simp [Qis],by simp [Qis]⟩ (by simpa using hxy) hz ds [] [] s4 rs k24 c4 it4 l4 trivial hrs rfl
 ·exact nSo hf
end
theorem nM{a m:Nat}(h1:m <= a)(h2:a < m + 1):a=m:=Nat.le_antisymm (Nat.le_of_lt_succ h2) h1
theorem nZ{b z:Nat}(h2:¬ b < z)(h3:¬ b=z):z < b:=Nat.lt_of_le_of_ne (Nat.not_lt.mp h2) (Ne.symm h3)
theorem nA{n b:Nat}(h:1 <= b):n - 1 - (b - 1)=n - b:=by rw [Nat.sub_sub,Nat.add_sub_cancel' h]
theorem nB{a z b:Nat}(h1:a < z)(h2:¬ b < z)(h3:¬ b=z):a < b - 1:=Nat.lt_sub_of_add_lt (Nat.lt_of_le_of_lt h1 (nZ h2 h3))
theorem nN{z b m:Nat}(hz:z < b)(h:b < m + 1):z <= b - 1∧b - 1 < m:=⟨Nat.le_sub_one_of_lt hz,Nat.lt_of_lt_of_le (Nat.sub_lt (Nat.lt_of_le_of_lt (Nat.zero_le z) hz) Nat.one_pos) (Nat.le_of_lt_succ h)⟩
theorem nD{z b m:Nat}(h2:¬ b < z)(h3:¬ b=z)(h:b < m + 1):z <= b - 1∧b - 1 < m:=nN (nZ h2 h3) h
theorem nO{z m a:Nat}(h:z <= a∧a < m):z + m - 1 - a < m:=by
 have hm:0 < m:=Nat.lt_of_le_of_lt (Nat.zero_le a) h.2
 rw [Nat.add_sub_assoc hm z]
 refine Nat.lt_of_le_of_lt (Nat.sub_le_sub_left h.1 _) ?_
 rw [Nat.add_sub_cancel_left];exact Nat.sub_lt hm Nat.one_pos
theorem nP{z q m:Nat}(h:z + (q + 1)=m):z <= m - 1∧m - 1 < m:=h ▸ ⟨Nat.le_add_right z q,Nat.lt_succ_self (z + q)⟩
theorem nQ{z m b:Nat}(hb:b < m + 1)(h:z < b):z <= z + m - b∧z + m - b < m:=⟨by rw [Nat.add_sub_assoc (Nat.le_of_lt_succ hb) z];exact Nat.le_add_right _ _,Nat.sub_lt_left_of_lt_add (Nat.le_trans (Nat.le_of_lt_succ hb) (Nat.le_add_left m z)) (Nat.add_lt_add_right h m)⟩
theorem nE{a b z:Nat}(h:a < b)(h1:¬ a < z)(h2:¬ a=z):a - 1 < b - 1:=Nat.sub_lt_sub_right (Nat.lt_of_le_of_lt (Nat.zero_le z) (nZ h1 h2)) h
theorem nF{m k:Nat}(h:m <= k∧k < m + 1):m + (m + 1) - 1 - k=k:=by
 rw [nM h.1 h.2];exact Nat.add_sub_cancel m m
theorem nG{z m k q:Nat}(h:z + (q + 1)=m)(hq:¬ q > 0)(hk:z <= k∧k < m):z + m - 1 - k=k:=by
 have e0:q=0:=Nat.eq_zero_of_not_pos hq
 subst e0;subst h;exact nF hk
theorem nH{m a b:Nat}(h1:a < b)(h2:b < m):m - 1 - b < m - 1 - a:=Nat.sub_lt_sub_left (Nat.lt_sub_of_add_lt (Nat.lt_of_le_of_lt h1 h2)) h1
theorem nI{f l c r:Nat}(h1:l <= c)(h2:r - l <= f + 1):r - (c + 1) <= f:=Nat.pred_le_pred (Nat.le_trans (Nat.sub_le_sub_left h1 r) h2)
theorem nJ{f l c r:Nat}(h1:c < r)(h2:r - l <= f + 1):c - l <= f:=Nat.sub_le_iff_le_add.mpr (Nat.le_of_lt_succ (Nat.lt_of_lt_of_le h1 (Nat.le_trans (Nat.sub_le_iff_le_add.mp h2) (Nat.le_of_eq (Nat.add_right_comm f 1 l)))))
theorem nK{l r:Nat}(h:¬ l ≥ r):l <= (l + r) / 2∧(l + r) / 2 < r:=⟨(Nat.le_div_iff_mul_le Nat.two_pos).mpr (Nat.mul_two l ▸ Nat.add_le_add_left (Nat.le_of_lt (Nat.not_le.mp h)) l),(Nat.div_lt_iff_lt_mul Nat.two_pos).mpr (Nat.mul_two r ▸ Nat.add_lt_add_right (Nat.not_le.mp h) r)⟩
theorem nL{m a:Nat}(h:1 <= m):m - 1 - a < m:=Nat.lt_of_le_of_lt (Nat.sub_le _ _) (Nat.sub_lt h Nat.one_pos)
noncomputable def Asks{α:Type}(lt:Nat->Nat->Bool)(n:Nat)(Q:α->Prop):KasT α->Prop
 | .ret a=>Q a
 | .ask i j k=>i < n∧j < n∧Asks lt n Q (k (lt i j))
theorem Asks.mono{α:Type}{lt:Nat->Nat->Bool}{n:Nat}{Q Q':α->Prop}(h:∀ a,Q a->Q' a):∀ {t:KasT α},Asks lt n Q t->Asks lt n Q' t
 | .ret a,x=>h a x
 | .ask _ _ _,x=>⟨x.1,x.2.1,Asks.mono h x.2.2⟩
theorem Asks.bind{α β:Type}{lt:Nat->Nat->Bool}{n:Nat}{Q:β->Prop}{f:α->KasT β}:∀ {t:KasT α},Asks lt n (fun a=>Asks lt n Q (f a)) t->Asks lt n Q (t.bind f)
 | .ret _,x=>x
 | .ask _ _ _,x=>⟨x.1,x.2.1,Asks.bind x.2.2⟩
theorem Asks.wp{α:Type}{lt:Nat->Nat->Bool}{n:Nat}{cmp:Nat->Nat->(Bool->Shared->Prop)->Shared->Prop}{Inv:Shared->Prop}{Q:α->Prop}{Q':α->Shared->Prop}
  (hc:∀ i j C s,i < n->j < n->Inv s->(∀ s',Inv s'->C (lt i j) s')->cmp i j C s)(hq:∀ a s,Q a->Inv s->Q' a s):∀ {t:KasT α}{s:Shared},Inv s->Asks lt n Q t->t.kasWp cmp Q' s
 | .ret a,s,hi,x=>hq a s x hi
 | .ask i j k,s,hi,x=>hc i j _ s x.1 x.2.1 hi fun s' hi'=>Asks.wp hc hq hi' x.2.2
structure Qdh (lt:Nat->Nat->Bool):Prop where
 asym:∀ i j,lt i j=true->lt j i=false
 ntrans:∀ i j k,lt i j=false->lt j k=false->lt i k=false
noncomputable def LT'(lt:Nat->Nat->Bool)(i j:Nat):Prop:=lt i j=true∨(lt j i=false∧i < j)
namespace Qdh
variable {lt:Nat->Nat->Bool}(w:Qdh lt)
include w
theorem ltLeft{i j k:Nat}(h:lt i j=true)(h':lt k j=false):lt i k=true:=by
 cases e:lt i k with
 | true=>rfl
 | false=>have:=w.ntrans i k j e h';rw [h] at this;exact tF this
theorem ltRight{i j k:Nat}(h:lt j i=false)(h':lt j k=true):lt i k=true:=by
 cases e:lt i k with
 | true=>rfl
 | false=>have:=w.ntrans j i k h e;rw [h'] at this;exact tF this
theorem trans{i j k:Nat}(h:lt i j=true)(h':lt j k=true):lt i k=true:=w.ltLeft h (w.asym _ _ h')
theorem irr(i:Nat):lt i i=false:=by
 cases q':lt i i with
 | false=>rfl
 | true=>have:=w.asym _ _ q';rw [q'] at this;exact tF this
theorem no{i j:Nat}(h:LT' lt i j):lt j i=false:=h.elim (w.asym _ _) (·.1)
theorem lttrans{i j k:Nat}(h:LT' lt i j)(h':LT' lt j k):LT' lt i k:=by
 rcases h with h | ⟨h,a⟩ <;> rcases h' with h' | ⟨h',b⟩
 ·exact .inl (w.trans h h')
 ·exact .inl (w.ltLeft h h')
 ·exact .inl (w.ltRight h h')
 ·exact .inr ⟨w.ntrans _ _ _ h' h,Nat.lt_trans a b⟩
end Qdh
noncomputable def gd(p:Array Nat)(k:Nat):Nat:=p.getD k 0
theorem gd_eq(p:Array Nat)(k:Nat):gd p k=(p[k]?).getD 0:=by simp [gd]
theorem Qdc{p:Array Nat}{i j:Nat}(hj:j <= p.size)(k:Nat):gd (kas_rev p i j) k=if i <= k∧k < j then gd p (i + j - 1 - k) else gd p k:=by
 rw [gd_eq,kas_rev,getElem?_mirror_all hj]
 split <;> exact (gd_eq _ _).symm
theorem gd_bubble{p:Array Nat}{src d:Nat}(hs:src < p.size)(hd:d <= src)(k:Nat):gd (bubble p src d) k=if k=src - d then gd p src else if src - d < k∧k <= src then gd p (k - 1) else gd p k:=by
 rw [gd_eq,getElem?_bubble hs d hd]
 split
 ·exact (gd_eq _ _).symm
 ·split <;> exact (gd_eq _ _).symm
structure Pst (lt:Nat->Nat->Bool) (n:Nat) (p:Array Nat) (m:Nat):Prop where
 perm:p.Perm (List.toArray (List.range n))
 sorted:∀ a b,a < b->b < m->LT' lt (gd p a) (gd p b)
 rest:∀ k,m <= k->k < n->gd p k=k
 low:∀ a,a < m->gd p a < m
section
variable {lt:Nat->Nat->Bool}{n:Nat}{p:Array Nat}
theorem Jk(h:p.Perm (List.toArray (List.range n))):p.size=n:=by rw [h.size_eq];simp
theorem Qag(h:p.Perm (List.toArray (List.range n))){k:Nat}(hk:k < n):gd p k < n:=by
 have hs:=Jk h
 have e:gd p k=p[k]'(by lia):=by simp [gd,Array.getD,hs,hk]
 rw [e]
 have hm:p[k]'(by lia) ∈ p.toList:=by simp
 have:=(Array.perm_iff_toList_perm.mp h).mem_iff.mp hm
 simpa using this
theorem asc_ok(w:Qdh lt){nrem:Nat}(hn:nrem <= n):∀ (f m:Nat),1 <= m->m + f=nrem->Pst lt n p m->
  Asks lt n (fun r=>m <= r∧r <= nrem∧Pst lt n p r∧(r < nrem->lt (gd p r) (gd p (r - 1))=true)) (kas_asc p f m)
 | 0,m,_,hm,h=>⟨Nat.le_refl _,by lia,h,fun q=>by lia⟩
 | f + 1,m,h1,hm,h=>by
  refine Jw (Qag h.perm (by lia)) (Qag h.perm (by lia)) ?_
  cases e:lt (p.getD m 0) (p.getD (m - 1) 0) with
  | true=>exact Qj0 (Nat.le_refl _) (by lia) h (fun _=>e)
  | false=>
   simp only [Bool.false_eq_true,if_false]
   have hm':gd p m=m:=h.rest m (Nat.le_refl _) (by lia)
   have hl:gd p (m - 1) < m:=h.low _ (by lia)
   have last:LT' lt (gd p (m - 1)) (gd p m):=.inr ⟨e,by lia⟩
   refine (asc_ok w hn f (m + 1) (by lia) (by lia) ⟨h.perm,fun a b hab hb=>?_,fun k hk=>h.rest k (by lia),fun a ha=>?_⟩).mono fun r hr=>⟨by lia,hr.2⟩
   ·by_cases hbm:b < m
    ·exact h.sorted a b hab hbm
    ·have:b=m:=nM (Nat.not_lt.mp hbm) hb
     subst this
     by_cases ha:a=b - 1
     ·subst ha;exact last
     ·exact w.lttrans (h.sorted a (b - 1) (by lia) (by lia)) last
   ·by_cases ham:a < m
    ·have:=h.low a ham;lia
    ·have:a=m:=nM (Nat.not_lt.mp ham) ha
     subst this;lia
theorem Qdv(h:p.Perm (List.toArray (List.range n)))(i j:Nat):(kas_rev p i j).Perm (List.toArray (List.range n)):=(mirror_perm _ _ _ _).trans h
structure Dst (lt:Nat->Nat->Bool) (n:Nat) (p:Array Nat) (m q z:Nat):Prop where
 perm:p.Perm (List.toArray (List.range n))
 size:z + (q + 1)=m
 desc:∀ a b,a < b->b < m->LT' lt (gd (kas_rev p z m) b) (gd (kas_rev p z m) a)
 eqs:∀ a b,z <= a->a < m->z <= b->b < m->lt (gd p a) (gd p b)=false
 above:∀ a b,a < z->z <= b->b < m->lt (gd p b) (gd p a)=true
 rest:∀ k,m <= k->k < n->gd p k=k
 low:∀ a,a < m->gd p a < m
theorem Qhd(w:Qdh lt){nrem:Nat}(hn:nrem <= n):∀ (f:Nat) (p:Array Nat) (m q z:Nat),m + f=nrem->Dst lt n p m q z->
  Asks lt n (fun r=>r.2.1 <= nrem∧∃ z,Dst lt n r.1 r.2.1 r.2.2 z) (kas_desc f p m q)
 | 0,p,m,q,z,hm,h=>⟨by show m <= nrem;lia,z,h⟩
 | f + 1,p,m,q,z,hm,h=>by
  have hs:=Jk h.perm
  have hq:=h.size
  have zm:=nP h.size
  have hmm:gd p m=m:=h.rest m (Nat.le_refl _) (by lia)
  refine Jw (Qag h.perm (by lia)) (Qag h.perm (by lia)) ?_
  have gr:∀ k,gd (kas_rev p z m) k=if z <= k∧k < m then gd p (z + m - 1 - k) else gd p k:=fun k=>Qdc (by lia) k
  cases e:lt (p.getD m 0) (p.getD (m - 1) 0) with
  | true=>
   simp only [if_true]
   have e':lt m (gd p (m - 1))=true:=by
    have e0:lt (gd p m) (gd p (m - 1))=true:=e
    rwa [hmm] at e0
   have low:∀ a,a < m->lt m (gd p a)=true:=fun a ha=>by
    by_cases hseg:z <= a
    ·exact w.ltLeft e' (h.eqs a (m - 1) hseg ha zm.1 zm.2)
    ·exact w.trans e' (h.above a (m - 1) (by lia) (by lia) (by lia))
   have key:∀ p2:Array Nat,p2.Perm (List.toArray (List.range n))->(∀ k,gd p2 k=gd (kas_rev p z m) k)->Dst lt n p2 (m + 1) 0 m:=fun p2 hp2 hg=>by
    have hs2:=Jk hp2
    have inner:∀ a,a < m->∃ a',a' < m∧gd p2 a=gd p a':=fun a ha=>by
     rw [hg,gr]
     split
     ·rename_i hk;exact in1_2 _ (nO hk) rfl
     ·exact in1_2 a ha rfl
    have g2:∀ k,gd (kas_rev p2 m (m + 1)) k=gd p2 k:=fun k=>by
     rw [Qdc (by lia)]
     split
     ·rename_i hk;rw [nF hk]
     ·rfl
    have hm2:gd p2 m=m:=by rw [hg,gr,if_neg (by lia)];exact hmm
    refine ⟨hp2,by lia,fun a b hab hb=>?_,fun a b h1 h2 h3 h4=>?_,fun a b h1 h2 h3=>?_,fun k hk hkn=>?_,fun a ha=>?_⟩
    ·rw [g2,g2]
     by_cases hbm:b < m
     ·rw [hg,hg];exact h.desc a b hab hbm
     ·have:b=m:=nM (Nat.not_lt.mp hbm) hb
      subst this
      rw [hm2]
      refine ob1_2 (inner a hab) fun a' ha' ea=>?_
      rw [ea]
      exact .inl (low a' ha')
    ·have e1:a=m:=nM h1 h2
     have e2:b=m:=nM h3 h4
     subst e1;subst e2
     exact w.irr _
    ·have e2:b=m:=nM h2 h3
     subst e2
     rw [hm2]
     refine ob1_2 (inner a (by lia)) fun a' ha' ea=>?_
     rw [ea]
     exact low a' ha'
    ·rw [hg,gr,if_neg (by lia)];exact h.rest k (by lia) hkn
    ·by_cases ham:a < m
     ·refine ob1_2 (inner a ham) fun a' ha' ea=>?_
      rw [ea];have:=h.low a' ha';lia
     ·have:a=m:=nM (Nat.not_lt.mp ham) ha
      subst this;rw [hm2];lia
   have ez:m - (q + 1)=z:=Nat.sub_eq_of_eq_add h.size.symm
   by_cases hq0:q > 0
   ·simp only [hq0,if_true,ez]
    exact (Qhd w hn f _ (m + 1) 0 m (by lia) (key _ (Qdv h.perm _ _) fun _=>rfl))
   ·simp only [hq0,if_false]
    refine (Qhd w hn f _ (m + 1) 0 m (by lia) (key p h.perm fun k=>?_))
    rw [gr]
    split
    ·rename_i hk;rw [nG h.size hq0 hk]
    ·rfl
  | false=>
   simp only [Bool.false_eq_true,if_false]
   refine Jw (Qag h.perm (by lia)) (Qag h.perm (by lia)) ?_
   cases e2:lt (p.getD (m - 1) 0) (p.getD m 0) with
   | true=>exact ⟨by show m <= nrem;lia,z,h⟩
   | false=>
    simp only [Bool.false_eq_true,if_false]
    have e1':lt m (gd p (m - 1))=false:=by
     have e0:lt (gd p m) (gd p (m - 1))=false:=e
     rwa [hmm] at e0
    have e2':lt (gd p (m - 1)) m=false:=by
     have e0:lt (gd p (m - 1)) (gd p m)=false:=e2
     rwa [hmm] at e0
    have same1:∀ a,z <= a->a < m->lt m (gd p a)=false:=fun a h1 h2=>w.ntrans _ _ _ e1' (h.eqs _ _ (by lia) (by lia) h1 h2)
    have same2:∀ a,z <= a->a < m->lt (gd p a) m=false:=fun a h1 h2=>w.ntrans _ _ _ (h.eqs _ _ h1 h2 (by lia) (by lia)) e2'
    have gr2:∀ k,gd (kas_rev p z (m + 1)) k=if z <= k∧k < m + 1 then gd p (z + m - k) else gd p k:=fun k=>by
     rw [Qdc (by lia)]
     by_cases hk:z <= k∧k < m + 1
     ·rw [if_pos hk,if_pos hk];congr 1
     ·rw [if_neg hk,if_neg hk]
    refine Qhd w hn f p (m + 1) (q + 1) z (by lia) ⟨h.perm,by lia,fun a b hab hb=>?_,fun a b h1 h2 h3 h4=>?_,fun a b h1 h2 h3=>?_,fun k hk hkn=>h.rest k (by lia) hkn,fun a ha=>?_⟩
    ·rw [gr2,gr2]
     by_cases ha:a < z
     ·rw [if_neg (fun c=>Nat.not_le_of_lt ha c.1:¬ (z <= a∧a < m + 1))]
      by_cases hb':b < z
      ·rw [if_neg (fun c=>Nat.not_le_of_lt hb' c.1:¬ (z <= b∧b < m + 1))]
       have:=h.desc a b hab (by lia)
       rw [gr,gr,if_neg (by lia),if_neg (by lia)] at this
       exact this
      ·rw [if_pos (by lia)]
       by_cases hbm:b=z
       ·have:z + m - b=m:=by rw [hbm];exact Nat.add_sub_cancel_left z m
        rw [this,hmm]
        exact .inl (w.ltRight (same2 (m - 1) zm.1 zm.2) (h.above a (m - 1) ha zm.1 zm.2))
       ·have:=h.desc a (b - 1) (nB ha hb' hbm) (nD hb' hbm hb).2
        rw [gr,gr,if_pos (nD hb' hbm hb),if_neg (fun c=>Nat.not_le_of_lt ha c.1)] at this
        rw [nA (Nat.lt_of_le_of_lt (Nat.zero_le a) hab)] at this
        exact this
     ·rw [if_pos (by lia),if_pos (by lia)]
      by_cases ham:a=z
      ·rw [show z + m - a=m by rw [ham];exact Nat.add_sub_cancel_left z m,hmm]
       have nq:=nQ hb (ham ▸ hab)
       exact .inr ⟨same1 _ nq.1 nq.2,h.low _ nq.2⟩
      ·have nb:=nN (Nat.lt_trans (nZ ha ham) hab) hb
       have:=h.desc (a - 1) (b - 1) (nE hab ha ham) nb.2
       rw [gr,gr,if_pos nb,if_pos (nN (nZ ha ham) (Nat.lt_trans hab hb))] at this
       rw [nA (Nat.lt_of_le_of_lt (Nat.zero_le a) hab),nA (by lia:1 <= a)] at this
       exact this
    ·have refl:lt m m=false:=w.irr m
     by_cases ha:a=m <;> by_cases hb:b=m
     ·rw [ha,hb,hmm];exact refl
     ·rw [ha,hmm];exact same1 b (by lia) (by lia)
     ·rw [hb,hmm];exact same2 a (by lia) (by lia)
     ·exact h.eqs a b (by lia) (by lia) (by lia) (by lia)
    ·by_cases hb:b=m
     ·rw [hb,hmm]
      exact w.ltRight (same2 (m - 1) zm.1 zm.2) (h.above a (m - 1) (by lia) (by lia) (by lia))
     ·exact h.above a b (by lia) (by lia) (by lia)
    ·by_cases ham:a < m
     ·have:=h.low a ham;lia
     ·have:a=m:=nM (Nat.not_lt.mp ham) ha
      subst this;rw [hmm];lia
theorem Qkm(w:Qdh lt){nrem m:Nat}(hn:nrem <= n)(h1:1 <= m)(hm:m <= nrem)(hp:p.Perm (List.toArray (List.range n)))(hd:∀ a b,a < b->b < m->LT' lt (gd p b) (gd p a))(hr:∀ k,m <= k->k < n->gd p k=k)(hl:∀ a,a < m->gd p a < m):
  Asks lt n (fun r=>1 <= r.1∧r.1 <= nrem∧Pst lt n r.2 r.1) (kas_tail3 m nrem p):=by
 have hs:=Jk hp
 have gr:∀ k,gd (kas_rev p 0 m) k=if k < m then gd p (m - 1 - k) else gd p k:=fun k=>by
  rw [Qdc (by lia)]
  by_cases hk:k < m
  ·rw [if_pos ⟨Nat.zero_le _,hk⟩,if_pos hk];congr 1;lia
  ·rw [if_neg (fun q=>hk q.2),if_neg hk]
 refine Asks.bind ((asc_ok w hn (nrem - m) m h1 (by lia) ⟨Qdv hp _ _,fun a b hab hb=>?_,fun k hk hkn=>?_,fun a ha=>?_⟩).mono fun r hr'=>⟨Nat.le_trans h1 hr'.1,hr'.2.1,hr'.2.2.1⟩)
 ·rw [gr,gr,if_pos (by lia),if_pos hb];exact hd _ _ (nH hab hb) (nL h1)
 ·rw [gr,if_neg (by lia)];exact hr k hk hkn
 ·rw [gr,if_pos ha];exact hl _ (nL h1)
theorem Qeu(w:Qdh lt){nrem m:Nat}(hn:nrem <= n)(hm:m < nrem){z:Nat}(h:Dst lt n p (m + 1) 0 z):Asks lt n (fun r=>1 <= r.1∧r.1 <= nrem∧Pst lt n r.2 r.1) (kas_descPart m nrem p):=by
 refine Asks.bind ((Qhd w hn (nrem - (m + 1)) p (m + 1) 0 z (by lia) h).mono ?_)
 rintro ⟨p,m,q⟩ ⟨hr1,z,hd⟩
 show Asks lt n _ (if q > 0 then kas_tail3 m nrem (kas_rev p (m - (q + 1)) m) else kas_tail3 m nrem p)
 have hs:=Jk hd.perm
 have hz:=hd.size
 have ez:m - (q + 1)=z:=Nat.sub_eq_of_eq_add hd.size.symm
 rw [ez]
 have gr:=fun k=>Qdc (p:=p) (i:=z) (j:=m) (by lia) k
 by_cases hq:q > 0
 ·simp only [hq,if_true]
  refine Qkm w hn (by lia) hr1 (Qdv hd.perm _ _) hd.desc (fun k hk hkn=>?_) (fun a ha=>?_)
  ·rw [gr,if_neg (by lia)];exact hd.rest k hk hkn
  ·rw [gr]
   split
   ·rename_i hk;exact hd.low _ (nO hk)
   ·exact hd.low _ ha
 ·simp only [hq,if_false]
  have same:∀ k,gd (kas_rev p z m) k=gd p k:=fun k=>by
   rw [gr]
   split
   ·rename_i hk;rw [nG hz hq hk]
   ·rfl
  refine Qkm w hn (by lia) hr1 hd.perm (fun a b hab hb=>?_) hd.rest hd.low
  have:=hd.desc a b hab hb
  rwa [same,same] at this
theorem Zk{k:Nat}(hk:k < n):gd (List.toArray (List.range n)) k=k:=by
 simp [gd,hk]
theorem count_ok(w:Qdh lt)(h2:1 <= n):Asks lt n (fun r=>1 <= r.1∧r.1 <= n∧Pst lt n r.2 r.1) (kas_count n (List.toArray (List.range n))):=by
 have p1:Pst lt n (List.toArray (List.range n)) 1:=⟨Array.Perm.refl _,fun a b hab hb=>by lia,fun k _ hk=>Zk hk,fun a ha=>by rw [Zk (by lia)];exact ha⟩
 refine Asks.bind ((asc_ok w (Nat.le_refl n) (n - 1) 1 (Nat.le_refl _) (by lia) p1).mono fun r hr=>?_)
 obtain ⟨hr1,hrn,hp,hlt⟩:=hr
 by_cases he:(r == n)=true
 ·rw [if_pos he];exact Jw hr1 hrn hp
 ·rw [if_neg he]
  have hrn':r < n:=by have:r≠n:=fun q=>he (by simp [q]);lia
  have hlt':lt r (r - 1)=true:=by
   have:=hlt hrn'
   rwa [Zk hrn',Zk (by lia)] at this
  by_cases hr2:r > 1
  ·rw [if_pos hr2]
   refine Jw (Qag hp.perm (by lia)) (Qag hp.perm (by lia)) ?_
   cases e:lt ((List.toArray (List.range n)).getD 0 0) ((List.toArray (List.range n)).getD (r - 1) 0) with
   | true=>exact Jw hr1 hrn hp
   | false=>
    simp only [Bool.false_eq_true,if_false]
    have e':lt 0 (r - 1)=false:=by
     have e0:lt (gd (List.toArray (List.range n)) 0) (gd (List.toArray (List.range n)) (r - 1))=false:=e
     rwa [Zk (by lia),Zk (by lia)] at e0
    have up:∀ a b,a <= b->b < r->lt b a=false:=fun a b hab hb=>by
     by_cases hq:a=b
     ·subst hq;exact w.irr _
     ·have:=hp.sorted a b (by lia) hb
      rw [Zk (by lia),Zk (by lia)] at this
      exact w.no this
    have all:∀ a b,a < r->b < r->lt a b=false:=fun a b ha hb=>
     w.ntrans _ _ _ (up 0 a (Nat.zero_le _) ha) (w.ntrans _ _ _ e' (up b (r - 1) (by lia) (by lia)))
    have gr:∀ k,gd (kas_rev (List.toArray (List.range n)) 0 r) k=if k < r then r - 1 - k else gd (List.toArray (List.range n)) k:=fun k=>by
     rw [Qdc (by simp;lia)]
     by_cases hk:k < r
     ·rw [if_pos ⟨Nat.zero_le _,hk⟩,if_pos hk,Zk (by lia)];lia
     ·rw [if_neg (fun q=>hk q.2),if_neg hk]
    have hpr:(kas_rev (List.toArray (List.range n)) 0 r).Perm (List.toArray (List.range n)):=Qdv (Array.Perm.refl _) _ _
    have gr1:∀ k,gd (kas_rev (kas_rev (List.toArray (List.range n)) 0 r) (r) (r + 1)) k=gd (kas_rev (List.toArray (List.range n)) 0 r) k:=fun k=>by
     rw [Qdc (by rw [Jk hpr];lia)]
     split
     ·rename_i hk;rw [nF hk]
     ·rfl
    have lowr:∀ a,a < r->lt r a=true:=fun a ha=>w.ltLeft hlt' (all a (r - 1) ha (by lia))
    refine Qeu w (Nat.le_refl n) hrn' (z:=r) ⟨hpr,rfl,fun a b hab hb=>?_,fun a b h1 h2 h3 h4=>?_,fun a b h1 h2 h3=>?_,fun k hk hkn=>?_,fun a ha=>?_⟩
    ·rw [gr1,gr1,gr,gr,if_pos (show a < r by lia)]
     by_cases hbr:b < r
     ·rw [if_pos hbr]
      exact .inr ⟨all _ _ (nL hr1) (nL hr1),nH hab hbr⟩
     ·have:b=r:=nM (Nat.not_lt.mp hbr) hb
      subst this
      rw [if_neg (Nat.lt_irrefl _),Zk hrn']
      exact .inl (lowr _ (nL hr1))
    ·have e1:a=r:=nM h1 h2
     have e2:b=r:=nM h3 h4
     rw [e1,e2];exact w.irr _
    ·have e2:b=r:=nM h2 h3
     subst e2
     rw [gr,gr,if_neg (Nat.lt_irrefl _),if_pos (show a < b by lia),Zk hrn']
     exact lowr _ (nL hr1)
    ·rw [gr,if_neg (by lia)];exact Zk hkn
    ·rw [gr]
     split
     ·lia
     ·rw [Zk (by lia)];exact ha
  ·rw [if_neg hr2]
   have hr':r=1:=by lia
   subst hr'
   have gr1:∀ k,gd (kas_rev (List.toArray (List.range n)) (1) (1 + 1)) k=gd (List.toArray (List.range n)) k:=fun k=>by
    rw [Qdc (by simp;lia)]
    split
    ·rename_i hk;rw [nF hk]
    ·rfl
   refine Qeu w (Nat.le_refl n) hrn' (z:=1) ⟨Array.Perm.refl _,rfl,fun a b hab hb=>?_,fun a b h1 h2 h3 h4=>?_,fun a b h1 h2 h3=>?_,fun k hk hkn=>Zk hkn,fun a ha=>by rw [Zk (by lia)];exact ha⟩
   ·rw [gr1,gr1,Zk (by lia),Zk (by lia)]
    have e1:a=0:=by lia
    have e2:b=1:=by lia
    rw [e1,e2];exact .inl hlt'
   ·have e1:a=1:=nM h1 h2
    have e2:b=1:=nM h3 h4
    rw [e1,e2];exact w.irr _
   ·have e1:a=0:=Nat.lt_one_iff.mp h1
    have e2:b=1:=nM h2 h3
    rw [e1,e2,Zk (by lia),Zk (by lia)];exact hlt'
theorem Qgv(w:Qdh lt){k:Nat}(hk:k < n)(h:Pst lt n p k):∀ (f l r:Nat),l <= r->r <= k->r - l <= f->(∀ i,i < l->lt k (gd p i)=false)->(∀ i,r <= i->i < k->lt k (gd p i)=true)->
  Asks lt n (fun l=>l <= k∧(∀ i,i < l->lt k (gd p i)=false)∧∀ i,l <= i->i < k->lt k (gd p i)=true) (kas_place p k f l r)
 | 0,l,r,h1,h2,h3,hlo,hhi=>by
  have:l=r:=Nat.le_antisymm h1 (Nat.sub_eq_zero_iff_le.mp (Nat.le_zero.mp h3))
  subst this
  exact Jw h2 hlo hhi
 | f + 1,l,r,h1,h2,h3,hlo,hhi=>by
  unfold kas_place
  by_cases hge:l ≥ r
  ·rw [if_pos hge]
   have:l=r:=Nat.le_antisymm h1 hge
   subst this
   exact Jw h2 hlo hhi
  ·rw [if_neg hge]
   have hkk:gd p k=k:=h.rest k (Nat.le_refl _) hk
   have hmm:=nK hge
   have hmid:(l + r) / 2 < k:=Nat.lt_of_lt_of_le hmm.2 h2
   refine Jw (Qag h.perm hk) (Qag h.perm (Nat.lt_trans hmid hk)) ?_
   cases e:lt (p.getD k 0) (p.getD ((l + r) / 2) 0) with
   | true=>
    have e':lt k (gd p ((l + r) / 2))=true:=by
     have e0:lt (gd p k) (gd p ((l + r) / 2))=true:=e
     rwa [hkk] at e0
    simp only [if_true]
    refine Qgv w hk h f l ((l + r) / 2) hmm.1 (Nat.le_of_lt hmid) (nJ hmm.2 h3) hlo fun i h4 h5=>?_
    by_cases hi:i=(l + r) / 2
    ·rw [hi];exact e'
    ·exact w.ltLeft e' (w.no (h.sorted _ i (Nat.lt_of_le_of_ne h4 (Ne.symm hi)) h5))
   | false=>
    have e':lt k (gd p ((l + r) / 2))=false:=by
     have e0:lt (gd p k) (gd p ((l + r) / 2))=false:=e
     rwa [hkk] at e0
    simp only [Bool.false_eq_true,if_false]
    refine Qgv w hk h f ((l + r) / 2 + 1) r hmm.2 h2 (nI hmm.1 h3) (fun i hi=>?_) hhi
    by_cases hi':i=(l + r) / 2
    ·rw [hi'];exact e'
    ·exact w.ntrans _ _ _ e' (w.no (h.sorted i _ (Nat.lt_of_le_of_ne (Nat.le_of_lt_succ hi) hi') hmid))
theorem bin_ok(w:Qdh lt):∀ (f:Nat) (p:Array Nat) (k:Nat),k + f=n->Pst lt n p k->Asks lt n (fun p=>Pst lt n p n) (kas_bin f p k)
 | 0,p,k,hk,h=>by
  have:k=n:=hk
  subst this;exact h
 | f + 1,p,k,hk,h=>by
  have hkn:k < n:=hk ▸ Nat.lt_add_of_pos_right (Nat.succ_pos f)
  have hs:=Jk h.perm
  have hkk:gd p k=k:=h.rest k (Nat.le_refl _) hkn
  refine Asks.bind ((Qgv w hkn h k 0 k (Nat.zero_le _) (Nat.le_refl _) (by lia) (fun i hi=>by lia) (fun i h1 h2=>by lia)).mono fun l hl=>?_)
  obtain ⟨hlk,hlo,hhi⟩:=hl
  have gb:∀ i,gd (bubble p k (k - l)) i=if i=l then k else if l < i∧i <= k then gd p (i - 1) else gd p i:=fun i=>by
   rw [gd_bubble (by lia) (by lia),hkk,Nat.sub_sub_self hlk]
  refine bin_ok w f _ (k + 1) (by lia) ⟨(bubble_perm _ _ _).trans h.perm,fun a b hab hb=>?_,fun i hi hin=>?_,fun a ha=>?_⟩
  ·rw [gb,gb]
   by_cases hal:a=l
   ·rw [if_pos hal,if_neg (by lia),if_pos (by lia)]
    exact .inl (hhi _ (by lia) (by lia))
   ·rw [if_neg hal]
    by_cases hbl:b=l
    ·rw [if_pos hbl,if_neg (by lia)]
     exact .inr ⟨hlo _ (by lia),h.low _ (by lia)⟩
    ·rw [if_neg hbl]
     by_cases h1:l < a∧a <= k <;> by_cases h2:l < b∧b <= k
     ·rw [if_pos h1,if_pos h2];exact h.sorted _ _ (Nat.sub_lt_sub_right (Nat.lt_of_le_of_lt (Nat.zero_le l) h1.1) hab) (Nat.lt_of_lt_of_le (Nat.sub_lt (Nat.lt_of_le_of_lt (Nat.zero_le l) h2.1) Nat.one_pos) h2.2)
     ·lia
     ·rw [if_neg h1,if_pos h2];exact h.sorted _ _ (by lia) (by lia)
     ·rw [if_neg h1,if_neg h2];exact h.sorted _ _ (by lia) (by lia)
  ·rw [gb,if_neg (by lia),if_neg (by lia)];exact h.rest i (by lia) hin
  ·rw [gb]
   split
   ·lia
   ·split
    ·have:=h.low (a - 1) (by lia);lia
    ·have:=h.low a (by lia);lia
theorem Qjd(w:Qdh lt)(h2:1 <= n):Asks lt n (fun p=>Pst lt n p n) (kas_sort n):=by
 refine Asks.bind ((count_ok w h2).mono fun r hr=>?_)
 obtain ⟨h1,hn,hp⟩:=hr
 by_cases hlt:r.1 < n
 ·rw [if_pos hlt,show max r.1 1=r.1 by lia]
  exact bin_ok w (n - r.1) r.2 r.1 (by lia) hp
 ·rw [if_neg hlt]
  have:r.1=n:=by lia
  rw [this] at hp;exact hp
end
section
variable {G:Amb}{V:Addr->Prop}{A:Around}{s:Shared}{E:Value->Shared->Prop}
theorem Qce{s' s'':Shared}{a:Addr}{o:Obj}(hV:∀ a,V a->∃ o,s.heap.get? a=some o)(new:s.heap.get? a=none)(k:Step G V s' s'')(e:s'.heap.get? a=some o)(hf:o.cls≠.type "frame"):s''.heap.get? a=some o:=
 k.exact e (.inl fun q=>by refine ob1_1 (hV a q) fun o' e'=>?_;rw [new] at e';exact nSo e') hf
theorem Qbf{s₁:Shared}{a:Addr}{h':Heap}(k:Step G V s s₁)(new:s.heap.get? a=none)(new0:G.h₀.get? a=none)(hs:Heap.SameBut a s₁.heap h'):Step G V s { s₁ with heap:=h' }:=
 k.ext hs.extBut new new0
theorem Qho{vs:List Value}{lt:Nat->Nat->Bool}{κ:SortKind}{s₁:Shared}{a:Addr}{n:Nat}{P:PySem.Fin->Shared->Prop}(hV:∀ a,V a->∃ o,s.heap.get? a=some o)(hb:∀ a,s.heap.get? a=none->G.h₀.get? a=none)
  (k1:Step G V s s₁)(new:s.heap.get? a=none)(ho:s₁.heap.get? a=some (seqObj "list" vs.toArray n))(h2:2 <= vs.length)(h64:vs.length < 64)(hw:Qdh lt)
  (hkind:∀ s' Q,Step G V s s'->Q κ s'->wpAny (model G.prog G.w) A (keyKind' vs.toArray) Q (fun _ _=>False) s')
  (hask:∀ i j s' C,i < vs.length->j < vs.length->Step G V s s'->(∀ s'',Step G V s' s''->C (lt i j) s'')->kas_ask G.prog G.w A κ vs i j C s')
  (h:∀ p s' c,Pst lt vs.length p vs.length->Step G V s s'->s'.heap.get? a=some (listOf (List.toArray (p.toList.map fun i=>vs.getD i Value.none)) c)->P (.done (.ret .none)) s'):
  wpAny (model G.prog G.w) A (Builtin.«list.sort» ⟨[.ref a],[]⟩) P E s₁:=by
 have s1:=Heap.SameBut.update s₁.heap a (Obj.mapSeq fun _=>(#[]:Array Value))
 obtain ⟨e1,ho1⟩:∃ e1,(s₁.heap.update a (Obj.mapSeq fun _=>(#[]:Array Value))).get? a=some (seqObj "list" #[] e1):=⟨_,get?_update_seq ho fun _=>#[]⟩
 refine wG (list_sort_plain ..) ?_
 refine Qg (fun K k=>listItems_at ho rfl k) ?_
 refine wpAny_bind (listUpdate_at ho rfl ?_ (by rw [List.size_toArray,sizeLine_eq];lia) (Nat.zero_le _))
 refine Qg (fun K k=>seqEpoch_at ho1 rfl k) ?_
 refine wpAny_bind (wpAny_newTuple ?_ (by show vs.length <= _;rw [sizeLine_eq];lia))
 refine wpAny_bind (wpAny_newList ?_ (Nat.zero_le _))
 refine wpAny_holding ?_
 show wpAny (model G.prog G.w) A _ P E { s₁ with heap:=((s₁.heap.update a (Obj.mapSeq fun _=>(#[]:Array Value))).push (seqObj "tuple" vs.toArray 0)).push (seqObj "list" #[] 0) }
 have hn2:¬ vs.toArray.size < 2:=by rw [List.size_toArray];lia
 refine wG (if_neg hn2) (wG (if_neg hn2) ?_)
 have k2:Step G V s { s₁ with heap:=((s₁.heap.update a (Obj.mapSeq fun _=>(#[]:Array Value))).push (seqObj "tuple" vs.toArray 0)).push (seqObj "list" #[] 0) }:=
  (Qbf k1 new (hb a new) s1).trans (.of_heap (tk:=s₁.toks) fun b o e=>Heap.get?_push_of_some _ (Heap.get?_push_of_some _ e))
 refine wpAny_bind (wpAny_mono (hkind _ (fun κ' s'=>κ'=κ∧s'={ s₁ with heap:=((s₁.heap.update a (Obj.mapSeq fun _=>(#[]:Array Value))).push (seqObj "tuple" vs.toArray 0)).push (seqObj "list" #[] 0) }) k2 ⟨rfl,rfl⟩) (fun κ' s0 hk=>?_) fun _ _ x=>x.elim)
 obtain ⟨rfl,rfl⟩:=hk
 have hoA:(Shared.heap { s₁ with heap:=((s₁.heap.update a (Obj.mapSeq fun _=>(#[]:Array Value))).push (seqObj "tuple" vs.toArray 0)).push (seqObj "list" #[] 0) }).get? a=some (seqObj "list" #[] e1):=Heap.get?_push_of_some _ (Heap.get?_push_of_some _ ho1)
 have run:=kat_run (prog:=G.prog) (w:=G.w) (A:=A) (E:=E) (κ:=κ') (ks:=vs) (vs:=vs) (Q:=fun st' s'=>∃ p:Array Nat,p.size=vs.length∧arrOf st'=p.map (kas_item (vs.toArray.zip vs.toArray))∧failedOf st'=none∧Pst lt vs.length p vs.length∧Step G V s s'∧s'.heap.get? a=some (seqObj "list" #[] e1))
  rfl h2 h64 (G:=fun p s'=>Pst lt vs.length p vs.length∧Step G V s s'∧s'.heap.get? a=some (seqObj "list" #[] e1)) (fun p' st' s' a1 a2 a3 a4=>⟨p',a1,a2,a3,a4⟩)
  (s:={ s₁ with heap:=((s₁.heap.update a (Obj.mapSeq fun _=>(#[]:Array Value))).push (seqObj "tuple" vs.toArray 0)).push (seqObj "list" #[] 0) })
  (Asks.wp (Inv:=fun s'=>Step G V s s'∧s'.heap.get? a=some (seqObj "list" #[] e1))
   (fun i j C s' hi hj hI hC=>hask i j s' C hi hj hI.1 fun s'' k=>hC s'' ⟨hI.1.trans k,Qce hV new k hI.2 (by show Value.type "list"≠_;decide)⟩)
   (fun p s' hp hI=>⟨hp,hI⟩) ⟨k2,hoA⟩ (Qjd hw (by lia)))
 refine wpAny_bind (wpAny_mono run ?_ fun _ _ e=>e)
 rintro ⟨⟨⟩,st'⟩ s' ⟨p,hp,har,hf,hpst,k3,na⟩
 dsimp only
 have hout:=kat_snds rfl har
 have hsz:(List.toArray (p.toList.map fun i=>vs.getD i Value.none)).size=vs.length:=by exact wG (List.size_toArray ..) (wG (List.length_map ..) (wG (Array.length_toList ..) (wG (hp ..) rfl)))
 refine wG hout ?_
 have s2:=Heap.SameBut.update s'.heap a (Obj.mapSeq fun _=>List.toArray (p.toList.map fun i=>vs.getD i Value.none))
 obtain ⟨c2,hc2⟩:∃ c2,(s'.heap.update a (Obj.mapSeq fun _=>List.toArray (p.toList.map fun i=>vs.getD i Value.none))).get? a=some (seqObj "list" (List.toArray (p.toList.map fun i=>vs.getD i Value.none)) c2):=⟨_,get?_update_seq na fun _=>List.toArray (p.toList.map fun i=>vs.getD i Value.none)⟩
 refine Qg (fun K k=>seqEpoch_at na rfl k) ?_
 refine wpAny_bind (listUpdate_at na rfl ?_ (Nat.zero_le _) (Nat.le_trans (Nat.le_of_eq hsz) (by rw [sizeLine_eq];lia)))
 rw [hf]
 simp only [bne_self_eq_false,Bool.false_eq_true,if_false]
 exact wpAny_pure (h p _ c2 hpst (Qbf k3 new (hb a new) s2) hc2)
theorem Qhm{vs:List Value}{lt:Nat->Nat->Bool}{κ:SortKind}{l:Addr}{Q:Value->Shared->Prop}(hV:∀ a,V a->∃ o,s.heap.get? a=some o)(hb:∀ a,s.heap.get? a=none->G.h₀.get? a=none)
  (hl:s.heap.IsList l vs.toArray)(h2:2 <= vs.length)(h64:vs.length < 64)(hw:Qdh lt)
  (hkind:∀ s' Q,Step G V s s'->Q κ s'->wpAny (model G.prog G.w) A.in1.in1 (keyKind' vs.toArray) Q (fun _ _=>False) s')
  (hask:∀ i j s' C,i < vs.length->j < vs.length->Step G V s s'->(∀ s'',Step G V s' s''->C (lt i j) s'')->kas_ask G.prog G.w A.in1.in1 κ vs i j C s')
  (h:∀ p s' D,Pst lt vs.length p vs.length->Step G V s s'->s.heap.get? D=none->s'.heap.PlainList D (List.toArray (p.toList.map fun i=>vs.getD i Value.none))->Q (.ref D) s'):
  wpAny (model G.prog G.w) A (call (.builtin "sorted") [.ref l]) Q E s:=by
 refine Calls.call_function_entry kind_sorted plain_sorted entry_sorted (args_sorted1 _) ?_
 unfold Builtin.«sorted»
 refine wpAny_bind (m:=checkCount "sorted" 1 1 _) (wpAny_pure ?_)
 refine wpAny_bind (collect_list hl ?_ (by rw [sizeLine_eq];lia))
 refine wpAny_bind (wpAny_newList ?_ (by rw [sizeLine_eq];lia))
 have hsz:((s.heap.push (seqObj "list" #[] 0)).update s.heap.objs.size (Obj.mapSeq (· ++ vs.toArray))).objs.size=s.heap.objs.size + 1:=by
  exact wG (Heap.size_update ..) (wG (size_push' ..) rfl)
 have hoL:(((s.heap.push (seqObj "list" #[] 0)).update s.heap.objs.size (Obj.mapSeq (· ++ vs.toArray))).push (seqObj "list" vs.toArray 0)).get? (s.heap.objs.size + 1)=some (seqObj "list" vs.toArray 0):=by
  rw [← hsz];exact Heap.get?_push_size _ rfl
 have keep:∀ b o,s.heap.get? b=some o->(((s.heap.push (seqObj "list" #[] 0)).update s.heap.objs.size (Obj.mapSeq (· ++ vs.toArray))).push (seqObj "list" vs.toArray 0)).get? b=some o:=fun b o q=>by
  have hlt:b < s.heap.objs.size:=Heap.lt_size q
  refine wG (Heap.get?_push_ne _ _ _ (by rw [hsz];exact Nat.ne_of_lt (Nat.lt_succ_of_lt hlt))) (wG (Heap.get?_update_ne _ _ _ _ (Nat.ne_of_lt hlt)) (wG (Heap.get?_push_ne _ _ _ (Nat.ne_of_lt hlt)) ?_))
  exact q
 have new:s.heap.get? (s.heap.objs.size + 1)=none:=Heap.get?_none_of_le (Nat.le_succ _)
 show wpAny _ _ _ _ _ { s with heap:=((s.heap.push (seqObj "list" #[] 0)).update s.heap.objs.size (Obj.mapSeq (· ++ vs.toArray))).push (seqObj "list" vs.toArray 0) }
 rw [hsz]
 refine wpAny_bind (wpAny_holding (wpAny_call_entry slot_list_sort ⟨_,hoL,rfl⟩ entry_list_sort ?body (args_list_sort _)))
 case body=>
  refine Qho (s:=s) (s₁:={ s with heap:=((s.heap.push (seqObj "list" #[] 0)).update s.heap.objs.size (Obj.mapSeq (· ++ vs.toArray))).push (seqObj "list" vs.toArray 0) }) hV hb (.of_heap (s:=s) (tk:=s.toks) keep) new hoL h2 h64 hw hkind hask ?_
  intro p s' c hp k hc
  exact in1_2 _ rfl (wpAny_pure ⟨_,rfl,h p s' _ hp k new ⟨c,hc⟩⟩)
end
theorem sl_irr(x:Str):¬ x.cps.toList < x.cps.toList:=List.lt_irrefl _
theorem sl_asym{x y:Str}(h:x.cps.toList < y.cps.toList):¬ y.cps.toList < x.cps.toList:=List.lt_asymm h
theorem Qks{x y z:Str}(h:x.cps.toList < y.cps.toList)(h':y.cps.toList < z.cps.toList):x.cps.toList < z.cps.toList:=List.lt_trans h h'
theorem Qkt{x y:Str}(h:¬ x.cps.toList < y.cps.toList)(h':¬ y.cps.toList < x.cps.toList):x=y:=PyProof.Rows.str_eq_of_lists (List.le_antisymm (List.not_lt.mp h') (List.not_lt.mp h))
theorem ltL_irr:∀ a:List Str,ltL a a=false
 | []=>rfl
 | x :: xs=>by simp [ltL,ltL_irr xs]
theorem Qat:∀ a b:List Str,ltL a b=true->ltL b a=false
 | [],[],h=>by simp [ltL] at h
 | [],_ :: _,_=>rfl
 | _ :: _,[],h=>by simp [ltL] at h
 | x :: xs,y :: ys,h=>by
  unfold ltL at h ⊢
  by_cases e:x=y
  ·subst e;simp at h ⊢;exact Qat xs ys h
  ·have e':y≠x:=Ne.symm e
   simp [e] at h
   simp [e']
   exact List.not_lt.mp (sl_asym h)
theorem Jt:∀ a b:List Str,ltL a b=false->ltL b a=false->a=b
 | [],[],_,_=>rfl
 | [],_ :: _,h,_=>by simp [ltL] at h
 | _ :: _,[],_,h=>by simp [ltL] at h
 | x :: xs,y :: ys,h,h'=>by
  unfold ltL at h h'
  by_cases e:x=y
  ·subst e;simp at h h';exact wG (Jt xs ys h h') rfl
  ·have e':y≠x:=Ne.symm e
   simp only [beq_iff_eq,e,e',if_false,decide_eq_false_iff_not] at h h'
   exact absurd (Qkt h h') e
theorem Qh9:∀ a b c:List Str,ltL a b=true->ltL b c=true->ltL a c=true
 | _,_,[],_,h=>by simp [ltL] at h
 | [],_,_ :: _,_,_=>rfl
 | _ :: _,[],_ :: _,h,_=>by simp [ltL] at h
 | x :: xs,y :: ys,z :: zs,h,h'=>by
  unfold ltL at h h' ⊢
  by_cases e:x=y
  ·subst e
   by_cases e2:x=z
   ·subst e2;simp at h h' ⊢;exact Qh9 xs ys zs h h'
   ·simp [e2] at h h' ⊢;exact h'
  ·by_cases e2:y=z
   ·subst e2;simp [e] at h h' ⊢;exact h
   ·simp [e,e2] at h h'
    have h3:=Qks h h'
    by_cases e3:x=z
    ·subst e3;exact absurd h3 (sl_irr x)
    ·simp [e3];exact h3
theorem Qfy(a b c:List Str)(h:ltL a b=false)(h':ltL b c=false):ltL a c=false:=by
 cases e:ltL a c with
 | false=>rfl
 | true=>
  cases hb:ltL b a with
  | true=>rw [Qh9 b a c hb e] at h';exact tF h'
  | false=>rw [Jt a b h hb,h'] at e;exact fT e
theorem weak_of(f:Nat->List Str):Qdh (fun i j=>ltL (f i) (f j)):=⟨fun i j=>Qat _ _,fun i j k=>Qfy _ _ _⟩
section
variable {G:Amb}{n:Nat}{V:Addr->Prop}{ks:Qi}
theorem Qfu{A:Around}{s:Shared}{E:Value->Shared->Prop}{Q:Bool->Shared->Prop}{prog:Program}{w:World}{l b:Addr}{vs us:List Value}{xs ys:List Str}(hl:s.heap.IsList l (List.toArray vs))(hb:s.heap.IsList b (List.toArray us))(hx:Zv vs xs)(hy:Zv us ys)(hu:A.units < cLine)
  (h:Q (ltL xs ys) s):wpAny (model prog w) A (oneLt' true (.ref l) (.ref b)) Q E s:=by
 refine ob1_3 (id hl) ?_;rintro ⟨cls,dd,data,sl⟩ ho hc ⟨n,hd⟩
 refine ob1_3 (id hb) ?_;rintro ⟨cls2,dd2,data2,sl2⟩ ho2 hc2 ⟨n2,hd2⟩
 simp only at hc hd hc2 hd2
 subst hc hd hc2 hd2
 rw [oneLt'_eq]
 simp only [if_true]
 refine wpAny_bind (wpAny_cRoomFor hu ?_)
 refine wpAny_bind (wpAny_callSpecialIfBound?_slot ⟨_,ho,rfl⟩ F.slot_list_lt ?_)
 exact call_meets F.slot_list_lt ⟨_,ho,rfl⟩ F.entry_list_lt (F.args_list_lt_2 _ _) (Qia l b vs us n n2 dd dd2 sl sl2 xs ys hx hy) ⟨ho,ho2,wpAny_truthy_bool h⟩
noncomputable def Qc6(d:D):Option D:=(aL d).bind fun l=>(l2 l).bind fun p=>(pL p.1).bind fun a=>(pL p.2).bind fun b=>(Zq a).bind fun x=>(Zq b).map fun y=>if ltL y x then .data (.list [.list b,.list a]) else .data (.list [.list a,.list b])
theorem sort2D_2(a b:List PyData):Qc6 (.data (.list [.list a,.list b]))=(Zq a).bind fun x=>(Zq b).map fun y=>if ltL y x then .data (.list [.list b,.list a]) else .data (.list [.list a,.list b]):=rfl
theorem Xb{lt:Nat->Nat->Bool}{n:Nat}{p:Array Nat}(h:Pst lt n p n):p.toList.Pairwise (LT' lt)∧p.toList.Perm (List.range n):=by
 have hs:=Jk h.perm
 refine ⟨List.pairwise_iff_getElem.mpr fun i j hi hj hij=>?_,by simpa using Array.perm_iff_toList_perm.mp h.perm⟩
 have hi':i < p.size:=by simpa using hi
 have hj':j < p.size:=by simpa using hj
 have:=h.sorted i j hij (by lia)
 have e1:gd p i=p[i]:=by simp [gd,Array.getD,hi']
 have e2:gd p j=p[j]:=by simp [gd,Array.getD,hj']
 rw [e1,e2] at this
 simpa using this
theorem Qb1{R:Nat->Nat->Prop}(ha:∀ i j,R i j->R j i->False):∀ {l m:List Nat},l.Perm m->l.Pairwise R->m.Pairwise R->l=m
 | [],m,hp,_,_=>(List.Perm.nil_eq hp)
 | a :: l,[],hp,_,_=>by simpa using hp.length_eq
 | a :: l,b :: m,hp,h1,h2=>by
  have e:a=b:=by
   rcases List.mem_cons.mp (hp.mem_iff.mp (.head _)) with e | hm
   ·exact e
   ·rcases List.mem_cons.mp (hp.symm.mem_iff.mp (.head _)) with e' | hl
    ·exact e'.symm
    ·exact (ha a b ((List.pairwise_cons.mp h1).1 b hl) ((List.pairwise_cons.mp h2).1 a hm)).elim
  subst e
  rw [Qb1 ha (List.Perm.cons_inv hp) (List.pairwise_cons.mp h1).2 (List.pairwise_cons.mp h2).2]
theorem Qh8{lt:Nat->Nat->Bool}(w:Qdh lt)(i j:Nat)(h:LT' lt i j)(h':LT' lt j i):False:=by
 have h1:=w.no h
 have h2:=w.no h'
 rcases h with h | ⟨_,a⟩
 ·rw [h] at h2;exact tF h2
 ·rcases h' with h' | ⟨_,b⟩
  ·rw [h'] at h1;exact tF h1
  ·lia
theorem Qfr{lt lt2:Nat->Nat->Bool}{n:Nat}{p q:Array Nat}(w:Qdh lt)(h:Pst lt n p n)(h':Pst lt2 n q n)(same:∀ i j,LT' lt2 i j->LT' lt i j):p.toList=q.toList:=by
 refine Qx (Xb h) fun a b=>?_
 refine Qx (Xb h') fun c d=>?_
 exact Qb1 (Qh8 w) (b.trans d.symm) a (c.imp fun {i j}=>same i j)
theorem Qcz{M:Model}{h:Heap}{a:Addr}{its:Array Value}(hl:h.IsList a its):Looks M h (typeOf (.ref a)) (.type "list"):=by
 refine ob1_3 hl fun o e c _=>?_
 have:=(show Looks M h (typeOf (.ref a)) o.cls from (Looks.ld e).andThen .now)
 rwa [c] at this
theorem room2{A:Around}{h:Heap}(g:Good G n A h):A.in1.in1.units < cLine:=by
 have:=g.units
 have:cLine=9900:=rfl
 show A.units + 1 + 1 < cLine
 lia
theorem Zd{A:Around}{h:Heap}(g:Good G n A h):∀ a,h.get? a=none->G.h₀.get? a=none:=fun a e=>by
 cases q:G.h₀.get? a with
 | none=>rfl
 | some o=>rw [g.base a o q] at e;exact noS e
theorem fun_sort2:Qi4 G n V (.builtin "sorted") (one Qc6):=by
 intro A s W vs ds d Q E g x r e h
 unfold one at e
 ·refine ob1_2 (iv_1 e) ?_;rintro dd rfl e
  refine ob1_2 (Xr r) ?_;rintro v rfl rv
  unfold Qc6 at e
  ·refine ob1_2 (ivL e) ?_;rintro l0 rfl e
   refine ob2_2 (iv_2 e) ?_;rintro a0 b0 rfl e
   refine ob1_2 (bnd Qh1 e) fun a ea e=>?_
   refine ob1_2 (bnd Qh1 e) fun b eb e9=>?_
   obtain rfl:a0=_:=ea
   obtain rfl:b0=_:=eb
   have e:=e9
   simp only [Option.bind_eq_some_iff,Option.map_eq_some_iff] at e;replace e:=e
   refine ob1_2 e ?_;intro xs hxs z0;refine ob1_2 z0 ?_;rintro ys hys rfl
   refine ob2_4 (RepD.list_iff rv) ?_;rintro l us rfl wl ll rl
   refine ob2_3 rl.inv ?_;rintro u1 us' rfl ra rl'
   refine ob2_3 rl'.inv ?_;rintro u2 us'' rfl rb rl''
   have:=rl''.inv_nil
   subst this
   have ra':=ra
   have rb':=rb
   rw [Xh hxs] at ra';replace ra':=ra'
   rw [Xh hys] at rb';replace rb':=rb'
   refine ob2_4 (RepD.list_iff ra') ?_;rintro p1 w1 rfl n1 l1 r1
   refine ob2_4 (RepD.list_iff rb') ?_;rintro p2 w2 rfl n2 l2 r2
   have hx1:=Qy r1
   have hx2:=Qy r2
   let f:Nat->List Str:=fun i=>if i=0 then xs else ys
   have w0:Qdh (fun i j=>ltL (f i) (f j)):=weak_of f
   refine Qhm (G:=G) (V:=V) (vs:=[.ref p1,.ref p2]) (lt:=fun i j=>ltL (f i) (f j)) (κ:=oneType') (fun a ha=>x.live a (x.sub a ha)) (Zd g) ll (by simp) (by simp) w0 ?_ ?_ ?_
   ·intro s' Q' k hq
    have kx:=k.keepX x.sub
    refine kas_kind (T:=.type "list") (by simp) (fun v hv=>?_) (by decide) (by decide) hq
    rcases List.mem_cons.mp hv with rfl | hv
    ·exact Qcz (Qs l1 kx n1)
    ·rw [List.mem_singleton.mp hv];exact Qcz (Qs l2 kx n2)
   ·intro i j s' C hi hj k hC
    have kx:=k.keepX x.sub
    have at':∀ i,i < 2->∃ ad us,([Value.ref p1,Value.ref p2].getD i Value.none)=.ref ad∧s'.heap.IsList ad (List.toArray us)∧Zv us (f i):=fun i hi=>by
     match i,hi with
     | 0,_=>exact in2_3 p1 w1 rfl (Qs l1 kx n1) hx1
     | 1,_=>exact in2_3 p2 w2 rfl (Qs l2 kx n2) hx2
    refine ob2_3 (at' i hi) fun a1 u1 e1 q1 z1=>?_
    refine ob2_3 (at' j hj) fun a2 u2 e2 q2 z2=>?_
    unfold kas_ask
    refine wG (keyLt'_oneType ..) (wG (e1 ..) (wG (e2 ..) ?_))
    exact Qfu q1 q2 z1 z2 (room2 g) (hC s' .refl)
   ·intro p s' D hp k hD hl'
    have kx:=k.keepX x.sub
    have nD:¬ W D:=x.fresh hD
    refine Qx (Xb hp) fun pw pm=>?_
    refine h _ s' k ?_
    have ra2:=ra.mono kx
    have rb2:=rb.mono kx
    have hcase:p.toList=[0,1]∨p.toList=[1,0]:=by
     have hlen:p.toList.length=2:=by simpa using pm.length_eq
     match hpl:p.toList,hlen with
     | [c,d],_=>
      replace pm:=hpl ▸ pm
      have hc:c ∈ List.range 2:=pm.mem_iff.mp (by simp)
      have hd:d ∈ List.range 2:=pm.mem_iff.mp (by simp)
      have h0:0 ∈ [c,d]:=pm.mem_iff.mpr (by simp)
      have h1:1 ∈ [c,d]:=pm.mem_iff.mpr (by simp)
      simp at hc hd h0 h1
      rcases h0 with h0 | h0 <;> rcases h1 with h1 | h1
      ·lia
      ·left;exact wS h0 (wS h1 rfl)
      ·right;exact wS h0 (wS h1 rfl)
      ·lia
    rcases hcase with hc | hc
    ·rw [hc] at hl' pw
     have hlt:LT' (fun i j=>ltL (f i) (f j)) 0 1:=(List.pairwise_cons.mp pw).1 1 (.head _)
     have hno:ltL ys xs=false:=w0.no hlt
     rw [hno]
     exact RepD.list nD (Heap.PlainList.isList hl') (.cons ra2 (.cons rb2 .nil))
    ·rw [hc] at hl' pw
     have hlt:LT' (fun i j=>ltL (f i) (f j)) 1 0:=(List.pairwise_cons.mp pw).1 0 (.head _)
     have hyes:ltL ys xs=true:=by
      rcases hlt with q | ⟨_,q⟩
      ·exact q
      ·lia
     rw [hyes]
     exact RepD.list nD (Heap.PlainList.isList hl') (.cons rb2 (.cons ra2 .nil))
end
noncomputable def runT{α:Type}(lt:Nat->Nat->Bool):KasT α->α
 | .ret a=>a
 | .ask i j k=>runT lt (k (lt i j))
theorem Asks.run{α:Type}{lt:Nat->Nat->Bool}{n:Nat}{Q:α->Prop}:∀ {t:KasT α},Asks lt n Q t->Q (runT lt t)
 | .ret _,x=>x
 | .ask i j k,x=>Asks.run (t:=k (lt i j)) x.2.2
noncomputable def Xi(lt:Nat->Nat->Bool)(n:Nat):List Nat:=(runT lt (kas_sort n)).toList
theorem Jd{lt:Nat->Nat->Bool}{n:Nat}(w:Qdh lt)(h:1 <= n):Pst lt n (runT lt (kas_sort n)) n:=(Qjd w h).run
section
variable {G:Amb}{n:Nat}{V:Addr->Prop}{ks:Qi}
noncomputable def prOf(d:PyData):Option (List PyData × Int):=(pT d).bind fun q=>(l2 q).bind fun p=>(pL p.1).bind fun l=>(pI p.2).bind fun i=>some (l,i)
theorem prOf_2(l:List PyData)(i:Int):prOf (.tuple [.list l,.int i])=some (l,i):=rfl
theorem prOf_inv{d:PyData}{l:List PyData}{i:Int}(h:prOf d=some (l,i)):d=.tuple [.list l,.int i]:=
 ob1_2 (bnd pT_inv h) fun q e h=>ob2_2 (iv_2 h) fun x y e2 h=>ob1_2 (bnd Qh1 h) fun a e3 h=>ob1_2 (bnd pI_inv h) fun b e4 h=>by
  obtain rfl:x=_:=e3
  obtain rfl:y=_:=e4
  cases h
  rw [e,e2]
noncomputable def prs?:List PyData->Option (List (List Str × Int))
 | []=>some []
 | d :: r=>(prOf d).bind fun q=>(Zq q.1).bind fun x=>(prs? r).bind fun t=>if okD (.list q.1) then some ((x,q.2) :: t) else none
noncomputable abbrev prG(ps:List (List Str × Int))(i:Nat):List Str × Int:=ps.getD i ([],0)
noncomputable def ltP(ps:List (List Str × Int))(i j:Nat):Bool:=if (prG ps i).1=(prG ps j).1 then decide ((prG ps i).2 < (prG ps j).2) else ltL (prG ps i).1 (prG ps j).1
theorem Qcb(ps:List (List Str × Int)):Qdh (ltP ps):=by
 refine ⟨fun i j h=>?_,fun i j k h h'=>?_⟩
 ·unfold ltP at h ⊢
  by_cases e:(prG ps i).1=(prG ps j).1
  ·rw [if_pos e] at h;rw [if_pos e.symm];simp at h ⊢;lia
  ·rw [if_neg e] at h;rw [if_neg (Ne.symm e)];exact Qat _ _ h
 ·unfold ltP at h h' ⊢
  by_cases e:(prG ps i).1=(prG ps j).1
  ·rw [if_pos e] at h
   rw [e]
   by_cases e2:(prG ps j).1=(prG ps k).1
   ·rw [if_pos e2] at h' ⊢;simp at h h' ⊢;lia
   ·rw [if_neg e2] at h' ⊢;exact h'
  ·rw [if_neg e] at h
   by_cases e2:(prG ps j).1=(prG ps k).1
   ·refine wS e2 (wG (if_neg e) ?_);exact h
   ·rw [if_neg e2] at h';replace h':=h'
    by_cases e3:(prG ps i).1=(prG ps k).1
    ·rw [e3] at h
     exact absurd (Jt _ _ h' h) e2
    ·rw [if_neg e3];exact Qfy _ _ _ h h'
noncomputable def Qhv(d:D):Option D:=(aL d).bind fun l=>(prs? l).bind fun ps=>if 2 <= ps.length∧ps.length < 64 then some (.data (.list ((Xi (ltP ps) ps.length).map fun i=>l.getD i .none))) else none
theorem sortPD_l(l:List PyData):Qhv (.data (.list l))=(prs? l).bind fun ps=>if 2 <= ps.length∧ps.length < 64 then some (.data (.list ((Xi (ltP ps) ps.length).map fun i=>l.getD i .none))) else none:=rfl
inductive PrAt (h:Heap) (W:Addr->Prop) (v:Value) (d:PyData) (p:List Str × Int):Prop
 | mk (a:Addr) (o:Obj) (k:Nat) (x:Addr) (us:List Value) (t:Tok) (hv:v=.ref a) (e:h.get? a=some o) (c:o.cls=.type "tuple") (dd:o.data=.seq #[.ref x,.int p.2 t] k) (hl:h.IsList x (List.toArray us)) (r:RepDs h W us (p.1.map .str)) (ok:okD (.list (p.1.map .str))=true) (rv:RepD h W v d) (rx:RepD h W (.ref x) (.list (p.1.map .str))):PrAt h W v d p
theorem PrAt.mono{h h':Heap}{W:Addr->Prop}{v:Value}{d:PyData}{p:List Str × Int}(x:PrAt h W v d p)(k:Jm W h h'):PrAt h' W v d p:=by
 obtain ⟨a,o,kk,x,us,t,rfl,e,c,dd,hl,r,ok,rv,rx⟩:=x
 refine ob2_4 (RepD.list_iff rx) fun ad us' ea wa la ra=>?_
 cases ea
 exact ⟨a,o,kk,x,us,t,rfl,k a o e (.inr ⟨c,_,_,dd⟩) (by rw [c];decide),c,dd,Qs hl k wa,r.mono k,ok,rv.mono k,rx.mono k⟩
theorem prs_at{h:Heap}{W:Addr->Prop}:∀ {vs:List Value}{l:List PyData}{ps:List (List Str × Int)},RepDs h W vs l->prs? l=some ps->ps.length=l.length∧∀ i,i < l.length->PrAt h W (vs.getD i Value.none) (l.getD i .none) (prG ps i)
 | vs,[],ps,r,e=>by obtain rfl:=Qo e;exact ⟨rfl,fun i hi=>by simp at hi⟩
 | vs,d :: t,ps,r,e=>by
  unfold prs? at e
  ·refine ob1_2 (Option.bind_eq_some_iff.mp e) ?_;rintro ⟨l,i⟩ hq e9
   obtain rfl:=prOf_inv hq
   have e:=e9
   simp only [Option.bind_eq_some_iff] at e
   obtain ⟨x,hx,t',ht',e⟩:=e
   split at e
   ·rename_i hok
    obtain rfl:=Qo e
    refine ob2_3 r.inv ?_;rintro v vs' rfl a b
    have ih:=prs_at b ht'
    refine ⟨by simp [ih.1],fun j hj=>?_⟩
    cases j with
    | zero=>
     have a0:=a
     have hok':=hok
     rw [Xh hx] at a hok'
     refine ob4_5 (RepD.tuple_iff a) ?_;rintro ad o ws k rfl e1 c1 d1 rs
     refine ob2_3 rs.inv ?_;rintro w1 ws' rfl r1 rs
     refine ob2_3 rs.inv ?_;rintro w2 ws'' rfl r2 rs
     have:=rs.inv_nil
     subst this
     obtain ⟨tk,rfl⟩:=r2.int_inv
     refine ob2_4 (RepD.list_iff r1) ?_;rintro x1 us rfl wx lx rx
     exact ⟨ad,o,k,x1,us,tk,rfl,e1,c1,d1,lx,by simpa using rx,by simpa using hok',by simpa using a0,by simpa using r1⟩
    | succ j=>simpa using ih.2 j (by simpa using hj)
   ·exact nSo e
theorem ask_pair{A:Around}{s:Shared}{W:Addr->Prop}{v u:Value}{dv du:PyData}{p q:List Str × Int}{C:Bool->Shared->Prop}{prog:Program}{w:World}(hu:A.units + 20 < cLine)(x:PrAt s.heap W v dv p)(y:PrAt s.heap W u du q)
  (hC:C (if p.1=q.1 then decide (p.2 < q.2) else ltL p.1 q.1) s):wpAny (model prog w) A (keyLt' (tuples' true) v u) C (fun _ _=>False) s:=by
 obtain ⟨a,o,k,xa,us,t,rfl,e1,c1,d1,l1,r1,ok1,_,rx1⟩:=x
 obtain ⟨b,o2,k2,xb,ws,t2,rfl,e2,c2,d2,l2,r2,ok2,_,rx2⟩:=y
 refine kat_lt e1 d1 e2 d2 ?_
 show KatLex prog w A true (decide ((#[Value.ref xa,Value.int p.2 t]:Array Value).size < (#[Value.ref xb,Value.int q.2 t2]:Array Value).size)) C [(Value.ref xa,Value.ref xb),(Value.int p.2 t,Value.int q.2 t2)] 0 s
 refine kat_cons ?_
 refine ob1_2 rx1 fun as ra _=>?_
 refine ob1_2 rx2 fun bs rb _=>?_
 have hroom:A.units + min (PyData.list (p.1.map .str)).depth (PyData.list (q.1.map .str)).depth < cLine:=by
  have:=(Jf ok1).2
  have:min (PyData.list (p.1.map .str)).depth (PyData.list (q.1.map .str)).depth <= (PyData.list (p.1.map .str)).depth:=Nat.min_le_left _ _
  lia
 refine SeqAt.eqBoolOverData prog w A _ s _ _ _ _ as bs _ ra rb (Jf ok1).1 (Jf ok2).1 hroom ?_
 have ee:PyData.eqv (.list (p.1.map .str)) (.list (q.1.map .str))=decide (p.1=q.1):=by rw [PyData.eqv,Qci]
 rw [ee]
 by_cases h:p.1=q.1
 ·rw [if_pos h] at hC
  rw [decide_eq_true h]
  refine kat_yes (kat_cons (wpAny_eqBool_int ?_))
  by_cases h2:p.2=q.2
  ·have:(p.2 == q.2)=true:=by simp [h2]
   rw [this]
   refine kat_yes (kat_nil ?_)
   have e3:decide (p.2 < q.2)=false:=by simp [h2]
   rw [e3] at hC
   have e4:decide ((#[Value.ref xa,Value.int p.2 t]:Array Value).size < (#[Value.ref xb,Value.int q.2 t2]:Array Value).size)=false:=by simp
   rw [e4];exact hC
  ·have:(p.2 == q.2)=false:=by simpa using h2
   rw [this]
   refine kat_no ?_
   show wpAny (model prog w) A (oneLt' false (.int p.2 t) (.int q.2 t2)) C _ s
   exact kat_one _ _ (PySem.P.lt_int hC)
 ·rw [if_neg h] at hC
  rw [decide_eq_false h]
  refine kat_no ?_
  show wpAny (model prog w) A (oneLt' true (.ref xa) (.ref xb)) C _ s
  exact Qfu l1 l2 (Qy r1) (Qy r2) (by lia) hC
theorem fun_sortP:Qi4 G n V (.builtin "sorted") (one Qhv):=by
 intro A s W vs ds d Q E g x r e h
 unfold one at e
 ·refine ob1_2 (iv_1 e) ?_;rintro dd rfl e
  refine ob1_2 (Xr r) ?_;rintro v rfl rv
  unfold Qhv at e
  ·refine ob1_2 (ivL e) ?_;rintro l rfl e
   simp only [Option.bind_eq_some_iff] at e;replace e:=e
   refine ob1_2 e fun ps hps e=>?_
   split at e
   ·rename_i hz
    obtain rfl:=Qo e
    refine ob2_4 (RepD.list_iff rv) ?_;rintro la us rfl wl ll rl
    obtain ⟨hpl,hat⟩:=prs_at rl hps
    have hlen:=rl.length
    have hul:us.length=ps.length:=by lia
    have hroom:A.in1.in1.units + 20 < cLine:=by
     have:=g.units
     have:cLine=9900:=rfl
     show A.units + 1 + 1 + 20 < cLine
     lia
    refine Qhm (G:=G) (V:=V) (vs:=us) (lt:=ltP ps) (κ:=tuples' true) (fun a ha=>x.live a (x.sub a ha)) (Zd g) ll (by lia) (by lia) (Qcb ps) ?_ ?_ ?_
    ·intro s' Q' k hq
     have kx:=k.keepX x.sub
     have tups:∀ (us:List Value) (l:List PyData) (ps:List (List Str × Int)),us.length=l.length->(∀ i,i < l.length->PrAt s'.heap W (us.getD i Value.none) (l.getD i .none) (prG ps i))->∃ fs,KatTups s'.heap us fs∧fs.length=us.length∧∀ v ∈ fs,Looks (model G.prog G.w) s'.heap (typeOf v) (.type "list"):=by
      intro us
      induction us with
      | nil=>intro l ps _ _;exact in1_3 [] KatTups.nil rfl (fun _ h=>nomatch h)
      | cons u us ih=>
       intro l ps hl hp
       cases l with
       | nil=>simp at hl
       | cons d l=>
        obtain ⟨fs,t,hf,hL⟩:=ih l (ps.drop 1) (by simpa using hl) (fun i hi=>by
         have:=hp (i + 1) (by simpa using hi)
         have e:prG ps (i + 1)=prG (ps.drop 1) i:=by cases ps <;> simp [prG]
         rw [e] at this
         simpa using this)
        have h0:=hp 0 (by simp)
        obtain ⟨a,o,k,xa,ws,t',e0,e1,c1,d1,l1,_⟩:=h0
        have e0':u=.ref a:=by simpa using e0
        subst e0'
        refine in1_3 (.ref xa :: fs) (KatTups.cons e1 c1 d1 (by rfl) t) (by simp [hf]) (fun v hv=>?_)
        rcases List.mem_cons.mp hv with rfl | hv
        ·exact Qcz l1
        ·exact hL v hv
     refine ob1_3 (tups us l ps (by lia) (fun i hi=>(hat i hi).mono kx)) fun fs t hf hL=>?_
     exact kat_kind (T:=.type "list") t (by lia) hL (by decide) hq
    ·intro i j s' C hi hj k hC
     have kx:=k.keepX x.sub
     unfold kas_ask
     exact ask_pair hroom ((hat i (by lia)).mono kx) ((hat j (by lia)).mono kx) (hC s' .refl)
    ·intro p s' D hp k hD hl'
     have kx:=k.keepX x.sub
     have nD:¬ W D:=x.fresh hD
     have same:p.toList=Xi (ltP ps) ps.length:=by
      rw [hul] at hp
      exact Qfr (Qcb ps) hp (Jd (Qcb ps) (by lia)) fun _ _ q=>q
     have hin:∀ i ∈ p.toList,i < l.length:=fun i hi=>by
      have:=(Xb hp).2.mem_iff.mp hi
      have:=List.mem_range.mp this
      lia
     rw [← same] at h
     refine h _ s' k (RepD.list nD (Heap.PlainList.isList hl') ?_)
     have go:∀ is:List Nat,(∀ i ∈ is,i < l.length)->RepDs s'.heap W (is.map fun i=>us.getD i Value.none) (is.map fun i=>l.getD i .none):=by
      intro is
      induction is with
      | nil=>intro _;exact .nil
      | cons i is ih=>
       intro hi
       obtain ⟨_,_,_,_,_,_,_,_,_,_,_,_,_,rv,_⟩:=((hat i (hi i (.head _))).mono kx)
       exact .cons rv (ih fun j hj=>hi j (.tail _ hj))
     exact go _ hin
   ·exact nSo e
end
section
variable {G:Amb}[Qab G] {n:Nat}{V:Addr->Prop}{ks:Qi}
theorem ev_bname{x:Str}{pos:Pos}{v:Value}(AG:Qv G)(FO:Zp G)(hk:ks.lookup x=some .globalImplicit)(hm:x ∈ usedNames)(hv:bootBuiltins x=some v)(hn:x≠"__name__")(hd:(x == ("__debug__":Str))=false):
  Zo G n V ks (.Name x pos) (fun _=>some (.raw v)):=by
 intro A env s W ρ d Q E c hq h
 obtain rfl:=Qo hq
 exact Qh AG c.good.base c.ok hk (FO x hm) hv hn hd (h v s .refl rfl)
noncomputable def typeD(d:D):Option D:=(aI d).bind fun _=>some (.raw (.type "int"))
theorem ev_type{np pos:Pos}{arg:Expr}{f:Qf->Option D}(AG:Qv G)(FO:Zp G)(hk:ks.lookup ("type":Str)=some .globalImplicit)(hs:∀ env,starEach [arg] env=[(false,eval arg env)])(ha:Zo G n V ks arg f):
  Zo G n V ks (.Call (.Name "type" np) [arg] [] pos) (fun ρ=>(f ρ).bind typeD):=by
 intro A env s W ρ d Q E c hq h
 simp only [Option.bind_eq_some_iff] at hq;replace hq:=hq
 refine ob1_2 hq fun a ha' hd=>?_
 refine wpAny_Call_NameR (Qh AG c.good.base c.ok hk (FO _ dk) PyProof.Rows.Boot.«type» dk dk ?_)
 refine wG (hs ..) ?_
 refine PySem.callWith_type1 (ha A env s W ρ a _ E c ha' fun v s₁ k1 r₁=>?_)
 unfold typeD at hd
 refine ob1_2 (ivI hd) ?_;rintro i rfl hd
 obtain rfl:=Qo hd
 obtain ⟨t,rfl⟩:=RepD.int_inv r₁
 exact call_type_of (typeIs_int s₁ _ t) (by decide) (h _ s₁ k1 rfl)
noncomputable def Qg7(a b:D):Option D:=(qR a).bind fun a=>(qR b).bind fun b=>if plainIs a b then some (.data (.bool (!(a == b)))) else none
theorem Qjp:Qe7 G n V (compareOp .IsNot) Qg7:=by
 intro A s W v u a b d Q E g x rv ru e h
 unfold Qg7 at e
 refine ob1_2 (ivR e) ?_;rintro a rfl e
 refine ob1_2 (ivR e) ?_;rintro b rfl e
 refine Qx (ifS e) fun hp e=>?_
 obtain rfl:=Qo e
 cases rv;cases ru
 exact wpAny_isNot_plain hp (h _ s .refl (RepD.bool _))
noncomputable def countD(a b:D):Option D:=(qP a).bind fun l=>(aI b).bind fun k=>(Jv l).map fun ns=>.data (.int (ns.count k:Nat))
theorem ev_count{o arg:Expr}{apos pos:Pos}{f g:Qf->Option D}(hbase:∀ env,attributeBase o "count" env (eval o env)=eval o env)
  (hfew:∀ env,((backTo pos (starEach [arg] env)).all (fun x=>!x.1) && (backToKw pos (keywordEach [] env)).all (fun x=>x.1.isSome) && decide ([arg].length + ([]:List Keyword).length + (if ([]:List Keyword).isEmpty then 0 else 1) < 30))=true)
  (hline:(apos.endLine == pos.line)=true)(hs:∀ env,starEach [arg] env=[(false,eval arg env)])(ho:Zo G n V ks o f)(ha:Zo G n V ks arg g):
  Zo G n V ks (.Call (.Attribute o "count" apos) [arg] [] pos) (fun ρ=>(f ρ).bind fun a=>(g ρ).bind fun b=>countD a b):=by
 intro A env s W ρ d Q E c hq h
 simp only [Option.bind_eq_some_iff] at hq
 obtain ⟨a,ha',b,hb,hd⟩:=hq
 refine wpAny_Call_method (T:="list") (id:="list.count") (hbase env) (hfew env) hline PySem.F.plainAttrs_list PySem.F.slot_list_count PySem.F.type_list_count (ho A env s W ρ a _ E c ha' fun v s₁ k1 r₁=>?_)
 unfold countD at hd
 refine ob1_2 (ivP hd) ?_;rintro l rfl hd
 refine ob1_2 (ivI hd) ?_;rintro i rfl hd
 simp only [Option.map_eq_some_iff] at hd
 obtain ⟨ns,hns,rfl⟩:=hd
 refine ob2_4 r₁ ?_;rintro l vs rfl wl ll rl
 obtain ⟨nn,el⟩:=id ll
 refine Jw ⟨_,el,rfl⟩ (fun a e=>by cases e;exact ⟨_,el,rfl⟩) ?_
 rw [hs]
 refine Calls.callWith_builtin (by rfl) (Calls.evalArgs_plain (Calls.spliced_cons (ha A env s₁ W ρ _ _ E (c.step k1) hb fun u s2 k2 r₂=>Calls.spliced_nil ?_)))
 refine ob1_1 (RepD.int_inv r₂) ?_;rintro t rfl
 have kx:=k2.keepX (c.step k1).excl.sub
 have ll2:=Heap.PlainList.isList (Qfs ll kx wl)
 have ri:=Qc1 (rl.mono kx) hns
 exact count_list_ints ll2 ri (h _ _ ((k1.trans k2).trans (.toks s2 _)) (RepD.int _ _))
theorem st_compP{elt iter:Expr}{ifs:List Expr}{scope:Scope}{pos xp px spos:Pos}{x y:Str}{fs:Qf->Option (List D)}{fc:Qf->Option Bool}{fe:Qf->Option D}
  (hst:Qbm ks scope x=true)(hsrc:Qc3 G n V ks iter fs)(hfold:∀ env v,foldedSetIterable iter env v=pure v)(hifs:Qi3 G n V (Qdu ks scope.names) ifs fc)(helt:Zo G n V (Qdu ks scope.names) elt fe)
  (hk:ks.lookup y=some .local)(hd:(y == ("__classdict__":Str))=false)(hl:px.line=pos.line)(hn:(scope.names.any fun q=>q.1 == y && (q.2 == .local || q.2 == .cell))=false):
  Qm1 G n V ks (.Assign [.Name y px] (.ListComp elt [⟨.Name x xp,iter,ifs,0⟩] scope pos) spos) (fun ρ=>((fs ρ).bind fun ds=>if ds.length <= 1000 then (Xl x fc fe ρ ds).bind fun l=>(Xz l).map D.plain else none).map fun d=>.next (upd ρ y d)):=by
 intro A env s W O ρ out Q E c o hg h
 simp only [Option.map_eq_some_iff,Option.bind_eq_some_iff] at hg
 obtain ⟨d,⟨ds,hds,hf⟩,rfl⟩:=hg
 split at hf
 ·rename_i hz
  simp only [Option.bind_eq_some_iff,Option.map_eq_some_iff] at hf
  obtain ⟨rs,hrs,l,hp,rfl⟩:=hf
  refine wG (exec_Assign_Name_used _ _ _ _ (by rw [Qbe c.ok,hk,hl,hn];simp)) ?_
  refine wpAny_bind (wpAny_standAt (wpAny_bind ?_))
  show wpAny _ A (do let _ ← comprehension (.ListComp elt [⟨.Name x xp,iter,ifs,0⟩] scope pos) scope env _ (newList []) false (eval iter env) (some (assign (.Name y px) env))) _ _ s
  refine wpAny_bind (wpAny_mono (Qck (use:=some (assign (.Name y px) env)) (Q:=fun _ s'=>Q .next s') c (Qav hst) hsrc (hfold env) hifs helt hds hz hrs ?_) (fun _ s' hq=>wpAny_pure (wpAny_pure hq)) fun _ _ e=>e)
  intro L C s' vs k nL nC hLC hn' bC hl' r
  have hL:¬ W L:=c.excl.fresh nL
  have hC:¬ W C:=c.excl.fresh nC
  have rd:Rep G s'.heap (fun a=>W a∨a=C) (.ref L) (.plain l):=⟨L,vs,rfl,fun q=>q.elim hL hLC,hl',Qgq r hp⟩
  have c1:Cx G n V ks A env s' (fun a=>W a∨a=C) ρ:=c.widen k (fun a ha=>.inl ha) (fun a ob e hw=>hw.elim id fun q=>by rw [q,nC] at e;exact nSo e)
   (fun a ha=>ha.elim (fun q=>(c.step k).excl.live a q) fun q=>by refine ob4_2 hn' fun m ob es ep e _=>?_;exact ⟨ob,q ▸ e⟩)
  have liveL:env.locals≠C:=fun e=>by refine ob4_2 c.ns fun m ob es ep e' _=>?_;rw [e,nC] at e';exact nSo e'
  have liveC:∀ y a,env.cells.lookup y=some a->a≠C:=fun y a e q=>by refine ob2_2 (c.cellsAt y a e) fun v ob e' _=>?_;rw [q,nC] at e';exact nSo e'
  have nO:¬ O C:=fun q=>hC (o.sub _ q)
  refine wpAny_assign_Name (Qt c1 (fun a ha=>.inl (o.sub a ha)) o.base (o.store (.inl hk) hd) rd fun s2 k2 c₂=>?_)
  obtain ⟨m,hm⟩:=hn'
  have hmC:=Qb4 k2 hm nO
  refine in1_2 m hmC (fun h' hs=>?_)
  have k3:Step G (Or2 V O) s s2:=(k.mono fun _=>.inl).trans (k2.mono fun _=>.inr)
  have kE:=k3.ext hs.extBut nC bC
  have tC:∀ ob,s2.heap.get? C=some ob->¬ Tup ob:=fun ob e t=>by refine ob3_3 hmC fun ob' es ep e' d' _=>?_;rw [e] at e';obtain rfl:=Qo e';refine Qx t ?_;intro _ z0;refine ob2_1 z0 fun xs q hq=>?_;replace d':=hq ▸ d';cases d'
  exact h _ _ kE ⟨rfl,c₂.ext hs.extBut (c.good.step kE) (.inr rfl) tC hC (fun a ha=>.inl ha) c.excl.sub liveL liveC⟩
 ·exact nSo hf
theorem ev_sort2{np pos:Pos}{args:List Expr}{fs:Qf->Option (List D)}(AG:Qv G)(FO:Zp G)(hk:ks.lookup ("sorted":Str)=some .globalImplicit)(ha:Qc4 G n V ks args fs):Zo G n V ks (.Call (.Name "sorted" np) args [] pos) (fun ρ=>(fs ρ).bind (one Qc6)):=
 Qbl AG hk (FO _ dk) PyProof.Rows.Boot.«sorted» dk dk fun_sort2 ha
theorem ev_sortP{np pos:Pos}{args:List Expr}{fs:Qf->Option (List D)}(AG:Qv G)(FO:Zp G)(hk:ks.lookup ("sorted":Str)=some .globalImplicit)(ha:Qc4 G n V ks args fs):Zo G n V ks (.Call (.Name "sorted" np) args [] pos) (fun ρ=>(fs ρ).bind (one Qhv)):=
 Qbl AG hk (FO _ dk) PyProof.Rows.Boot.«sorted» dk dk fun_sortP ha
end
noncomputable def orO:Option Int->Option Int->Option Int
 | _,some b=>some b
 | a,none=>a
noncomputable def Xg(a b:Ent):Ent:=⟨a.u.filter fun t=>decide (t ∈ b.u),a.r ++ b.r,orO a.d b.d,orO a.q b.q⟩
noncomputable def Qm(e:Ent)(es:List Ent):Ent:=es.foldl Xg e
structure Qa1 (e:Ent):Prop where
 u:texty e.u
 ul:e.u.length <= 20
 rl:e.r.length <= 20
theorem Qkd{α β:Type}{x:Option α}{f:α->Option β}{y:Option β}{P:α->Prop}(h:∃ a,x=some a∧P a)(h2:∀ a,P a->f a=y):x.bind f=y:=by
 refine ob1_2 h ?_;rintro a rfl hP
 exact h2 a hP
theorem Qg2{x:Option Out}{d:D}(h:x=some (.ret d)):Option.map outD x=some d:=by rw [h];rfl
theorem Qch{α β:Type}{x:Str}{g:Qf->Option Out}{h:α->D}{step:β->α->β}{P:β->Qf->Prop}:∀ {l:List α}{b:β}{ρ:Qf},(∀ a ∈ l,∀ b ρ,P b ρ->∃ ρ',g (upd ρ x (h a))=some (.next ρ')∧P (step b a) ρ')->P b ρ->
  ∃ o,forL x g (l.map h) ρ=some o∧∃ ρ',o=.next ρ'∧P (l.foldl step b) ρ'
 | [],b,ρ,_,hP=>⟨_,rfl,ρ,rfl,hP⟩
 | a :: l,b,ρ,hg,hP=>by
  refine ob1_2 (hg a (.head _) b ρ hP) fun ρ' e hP'=>?_
  refine ob1_2 (Qch (l:=l) (fun a ha=>hg a (.tail _ ha)) hP') fun o e2 r=>?_
  refine in1_2 o ?_ r
  rw [List.map_cons,forL,e]
  exact e2
theorem Qft{α:Type}(l:List α):∀ (m a:Nat),((List.range m).map (a + ·)).filterMap (l[·]?)=(l.drop a).take m
 | 0,a=>by simp
 | m + 1,a=>by
  rw [List.range_succ_eq_map,List.map_cons,List.map_map]
  have e:(List.range m).map ((a + ·) ∘ Nat.succ)=(List.range m).map ((a + 1) + ·):=List.map_congr_left fun k _=>by simp only [Function.comp];lia
  rw [e,List.filterMap_cons,Qft l m (a + 1)]
  simp only [Nat.add_zero]
  cases h:l[a]? with
  | none=>
   have:l.length <= a:=by simpa using h
   simp only [List.drop_of_length_le this,List.drop_of_length_le (Nat.le_succ_of_le this),List.take_nil]
  | some x=>
   refine ob1_1 (List.getElem?_eq_some_iff.mp h) ?_;rintro hlt rfl
   simp only [List.drop_eq_getElem_cons hlt,List.take_succ_cons]
theorem mxm(i n:Nat):max (0:Int) (min (i:Int) (n:Int))=((min i n:Nat):Int):=by
 rcases Nat.le_total i n with h | h
 ·rw [Nat.min_eq_left h,Int.min_eq_left (Int.ofNat_le.mpr h),Int.max_eq_right (Int.natCast_nonneg i)]
 ·rw [Nat.min_eq_right h,Int.min_eq_right (Int.ofNat_le.mpr h),Int.max_eq_right (Int.natCast_nonneg n)]
theorem Qhz{α:Type}(l:List α)(i:Nat):Je l (some (i:Int)) none none=l.drop i:=by
 have e:sliceBounds (some (i:Int)) none none l.length=(((min i l.length:Nat):Int),((l.length:Nat):Int),1):=by
  unfold sliceBounds
  have h1:¬ ((i:Int) < 0):=by lia
  simp only [Option.getD_none,h1,if_false]
  have h2:((1:Int) > 0):=by lia
  simp only [h2,if_true]
  rw [mxm]
 unfold Je
 rw [e,sliceRange_one,Qft]
 have h3:(l.drop (min i l.length)).length <= l.length - min i l.length:=by rw [List.length_drop];exact Nat.le_refl _
 rw [List.take_of_length_le h3]
 by_cases hi:i <= l.length
 ·rw [Nat.min_eq_left hi]
 ·rw [Nat.min_eq_right (by lia),List.drop_of_length_le (Nat.le_refl _),List.drop_of_length_le (by lia)]
theorem Qga{α β:Type}{x y:Str}{f2:Qf->Option (List D)}{fe:Qf->Option D}{ρ:Qf}{h:α->D}{es:α->List β}{k:β->D}{q:β->D}:∀ {l:List α},(∀ a ∈ l,f2 (upd ρ x (h a))=some ((es a).map k))->
  (∀ a ∈ l,∀ b ∈ es a,fe (upd (upd ρ x (h a)) y (k b))=some (q b))->Qcl x y f2 fe ρ (l.map h)=some ((l.flatMap es).map q)
 | [],_,_=>rfl
 | a :: l,h1,h2=>by
  rw [List.map_cons,Qcl,h1 a (.head _),Option.bind_some,Xq (h2 a (.head _)),Option.bind_some,Qga (fun a ha=>h1 a (.tail _ ha)) (fun a ha=>h2 a (.tail _ ha))]
  simp
theorem ok_optD(a:Option Int):okD (optD a)=true:=by cases a <;> exact Qbz rfl
theorem eqv_opt(a b:Option Int):PyData.eqv (optD a) (optD b)=decide (a=b):=by
 cases a <;> cases b <;> simp [optD,PyData.eqv]
 rename_i i j
 by_cases h:i=j <;> simp [h]
theorem ne_opt(a b:Option Int):neD (.data (optD a)) (.data (optD b))=some (.data (.bool (!decide (a=b)))):=by
 rw [Qjs]
 simp only [ok_optD,eqv_opt,Bool.and_self,if_true]
theorem eq_opt(a b:Option Int):eqD (.data (optD a)) (.data (optD b))=some (.data (.bool (decide (a=b)))):=by
 rw [eqD_d]
 simp only [ok_optD,eqv_opt,Bool.and_self,if_true]
theorem Qcg(a:Option Int)(l:List (Option Int)):lastTold (a :: l)=orO a (lastTold l):=by
 unfold lastTold
 cases a with
 | none=>
  simp only [List.filter_cons,Option.isSome_none,Bool.false_eq_true,if_false]
  cases ((List.filter (fun x=>x.isSome) l).getLast?).join <;> rfl
 | some i=>
  simp only [List.filter_cons,Option.isSome_some,if_true]
  cases hf:List.filter (fun x=>x.isSome) l with
  | nil=>rfl
  | cons b r=>
   have hb:∀ x ∈ b :: r,x.isSome=true:=fun x hx=>by rw [← hf] at hx;exact (List.mem_filter.mp hx).2
   rw [List.getLast?_cons_cons]
   have hl:(b :: r).getLast?=some ((b :: r).getLast (by simp)):=List.getLast?_eq_some_getLast (by simp)
   rw [hl]
   have:=hb _ (List.getLast_mem (l:=b :: r) (by simp))
   refine ob1_1 (Option.isSome_iff_exists.mp this) fun j hj=>?_
   rw [hj];rfl
theorem Qh2(a b c:Option Int):orO (orO a b) c=orO a (orO b c):=by cases a <;> cases b <;> cases c <;> rfl
theorem merge_u:∀ (es:List Ent) (e:Ent),(Qm e es).u=es.foldl (fun ag r=>ag.filter fun t=>decide (t ∈ r.u)) e.u
 | [],_=>rfl
 | a :: es,e=>merge_u es (Xg e a)
theorem merge_r:∀ (es:List Ent) (e:Ent),(Qm e es).r=(e :: es).flatMap (·.r)
 | [],e=>by simp [Qm]
 | a :: es,e=>by
  have:=merge_r es (Xg e a)
  show (Qm (Xg e a) es).r=_
  rw [this];simp [Xg]
theorem merge_d:∀ (es:List Ent) (e:Ent),(Qm e es).d=lastTold ((e :: es).map (·.d))
 | [],e=>by cases h:e.d <;> simp [Qm,lastTold,h]
 | a :: es,e=>by
  have:=merge_d es (Xg e a)
  show (Qm (Xg e a) es).d=_
  rw [this]
  simp only [List.map_cons,Qcg,Xg,Qh2]
theorem merge_q:∀ (es:List Ent) (e:Ent),(Qm e es).q=lastTold ((e :: es).map (·.q))
 | [],e=>by cases h:e.q <;> simp [Qm,lastTold,h]
 | a :: es,e=>by
  have:=merge_q es (Xg e a)
  show (Qm (Xg e a) es).q=_
  rw [this]
  simp only [List.map_cons,Qcg,Xg,Qh2]
theorem Qa2{l:List Str}(p:Str->Bool)(h:texty l):texty (l.filter p):=fun x hx=>h x (List.mem_filter.mp hx).1
section
variable {G:Amb}[Qab G] {V:Addr->Prop}
theorem fn_right(AG:Qv G)(hd:Xf G 16)(h_l:∃ F,FnOk G 1 V "_law_last_told" F∧∀ l:List (Option Int),l.length <= 100->F [optL l]=some (.data (optD (lastTold l)))):
  ∃ F,FnOk G 2 V "_law_merge_is_right" F∧∀ (e:Ent) (es:List Ent),(∀ x ∈ e :: es,Qa1 x)->es.length <= 10->F [.ent (Qm e es),.ents (e :: es)]=some (.data (.bool true)):=by
 refine ob1_2 h_l fun F h__law_last_told eF=>?_
 refine ⟨_,Qfe (n:=1) (xs:=["merged","chosen"]) AG hd rfl (fun _ _ _=>bind2 fun _ _=>rfl) dk dk dk rfl rfl rfl dk
  (Qk (Zx (Zr AG .u (fun _=>rfl) (Zu (fun _ _ _=>rfl) (Qb _ _ dk dk) (Qj _ _ _))) (.inl rfl) dk (fun _ _=>rfl))
  (Qk (Qht (Zj (Qlf (fun _ _=>rfl) (Qb _ _ dk dk) (Qal (Qj _ _ _)) Qba)) (fun _ _=>rfl) (.inr rfl) dk (Qk (Qd5 dk (Zj (Qb _ _ dk dk)) (fun _ _=>rfl) (Qah (Ql op_in Qq (Qb _ _ dk dk) (Zr AG .u (fun _=>rfl) (Qb _ _ dk dk)) rfl)) (Qb _ _ dk dk) rfl dk rfl rfl)
  Zh))
  (Qk (Qgl (test_or (Ql Qfa Qq (Zr AG .u (fun _=>rfl) (Qb _ _ dk dk)) (Qb _ _ dk dk) rfl) (Ql Qfa Qq (Zr AG .r (fun _=>rfl) (Qb _ _ dk dk)) (ev_comp2 dk dk (Zj (Qb _ _ dk dk)) (fun _ _=>rfl) (Zj (Zr AG .r (fun _=>rfl) (Qb _ _ dk dk))) (fun _ _=>rfl) (Qb _ _ dk dk)) rfl)) (Qk (Qu (Qb9 _ _ _))
  Zh) Zh)
  (Qk (Qgl (Ql Qfa Qq (Zr AG .d (fun _=>rfl) (Qb _ _ dk dk)) (Zw AG h__law_last_told rfl (by lia) (fun _ h=>h) dk (Qc (fun _=>rfl) (Jg dk (Zj (Qb _ _ dk dk)) (fun _ _=>rfl) Qai (Zr AG .d (fun _=>rfl) (Qb _ _ dk dk))) evs_nil)) rfl) (Qk (Qu (Qb9 _ _ _))
  Zh) Zh)
  (Qk (Qu (ev_cmp Qh4 (Zr AG .q (fun _=>rfl) (Qb _ _ dk dk)) (Zw AG h__law_last_told rfl (by lia) (fun _ h=>h) dk (Qc (fun _=>rfl) (Jg dk (Zj (Qb _ _ dk dk)) (fun _ _=>rfl) Qai (Zr AG .q (fun _=>rfl) (Qb _ _ dk dk))) evs_nil)) rfl))
  Zh))))),?_⟩
 intro e es hok hlen
 have hlen':(e :: es).length <= 1000:=by simp;lia
 have hs1:Qa8 (some 1) none none (.ents (e :: es))=some (.ents es):=by
  have e1:Je (e :: es) (some 1) none none=es:=Qhz (e :: es) 1
  simp only [sliceD_e,e1,hlen',ne_eq,reduceCtorEq,not_false_eq_true,true_and,if_true]
 have hi0:Qb5 (.ents (e :: es)) (.data (.int 0))=some (.ent e):=rfl
 refine Qg2 ?_
 simp only [Qp,Qfm,ofString_inj,upd,String.reduceEq,if_true,if_false,Option.bind_some,hi0,attrD,Option.map_some,intD_i,hs1,Jh,Ji]
 refine Qkd (Qch (P:=fun ag ρ=>ρ "agents"=some (Qz ag)∧texty ag∧ag.length <= 20∧ρ "merged"=some (.ent (Qm e es))∧ρ "chosen"=some (.ents (e :: es))) (step:=fun ag r=>ag.filter fun t=>decide (t ∈ r.u)) (b:=e.u) ?_ ?_) ?_
 ·intro r hr ag ρ z0;refine Qaa z0 fun ha ht hl hm hc=>?_
  have hru:=(hok r (.tail _ hr)).u
  have hl':(List.map (D.data ∘ PyData.str) ag).length <= 1000:=by rw [List.length_map];lia
  refine in1_2 (upd (upd ρ "record" (.ent r)) "agents" (Qz (ag.filter fun t=>decide (t ∈ r.u)))) ?_ ?_
  ·simp only [upd,ofString_inj,String.reduceEq,if_true,if_false,ha,Option.bind_some,Jh,Ji,List.map_map,hl']
   rw [Xp (p:=fun t=>decide (t ∈ r.u)) (q:=fun t=>.data (.str t))]
   ·simp only [Option.bind_some,pack_map,Option.map_some]
   ·intro t htm
    simp [upd,ofString_inj,attrD,Qk8 (ht t htm) hru,Jz]
   ·intro t _ _
    simp [upd]
  ·refine Qg9 (Qd _ _ _) (Qa2 _ ht) (Nat.le_trans (List.length_filter_le _ _) hl) ?_ ?_
   ·simp [upd,ofString_inj,hm]
   ·simp [upd,ofString_inj,hc]
 ·refine Qg9 (by simp [upd]) ((hok e (.head _)).u) ((hok e (.head _)).ul) ?_ ?_
  ·simp [upd,ofString_inj,Qp]
  ·simp [upd,ofString_inj,Qp]
 ·intro o z0;refine ob1_6 z0 ?_;rintro ρ' rfl ha ht hl hm hc
  have c2:∀ ρ:Qf,Qcl (Str.ofString "record") (Str.ofString "mark") (fun ρ=>((ρ (Str.ofString "record")).bind (attrD fun e=>PyData.list (List.map PyData.int e.r))).bind Ju) (fun ρ=>ρ (Str.ofString "mark")) ρ (List.map D.ent (e :: es))=some (((e :: es).flatMap (·.r)).map fun i=>.data (.int i)):=fun ρ=>by
   refine Qga (k:=fun i=>.data (.int i)) (fun a _=>?_) (fun a _ b _=>?_)
   ·simp [upd,attrD,Jh,Ji]
   ·simp [upd]
  have hrl:(((e :: es).flatMap (·.r)).map fun i=>D.data (.int i)).length <= 1000:=by
   rw [List.length_map]
   have:∀ (l:List Ent),(∀ x ∈ l,Qa1 x)->(l.flatMap (·.r)).length <= 20 * l.length:=by
    intro l
    induction l with
    | nil=>intro _;simp
    | cons a l ih=>
     intro h
     have h1:=(h a (.head _)).rl
     have h2:=ih fun x hx=>h x (.tail _ hx)
     simp only [List.flatMap_cons,List.length_append,List.length_cons]
     lia
   have:=this (e :: es) hok
   simp only [List.length_cons] at this
   lia
  have hmap:(List.map D.ent (e :: es)).length <= 1000:=by rw [List.length_map];exact hlen'
  have cd:∀ (sel:Ent->Option Int) (ρ:Qf),Xl (Str.ofString "record") (fun _=>some true) (fun ρ=>(ρ (Str.ofString "record")).bind (attrD fun e=>optD (sel e))) ρ (List.map D.ent (e :: es))=some ((e :: es).map fun a=>.data (optD (sel a))):=fun sel ρ=>by
   refine Xq fun a _=>?_
   simp [upd,attrD]
  have pk:∀ sel:Ent->Option Int,Qcs ((e :: es).map fun a=>D.data (optD (sel a)))=some (optL ((e :: es).map sel)):=fun sel=>by
   rw [pack_map (g:=fun a=>optD (sel a))]
   simp only [optL,List.map_map];rfl
  have ll:∀ sel:Ent->Option Int,((e :: es).map sel).length <= 100:=fun sel=>by rw [List.length_map,List.length_cons];lia
  rw [← merge_u] at ha ht
  simp only [ha,hm,hc,Option.bind_some,attrD,Jh,Ji,ne_strs ht ht,decide_true,Bool.not_true,Jz,Bool.false_eq_true,if_false,c2,hrl,if_true,pack_map,merge_r,Qjr,hmap,cd (fun e=>e.d),cd (fun e=>e.q),pk,eF _ (ll _),merge_d,merge_q,ne_opt,eq_opt,Option.map_some,outD]
end
theorem Qfz{α:Type}:∀ {l:List (Str × α)}{y:Str}{v:α},(l.map (·.1)).Nodup->(y,v) ∈ l->l.lookup y=some v
 | (x,u) :: l,y,v,hn,h=>by
  rw [List.lookup_cons]
  have hn':=List.nodup_cons.mp (by simpa using hn:(x :: l.map (·.1)).Nodup)
  cases hb:y == x with
  | true=>
   rcases List.mem_cons.mp h with e | h
   ·cases e;rfl
   ·exact absurd (eq_of_beq hb ▸ List.mem_map_of_mem (f:=(·.1)) h) hn'.1
  | false=>
   rcases List.mem_cons.mp h with e | h
   ·cases e;simp at hb
   ·exact Qfz hn'.2 h
theorem Ql9{α:Type}{l:List (Str × α)}(hn:(l.map (·.1)).Nodup){y:Str}{v:α}(h:l.lookup y=some v):l.reverse.lookup y=some v:=
 Qfz (by rw [List.map_reverse];exact List.pairwise_reverse.mpr (List.Pairwise.imp (fun h=>Ne.symm h) hn)) (List.mem_reverse.mpr (mem_of_lookup h))
theorem zip_keys{xs:List Str}{us:List Value}(hn:xs.Nodup):((xs.zip us).map (·.1)).Nodup:=by
 induction xs generalizing us with
 | nil=>simp
 | cons x xs ih=>
  cases us with
  | nil=>simp
  | cons u us=>
   rw [List.zip_cons_cons,List.map_cons,List.nodup_cons]
   have:=List.nodup_cons.mp hn
   refine ⟨fun h=>?_,ih this.2⟩
   refine ob1_2 (List.mem_map.mp h) fun p hp e=>?_
   have h2:=(List.of_mem_zip (a:=p.1) (b:=p.2) hp).1
   rw [e] at h2
   exact this.1 h2
noncomputable def Zl(names:Qi)(xs:List Str)(ds:List D)(ρc:Qf):Qf:=fun y=>match (xs.zip ds).lookup y with
 | some d=>some d
 | none=>if names.lookup y=some .free then ρc y else none
section
variable {G:Amb}{n:Nat}{V:Addr->Prop}
structure Qfl (G:Amb) (V:Addr->Prop) (h:Heap) (W:Addr->Prop) (names:Qi) (cl:List (Str × Addr)) (ρc:Qf):Prop where
 has:∀ y,names.lookup y=some .free->∃ c,cl.lookup y=some c
 at':∀ y c,cl.lookup y=some c->¬ V c∧∃ v,h.IsCell c v
 inj:∀ y y' c,cl.lookup y=some c->cl.lookup y'=some c->y=y'
 val:∀ y d,names.lookup y=some .free->ρc y=some d->∃ c v,cl.lookup y=some c∧h.IsCell c (some v)∧Rep G h W v d
theorem Qaw{h:Heap}{W:Addr->Prop}{names:Qi}(hn:names.all (fun p=>!(p.2 == .free))=true):Qfl G V h W names [] (fun _=>none):=by
 have no:∀ y,names.lookup y≠some .free:=fun y hy=>by
  have:=List.all_eq_true.mp hn _ (mem_of_lookup hy)
  simp at this
 exact ⟨fun y hy=>absurd hy (no y),fun y c e=>by simp at e,fun y y' c e=>by simp at e,fun y d hy=>absurd hy (no y)⟩
structure Xs (names:Qi) (xs:List Str):Prop where
 loc:∀ x ∈ xs,names.lookup x=some .local
 noCell:∀ p ∈ names,p.2≠.cell
 noCd:∀ p ∈ names,(p.1 == ("__classdict__":Str))=false
 nd:xs.Nodup
noncomputable def namesOk(names:Qi)(xs:List Str):Bool:=xs.all (fun x=>names.lookup x == some .local) && names.all (fun p=>!(p.2 == .cell)) && names.all (fun p=>!(p.1 == ("__classdict__":Str))) && decide xs.Nodup
theorem Xm{names:Qi}{xs:List Str}(h:namesOk names xs=true):Xs names xs:=by
 unfold namesOk at h
 simp only [Bool.and_eq_true,List.all_eq_true,beq_iff_eq,Bool.not_eq_true',decide_eq_true_eq] at h;replace h:=h
 refine ⟨h.1.1.1,fun p hp e=>?_,fun p hp=>h.1.2 p hp,h.2⟩
 have:=h.1.1.2 p hp
 rw [e] at this;simp at this
theorem Qhf{A:Around}{s:Shared}{W:Addr->Prop}{fd:FuncData}{fa:Addr}{xs:List Str}{us:List Value}{ds:List D}{ρc:Qf}{h':Heap}{tk:Nat}
  (good:Good G (n + 1) A s.heap)(ex:Excl s.heap V W)(hk:fd.scope.kind=.function)(hgl:fd.globals=mainGlobals)(hbi:fd.builtins=builtinsNs)(hN:Xs fd.scope.names xs)(r:RepL G s.heap W us ds)
  (hC:Qfl G V s.heap W fd.scope.names fd.closure ρc)(hns:h'.Ns s.heap.objs.size (fun x=>(xs.zip us).reverse.lookup x))(hsb:Heap.SameBut s.heap.objs.size (s.heap.push { cls:=.type "frame",data:=.dict #[] }) h')(hfr:FrmAt h' s.heap.objs.size):
  Step G V s { s with heap:=h',toks:=tk }∧
  Cx G n V fd.scope.names (A.deeper (callEnv fd s.heap.objs.size fa)) (callEnv fd s.heap.objs.size fa) { s with heap:=h',toks:=tk } (fun a=>W a∨a=s.heap.objs.size) (Zl fd.scope.names xs ds ρc)∧
  Own G fd.scope.names (callEnv fd s.heap.objs.size fa) (fun a=>W a∨a=s.heap.objs.size) (fun a=>a=s.heap.objs.size):=by
 have keep:∀ b o,s.heap.get? b=some o->h'.get? b=some o:=fun b o e=>hsb.extBut b o (Nat.ne_of_lt (Heap.lt_size e)) (Heap.get?_push_of_some _ e)
 have k:Step G V s { s with heap:=h',toks:=tk }:=.of_heap keep
 have newL:s.heap.get? s.heap.objs.size=none:=Heap.get?_none_of_le (Nat.le_refl _)
 have liveL:∃ o,h'.get? s.heap.objs.size=some o:=by refine ob3_2 hns fun o es ep e _=>?_;exact ⟨o,e⟩
 have base0:∀ a,s.heap.get? a=none->G.h₀.get? a=none:=fun a e=>by
  cases q:G.h₀.get? a with
  | none=>rfl
  | some o=>rw [good.base a o q] at e;exact noS e
 have nVL:¬ V s.heap.objs.size:=fun q=>by refine ob1_1 (ex.live _ (ex.sub _ q)) fun o e=>?_;rw [newL] at e;exact nSo e
 generalize henv:callEnv fd s.heap.objs.size fa=env
 have e_scope:env.scope=fd.scope:=by rw [← henv];rfl
 have e_loc:env.locals=s.heap.objs.size:=by rw [← henv];rfl
 have e_cells:env.cells=fd.closure:=by rw [← henv];rfl
 have e_frame:env.frame=some s.heap.objs.size:=by rw [← henv];rfl
 have e_kind:∀ y,env.kindOf y=fd.scope.names.lookup y:=fun y=>by unfold Env.kindOf;rw [e_scope]
 have nx:Qd0 s.heap W (fun a=>W a∨a=s.heap.objs.size):=fun a ob e hw=>hw.elim id fun q=>by rw [q,newL] at e;exact nSo e
 have kx:=k.keepX (W:=fun a=>W a∨a=s.heap.objs.size) fun a ha=>.inl (ex.sub a ha)
 refine ⟨k,⟨(good.step k).deeper (by rw [e_scope];exact hk) e_frame hfr (base0 _ newL),⟨by rw [e_scope];exact hk,by rw [e_scope],by rw [← henv];exact hgl,by rw [← henv];exact hbi,fun y hy=>?_,⟨by rw [e_loc];exact nVL,fun y a e=>(hC.at' y a (e_cells ▸ e)).1⟩,
   fun y y' a e e'=>hC.inj y y' a (e_cells ▸ e) (e_cells ▸ e')⟩,⟨fun a ha=>.inl (ex.sub a ha),fun a ha=>ha.elim (fun q=>(ex.step k).live a q) fun q=>q ▸ liveL⟩,fun y d hv hd=>?_,⟨_,by rw [e_loc];exact hns⟩,fun y a e=>?_⟩,
  ⟨fun a ha=>.inr ha,fun a ha=>ha ▸ base0 _ newL,e_loc,fun y a hy _=>absurd rfl (hN.noCell _ (mem_of_lookup hy))⟩⟩
 ·rw [e_cells]
  rcases hy with hy | hy
  ·exact absurd rfl (hN.noCell _ (mem_of_lookup hy))
  ·exact hC.has y hy
 ·unfold Zl at hd
  cases hl:(xs.zip ds).lookup y with
  | some d'=>
   rw [hl] at hd
   obtain rfl:=Qo hd
   refine ob1_2 (Qar (r.strong nx) hl) fun v hv' rv=>?_
   have hy:y ∈ xs:=(List.of_mem_zip (mem_of_lookup hv')).1
   exact in1_2 v (.inl ⟨(e_kind y).trans (hN.loc y hy),_,by rw [e_loc];exact hns,Ql9 (zip_keys hN.nd) hv'⟩) (rv.mono kx)
  | none=>
   rw [hl] at hd;replace hd:=hd
   simp only at hd
   split at hd
   ·rename_i hf
    refine ob2_3 (hC.val y d hf hd) fun c v hc hcell rv=>?_
    exact in1_2 v (.inr ⟨.inr ((e_kind y).trans hf),hN.noCd _ (mem_of_lookup hf),c,by rw [e_cells];exact hc,hcell.keeps keep⟩) ((rv.strong nx).mono kx)
   ·exact nSo hd
 ·obtain ⟨v,hv⟩:=(hC.at' y a (e_cells ▸ e)).2
  exact ⟨v,hv.keeps keep⟩
theorem Qiy{A:Around}{s:Shared}{W:Addr->Prop}{fd:FuncData}{fa:Addr}{o:Obj}{body:Expr}{xs:List Str}{vs us:List Value}{ds:List D}{ρc:Qf}{g:Qf->Option D}{d:D}{Q:Value->Shared->Prop}{E:Value->Shared->Prop}(AG:Qv G)
  (good:Good G (n + 1) A s.heap)(ex:Excl s.heap V W)(ho:s.heap.get? fa=some o)(hdat:o.data=.func fd)(hcr:s.heap.CodeRec fd.code fd.qualname)(hbody:fd.body=.expr body)(hk:fd.scope.kind=.function)(hco:fd.scope.isCoroutine=false)(hgen:fd.scope.isGenerator=false)
  (hgl:fd.globals=mainGlobals)(hbi:fd.builtins=builtinsNs)(hN:Xs fd.scope.names xs)(hbind:BindsTo s fd ⟨vs,[]⟩ (xs.zip us))(r:RepL G s.heap W us ds)(hC:Qfl G V s.heap W fd.scope.names fd.closure ρc)
  (hb:Zo G n V fd.scope.names body g)(hg:g (Zl fd.scope.names xs ds ρc)=some d)(h:∀ v s',Step G V s s'->Rep G s'.heap W v d->Q v s'):wpAny (model G.prog G.w) A (call (.ref fa) vs) Q E s:=by
 refine wpAny_call (kla_callFunE (by have:=good.depth;show A.depth < 1000;lia) ho hdat hco hgen hbody hcr (hbind _ _ _ _ ?_))
 refine Zs hN.noCell (fun x hx=>hN.loc x.1 (List.of_mem_zip (a:=x.1) (b:=x.2) hx).1) (fun h' hns hsb hfr=>?_) hk
 refine Jo (Qhf (fa:=fa) (tk:=s.toks + (xs.zip us).length) good ex hk hgl hbi hN r hC hns hsb hfr) fun k c ow=>?_
 refine ⟨AG.nolimit.keeps (c.good.base),kla_codeExpr ?_⟩
 refine hb _ _ _ _ _ d _ _ c hg fun v s2 k2 r₂=>?_
 exact h _ s2 (k.trans k2) (r₂.weak fun a ha=>.inl ha)
end
noncomputable def Xj(es:List DictEntry):Prop:=∀ e ∈ es,∃ x t,e.key=.str x t
theorem Qa3{name:Str}{hsh:Int}{t:Tok}{v:Value}:∀ {es:List DictEntry},Xj es->Xj (putL name hsh (.str name t) v es)
 | [],_=>fun e he=>by rw [List.mem_singleton.mp he];exact in2_1 name t rfl
 | a :: r,h=>fun e he=>by
  unfold putL at he
  split at he
  ·rcases List.mem_cons.mp he with rfl | he
   ·refine ob2_1 (h a (.head _)) fun x u q=>?_;exact in2_1 x u q
   ·exact h e (.tail _ he)
  ·rcases List.mem_cons.mp he with rfl | he
   ·exact h e (.head _)
   ·exact Qa3 (fun e he=>h e (.tail _ he)) e he
theorem noRef{es:List DictEntry}(h:Xj es):es.any (·.refKey)=false:=by
 rw [List.any_eq_false]
 intro e he
 refine ob2_1 (h e he) fun x t q=>?_
 obtain ⟨hh,k,v⟩:=e
 simp only at q
 subst q
 simp [DictEntry.refKey]
theorem Qij{name:Str}{es:List DictEntry}(h:Xj es):getL name es=some ((es.find? (·.key.isStr name)).map (·.val)):=by
 unfold getL
 cases es.find? (·.key.isStr name) with
 | some e=>rfl
 | none=>simp [noRef h]
theorem Qld{name a:Str}{hsh:Int}{t:Tok}{v:Value}:∀ {es:List DictEntry},((putL name hsh (.str name t) v es).find? (·.key.isStr a)).map (·.val)=if a=name then some v else (es.find? (·.key.isStr a)).map (·.val)
 | []=>by
  by_cases h:a=name
  ·subst h;simp [putL,Value.isStr]
  ·have:¬ name=a:=fun e=>h e.symm
   simp [putL,Value.isStr,h,this]
 | e :: r=>by
  unfold putL
  by_cases hb:e.key.isStr name=true
  ·rw [if_pos hb]
   by_cases h:a=name
   ·subst h;simp [hb]
   ·have h2:e.key.isStr a=false:=isStr_other (fun q=>h q) e hb
    simp [h,h2]
  ·rw [if_neg hb]
   by_cases h2:e.key.isStr a=true
   ·have:a≠name:=fun q=>hb (q ▸ h2)
    simp [h2,this]
   ·have ih:=Qld (name:=name) (a:=a) (hsh:=hsh) (t:=t) (v:=v) (es:=r)
    simp only [List.find?_cons,h2]
    exact ih
theorem Qcw{name:Str}{hsh:Int}{key v:Value}:∀ {es:List DictEntry},(putL name hsh key v es).length <= es.length + 1
 | []=>by simp [putL]
 | e :: r=>by
  unfold putL
  split
  ·simp
  ·have:=Qcw (name:=name) (hsh:=hsh) (key:=key) (v:=v) (es:=r)
   simp only [List.length_cons];lia
noncomputable def EntO(G:Amb)(h:Heap)(x dx:Addr)(k:Nat)(f:Str->Option Value):Prop:=
 h.get? x=some (instObj G.C dx)∧∃ es m,h.get? dx=some (dictOf es m)∧Xj es∧es.length <= k∧∀ a,getL a es=some (f a)
noncomputable def initSt:Option Stmt:=match stOf 2 with
 | some (.ClassDef _ _ _ body _ _ _ _ _ _ _)=>body[0]?
 | _=>none
noncomputable def Qk7:List Stmt:=match initSt with
 | some (.FunctionDef _ _ b _ _ _ _ _ _ _)=>b
 | _=>[]
noncomputable def Qig:Scope:=match initSt with
 | some (.FunctionDef _ _ _ _ _ _ s _ _ _)=>s
 | _=>default
structure Qcr (G:Amb):Prop where
 set:findIn G.K (.ref G.C) "__setattr__"=some (some (.builtin "object.__setattr__"))
 plain:plainOver G.K G.C=true
 taker:∀ a ∈ (["useragents","rulelines","delay","req_rate"]:List Str),takerIn G.K G.C a=some none
 makes:makesIn G.K G.C=true
 init:∃ fI fd o,findIn G.K (.ref G.C) "__init__"=some (some (.ref fI))∧typeIn G.K (.ref fI)=some (.type "function")∧G.h₀.get? fI=some o∧o.data=.func fd∧G.h₀.CodeRec fd.code fd.qualname∧fd.globals=mainGlobals∧fd.builtins=builtinsNs∧fd.closure=[]∧
  fd.body=.stmts Qk7∧fd.scope=Qig∧∀ v,bindArgs fd ⟨[v],[]⟩=pure [(("self":Str),v)]
 name:G.mg "Entry"=some (.ref G.C)
section
variable {prog:Program}{w:World}{A:Around}{E:Value->Shared->Prop}{s:Shared}{K:Frag}{x C dx:Addr}{R:Result->Shared->Prop}
theorem osa_exact{name:Str}{v:Value}{es:List DictEntry}{n:Nat}{tk:Tok}(X:K.In s.heap)(I:InstAt s.heap x (instObj C dx) C (some (dictOf es n)))
  (hp:plainOver K C=true)(ht:takerIn K C name=some none)(hh:hasDictIn K C=true)(htx:Xj es)(hz:es.length + 1 <= 1000)
  (h:∀ h' tk,Heap.SameBut dx s.heap h'->h'.get? dx=some (dictOf (putL name (PyData.keyHash w.params name) (.str name s.toks) v es) (putN name es n))->R (.ok (.ret .none)) { s with heap:=h',toks:=tk }):
  codeAny (model prog w) A (.call (.builtin "object.__setattr__") ⟨[.ref x,.str name tk,v],[]⟩) R s:=by
 refine osa_open (od:=some (dictOf es n)) X I hp ht fun b=>?_
 refine ob1_2 (any_some hh) fun cd hc hd'=>?_
 have D:s.heap.get? dx=some (dictOf es n):=I.dict
 have hx:s.heap.get? x=some (instObj C dx):=I.at_
 have eD:=putName_dict name (PyData.keyHash w.params name) (.str name s.toks) v es n
 have D':(s.heap.update dx (Obj.putName name (PyData.keyHash w.params name) (.str name s.toks) v)).get? dx=some (dictOf (putL name (PyData.keyHash w.params name) (.str name s.toks) v es) (putN name es n)):=by
  rw [Heap.get?_update_self _ D (by rw [eD];rfl),eD]
 refine wpAny_bind (wpAny_pure (wpAny_bind (wpAny_bind (wpAny_loadPart hx (wpAny_bind ((looks_clsIn X hc).here ?_))))))
 rw [hd']
 refine wpAny_pure (a:=some dx) (wpAny_bind (wpAny_pure (wpAny_bind ?_)))
 unfold nsSet
 refine wpAny_bind (wpAny_bind (wpAny_askSetting (wpAny_pure (wpAny_bind (wpAny_mkText (wpAny_bind (wpAny_loadPart D ?_)))))))
 dsimp only
 have c:(!es.toArray.any (·.key.isStr name) && es.toArray.any (·.refKey))=false:=by
  rw [← Array.any_toList,← Array.any_toList]
  show (!es.any _ && es.any _)=false
  rw [noRef htx,Bool.and_false]
 rw [aRefKeyMayBeTheName_at,c]
 refine wpAny_updatePart D ?_
 refine wpAny_bind (wpAny_lookBehind D' (by have:=Qcw (name:=name) (hsh:=PyData.keyHash w.params name) (key:=.str name s.toks) (v:=v) (es:=es);exact pastItsLine_dict (by rw [List.size_toArray,sizeLine_eq];lia)) ?_)
 exact wpAny_pure (h _ _ (Heap.SameBut.update ..) D')
theorem set_exact{name:Str}{v:Value}{es:List DictEntry}{n:Nat}{Q:Unit->Shared->Prop}(X:K.In s.heap)(I:InstAt s.heap x (instObj C dx) C (some (dictOf es n)))
  (hs:findIn K (.ref C) "__setattr__"=some (some (.builtin "object.__setattr__")))(hp:plainOver K C=true)(ht:takerIn K C name=some none)(hh:hasDictIn K C=true)(htx:Xj es)(hz:es.length + 1 <= 1000)
  (h:∀ h' tk,Heap.SameBut dx s.heap h'->h'.get? dx=some (dictOf (putL name (PyData.keyHash w.params name) (.str name (s.toks + 1)) v es) (putN name es n))->Q () { s with heap:=h',toks:=tk }):
  wpAny (model prog w) A (setAttr (.ref x) name v) Q E s:=
 set_plain X I hs (osa_exact (s:={ s with toks:=s.toks + 1 }) X I hp ht hh htx hz h)
end
section
variable {G:Amb}{n:Nat}{V:Addr->Prop}{ks:Qi}
theorem entO_get{h:Heap}{x dx:Addr}{k:Nat}{f:Str->Option Value}(e:EntO G h x dx k f){h':Heap}(k1:∀ o,h.get? x=some o->o.cls≠.type "frame"->h'.get? x=some o)(k2:∀ o,h.get? dx=some o->o.cls≠.type "frame"->h'.get? dx=some o):EntO G h' x dx k f:=by
 refine Qx e ?_;intro a z0;refine ob2_2 z0 fun es m b r=>?_
 exact ⟨k1 _ a (by intro q;cases q),es,m,k2 _ b (by show Value.type "dict"≠_;decide),r⟩
theorem EntO.step{s s':Shared}{x dx:Addr}{k:Nat}{f:Str->Option Value}{U:Addr->Prop}(e:EntO G s.heap x dx k f)(st:Step G U s s')(h1:¬ U x)(h2:¬ U dx):EntO G s'.heap x dx k f:=
 entO_get e (fun _ q hf=>st.exact q (.inl h1) hf) (fun _ q hf=>st.exact q (.inl h2) hf)
theorem Qgn{A:Around}{s:Shared}{x dx:Addr}{k:Nat}{f:Str->Option Value}{a:Str}{v:Value}{Q:Unit->Shared->Prop}{E:Value->Shared->Prop}(AG:Qv G)(EC:Qcr G)(hb:G.h₀.StaysIn s.heap)
  (e0:EntO G s.heap x dx k f)(ha:a ∈ (["useragents","rulelines","delay","req_rate"]:List Str))(hk:k + 1 <= 1000)(b0:G.h₀.get? dx=none)(hxd:x≠dx)
  (h:∀ s',Step G (fun b=>b=dx) s s'->EntO G s'.heap x dx (k + 1) (fun b=>if b=a then some v else f b)->Q () s'):wpAny (model G.prog G.w) A (setAttr (.ref x) a v) Q E s:=by
 refine Qx e0 ?_;intro hx z0;refine ob2_4 z0 fun es m hd htx hl hf=>?_
 refine set_exact (AG.kIn.keeps hb) ⟨hx,rfl,rfl,hd⟩ EC.set EC.plain (EC.taker a ha) AG.entHas htx (by lia) fun h' tk hs hd'=>?_
 refine h _ (Qn hs rfl b0 ⟨_,hd'⟩ (fun o e t=>by rw [hd] at e;obtain rfl:=Qo e;exact absurd t.1 (by show Value.type "dict"≠_;decide)) (Jr hd (by show Value.type "dict"≠_;decide)) (Qay hd (by show Value.type "dict"≠_;decide))) ⟨(hs.2 x hxd).trans hx,_,_,hd',Qa3 htx,Nat.le_trans Qcw (by lia),fun b=>?_⟩
 rw [Qij (Qa3 htx),Qld]
 by_cases hba:b=a
 ·simp only [hba,if_true]
 ·simp only [hba,if_false]
  rw [← Qij htx];exact hf b
theorem Qa4{A:Around}{env:Env}{s:Shared}{W:Addr->Prop}{ρ:Qf}{x dx:Addr}{k:Nat}{f:Str->Option Value}{a:Str}{o e:Expr}{p pos:Pos}{fe fo:Qf->Option D}{d:D}{Q:Flow->Shared->Prop}{E:Value->Shared->Prop}(AG:Qv G)(EC:Qcr G)
  (c:Cx G n V ks A env s W ρ)(hx:W x∧¬ V x)(hdx:W dx∧¬ V dx)(b0:G.h₀.get? dx=none)(hxd:x≠dx)(neL:env.locals≠dx)(neC:∀ y c,env.cells.lookup y=some c->c≠dx)(e0:EntO G s.heap x dx k f)
  (he:Zo G n V ks e fe)(ho:Zo G n V ks o fo)(hd:fe ρ=some d)(hox:fo ρ=some (.raw (.ref x)))(ha:a ∈ (["useragents","rulelines","delay","req_rate"]:List Str))(hk:k + 1 <= 1000)
  (hs:swapsWith e (some (.Attribute o a p)) pos.line env=pure false)
  (h:∀ v s',Step G (fun b=>V b∨b=dx) s s'->Cx G n V ks A env s' W ρ->EntO G s'.heap x dx (k + 1) (fun b=>if b=a then some v else f b)->Rep G s'.heap W v d->Q .next s'):
  wpAny (model G.prog G.w) A (exec (.Assign [.Attribute o a p] e pos) env) Q E s:=by
 refine plainObj_wpAny_Assign_Attribute (he A env s W ρ d _ E c hd fun v s₁ k1 r₁=>ho A env s₁ W ρ _ _ E (c.step k1) hox fun u s2 k2 r₂=>?_) hs
 cases r₂
 have c₂:=(c.step k1).step k2
 have e2:=(e0.step k1 hx.2 hdx.2).step k2 hx.2 hdx.2
 refine Qgn AG EC c₂.good.base e2 ha hk b0 hxd fun s3 k3 e3=>?_
 exact h v s3 (((k1.trans k2).mono fun _=>.inl).trans (k3.mono fun _=>.inr)) (c₂.stepU k3 (fun b hb=>hb ▸ hdx.1) (fun q=>neL q) (fun y c' hc q=>neC y c' hc q)) e3 (((c.step k1).mono k2 r₁).mono (k3.keepX fun b hb=>hb ▸ hdx.1))
theorem Qcm{A:Around}{s:Shared}{W:Addr->Prop}{fd:FuncData}{fa:Addr}{o:Obj}{body:List Stmt}{xs:List Str}{vs us:List Value}{ds:List D}{ρc:Qf}{R:Result->Shared->Prop}(AG:Qv G)
  (good:Good G (n + 1) A s.heap)(ex:Excl s.heap V W)(ho:s.heap.get? fa=some o)(hdat:o.data=.func fd)(hcr:s.heap.CodeRec fd.code fd.qualname)(hbody:fd.body=.stmts body)(hk:fd.scope.kind=.function)(hco:fd.scope.isCoroutine=false)(hgen:fd.scope.isGenerator=false)
  (hgl:fd.globals=mainGlobals)(hbi:fd.builtins=builtinsNs)(hN:Xs fd.scope.names xs)(hbind:BindsTo s fd ⟨vs,[]⟩ (xs.zip us))(r:RepL G s.heap W us ds)(hC:Qfl G V s.heap W fd.scope.names fd.closure ρc)
  (h:∀ s₁ env E,Step G V s s₁->Cx G n V fd.scope.names (A.deeper env) env s₁ (fun a=>W a∨a=s.heap.objs.size) (Zl fd.scope.names xs ds ρc)->Own G fd.scope.names env (fun a=>W a∨a=s.heap.objs.size) (fun a=>a=s.heap.objs.size)->env.locals=s.heap.objs.size->env.cells=fd.closure->
   wpAny (model G.prog G.w) (A.deeper env) (execs body env) (fun f s'=>R (.ok (.ret (match f with | .ret v=>v | _=>.none))) s') E s₁):
  codeAny (model G.prog G.w) A (.call (.ref fa) ⟨vs,[]⟩) R s:=by
 refine codeAny_call_function (by have:=good.depth;show A.depth < 1000;lia) ho hdat hco hgen hbody hcr (hbind _ _ _ _ ?_)
 refine Zs hN.noCell (fun x hx=>hN.loc x.1 (List.of_mem_zip (a:=x.1) (b:=x.2) hx).1) (fun h' hns hsb hfr=>?_) hk
 refine Jo (Qhf (fa:=fa) (tk:=s.toks + (xs.zip us).length) good ex hk hgl hbi hN r hC hns hsb hfr) fun k c ow=>?_
 exact ⟨AG.nolimit.keeps (c.good.base),codeAny_func (h _ _ _ k c ow rfl rfl)⟩
theorem Jb{s:Shared}{A:Around}{env:Env}{W:Addr->Prop}{ρ:Qf}(c:Cx G n V ks A env s W ρ){a:Addr}(h:s.heap.get? a=none):env.locals≠a∧(∀ y b,env.cells.lookup y=some b->b≠a)∧¬ V a∧¬ W a∧G.h₀.get? a=none:=by
 refine Qg9 (fun e=>?_) (fun y b e q=>?_) (fun q=>?_) (c.excl.fresh h) (Zd c.good a h)
 ·refine ob4_2 c.ns fun m o es ep e' _=>?_;rw [e,h] at e';exact nSo e'
 ·refine ob2_2 (c.cellsAt y b e) fun v o e' _=>?_;rw [q,h] at e';exact nSo e'
 ·exact c.excl.fresh h (c.excl.sub a q)
theorem Good.under1{A:Around}{h:Heap}{C:Addr}(g:Good G (n + 1) A h):Good G n (A.under (.builtin "type.__call__" ⟨[.ref C],[]⟩)) h:=by
 refine ⟨g.base,g.handled,?_,?_,?_⟩
 ·have:=g.depth
  show A.depth + 1 + n < 1000
  lia
 ·have:=g.units
  show A.units + 1 + 20 * n < 9000
  lia
 ·refine ob1_2 g.stk fun envs e p=>?_
  exact in1_2 envs (by show pushEnvs [] A.frames=_;rw [e];rfl) p
theorem Qmy{A:Around}{s:Shared}{W:Addr->Prop}{Q:Value->Shared->Prop}{E:Value->Shared->Prop}(AG:Qv G)(EC:Qcr G)(good:Good G (n + 2) A s.heap)(ex:Excl s.heap V W)
  (h:∀ x dx f s',Step G V s s'->s.heap.get? x=none->s.heap.get? dx=none->x≠dx->EntO G s'.heap x dx 4 f->Q (.ref x) s'):
  wpAny (model G.prog G.w) A (call (.ref G.C) []) Q E s:=by
 refine ob3_9 EC.init ?_;intro fI fd o hi hf ho hdat hcr hgl hbi hcl z0;refine Jo z0 fun hfb hsc hbind=>?_
 obtain ⟨hh,g,d,t,os⟩:=s
 refine wpAny_call (make_core (makes_of (AG.kIn.keeps good.base) EC.makes) (looks_findIn (AG.kIn.keeps good.base) hi) (fun self=>bind_fn (AG.kIn.keeps good.base) self hf) (.inl rfl) ?_)
 refine Qdb ((⟨(hh.push emptyDict).push (instObj G.C hh.objs.size),g,d,t,os⟩:Shared)) fun s₁ hs1=>?_
 have h1:s₁.heap=(hh.push emptyDict).push (instObj G.C hh.objs.size):=by rw [← hs1]
 have k1:Step G V ⟨hh,g,d,t,os⟩ s₁:=by rw [← hs1];exact .of_heap (s:=⟨hh,g,d,t,os⟩) (tk:=t) fun b ob e=>Heap.get?_push_of_some _ (Heap.get?_push_of_some _ e)
 have hsz:(hh.push emptyDict).objs.size=hh.objs.size + 1:=Heap.size_push ..
 have ex1:s₁.heap.get? (hh.objs.size + 1)=some (instObj G.C hh.objs.size):=by rw [h1,← hsz];exact Heap.get?_push_size _ rfl
 have ed1:s₁.heap.get? hh.objs.size=some (dictOf [] 0):=by rw [h1];exact Heap.get?_push_of_some _ (Heap.get?_push_size _ rfl)
 have newx:hh.get? (hh.objs.size + 1)=none:=Heap.get?_none_of_le (Nat.le_succ _)
 have newd:hh.get? hh.objs.size=none:=Heap.get?_none_of_le (Nat.le_refl _)
 have nx:¬ W (hh.objs.size + 1):=ex.fresh newx
 have nd:¬ W hh.objs.size:=ex.fresh newd
 have exW:Excl s₁.heap V (fun a=>(W a∨a=hh.objs.size + 1)∨a=hh.objs.size):=⟨fun a ha=>.inl (.inl (ex.sub a ha)),fun a ha=>by
  rcases ha with (ha | ha) | ha
  ·exact (ex.step k1).live a ha
  ·exact ⟨_,ha ▸ ex1⟩
  ·exact ⟨_,ha ▸ ed1⟩⟩
 have nVx:¬ V (hh.objs.size + 1):=fun q=>nx (ex.sub _ q)
 have nVd:¬ V hh.objs.size:=fun q=>nd (ex.sub _ q)
 have e1:EntO G s₁.heap (hh.objs.size + 1) hh.objs.size 0 (fun _=>none):=⟨ex1,[],0,ed1,fun e he=>(nomatch he),Nat.le_refl _,fun a=>rfl⟩
 have hk:fd.scope.kind=.function:=by rw [hsc];rfl
 have hco:fd.scope.isCoroutine=false:=by rw [hsc];rfl
 have hgen:fd.scope.isGenerator=false:=by rw [hsc];rfl
 have hN:Xs fd.scope.names ["self"]:=by rw [hsc];exact Xm dk
 have hno:fd.scope.names.all (fun p=>!(p.2 == .free))=true:=by rw [hsc];decide +kernel
 refine Qcm (V:=V) (W:=fun a=>(W a∨a=hh.objs.size + 1)∨a=hh.objs.size) (xs:=["self"]) (us:=[.ref (hh.objs.size + 1)]) (ds:=[.raw (.ref (hh.objs.size + 1))]) (ρc:=fun _=>none) AG ((good.step k1).under1) exW ((good.step k1).base _ _ ho) hdat (hcr.keeps (good.step k1).base) hfb hk hco hgen hgl hbi hN
  (.of_eq (hbind _)) ⟨rfl,trivial⟩ (by rw [hcl];exact Qaw hno) ?_
 intro s2 env E' k2 c2 ow hloc hcells
 have hself:Zl fd.scope.names ["self"] [.raw (.ref (hh.objs.size + 1))] (fun _=>none) "self"=some (.raw (.ref (hh.objs.size + 1))):=rfl
 have neL:env.locals≠hh.objs.size:=by
  rw [hloc]
  have:=Heap.lt_size ed1
  exact Nat.ne_of_gt this
 have neC:∀ y c,env.cells.lookup y=some c->c≠hh.objs.size:=fun y c e=>by rw [hcells,hcl] at e;simp at e
 have e2:=e1.step k2 nVx nVd
 have b0:G.h₀.get? hh.objs.size=none:=Zd good _ newd
 have vis:Vis fd.scope.names "self"=true:=by rw [hsc];decide +kernel
 have hxd:hh.objs.size + 1≠hh.objs.size:=by lia
 have wx:((W (hh.objs.size + 1)∨hh.objs.size + 1=hh.objs.size + 1)∨hh.objs.size + 1=hh.objs.size)∨hh.objs.size + 1=s₁.heap.objs.size:=.inl (.inl (.inr rfl))
 have wd:((W hh.objs.size∨hh.objs.size=hh.objs.size + 1)∨hh.objs.size=hh.objs.size)∨hh.objs.size=s₁.heap.objs.size:=.inl (.inr rfl)
 have evs:∀ {p:Pos},Zo G n V fd.scope.names (.Name "self" p) (fun ρ=>ρ "self"):=Qb _ _ vis dk
 refine wpAny_execs_cons (Qa4 AG EC c2 ⟨wx,nVx⟩ ⟨wd,nVd⟩ b0 hxd neL neC e2 (Qau evs_nil) evs rfl hself (by decide) (by lia) rfl fun v3 s3 k3 c3 e3 _=>?_)
 refine wpAny_execs_cons (Qa4 AG EC c3 ⟨wx,nVx⟩ ⟨wd,nVd⟩ b0 hxd neL neC e3 (Qau evs_nil) evs rfl hself (by decide) (by lia) rfl fun v4 s4 k4 c4 e4 _=>?_)
 refine wpAny_execs_cons (Qa4 AG EC c4 ⟨wx,nVx⟩ ⟨wd,nVd⟩ b0 hxd neL neC e4 (Qaj _ _) evs rfl hself (by decide) (by lia) rfl fun v5 s5 k5 c5 e5 _=>?_)
 refine wpAny_execs_cons (Qa4 AG EC c5 ⟨wx,nVx⟩ ⟨wd,nVd⟩ b0 hxd neL neC e5 (Qaj _ _) evs rfl hself (by decide) (by lia) rfl fun v6 s6 k6 c6 e6 _=>?_)
 refine wpAny_execs_nil ⟨rfl,?_⟩
 have new:∀ a,V a∨a=hh.objs.size->(⟨hh,g,d,t,os⟩:Shared).heap.get? a=none∨V a:=fun a ha=>ha.elim .inr fun q=>.inl (q ▸ newd)
 exact h _ _ _ s6 ((((((k1.trans k2).later k3 new).later k4 new).later k5 new).later k6 new)) newx newd hxd e6
end
section
variable {prog:Program}{w:World}{A:Around}{R:Result->Shared->Prop}
theorem set_loop{S I l:Addr}{vs:List Value}{xs:List Str}(hh:A.handled=none)(hx:Zv vs xs)(hSI:S≠I)(hlI:l≠I)(hlS:l≠S)(hb:vs.length + 1 < scanBound):
  ∀ (k i n:Nat) (s:Shared),vs.length - i=k->i <= vs.length->s.heap.IsListIter I l i->s.heap.IsList l (List.toArray vs)->n <= i->s.heap.SetOf (strKind prog w) S (fun k=>decide (k ∈ xs.take i)) n->
   (∀ h' tk n',n' <= vs.length->h'.SetOf (strKind prog w) S (fun k=>decide (k ∈ xs)) n'->(∀ b o,b≠S->b≠I->s.heap.get? b=some o->h'.get? b=some o)->R (.ok (.ret .none)) { s with heap:=h',toks:=tk })->
   codeAny (model prog w) A (.builtin "set.update.loop" ⟨[.ref S,.ref I],[]⟩) R s:=by
 intro k
 induction k with
 | zero=>
  intro i n s hk hi hit hl hn hS hR
  have hin:i=vs.length:=by lia
  refine codeAny_builtin F.entry_set_update_loop ?_
  rw [Around.under_plainId F.plain_set_update_loop _]
  show wpAny _ A.in1 (pyNext (.ref I) >>= _) _ _ s
  refine wpAny_bind (wpAny_pyNext_list_end (by simpa using hh) hit hl (by simp;lia) fun h' he=>?_)
  show wpAny _ A.in1 (ret Value.none) _ _ _
  have htake:xs.take i=xs:=by rw [hin,hx.1];simp
  rw [htake] at hS
  refine wpAny_pure (hR h' s.toks n (by lia) ?_ fun b o _ hbI e=>he b o hbI e)
  refine ob4_2 hS fun o es ep t ho rest=>?_
  exact ⟨o,es,ep,t,he S _ hSI ho,rest⟩
 | succ k ih=>
  intro i n s hk hi hit hl hn hS hR
  have hlt:i < vs.length:=by lia
  have hltx:i < xs.length:=by rw [← hx.1];exact hlt
  refine ob1_1 (hx.2 i xs[i] (by simp [hltx])) fun t ht=>?_
  refine codeAny_builtin F.entry_set_update_loop ?_
  rw [Around.under_plainId F.plain_set_update_loop _]
  show wpAny _ A.in1 (pyNext (.ref I) >>= _) _ _ s
  refine wpAny_bind (wpAny_pyNext_list_item hit hl (x:=.str xs[i] t) (by simpa using ht) fun h₁ hit1 hs1=>?_)
  have hS1:h₁.SetOf (strKind prog w) S (fun k=>decide (k ∈ xs.take i)) n:=by
   refine ob4_2 hS fun o es ep t ho rest=>?_
   exact ⟨o,es,ep,t,(hs1.2 S hSI).trans ho,rest⟩
  have hl1:h₁.IsList l (List.toArray vs):=by
   refine ob1_2 hl fun o ho r=>?_
   exact ⟨o,(hs1.2 l hlI).trans ho,r⟩
  show wpAny _ A.in1 (holding [Value.str xs[i] t] (setAdd S (.str xs[i] t)) >>= _) _ _ _
  refine wpAny_bind (wpAny_holding ?_)
  unfold setAdd
  refine wpAny_holding ?_
  have his:(strKind prog w).is xs[i] (.str xs[i] t)=true:=strKind_is prog w xs[i] t
  refine wpAny_bind ((strKind prog w).pyHash (k:=xs[i]) his ?_)
  refine wpAny_setAddHashed_of (knd:=strKind prog w) (s:={ s with heap:=h₁,toks:=s.toks + 1 }) his rfl hS1 (by lia) fun h₂ hs2 hS2=>?_
  have htake:∀ k,(decide (k ∈ xs.take i) || decide (k=xs[i]))=decide (k ∈ xs.take (i + 1)):=fun k=>by
   rw [show xs.take (i + 1)=xs.take i ++ [xs[i]] from by rw [List.take_add_one,List.getElem?_eq_getElem hltx];rfl]
   by_cases h1:k ∈ xs.take i <;> by_cases h2:k=xs[i] <;> simp only [List.mem_append,List.mem_singleton,h1,h2,decide_true,decide_false,Bool.or_true,Bool.or_false,true_or,or_true,or_false]
  have hS2':∃ n',n' <= i + 1∧h₂.SetOf (strKind prog w) S (fun k=>decide (k ∈ xs.take (i + 1))) n':=by
   refine ⟨_,?_,SetOf_congr hS2 htake rfl⟩
   split <;> lia
  refine ob1_2 hS2' fun n' hn' hS3=>?_
  have hit2:h₂.IsListIter I l (i + 1):=by
   refine ob1_2 hit1 fun o ho r=>?_
   exact ⟨o,(hs2.2 I (Ne.symm hSI)).trans ho,r⟩
  have hl2:h₂.IsList l (List.toArray vs):=by
   refine ob1_2 hl1 fun o ho r=>?_
   exact ⟨o,(hs2.2 l hlS).trans ho,r⟩
  refine wpAny_pure ⟨plainId_quiet F.plain_set_update_loop _,ih (i + 1) n' _ (congrArg Nat.pred hk) hlt hit2 hl2 hn' hS3 fun h' tk m hm hS' hk'=>hR h' tk m hm hS' fun b o hbS hbI e=>?_⟩
  exact hk' b o hbS hbI ((hs2.2 b hbS).trans ((hs1.2 b hbI).trans e))
end
section
variable {prog:Program}{w:World}{A:Around}{E:Value->Shared->Prop}{s:Shared}
inductive SetMade (prog:Program) (w:World) (s:Shared) (xs:List Str) (r:Value) (s₂:Shared):Prop
 | mk (h':Heap) (tk:Tok) (n:Nat) (h1:r=.none) (h2:s₂={ s with heap:=h',toks:=tk }) (h3:h'.SetOf (strKind prog w) s.heap.objs.size (fun k=>decide (k ∈ xs)) n) (h4:∀ b o,s.heap.get? b=some o->h'.get? b=some o):SetMade prog w s xs r s₂
theorem Qhi{l:Addr}{vs:List Value}{xs:List Str}{Q:Value->Shared->Prop}(hh:A.handled=none)(hl:s.heap.IsList l (List.toArray vs))(hx:Zv vs xs)(hb:vs.length + 1 < scanBound)
  (h:∀ (h':Heap) (tk n:Nat),h'.SetOf (strKind prog w) s.heap.objs.size (fun k=>decide (k ∈ xs)) n->(∀ b o,s.heap.get? b=some o->h'.get? b=some o)->Q (.ref s.heap.objs.size) { s with heap:=h',toks:=tk }):
  wpAny (model prog w) A (call (.type "set") [.ref l]) Q E s:=by
 refine ob2_1 F.called_set.mro fun c tl hmro=>?_
 have hmade:=F.called_set.made
 have hsub:=F.called_set.sub
 refine wpAny_call (codeAny_of_tree ?_)
 show wpAny _ _ (callAny (.type "set") _) _ _ _
 refine wpAny_pure ⟨Code.quiet_builtin _ dk,codeAny_builtin F.entry_type_call ?_⟩
 rw [Around.under_plain (weight_type_call_type "set" [.ref l] []) rfl]
 have h1:=F.called_set.notType
 have h2:=F.called_set.canCreate
 have hct:=F.typeCall_set_1 (.ref l)
 repeat (any_goals (first | assumption | wp_step))
 refine codeAny_mono (code_set_new_1 (.ref l) (E:=E) (Q₁:=fun obj s₁=>∃ led:Bool,obj=.ref s.heap.objs.size∧s₁={ s with heap:=s.heap.push { cls:=.type "set",dict:=none,data:=.set #[] 0 (.fresh 0 0 led) } }) fun led=>⟨led,rfl,rfl⟩) fun r s₁ hr=>?_
 cases r with
 | error e=>exact hr
 | ok fl=>
  cases fl with
  | ret obj=>
   refine ob1_2 hr ?_;rintro led rfl rfl
   have hS:(s.heap.push { cls:=.type "set",dict:=none,data:=.set #[] 0 (.fresh 0 0 led) }).get? s.heap.objs.size=some { cls:=.type "set",dict:=none,data:=.set #[] 0 (.fresh 0 0 led) }:=Heap.get?_push_size _ rfl
   have hT:Shared.TypeIs { s with heap:=s.heap.push { cls:=.type "set",dict:=none,data:=.set #[] 0 (.fresh 0 0 led) } } (.ref s.heap.objs.size) "set":=⟨_,hS,rfl⟩
   have hpush:∀ b o,s.heap.get? b=some o->(s.heap.push { cls:=.type "set",dict:=none,data:=.set #[] 0 (.fresh 0 0 led) }).get? b=some o:=fun _ _=>Heap.get?_push_of_some _
   have hsz:(s.heap.push { cls:=.type "set",dict:=none,data:=.set #[] 0 (.fresh 0 0 led) }).objs.size=s.heap.objs.size + 1:=Heap.size_push ..
   revert hS hT hpush hsz;refine Qm2 (s.heap.push { cls:=.type "set",dict:=none,data:=.set #[] 0 (.fresh 0 0 led) }) fun hp=>?_;intro hS hT hpush hsz
   have hli:=F.called_set.init.lookup
   have hbi:=F.called_set.init.bind (.ref s.heap.objs.size)
   repeat (any_goals (first | assumption | wp_step))
   refine codeAny_mono (codeAny_call_builtin (R:=wants (SetMade prog w s xs) E) F.called_set.init.plain F.entry_set_init (check_set_init_1 hT ?_)) fun r₂ s2 hr2=>?_
   ·refine ob1_3 (id hl) ?_;rintro ol hol hcl ⟨nl,hdl⟩
    obtain ⟨ocls,odict,odata,oslots⟩:=ol
    simp only at hcl hdl
    subst hcl;subst hdl
    have hol':hp.get? l=some { cls:=.type "list",dict:=odict,data:=.seq (List.toArray vs) nl,slots:=oslots }:=hpush _ _ hol
    have hsls:=F.sub_list_set
    have hslf:=F.sub_list_frozenset
    have hne:(Value.type "list" == Value.type "dict")=false:=by decide
    have hl1:hp.IsList l (List.toArray vs):=⟨_,hol',rfl,nl,rfl⟩
    unfold Builtin.«set.__init__» noKeywords Builtin.Frozenset.updateFrom
    generalize hPI:pyIter=PI
    wp_walk
    subst hPI
    refine wpAny_pyIter_list hl1 ?_
    refine wpAny_bind (wpAny_runValue ?_)
    have hlS:l < s.heap.objs.size:=Heap.lt_size hol
    have hh3:A.in1.in1.in1.handled=none:=by simp [hh]
    have hneI:l≠hp.objs.size:=by
     rw [hsz];exact Nat.ne_of_lt (Nat.lt_succ_of_lt hlS)
    have hget:(hp.push { cls:=.type "list_iterator",data:=.fields #[.ref l,.int 0 0] }).get? s.heap.objs.size
       = some { cls:=.type "set",dict:=none,data:=.set #[] 0 (.fresh 0 0 led) }:=Heap.get?_push_of_some _ hS
    refine set_loop (vs:=vs) (xs:=xs) (A:=A.in1.in1) (by simpa using hh) hx (by rw [hsz];exact Nat.ne_of_lt (Nat.lt_succ_self _)) hneI (Nat.ne_of_lt hlS) hb (vs.length - 0) 0 0 _ rfl (Nat.zero_le _)
     ⟨_,Heap.get?_push_size _ rfl,rfl,rfl⟩ (hl1.push _) (Nat.le_refl _) (SetOf_congr ((setObjOf_fresh (knd:=strKind prog w) led).setOf hget (by unfold scanBound;lia)) (fun k=>by simp) rfl) ?_
    intro h' tk n' hn' hS' hk'
    refine wpAny_pure ?_
    show wpAny _ _ (ret Value.none) _ _ _
    refine wpAny_pure ⟨h',tk,n',rfl,rfl,hS',fun b o e=>?_⟩
    have hb:=Heap.lt_size e
    exact hk' b o (Nat.ne_of_lt hb) (by rw [hsz];exact Nat.ne_of_lt (Nat.lt_succ_of_lt hb)) (Heap.get?_push_of_some _ (hpush _ _ e))
   ·cases r₂ with
    | error e=>exact hr2
    | ok fl2=>
     cases fl2 with
     | ret r=>
      obtain ⟨h',tk,n,rfl,rfl,hS',hk'⟩:=hr2
      repeat (any_goals (first | assumption | wp_step))
      exact h _ _ n hS' hk'
     | _=>exact hr2.elim
  | _=>exact hr.elim
end
theorem Qir:entryFor table "method_descriptor.__get__"=some Builtin.«method_descriptor.__get__»:=entryFor_of_tree (by kernel_rfl)
theorem md_get:typeLookup (.type "method_descriptor") "__get__"=pure (some (.builtin "method_descriptor.__get__")):=by rw [typeLookup_type,builtinLookup_eq_fast];kernel_rfl
theorem md_set:typeLookup (.type "method_descriptor") "__set__"=pure none:=by rw [typeLookup_type,builtinLookup_eq_fast];kernel_rfl
theorem md_delete:typeLookup (.type "method_descriptor") "__delete__"=pure none:=by rw [typeLookup_type,builtinLookup_eq_fast];kernel_rfl
theorem slot_md_get:Slot "method_descriptor" "__get__" "method_descriptor.__get__":=
 .of (owner:="method_descriptor") (n:="__get__") (by rw [typeLookup_type,builtinLookup_eq_fast];kernel_rfl) dk dk dk (.inl dk) (by rw [isSubtype_type];kernel_rfl)
theorem Qke(a b c:Value):argsOk "method_descriptor.__get__" ⟨[a,b,c],[]⟩:=by unfold argsOk;kernel_rfl
noncomputable def Qa0(a:Addr):Obj:={ cls:=.type "builtin_function_or_method",data:=.fields #[.builtin "set.__contains__",.ref a] }
theorem Qh7(a:Addr)(es:Array (Int × Value))(ep:Nat)(tb:SetTable):
  Meets (Builtin.«method_descriptor.__get__» ⟨[.builtin "set.__contains__",.ref a,.type "set"],[]⟩) (fun A R s=>s.heap.get? a=some { cls:=.type "set",dict:=none,data:=.set es ep tb }∧R (.ok (.ret (.ref s.heap.objs.size))) { s with heap:=s.heap.push (Qa0 a) }):=
 Meets.of_wp fun prog w A R s hs=>by
  obtain ⟨hp,g,d,tk,os⟩:=s
  refine Qx hs fun hx hs=>?_
  have hT:(⟨hp,g,d,tk,os⟩:Shared).TypeIs (.ref a) "set":=⟨_,hx,rfl⟩
  have e1:".".intercalate ("set.__contains__".cutAt '.').dropLast="set":=by decide +kernel
  have e2:=sub_set_self
  unfold Builtin.«method_descriptor.__get__»
  repeat (any_goals (first | assumption | wp_step))
  rw [e1]
  repeat (any_goals (first | assumption | wp_step))
  exact in1_2 _ rfl hs
theorem Js(a:Addr)(es:Array (Int × Value))(ep:Nat)(tb:SetTable)(u:Tok):
  Meets (Builtin.«object.__getattribute__» ⟨[.ref a,.str "__contains__" u],[]⟩) (fun A R s=>s.heap.get? a=some { cls:=.type "set",dict:=none,data:=.set es ep tb }∧R (.ok (.ret (.ref s.heap.objs.size))) { s with heap:=s.heap.push (Qa0 a) }):=
 Meets.of_wp fun prog w A R s hs=>by
  obtain ⟨hp,g,d,tk,os⟩:=s
  refine Qx hs fun hx hs=>?_
  have hT:(⟨hp,g,d,tk,os⟩:Shared).TypeIs (.ref a) "set":=⟨_,hx,rfl⟩
  have f1:=F.slot_set_contains.lookup
  have f2:=F.type_set_contains
  have f3:=md_get
  have f4:=md_set
  have f5:=md_delete
  unfold Builtin.«object.__getattribute__»
  repeat (any_goals (first | assumption | wp_step))
  refine codeAny_mono (codeAny_call_builtin (R:=fun r s'=>r=.ok (.ret (.ref hp.objs.size))∧s'=⟨hp.push (Qa0 a),g,d,tk,os⟩) slot_md_get.plain Qir (slot_md_get.check _ _ _ _ _ _ _ _ F.type_set_contains (Qke _ _ _) (Qh7 a es ep tb prog w A.in1 (fun r s'=>r=.ok (.ret (.ref hp.objs.size))∧s'=⟨hp.push (Qa0 a),g,d,tk,os⟩) ⟨hp,g,d,tk,os⟩ (by exact Jw hx rfl rfl)))) ?_
  rintro r s' ⟨rfl,rfl⟩
  exact wpAny_pure ⟨_,rfl,hs⟩
section
variable {prog:Program}{w:World}{A:Around}{E:Value->Shared->Prop}{s:Shared}
theorem Qdm{a:Addr}{es:Array (Int × Value)}{ep:Nat}{tb:SetTable}{Q:Value->Shared->Prop}(hx:s.heap.get? a=some { cls:=.type "set",dict:=none,data:=.set es ep tb })
  (h:∀ tk,Q (.ref s.heap.objs.size) { s with heap:=s.heap.push (Qa0 a),toks:=tk }):wpAny (model prog w) A (getAttr (.ref a) "__contains__" true) Q E s:=by
 obtain ⟨hp,g,d,tk,os⟩:=s
 have hT:∀ tk',(⟨hp,g,d,tk',os⟩:Shared).TypeIs (.ref a) "set":=fun _=>⟨_,hx,rfl⟩
 have f3:=F.slot_set_getattribute.lookup
 have f4:=F.slot_set_getattribute.bind (.ref a)
 unfold getAttr getAttrBy
 repeat (any_goals (first | assumption | exact hT _ | ((with_reducible show wpAny _ _ (call (Value.builtin "set.__getattribute__") _ _) _ _ _);refine call_meets F.slot_set_getattribute (hT _) PySem.F.entry_set_ga (F.args_set_getattribute_2 _ _) (Js a es ep tb _) ⟨hx,?_⟩) | wp_step))
 show wpAny _ A (handedOut (.ref hp.objs.size)) Q E _
 rw [handedOut_of rfl]
 exact wpAny_pure (h _)
end
theorem kind_sc:builtinKind "set.__contains__"=some .method:=by decide +kernel
theorem Qe9:isSubtype (.type "set") (.type "module")=pure false:=by rw [isSubtype_type];kernel_rfl
theorem Qhs:isSubtype (.type "set") (.type "type")=pure false:=by rw [isSubtype_type];kernel_rfl
theorem check_bc{M:Model}{A:Around}{E:Value->Shared->Prop}{s:Shared}{a:Addr}{x:Str}{t:Tok}{es:Array (Int × Value)}{ep:Nat}{tb:SetTable}{Q:Unit->Shared->Prop}(hx:s.heap.get? a=some { cls:=.type "set",dict:=none,data:=.set es ep tb })(h:Q () s):
  wpAny M A (checkBoundCall "set.__contains__" ⟨[.ref a,.str x t],[]⟩) Q E s:=by
 unfold checkBoundCall
 have h1:=Qe9
 have h2:=Qhs
 simp only [kind_sc]
 have hT:s.TypeIs (.ref a) "set":=⟨_,hx,rfl⟩
 obtain ⟨hp,g,d,tk,os⟩:=s
 repeat (any_goals (first | assumption | wp_step))
section
variable {prog:Program}{w:World}{A:Around}{E:Value->Shared->Prop}{s:Shared}
theorem Qkb{b a:Addr}{x:Str}{t:Tok}{S:Str->Bool}{n:Nat}{Q:Value->Shared->Prop}(hb:s.heap.get? b=some (Qa0 a))(hS:s.heap.SetOf (strKind prog w) a S n)
  (h:Q (.bool (S x)) { s with toks:=s.toks + 1 }):wpAny (model prog w) A (call (.ref b) [.str x t]) Q E s:=by
 refine wpAny_call (codeAny_of_tree ?_)
 show wpAny _ _ (callAny (.ref b) ⟨[.str x t],[]⟩) _ _ _
 unfold callAny
 refine Qg (fun K k=>wpAny_load hb k) ?_
 show wpAny _ _ (do checkBoundCall "set.__contains__" ⟨[.ref a,.str x t],[]⟩;again (.builtin "set.__contains__" ⟨[.ref a,.str x t],[]⟩)) _ _ _
 refine ob4_4 (id hS) fun so ses sep stb hso hse hsd hsr=>?_
 obtain ⟨sc,sd,sdt,ssl⟩:=so
 refine Jo hse fun e1 e2 e3=>?_
 simp only at e1 e2 e3 hsd
 subst e1 e2 e3 hsd
 refine wpAny_bind (check_bc hso ?_)
 refine wpAny_pure ⟨Code.quiet_builtin _ dk,codeAny_builtin entry_set_contains ?_⟩
 unfold Builtin.«frozenset.__contains__» Builtin.Frozenset.oneOther
 simp only [List.isEmpty_nil,bind_assoc]
 unfold Builtin.Frozenset.addrOf Builtin.Frozenset.withSetAsKey setContains
 refine wpAny_bind (wpAny_pure ?_)
 try dsimp only
 refine Qg (fun K k=>wpAny_pure k) ?_
 try dsimp only
 refine wpAny_bind (wpAny_tryCatch ?_)
 refine wpAny_holding ?_
 have his:(strKind prog w).is x (.str x t)=true:=strKind_is prog w x t
 refine wpAny_bind ((strKind prog w).pyHash his ?_)
 refine wpAny_bind (wpAny_setFind_of (s:={ s with toks:=s.toks + 1 }) his rfl hS fun r hr=>?_)
 refine wpAny_pure ?_
 show wpAny _ _ (ret (Value.bool r.isSome)) _ _ _
 rw [hr]
 exact wpAny_pure h
theorem Qbu{it l:Addr}{i:Nat}{items:Array Value}{x:Value}{Q:Option Value->Shared->Prop}(hit:s.heap.IsListIter it l i)(hl:s.heap.IsList l items)(hx:items[i]?=some x)
  (hQ:∀ h',h'.IsListIter it l (i + 1)->Heap.SameBut it s.heap h'->Q (some x) { s with heap:=h' }):wpAny (model prog w) A (callSpecial? (.ref it) "__next__") Q E s:=by
 refine ob1_3 (id hit) fun o ho hc hd=>?_
 refine ob1_3 hl ?_;rintro ol hol _ ⟨nl,hdl⟩
 refine wpAny_callSpecial?_slot (name:=Str.ofString "__next__") hit.typeIs slot_listiter_next (wpAny_call_entry slot_listiter_next hit.typeIs entry_listiter_next ?_ (args_listiter_next _))
 show wpAny _ _ (field (.ref it) 0 >>= _) _ _ s
 refine wpAny_bind (wpAny_field ho hd (x:=.ref l) rfl ?_)
 show wpAny _ _ (if (Value.ref l == Value.none)=true then _ else _) _ _ s
 rw [if_neg (show ¬ ((Value.ref l == Value.none)=true) from Bool.false_ne_true)]
 show wpAny _ _ (field (.ref it) 1 >>= _) _ _ s
 refine wpAny_bind (wpAny_field ho hd (x:=.int i 0) rfl ?_)
 show wpAny _ _ (seqItems? (.ref l) >>= _) _ _ s
 refine Qg (fun K k=>wpAny_seqItems hol hdl k) ?_
 simp only [Int.toNat_natCast,hx]
 refine wpAny_bind (wpAny_setField ho hd (by simp) (wpAny_pure ⟨x,rfl,hQ _ ?_ (Heap.SameBut.update ..)⟩))
 exact ⟨_,Heap.get?_update_self _ ho (Obj.isFreed_of_fields (Obj.data_mapFields hd _)),(Obj.cls_mapFields ..).trans hc,by
  rw [Obj.data_mapFields hd];simp [rawInt]⟩
theorem Qgy{it l:Addr}{i:Nat}{items:Array Value}{Q:Option Value->Shared->Prop}(hh:A.handled=none)(hit:s.heap.IsListIter it l i)(hl:s.heap.IsList l items)(hx:items[i]?=none)
  (hE:∀ h' e,Heap.ExtBut it s.heap h'->s.heap.get? e=none->(∃ ob vs,h'.get? e=some ob∧ob.cls=.type "StopIteration"∧ob.data=.fields vs∧vs[1]?=some .none)->E (.ref e) { s with heap:=h' }):wpAny (model prog w) A (callSpecial? (.ref it) "__next__") Q E s:=by
 refine ob1_3 (id hit) fun o ho hc hd=>?_
 refine ob1_3 hl ?_;rintro ol hol _ ⟨nl,hdl⟩
 refine wpAny_callSpecial?_slot (name:=Str.ofString "__next__") hit.typeIs slot_listiter_next (wpAny_call_entry slot_listiter_next hit.typeIs entry_listiter_next ?_ (args_listiter_next _))
 show wpAny _ _ (field (.ref it) 0 >>= _) _ _ s
 refine wpAny_bind (wpAny_field ho hd (x:=.ref l) rfl ?_)
 show wpAny _ _ (if (Value.ref l == Value.none)=true then _ else _) _ _ s
 rw [if_neg (show ¬ ((Value.ref l == Value.none)=true) from Bool.false_ne_true)]
 show wpAny _ _ (field (.ref it) 1 >>= _) _ _ s
 refine wpAny_bind (wpAny_field ho hd (x:=.int i 0) rfl ?_)
 show wpAny _ _ (seqItems? (.ref l) >>= _) _ _ s
 refine Qg (fun K k=>wpAny_seqItems hol hdl k) ?_
 simp only [Int.toNat_natCast,hx]
 refine wpAny_bind (wpAny_rule (wpAny_bind (wpAny_setField ho hd (by simp) ?_)))
 show wpAny _ _ (newExc (.type "StopIteration") [] >>= _) _ _ _
 refine wpAny_bind ?_
 simp only [newExc,newTuple]
 refine wpAny_bind (wpAny_newObj_type ?_ (by size_fits))
 refine wpAny_bind (m:=firstArgMember _ _) (wpAny_of_eq (a:=Value.none) (by first | rfl | (simp only [firstArgMember];rfl)) ?_)
 refine wpAny_newObj_type ?_ (by size_fits)
 simp only [raiseNew]
 refine Qg (fun K k=>wpAny_handled k) ?_
 rw [show A.in1.handled=none from hh]
 refine wpAny_bind (wpAny_pure (wpAny_throw ?_))
 refine hE _ _ (((Heap.SameBut.update ..).extBut.push _).push _) (Heap.get?_none_of_le ?_) ⟨_,_,Heap.get?_push_size _ rfl,rfl,rfl,?_⟩
 ·rw [Heap.size_push,Heap.size_update];exact Nat.le_succ _
 ·rfl
end
theorem Qan:entryFor table "filter.__next__"=some Builtin.«filter.__next__»:=entryFor_of_tree (by kernel_rfl)
theorem Zz:plainId "filter.__next__"=true:=by decide +kernel
noncomputable def Qdd(b it:Addr):Obj:={ cls:=.type "filter",data:=.fields #[.ref b,.ref it] }
section
variable {prog:Program}{w:World}{A:Around}{R:Result->Shared->Prop}
theorem Qes{flt b a it l:Addr}{vs:List Value}{xs:List Str}{S:Str->Bool}{n:Nat}(hh:A.handled=none)(hx:Zv vs xs)(n1:flt≠it)(n2:b≠it)(n3:a≠it)(n4:l≠it):
  ∀ (m j:Nat) (s:Shared),vs.length - j=m->j <= vs.length->s.heap.get? flt=some (Qdd b it)->s.heap.get? b=some (Qa0 a)->s.heap.SetOf (strKind prog w) a S n->s.heap.IsListIter it l j->s.heap.IsList l (List.toArray vs)->
   (∀ j' h' tk v,s.toks <= tk->j <= j'->(hj:j' < xs.length)->S xs[j']=true->(∀ i,j <= i->(hi:i < j')->S (xs[i]'(by lia))=false)->vs[j']?=some v->h'.IsListIter it l (j' + 1)->(∀ c o,c≠it->s.heap.get? c=some o->h'.get? c=some o)->R (.ok (.ret v)) { s with heap:=h',toks:=tk })->
   (∀ h' tk e,s.toks <= tk->(∀ i,j <= i->(hi:i < xs.length)->S xs[i]=false)->(∀ c o,c≠it->s.heap.get? c=some o->h'.get? c=some o)->s.heap.get? e=none->(∃ ob vs,h'.get? e=some ob∧ob.cls=.type "StopIteration"∧ob.data=.fields vs∧vs[1]?=some .none)->R (.error (.ref e)) { s with heap:=h',toks:=tk })->
   codeAny (model prog w) A (.builtin "filter.__next__" ⟨[.ref flt],[]⟩) R s:=by
 intro m
 induction m with
 | zero=>
  intro j s hm hj hf hb hS hit hl hitem hfin
  have hje:j=vs.length:=by lia
  refine codeAny_builtin Qan ?_
  rw [Around.under_plainId Zz _]
  unfold Builtin.«filter.__next__»
  refine wpAny_bind (wpAny_pure ?_)
  show wpAny _ A.in1 (field (.ref flt) 0 >>= _) _ _ s
  refine wpAny_bind (wpAny_field hf rfl (x:=.ref b) rfl ?_)
  show wpAny _ A.in1 (field (.ref flt) 1 >>= _) _ _ s
  refine wpAny_bind (wpAny_field hf rfl (x:=.ref it) rfl ?_)
  refine wpAny_bind (Qgy (by simpa using hh) hit hl (by simp;lia) fun h' e he hn ht=>?_)
  exact hfin h' s.toks e (Nat.le_refl _) (fun i h1 h2=>by have:=hx.1;lia) (fun c o hc q=>he c o hc q) hn ht
 | succ m ih=>
  intro j s hm hj hf hb hS hit hl hitem hfin
  have hlt:j < vs.length:=by lia
  have hltx:j < xs.length:=by rw [← hx.1];exact hlt
  refine ob1_1 (hx.2 j xs[j] (by simp [hltx])) fun t ht=>?_
  refine codeAny_builtin Qan ?_
  rw [Around.under_plainId Zz _]
  unfold Builtin.«filter.__next__»
  refine wpAny_bind (wpAny_pure ?_)
  show wpAny _ A.in1 (field (.ref flt) 0 >>= _) _ _ s
  refine wpAny_bind (wpAny_field hf rfl (x:=.ref b) rfl ?_)
  show wpAny _ A.in1 (field (.ref flt) 1 >>= _) _ _ s
  refine wpAny_bind (wpAny_field hf rfl (x:=.ref it) rfl ?_)
  refine wpAny_bind (Qbu hit hl (x:=.str xs[j] t) (by simpa using ht) fun h₁ hit1 hs1=>?_)
  have hb1:h₁.get? b=some (Qa0 a):=(hs1.2 b n2).trans hb
  have hf1:h₁.get? flt=some (Qdd b it):=(hs1.2 flt n1).trans hf
  have hS1:h₁.SetOf (strKind prog w) a S n:=by
   refine ob4_2 hS fun o es ep t ho rest=>?_
   exact in4_2 o es ep t ((hs1.2 a n3).trans ho) rest
  have hl1:h₁.IsList l (List.toArray vs):=by
   refine ob1_2 hl fun o ho r=>?_
   exact in1_2 o ((hs1.2 l n4).trans ho) r
  show wpAny _ A.in1 ((holding [Value.str xs[j] t] (do
   if (Value.ref b == Value.none || Value.ref b == Value.type "bool")=true then (do rule "filter.__next__.own-truth";truthy (Value.str xs[j] t))
   else (do let good ← call (.ref b) [Value.str xs[j] t];holding [good] (truthy good)))) >>= _) _ _ _
  refine wpAny_bind (wpAny_holding ?_)
  rw [if_neg (show ¬ ((Value.ref b == Value.none || Value.ref b == Value.type "bool")=true) from Bool.false_ne_true)]
  refine wpAny_bind (Qkb (s:={ s with heap:=h₁ }) hb1 hS1 (wpAny_holding (wpAny_truthy_bool ?_)))
  cases hk:S xs[j] with
  | true=>
   rw [if_pos rfl]
   exact wpAny_pure (hitem j h₁ _ _ (Nat.le_succ _) (Nat.le_refl _) hltx hk (fun i h1 h2=>by lia) ht hit1 fun c o hc q=>(hs1.2 c hc).trans q)
  | false=>
   rw [if_neg Bool.false_ne_true]
   refine wpAny_pure ⟨plainId_quiet Zz _,ih (j + 1) { s with heap:=h₁,toks:=s.toks + 1 } (congrArg Nat.pred hm) hlt hf1 hb1 hS1 hit1 hl1 ?_ ?_⟩
   ·intro j' h' tk' v h0 h1 h2 h3 h4 h5 h6 h7
    refine hitem j' h' tk' v (Nat.le_trans (Nat.le_succ _) h0) (by lia) h2 h3 (fun i hi1 hi2=>?_) h5 h6 fun c o hc q=>h7 c o hc ((hs1.2 c hc).trans q)
    by_cases hij:i=j
    ·subst hij;exact hk
    ·exact h4 i (by lia) hi2
   ·intro h' tk' e h0 h1 h2 h3 h4
    have hen:s.heap.get? e=none:=by
     have h3':h₁.get? e=none:=h3
     cases q:s.heap.get? e with
     | none=>rfl
     | some o=>
      by_cases hei:e=it
      ·subst hei
       refine ob1_2 hit1 fun o' ho' _=>?_
       rw [ho'] at h3';exact noS h3'
      ·have:=(hs1.2 e hei).trans q
       rw [h3'] at this;exact nSo this
    refine hfin h' tk' e (Nat.le_trans (Nat.le_succ _) h0) (fun i hi1 hi2=>?_) (fun c o hc q=>h2 c o hc ((hs1.2 c hc).trans q)) hen h4
    by_cases hij:i=j
    ·subst hij;exact hk
    ·exact h1 i (by lia) hi2
end
section
open PySem.AutoSeq1 (wpAny_loadPart')
namespace F
theorem Qdi:Slot "filter" "__init__" "object.__init__":=
 .of (owner:="object") (n:="__init__") (by rw [typeLookup_type,builtinLookup_eq_fast];kernel_rfl) dk dk dk
  (by first | exact .inl dk | exact .inr dk) (by rw [isSubtype_type];kernel_rfl)
theorem slot_filter_iter:Slot "filter" "__iter__" "filter.__iter__":=
 .of (owner:="filter") (n:="__iter__") (by rw [typeLookup_type,builtinLookup_eq_fast];kernel_rfl) dk dk dk
  (by first | exact .inl dk | exact .inr dk) (by rw [isSubtype_type];kernel_rfl)
theorem slot_filter_next:Slot "filter" "__next__" "filter.__next__":=
 .of (owner:="filter") (n:="__next__") (by rw [typeLookup_type,builtinLookup_eq_fast];kernel_rfl) dk dk dk
  (by first | exact .inl dk | exact .inr dk) (by rw [isSubtype_type];kernel_rfl)
theorem args_filter_iter_1(a:Value):argsOk "filter.__iter__" ⟨[a],[]⟩:=by unfold argsOk;kernel_rfl
theorem args_filter_next_1(a:Value):argsOk "filter.__next__" ⟨[a],[]⟩:=by unfold argsOk;kernel_rfl
theorem entry_filter_iter:entryFor table "filter.__iter__"=some Builtin.«dict_keyiterator.__iter__»:=
 entryFor_alias (id':="dict_keyiterator.__iter__") (by kernel_rfl) (by first | rfl | decide +kernel | (unfold String.splitOn;simp +decide [String.splitOnAux])) dk (by kernel_rfl)
theorem Qfv:mroOf (.type "filter")=pure [.type "filter",.type "object"]:=by rw [mroOf_type];kernel_rfl
theorem Qcy:typeLookup (.type "filter") "__new__"=pure (some (.builtin "filter.__new__")):=by rw [typeLookup_type,builtinLookup_eq_fast];kernel_rfl
theorem called_filter:TypeCalled "filter" "filter.__new__" "object.__init__":=
 ⟨by decide +kernel,by decide +kernel,⟨_,_,Qfv⟩,madeBy_type Qfv Qcy dk,by decide +kernel,by rw [isSubtype_type];kernel_rfl,Qdi⟩
theorem typeCall_filter(a b:Value):checkTypeCall "filter" ⟨[a,b],[]⟩=pure ():=by kernel_rfl
theorem newCall_filter(a b:Value):checkBuiltinCall "filter.__new__" ⟨[.type "filter",a,b],[]⟩=pure ():=by kernel_rfl
theorem entry_filter_new:entryFor table "filter.__new__"=some Builtin.«filter.__new__»:=entryFor_of_tree (by kernel_rfl)
theorem sub_filter:isSubtype (.type "filter") (.type "filter")=pure true:=by rw [isSubtype_type];kernel_rfl
theorem filter_no_len:typeLookup (.type "filter") "__len__"=pure none:=by rw [typeLookup_type,builtinLookup_eq_fast];kernel_rfl
theorem filter_no_hint:typeLookup (.type "filter") "__length_hint__"=pure none:=by rw [typeLookup_type,builtinLookup_eq_fast];kernel_rfl
end F
theorem Qdl(b l:Addr)(items:Array Value)(n:Nat)(dct:Option Addr)(sl:Array (Option Value)):
  Meets (Builtin.«filter.__new__» ⟨[.type "filter",.ref b,.ref l],[]⟩) (fun _ R s=>s.heap.get? l=some { cls:=.type "list",dict:=dct,data:=.seq items n,slots:=sl }∧
   R (.ok (.ret (.ref (s.heap.push { cls:=.type "list_iterator",data:=.fields #[.ref l,.int 0 0] }).objs.size)))
    { s with heap:=(s.heap.push { cls:=.type "list_iterator",data:=.fields #[.ref l,.int 0 0] }).push (Qdd b s.heap.objs.size) }):=
 .of_wp fun prog w A R s h=>by
  obtain ⟨hp,g,d,tk,os⟩:=s;refine Qx h fun hl h=>?_
  have hsub:=F.sub_filter
  have hL:Heap.IsList (Shared.heap ⟨hp,g,d,tk,os⟩) l items:=⟨_,hl,rfl,n,rfl⟩
  wp_walk using wpAny_loadPart' hl,wpAny_pyIter_list hL
  exact in1_2 _ rfl h
section
variable {prog:Program}{w:World}{A:Around}{E:Value->Shared->Prop}{s:Shared}
theorem Qka{b l:Addr}{items:Array Value}{Q:Value->Shared->Prop}(hL:s.heap.IsList l items)
  (h:Q (.ref (s.heap.objs.size + 1)) { s with heap:=(s.heap.push { cls:=.type "list_iterator",data:=.fields #[.ref l,.int 0 0] }).push (Qdd b s.heap.objs.size) }):
  wpAny (model prog w) A (call (.type "filter") [.ref b,.ref l]) Q E s:=by
 refine ob1_3 hL ?_;rintro ⟨c,dct,dt,sl⟩ hl hc ⟨n,hd⟩
 replace hc:c=.type "list":=hc
 replace hd:dt=.seq items n:=hd
 subst hc hd
 refine callType_new F.called_filter (by decide) (F.typeCall_filter _ _) (F.newCall_filter _ _) (fun obj=>PySem.F.args_object_init_3 obj _ _) F.entry_filter_new (Qdl b l items n dct sl) ⟨hl,?_⟩
 have hz:(s.heap.push { cls:=.type "list_iterator",data:=.fields #[.ref l,.int 0 0] }).objs.size=s.heap.objs.size + 1:=Heap.size_push ..
 show _∧_
 rw [hz]
 exact ⟨⟨_,by rw [← hz];exact Heap.get?_push_size _ rfl,rfl⟩,h⟩
noncomputable def FltSt(prog:Program)(w:World)(flt b a it l:Addr)(vs:List Value)(xs:List Str)(S:Str->Bool)(n:Nat)(i:Nat)(s:Shared):Prop:=
 ∃ j,j <= vs.length∧((xs.take j).filter S).length=i∧s.heap.get? flt=some (Qdd b it)∧s.heap.get? b=some (Qa0 a)∧s.heap.SetOf (strKind prog w) a S n∧s.heap.IsListIter it l j∧s.heap.IsList l (List.toArray vs)
noncomputable def FltP(vs:List Value)(xs:List Str)(S:Str->Bool)(i:Nat)(v:Value):Prop:=∃ x t,(xs.filter S)[i]?=some x∧v=.str x t
theorem Qde{xs:List Str}{S:Str->Bool}{j j':Nat}(h1:j <= j')(hj:j' < xs.length)(hS:S xs[j']=true)(hno:∀ i,j <= i->(hi:i < j')->S (xs[i]'(by lia))=false):
  (xs.take (j' + 1)).filter S=(xs.take j).filter S ++ [xs[j']]:=by
 have e1:xs.take (j' + 1)=xs.take j' ++ [xs[j']]:=by rw [List.take_add_one,List.getElem?_eq_getElem hj];rfl
 have e2:(xs.take j').filter S=(xs.take j).filter S:=by
  have:∀ d,j + d <= j'->(xs.take (j + d)).filter S=(xs.take j).filter S:=by
   intro d
   induction d with
   | zero=>intro _;rfl
   | succ d ih=>
    intro hd
    have hlt:j + d < xs.length:=by lia
    have e3:xs.take (j + (d + 1))=xs.take (j + d) ++ [xs[j + d]]:=by rw [← Nat.add_assoc,List.take_add_one,List.getElem?_eq_getElem hlt];rfl
    rw [e3,List.filter_append,ih (by lia),List.filter_cons_of_neg (by rw [hno (j + d) (by lia) (by lia)];simp)]
    simp
  have:=this (j' - j) (by lia)
  rwa [show j + (j' - j)=j' by lia] at this
 rw [e1,List.filter_append,e2,List.filter_cons_of_pos hS];rfl
theorem Qj3{xs:List Str}{S:Str->Bool}{j:Nat}(hno:∀ i,j <= i->(hi:i < xs.length)->S xs[i]=false):xs.filter S=(xs.take j).filter S:=by
 rw (occs:=.pos [1]) [← List.take_append_drop j xs]
 rw [List.filter_append]
 have:(xs.drop j).filter S=[]:=by
  rw [List.filter_eq_nil_iff]
  intro x hx
  refine ob1_1 (List.getElem_of_mem hx) ?_;rintro i ⟨hi,rfl⟩
  rw [List.getElem_drop]
  have hi':i < xs.length - j:=by simpa using hi
  rw [hno (j + i) (by lia) (by lia)];simp
 rw [this,List.append_nil]
theorem Qhp{flt b a it l:Addr}{vs:List Value}{xs:List Str}{S:Str->Bool}{n:Nat}(hh:A.handled=none)(hx:Zv vs xs)(n1:flt≠it)(n2:b≠it)(n3:a≠it)(n4:l≠it):
  WalksS prog w A flt [flt,b,a,it,l] [it] (fun g g'=>g'=g) (xs.filter S).length (FltP vs xs S) (FltSt prog w flt b a it l vs xs S n) where
 sub:=fun c hc=>by simp at hc;simp [hc]
 grefl:=fun _=>rfl
 gtrans:=fun _ _ _ h h'=>by rw [h',h]
 frame:=fun i s h' tk st _ hk=>by
  refine ob1_7 st fun j h1 h2 h3 h4 h5 h6 h7=>?_
  refine in1_7 j h1 h2 (hk flt (by simp) _ h3) (hk b (by simp) _ h4) ?_ (h6.at fun o e=>hk it (by simp) o e) (h7.at fun o e=>hk l (by simp) o e)
  refine ob4_2 h5 fun o es ep t ho rest=>?_
  exact in4_2 o es ep t (hk a (by simp) o ho) rest
 item:=fun i s Q E hi st hQ=>by
  refine ob1_7 st fun j h1 h2 h3 h4 h5 h6 h7=>?_
  have hT:s.TypeIs (.ref flt) "filter":=⟨_,h3,rfl⟩
  unfold pyNext
  refine wpAny_bind (wpAny_attempt (wpAny_callSpecial?_slot (name:=Str.ofString "__next__") hT F.slot_filter_next (wpAny_call (codeAny_of_tree ?_))))
  show wpAny _ A.in1 (do checkBuiltinCall "filter.__next__" ⟨[.ref flt],[]⟩;again (.builtin "filter.__next__" ⟨[.ref flt],[]⟩)) _ _ s
  refine wpAny_bind (F.slot_filter_next.check _ _ _ _ _ _ _ _ hT (F.args_filter_next_1 _) (wpAny_pure ⟨plainId_quiet Zz _,?_⟩))
  refine Qes (S:=S) (n:=n) (by simpa using hh) hx n1 n2 n3 n4 (vs.length - j) j s rfl h1 h3 h4 h5 h6 h7 ?_ ?_
  ·intro j' h' tk v ht hj hjl hS hno hv hit hk
   have hsp:=Qde hj hjl hS hno
   refine ob1_1 (hx.2 j' xs[j'] (by simp [hjl])) fun t hvt=>?_
   rw [hv] at hvt
   obtain rfl:=Qo hvt
   refine wpAny_pure (hQ _ _ ⟨xs[j'],t,?_,rfl⟩ ⟨j' + 1,by rw [hx.1];lia,?_,hk flt _ n1 h3,hk b _ n2 h4,?_,hit,h7.at fun o e=>hk l o n4 e⟩ ⟨fun c o hc e=>hk c o (by simpa using hc) e,rfl,rfl,rfl,ht⟩)
   ·have e1:xs.filter S=((xs.take j).filter S ++ [xs[j']]) ++ (xs.drop (j' + 1)).filter S:=by
     rw [← hsp,← List.filter_append,List.take_append_drop]
    rw [e1,List.append_assoc,← h2]
    simp
   ·rw [hsp,List.length_append,h2];rfl
   ·refine ob4_2 h5 fun o es ep t ho rest=>?_
    exact in4_2 o es ep t (hk a o n3 ho) rest
  ·intro h' tk e _ hno _ _ _
   have:=Qj3 hno
   rw [this] at hi
   lia
 done:=fun s Q E st hQ=>by
  refine ob1_7 st fun j h1 h2 h3 h4 h5 h6 h7=>?_
  have hT:s.TypeIs (.ref flt) "filter":=⟨_,h3,rfl⟩
  unfold pyNext
  refine wpAny_bind (wpAny_attempt (wpAny_callSpecial?_slot (name:=Str.ofString "__next__") hT F.slot_filter_next (wpAny_call (codeAny_of_tree ?_))))
  show wpAny _ A.in1 (do checkBuiltinCall "filter.__next__" ⟨[.ref flt],[]⟩;again (.builtin "filter.__next__" ⟨[.ref flt],[]⟩)) _ _ s
  refine wpAny_bind (F.slot_filter_next.check _ _ _ _ _ _ _ _ hT (F.args_filter_next_1 _) (wpAny_pure ⟨plainId_quiet Zz _,?_⟩))
  refine Qes (S:=S) (n:=n) (by simpa using hh) hx n1 n2 n3 n4 (vs.length - j) j s rfl h1 h3 h4 h5 h6 h7 ?_ ?_
  ·intro j' h' tk v ht hj hjl hS hno hv hit hk
   have hsp:=Qde hj hjl hS hno
   have e1:xs.filter S=((xs.take j).filter S ++ [xs[j']]) ++ (xs.drop (j' + 1)).filter S:=by
    rw [← hsp,← List.filter_append,List.take_append_drop]
   have:=congrArg List.length e1
   simp only [List.length_append,List.length_cons,List.length_nil] at this
   lia
  ·intro h' tk e ht _ hk _ hexc
   refine ob2_3 hexc fun ob us he hc _=>?_
   refine wpAny_bind (wpAny_isInstance (T:="StopIteration") (b:=true) ⟨ob,he,hc⟩ isSubtype_stop ?_)
   exact wpAny_pure (hQ _ ⟨fun c o hc e=>hk c o (by simpa using hc) e,rfl,rfl,rfl,ht⟩)
 self:=fun i s Q E st h=>by
  refine ob1_7 st fun j h1 h2 h3 h4 h5 h6 h7=>?_
  have hT:s.TypeIs (.ref flt) "filter":=⟨_,h3,rfl⟩
  refine wpAny_pyIter_slot hT F.slot_filter_iter (wpAny_call_entry F.slot_filter_iter hT F.entry_filter_iter ?_ (F.args_filter_iter_1 _))
  show wpAny _ _ (ret (.ref flt)) _ _ s
  exact wpAny_pure ⟨_,rfl,"filter",_,hT,F.slot_filter_next.lookup,h⟩
end
end
section
variable {prog:Program}{w:World}{A:Around}{s:Shared}{R:Result->Shared->Prop}
variable {I:Addr}{fp wr:List Addr}{Gr:Array GenState->Array GenState->Prop}{n:Nat}{P:Nat->Value->Prop}{St:Nat->Shared->Prop}
theorem Qml(W:WalksS prog w A.in1 I fp wr Gr n P St)(hT:∀ i s,St i s->s.TypeIs (.ref I) "filter")(S:Addr)(c0:Nat)(hst:St 0 s)(hSf:S ∉ fp)(hI:I ∈ fp)
  (hS:s.heap.get? S=some { cls:=.type "list",data:=.seq #[] c0 })(hn:n <= sizeLine)
  (hR:∀ s' acc' c',Moved (S :: wr) Gr s s'->s'.heap.get? S=some { cls:=.type "list",dict:=none,data:=.seq acc' c',slots:=#[] }->ItemsOf P acc' n->R (.ok (.ret .none)) s'):
  wpAny (model prog w) A.in1 (Builtin.List.listExtendWith (.ref S) (.ref I) .none)
   (fun fin s'=>match fin with | .done f=>R (.ok f) s' | .again c'=>c'.quiet=true∧codeAny (model prog w) A c' R s') (fun e s'=>R (.error e) s') s:=by
 have hSI:S≠I:=fun e=>hSf (e ▸ hI)
 unfold Builtin.List.listExtendWith
 refine Qg (fun K k=>wpAny_typeOf (hT 0 _ hst) k) ?_
 have h1:Builtin.List.listSameRef (.ref S) (.ref I)=false:=by simp [Builtin.List.listSameRef,hSI]
 have h2:(Value.type "filter" == Value.type "list")=false:=by decide
 have h3:(Value.type "filter" == Value.type "tuple")=false:=by decide
 simp only [h1,h2,h3,Bool.or_false,Bool.false_eq_true,if_false]
 refine Qg (fun K k=>W.self 0 _ _ _ hst k) ?_
 refine wpAny_bind (wpAny_holding ?_)
 unfold Builtin.List.listLengthHint
 refine Qg (fun K k=>wpAny_specialOf (hT 0 _ hst) F.filter_no_len k) ?_
 show wpAny _ A.in1 (specialOf (Value.ref I) (Str.ofString "__length_hint__") >>= _) _ _ _
 refine Qg (fun K k=>wpAny_specialOf (hT 0 _ hst) F.filter_no_hint k) ?_
 refine wpAny_pure ?_
 show wpAny _ A.in1 (rule "list.extend.makes-room" >>= fun _=>Builtin.List.listTouch (.ref S) >>= fun _=>
  again (.builtin "list.extend.loop" ⟨[.ref S,.ref I,.none],[]⟩)) _ _ _
 refine wpAny_bind (wpAny_rule ?_)
 refine wpAny_bind ?_
 show wpAny _ A.in1 (updateSeq S (·.push .none) >>= fun _=>updateSeq S (·.pop)) _ _ _
 refine Qg (fun K k=>wpAny_updateSeq hS rfl k) ?_
 have hS2:=Heap.get?_update_self (Obj.mapSeq (·.push Value.none)) hS rfl
 refine wpAny_updateSeq (hz:=by seq_fits) hS2 rfl ?_
 have hS3:=Heap.get?_update_self (Obj.mapSeq (·.pop)) hS2 rfl
 have oth:∀ b o,b≠S->s.heap.get? b=some o->((s.heap.update S (Obj.mapSeq (·.push Value.none))).update S (Obj.mapSeq (·.pop))).get? b=some o:=
  fun b o hb e=>(Heap.get?_update_other _ _ (Ne.symm hb)).trans ((Heap.get?_update_other _ _ (Ne.symm hb)).trans e)
 refine wpAny_pure ⟨plainId_quiet PySem.F.plain_extend_loop _,codeAny_extend_loopS W hn _ hSf _ n 0 _ _ _ rfl (Nat.zero_le _)
  (W.frame 0 s _ s.toks hst (Nat.le_refl _) fun b hb o e=>oth b o (fun h=>hSf (h ▸ hb)) e) hS3 (ItemsOf.nil P) fun s' acc' c' hm hS' hacc=>?_⟩
 exact hR s' acc' c' (Moved.trans W.gtrans ((Moved.refl W.grefl).then_heap (Nat.le_refl _) fun b o hb e=>oth b o (fun h=>hb (h ▸ List.mem_cons_self)) e) hm) hS' hacc
end
section
variable {prog:Program}{w:World}{A:Around}{E:Value->Shared->Prop}{s:Shared}
variable {I:Addr}{fp wr:List Addr}{Gr:Array GenState->Array GenState->Prop}{n:Nat}{P:Nat->Value->Prop}{St:Nat->Shared->Prop}
theorem list_flt{Q:Value->Shared->Prop}(W:WalksS prog w A.in1.in1 I fp wr Gr n P St)(hT:∀ i s,St i s->s.TypeIs (.ref I) "filter")(hst:St 0 s)(hfp:∀ b ∈ fp,b < s.heap.objs.size)(hI:I ∈ fp)(hn:n <= sizeLine)
  (hQ:∀ s' acc' c',Moved (s.heap.objs.size :: wr) Gr { s with heap:=s.heap.push { cls:=.type "list",data:=.seq #[] } } s'->
   s'.heap.get? s.heap.objs.size=some { cls:=.type "list",dict:=none,data:=.seq acc' c',slots:=#[] }->ItemsOf P acc' n->Q (.ref s.heap.objs.size) s'):
  wpAny (model prog w) A (call (.type "list") [.ref I]) Q E s:=by
 have hSf:s.heap.objs.size ∉ fp:=fun hm=>Nat.lt_irrefl _ (hfp _ hm)
 refine callType_codes (Q₁:=fun obj s₁=>obj=.ref s.heap.objs.size∧s₁={ s with heap:=s.heap.push { cls:=.type "list",data:=.seq #[] } }) PySem.F.called_list (PySem.F.typeCall_list_1 _) PySem.F.entry_list_init
  (code_list_new _ ⟨rfl,rfl⟩) fun obj s₁ h1=>?_
 obtain ⟨rfl,rfl⟩:=h1
 have hS:(s.heap.push { cls:=.type "list",data:=.seq #[] }).get? s.heap.objs.size=some { cls:=.type "list",data:=.seq #[] }:=Heap.get?_push_size _ rfl
 refine Jw ⟨_,hS,rfl⟩ (PySem.F.args_list_init_2 _ _) ?_
 have st1:=W.frame 0 s (s.heap.push { cls:=.type "list",data:=.seq #[] }) s.toks hst (Nat.le_refl _) fun b _ o e=>Heap.get?_push_of_some _ e
 show wpAny _ A.in1.in1 (do let old ← Builtin.List.listItems (.ref s.heap.objs.size);Builtin.List.listUpdate (.ref s.heap.objs.size) (fun _=>#[]);letGo old.toList.reverse;Builtin.List.listExtendWith (.ref s.heap.objs.size) (.ref I) .none) _ _ _
 refine wpAny_bind ?_
 unfold Builtin.List.listItems
 refine wpAny_bind (wpAny_seqItems hS rfl (wpAny_pure ?_))
 show wpAny _ A.in1.in1 (updateSeq s.heap.objs.size (fun _=>#[]) >>= fun _=>letGo (#[]:Array Value).toList.reverse >>= fun _=>Builtin.List.listExtendWith (.ref s.heap.objs.size) (.ref I) .none) _ _ _
 refine wpAny_bind (wpAny_updateSeq hS rfl ?_)
 have hS2:=Heap.get?_update_self (Obj.mapSeq (fun _=>(#[]:Array Value))) hS rfl
 have oth:∀ b o,b≠s.heap.objs.size->(s.heap.push { cls:=.type "list",data:=.seq #[] }).get? b=some o->((s.heap.push { cls:=.type "list",data:=.seq #[] }).update s.heap.objs.size (Obj.mapSeq (fun _=>(#[]:Array Value)))).get? b=some o:=
  fun b o hb e=>(Heap.get?_update_other _ _ (Ne.symm hb)).trans e
 refine wpAny_bind (wpAny_letGo ?_)
 refine Qml W hT _ _ (W.frame 0 _ _ s.toks st1 (Nat.le_refl _) fun b hb o e=>oth b o (fun h=>hSf (h ▸ hb)) e) hSf hI hS2 hn fun s' acc' c' hm hS' hacc=>?_
 exact ⟨rfl,hQ s' acc' c' (Moved.trans W.gtrans ((Moved.refl W.grefl).then_heap (Nat.le_refl _) fun b o hb e=>oth b o (fun h=>hb (h ▸ List.mem_cons_self)) e) hm) hS' hacc⟩
theorem Qjw{b a it l flt:Addr}{vs:List Value}{xs:List Str}{S:Str->Bool}{m:Nat}{Q:Value->Shared->Prop}(hh:A.handled=none)(hx:Zv vs xs)(hlen:xs.length <= 1000)(n1:flt≠it)(n2:b≠it)(n3:a≠it)(n4:l≠it)
  (hf:s.heap.get? flt=some (Qdd b it))(hb:s.heap.get? b=some (Qa0 a))(hS:s.heap.SetOf (strKind prog w) a S m)(hit:s.heap.IsListIter it l 0)(hl:s.heap.IsList l (List.toArray vs))
  (h:∀ h' tk D us,s.heap.get? D=none->h'.PlainList D (List.toArray us)->Zv us (xs.filter S)->(∀ c o,c≠it->s.heap.get? c=some o->h'.get? c=some o)->Q (.ref D) { s with heap:=h',toks:=tk }):
  wpAny (model prog w) A (call (.type "list") [.ref flt]) Q E s:=by
 have W:=Qhp (prog:=prog) (w:=w) (A:=A.in1.in1) (S:=S) (n:=m) (by simpa using hh) hx n1 n2 n3 n4
 have lt:∀ {c o},s.heap.get? c=some o->c < s.heap.objs.size:=fun e=>Heap.lt_size e
 refine list_flt W (fun i s st=>by refine ob1_4 st fun j _ _ h3 _=>?_;exact in1_2 _ h3 rfl) ⟨0,Nat.zero_le _,by simp,hf,hb,hS,hit,hl⟩ (fun c hc=>?_) (by simp) (by rw [sizeLine_eq];have:=List.length_filter_le S xs;lia) ?_
 ·simp only [List.mem_cons,List.mem_singleton,List.not_mem_nil,or_false] at hc
  refine ob1_2 (id hit) fun oi hoi _=>?_
  refine ob1_2 (id hl) fun ol hol _=>?_
  refine ob4_2 (id hS) fun os es ep t hos _=>?_
  rcases hc with rfl | rfl | rfl | rfl | rfl
  ·exact lt hf
  ·exact lt hb
  ·exact lt hos
  ·exact lt hoi
  ·exact lt hol
 ·intro s' acc' c' hm hD hacc
  obtain ⟨h',g',d',tk',os'⟩:=s'
  have eg:g'=s.gens:=hm.gens
  have ed:d'=s.drawn:=hm.drawn
  have eo:os'=s.os:=hm.os
  subst eg;subst ed;subst eo
  refine h h' tk' s.heap.objs.size acc'.toList (Heap.get?_none_of_le (Nat.le_refl _)) ⟨c',by simpa using hD⟩ ⟨by simpa using hacc.1,fun j x hj=>?_⟩ fun c o hc e=>?_
  ·have hjl:j < (xs.filter S).length:=by
    rcases Nat.lt_or_ge j (xs.filter S).length with q | q
    ·exact q
    ·rw [List.getElem?_eq_none q] at hj;exact nSo hj
   have hja:j < acc'.size:=by rw [hacc.1];exact hjl
   refine ob2_2 (hacc.2 j acc'[j] (by simp [hja])) fun x' t hx' hv=>?_
   rw [hj] at hx';obtain rfl:=Qo hx'
   exact ⟨t,by rw [Array.getElem?_toList,Array.getElem?_eq_getElem hja,hv]⟩
  ·refine hm.heap c o ?_ (Heap.get?_push_of_some _ e)
   simp only [List.mem_cons,List.mem_singleton,List.not_mem_nil,or_false,not_or]
   exact ⟨Nat.ne_of_lt (Heap.lt_size e),hc⟩
end
noncomputable def keepD(a b:D):Option D:=(aL a).bind fun a=>(aL b).bind fun b=>(Zq a).bind fun xs=>(Zq b).bind fun ys=>if xs.length <= 1000∧ys.length <= 1000 then some (Qz (xs.filter fun t=>decide (t ∈ ys))) else none
theorem keepD_l(a b:List PyData):keepD (.data (.list a)) (.data (.list b))=(Zq a).bind fun xs=>(Zq b).bind fun ys=>if xs.length <= 1000∧ys.length <= 1000 then some (Qz (xs.filter fun t=>decide (t ∈ ys))) else none:=rfl
theorem Qbh{h:Heap}{W:Addr->Prop}:∀ {us:List Value}{xs:List Str},Zv us xs->RepDs h W us (xs.map .str)
 | [],[],_=>.nil
 | [],x :: xs,h=>by have:=h.1;simp at this
 | u :: us,[],h=>by have:=h.1;simp at this
 | u :: us,x :: xs,h=>by
  refine ob1_1 (h.2 0 x rfl) fun t ht=>?_
  have e:u=.str x t:=by simpa using ht
  subst e
  exact .cons (RepD.str x t) (Qbh ⟨by simpa using h.1,fun j y hj=>by simpa using h.2 (j + 1) y (by simpa using hj)⟩)
section
variable {G:Amb}[Qab G] {n:Nat}{V:Addr->Prop}{ks:Qi}
theorem ev_keep{x1 x2:Expr}{np np2 np3 p1 p2 p3 pos:Pos}{f1 f2:Qf->Option D}(AG:Qv G)(FO:Zp G)(hk1:ks.lookup ("list":Str)=some .globalImplicit)(hk2:ks.lookup ("filter":Str)=some .globalImplicit)(hk3:ks.lookup ("set":Str)=some .globalImplicit)
  (hs1:∀ env,starEach [.Call (.Name "filter" np2) [.Attribute (.Call (.Name "set" np3) [x2] [] p3) "__contains__" p2,x1] [] p1] env=[(false,eval (.Call (.Name "filter" np2) [.Attribute (.Call (.Name "set" np3) [x2] [] p3) "__contains__" p2,x1] [] p1) env)])
  (hs2:∀ env,starEach [.Attribute (.Call (.Name "set" np3) [x2] [] p3) "__contains__" p2,x1] env=[(false,eval (.Attribute (.Call (.Name "set" np3) [x2] [] p3) "__contains__" p2) env),(false,eval x1 env)])
  (hs3:∀ env,starEach [x2] env=[(false,eval x2 env)])
  (he:∀ env,eval (.Attribute (.Call (.Name "set" np3) [x2] [] p3) "__contains__" p2) env=(do
   let o ← eval (.Call (.Name "set" np3) [x2] [] p3) env
   standAt p2.atName
   let r ← holding [o] (getAttr o "__contains__" true)
   letTemporaryGo (.Call (.Name "set" np3) [x2] [] p3) o r
   pure r))
  (h1:Zo G n V ks x1 f1) (h2:Zo G n V ks x2 f2):
  Zo G n V ks (.Call (.Name "list" np) [.Call (.Name "filter" np2) [.Attribute (.Call (.Name "set" np3) [x2] [] p3) "__contains__" p2,x1] [] p1] [] pos) (fun ρ=>(f2 ρ).bind fun b=>(f1 ρ).bind fun a=>keepD a b):=by
 intro A env s W ρ d Q E c hq h
 simp only [Option.bind_eq_some_iff] at hq;replace hq:=hq
 refine ob1_2 hq ?_;intro b hb z0;refine ob1_2 z0 fun a ha hd=>?_
 unfold keepD at hd
 refine ob2_3 (ivL2 hd) ?_;rintro la lb rfl rfl hd
 simp only [Option.bind_eq_some_iff] at hd;replace hd:=hd
 refine ob1_2 hd ?_;intro xs hxs z0;refine ob1_2 z0 fun ys hys hd=>?_
 split at hd
 ·rename_i hz
  obtain rfl:=Qo hd
  rw [Xh hxs] at ha;replace ha:=ha
  rw [Xh hys] at hb
  refine wpAny_Call_NameR (Qh AG c.good.base c.ok hk1 (FO _ dk) PyProof.Rows.Boot.«list» dk dk ?_)
  rw [hs1]
  refine PySem.callWith_type1 ?_;refine Zf ?_;intro Q0 E0
  refine wpAny_Call_NameR (Qh AG c.good.base c.ok hk2 (FO _ dk) PyProof.Rows.Boot.«filter» dk dk ?_)
  rw [hs2]
  refine PySem.callWith_type (by rfl) (Calls.evalArgs_plain (Calls.spliced_cons (Attribute_any_ ?_ (he env))))
  refine wpAny_Call_NameR (Qh AG c.good.base c.ok hk3 (FO _ dk) PyProof.Rows.Boot.«set» dk dk ?_);refine Zf ?_;intro Q0 E0
  rw [hs3]
  refine PySem.callWith_type1 (h2 A env s W ρ _ _ E c hb fun v₁ s₁ k1 r₁=>?_)
  refine ob2_4 (RepD.list_iff r₁) ?_;rintro l2 us2 rfl wl2 ll2 rl2
  have hx2:=Qy rl2
  have c1:=c.step k1
  refine Qhi c1.good.cold ll2 hx2 (by have:=hx2.1;unfold scanBound;lia) fun h₂ tk2 m hS2 hk₂=>?_
  refine ob4_4 (id hS2) fun so ses sep stb hso hse hsd hsr=>?_
  obtain ⟨sc,sd,sdt,ssl⟩:=so
  refine Jo hse fun e1 e2 e3=>?_
  simp only at e1 e2 e3 hsd
  subst e1 e2 e3 hsd
  have k2:Step G V s₁ { s₁ with heap:=h₂,toks:=tk2 }:=.of_heap hk₂
  refine Qdm (s:={ s₁ with heap:=h₂,toks:=tk2 }) hso fun tk3=>?_;refine Zf ?_;intro Q0 E0
  have k3:Step G V { s₁ with heap:=h₂,toks:=tk2 } { s₁ with heap:=h₂.push (Qa0 s₁.heap.objs.size),toks:=tk3 }:=.of_heap (s:={ s₁ with heap:=h₂,toks:=tk2 }) fun b o e=>Heap.get?_push_of_some _ e
  have c3:=(c1.step k2).step k3
  refine Calls.spliced_cons (h1 A env _ W ρ _ _ E c3 ha fun v₄ s4 k4 r₄=>Calls.spliced_nil ?_)
  refine ob2_4 (RepD.list_iff r₄) ?_;rintro l1 us1 rfl wl1 ll1 rl1
  have hx1:=Qy rl1
  refine Qka ll1 ?_
  have newA:s.heap.get? s₁.heap.objs.size=none:=k1.get_none (Heap.get?_none_of_le (Nat.le_refl _))
  have nVa:¬ V s₁.heap.objs.size:=(Jb c newA).2.2.1
  have newB:s.heap.get? h₂.objs.size=none:=k1.get_none (k2.get_none (Heap.get?_none_of_le (Nat.le_refl _)))
  have nVb:¬ V h₂.objs.size:=(Jb c newB).2.2.1
  have ea:s4.heap.get? s₁.heap.objs.size=some { cls:=.type "set",dict:=none,data:=.set ses sep stb,slots:=#[] }:=k4.exact (Heap.get?_push_of_some _ hso) (.inl nVa) (by show Value.type "set"≠_;decide)
  have eb:s4.heap.get? h₂.objs.size=some (Qa0 s₁.heap.objs.size):=k4.exact (Heap.get?_push_size _ rfl) (.inl nVb) (by show Value.type "builtin_function_or_method"≠_;decide)
  have lta:=Heap.lt_size ea
  have ltb:=Heap.lt_size eb
  refine ob1_2 (id ll1) fun ol el _=>?_
  have ltl:=Heap.lt_size el
  have hz4:(s4.heap.push { cls:=.type "list_iterator",data:=.fields #[.ref l1,.int 0 0] }).objs.size=s4.heap.objs.size + 1:=Heap.size_push ..
  have k5:∀ b o,s4.heap.get? b=some o->((s4.heap.push { cls:=.type "list_iterator",data:=.fields #[.ref l1,.int 0 0] }).push (Qdd h₂.objs.size s4.heap.objs.size)).get? b=some o:=fun b o e=>Heap.get?_push_of_some _ (Heap.get?_push_of_some _ e)
  refine Qjw (s:={ s4 with heap:=(s4.heap.push { cls:=.type "list_iterator",data:=.fields #[.ref l1,.int 0 0] }).push (Qdd h₂.objs.size s4.heap.objs.size) }) (S:=fun k=>decide (k ∈ ys)) (m:=m) (vs:=us1) (xs:=xs) (b:=h₂.objs.size) (a:=s₁.heap.objs.size) (it:=s4.heap.objs.size) (l:=l1) (flt:=s4.heap.objs.size + 1)
   c1.good.cold hx1 hz.1 (Nat.succ_ne_self _) (Nat.ne_of_lt ltb) (Nat.ne_of_lt lta) (Nat.ne_of_lt ltl) (by rw [← hz4];exact Heap.get?_push_size _ rfl) (k5 _ _ eb) ⟨_,ses,sep,stb,k5 _ _ ea,⟨rfl,rfl,rfl⟩,rfl,hsr⟩
   ⟨_,Heap.get?_push_of_some _ (Heap.get?_push_size _ rfl),rfl,rfl⟩ (Qs (W:=fun _=>False) ll1 (fun b o e _ _=>k5 b o e) id) ?_
  intro h6 tk6 D us nD lD hus hk6
  have k6:Step G V s4 { s4 with heap:=h6,toks:=tk6 }:=.of_heap (s:=s4) fun b o e=>hk6 b o (Nat.ne_of_lt (Heap.lt_size e)) (k5 b o e)
  have kk:=(((k1.trans k2).trans k3).trans k4).trans k6
  have newD:s4.heap.get? D=none:=by
   cases q:s4.heap.get? D with
   | none=>rfl
   | some o=>have:=k5 D o q;rw [nD] at this;exact nSo this
  have wD:¬ W D:=(c3.step k4).excl.fresh newD
  exact h _ _ kk (RepD.list wD (Heap.PlainList.isList lD) (Qbh hus))
 ·exact nSo hd
end
section
variable {G:Amb}[Qab G] {n:Nat}{V:Addr->Prop}{ks:Qi}
inductive EntR (G:Amb) (h:Heap) (W:Addr->Prop) (x dx:Addr) (e:Ent):Prop
 | mk (es:List DictEntry) (n:Nat) (vu vr vd vq:Value) (ex:h.get? x=some (instObj G.C dx)) (ed:h.get? dx=some (dictOf es n))
  (g1:getL "useragents" es=some (some vu)) (g2:getL "rulelines" es=some (some vr)) (g3:getL "delay" es=some (some vd)) (g4:getL "req_rate" es=some (some vq))
  (r1:RepD h W vu (.list (e.u.map .str))) (r2:RepD h W vr (.list (e.r.map .int))) (r3:RepD h W vd (optD e.d)) (r4:RepD h W vq (optD e.q)):EntR G h W x dx e
theorem EntR.entAt{h:Heap}{W W':Addr->Prop}{x dx:Addr}{e:Ent}(r:EntR G h W x dx e)(hW:∀ a,W' a->W a)(hx:¬ W' x)(hd:¬ W' dx):EntAt G h W' (.ref x) e:=by
 obtain ⟨es,m,vu,vr,vd,vq,a,b,g1,g2,g3,g4,r1,r2,r3,r4⟩:=r
 exact ⟨x,dx,es,m,vu,vr,vd,vq,rfl,hx,hd,a,b,g1,g2,g3,g4,r1.weak hW,r2.weak hW,r3.weak hW,r4.weak hW⟩
theorem st_attr4{A:Around}{env:Env}{s:Shared}{W:Addr->Prop}{ρ:Qf}{x dx:Addr}{k:Nat}{f:Str->Option Value}{o1 o2 o3 o4 e1 e2 e3 e4:Expr}{p1 p2 p3 p4 q1 q2 q3 q4:Pos}{f1 f2 f3 f4 g1 g2 g3 g4:Qf->Option D}{e:Ent}{rest:List Stmt}{Q:Flow->Shared->Prop}{E:Value->Shared->Prop}(AG:Qv G)(EC:Qcr G)
  (c:Cx G n V ks A env s W ρ)(hx:W x∧¬ V x)(hdx:W dx∧¬ V dx)(b0:G.h₀.get? dx=none)(hxd:x≠dx)(neL:env.locals≠dx)(neC:∀ y c,env.cells.lookup y=some c->c≠dx)(e0:EntO G s.heap x dx k f)(hk:k <= 900)
  (h1:Zo G n V ks e1 f1)(h2:Zo G n V ks e2 f2)(h3:Zo G n V ks e3 f3)(h4:Zo G n V ks e4 f4)(ho1:Zo G n V ks o1 g1)(ho2:Zo G n V ks o2 g2)(ho3:Zo G n V ks o3 g3)(ho4:Zo G n V ks o4 g4)
  (d1:f1 ρ=some (Qz e.u))(d2:f2 ρ=some (Xa e.r))(d3:f3 ρ=some (.data (optD e.d)))(d4:f4 ρ=some (.data (optD e.q)))(x1:g1 ρ=some (.raw (.ref x)))(x2:g2 ρ=some (.raw (.ref x)))(x3:g3 ρ=some (.raw (.ref x)))(x4:g4 ρ=some (.raw (.ref x)))
  (s1:swapsWith e1 (some (.Attribute o1 "useragents" p1)) q1.line env=pure false)(s2:swapsWith e2 (some (.Attribute o2 "rulelines" p2)) q2.line env=pure false)(s3:swapsWith e3 (some (.Attribute o3 "delay" p3)) q3.line env=pure false)(s4:swapsWith e4 (some (.Attribute o4 "req_rate" p4)) q4.line env=pure false)
  (h:∀ s',Step G (fun b=>V b∨b=dx) s s'->Cx G n V ks A env s' W ρ->EntR G s'.heap W x dx e->wpAny (model G.prog G.w) A (execs rest env) Q E s'):
  wpAny (model G.prog G.w) A (execs (.Assign [.Attribute o1 "useragents" p1] e1 q1 :: .Assign [.Attribute o2 "rulelines" p2] e2 q2 :: .Assign [.Attribute o3 "delay" p3] e3 q3 :: .Assign [.Attribute o4 "req_rate" p4] e4 q4 :: rest) env) Q E s:=by
 refine wpAny_execs_cons (Qa4 AG EC c hx hdx b0 hxd neL neC e0 h1 ho1 d1 x1 (by decide) (by lia) s1 fun v1 t1 k1 c1 r1 w1=>?_)
 refine wpAny_execs_cons (Qa4 AG EC c1 hx hdx b0 hxd neL neC r1 h2 ho2 d2 x2 (by decide) (by lia) s2 fun v2 t2 k2 c2 r2 w2=>?_)
 refine wpAny_execs_cons (Qa4 AG EC c2 hx hdx b0 hxd neL neC r2 h3 ho3 d3 x3 (by decide) (by lia) s3 fun v3 t3 k3 c3 r3 w3=>?_)
 refine wpAny_execs_cons (Qa4 AG EC c3 hx hdx b0 hxd neL neC r3 h4 ho4 d4 x4 (by decide) (by lia) s4 fun v4 t4 k4 c4 r4 w4=>?_)
 have sub:∀ a,V a∨a=dx->W a:=fun a ha=>ha.elim (c.excl.sub a) fun q=>q ▸ hdx.1
 have w1':=((w1.mono (k2.keepX sub)).mono (k3.keepX sub)).mono (k4.keepX sub)
 have w2':=(w2.mono (k3.keepX sub)).mono (k4.keepX sub)
 have w3':=w3.mono (k4.keepX sub)
 refine Qx r4 ?_;intro a z0;refine ob2_4 z0 fun es m b _ _ hf=>?_
 refine h t4 (((k1.trans k2).trans k3).trans k4) c4 ⟨es,m,v1,v2,v3,v4,a,b,?_,?_,?_,?_,w1',w2',w3',w4⟩
 ·rw [hf];simp [ofString_inj]
 ·rw [hf];simp [ofString_inj]
 ·rw [hf];simp [ofString_inj]
 ·rw [hf];simp [ofString_inj]
theorem Qkq{A:Around}{env:Env}{s:Shared}{W O:Addr->Prop}{ρ:Qf}{y:Str}{py np p0 q0:Pos}{o1 o2 o3 o4 e1 e2 e3 e4:Expr}{p1 p2 p3 p4 q1 q2 q3 q4:Pos}{f1 f2 f3 f4 g1 g2 g3 g4:Qf->Option D}{e:Ent}{rest:List Stmt}{Q:Flow->Shared->Prop}{E:Value->Shared->Prop}(AG:Qv G)(EC:Qcr G)
  (c:Cx G (n + 2) V ks A env s W ρ)(o:Own G ks env W O)(hke:ks.lookup ("Entry":Str)=some .globalImplicit)(hy:ks.lookup y=some .local∨ks.lookup y=some .cell)(hyd:(y == ("__classdict__":Str))=false)
  (hkeep:keepIn G.K (.ref G.C)=true)(hs0:swapsWith (.Call (.Name "Entry" np) [] [] p0) (some (.Name y py)) q0.line env=pure false)
  (h1:Zo G (n + 2) V ks e1 f1)(h2:Zo G (n + 2) V ks e2 f2)(h3:Zo G (n + 2) V ks e3 f3)(h4:Zo G (n + 2) V ks e4 f4)(ho1:Zo G (n + 2) V ks o1 g1)(ho2:Zo G (n + 2) V ks o2 g2)(ho3:Zo G (n + 2) V ks o3 g3)(ho4:Zo G (n + 2) V ks o4 g4)
  (d1:∀ x,f1 (upd ρ y (.raw (.ref x)))=some (Qz e.u))(d2:∀ x,f2 (upd ρ y (.raw (.ref x)))=some (Xa e.r))(d3:∀ x,f3 (upd ρ y (.raw (.ref x)))=some (.data (optD e.d)))(d4:∀ x,f4 (upd ρ y (.raw (.ref x)))=some (.data (optD e.q)))
  (x1:∀ x,g1 (upd ρ y (.raw (.ref x)))=some (.raw (.ref x)))(x2:∀ x,g2 (upd ρ y (.raw (.ref x)))=some (.raw (.ref x)))(x3:∀ x,g3 (upd ρ y (.raw (.ref x)))=some (.raw (.ref x)))(x4:∀ x,g4 (upd ρ y (.raw (.ref x)))=some (.raw (.ref x)))
  (s1:∀ env,EnvOk G V ks env->swapsWith e1 (some (.Attribute o1 "useragents" p1)) q1.line env=pure false)(s2:∀ env,EnvOk G V ks env->swapsWith e2 (some (.Attribute o2 "rulelines" p2)) q2.line env=pure false)(s3:∀ env,EnvOk G V ks env->swapsWith e3 (some (.Attribute o3 "delay" p3)) q3.line env=pure false)(s4:∀ env,EnvOk G V ks env->swapsWith e4 (some (.Attribute o4 "req_rate" p4)) q4.line env=pure false)
  (h:∀ x s',Step G (Or2 V O) s s'->Cx G (n + 2) V ks A env s' W (upd ρ y (.raw (.ref x)))->EntAt G s'.heap W (.ref x) e->(∃ dx,EntR G s'.heap (fun a=>(W a∨a=x)∨a=dx) x dx e∧s.heap.get? dx=none)->s.heap.get? x=none->wpAny (model G.prog G.w) A (execs rest env) Q E s'):
  wpAny (model G.prog G.w) A (execs (.Assign [.Name y py] (.Call (.Name "Entry" np) [] [] p0) q0 :: .Assign [.Attribute o1 "useragents" p1] e1 q1 :: .Assign [.Attribute o2 "rulelines" p2] e2 q2 :: .Assign [.Attribute o3 "delay" p3] e3 q3 :: .Assign [.Attribute o4 "req_rate" p4] e4 q4 :: rest) env) Q E s:=by
 refine wpAny_execs_cons (wpAny_Assign_Name ?_ hs0)
 refine wpAny_Call_NameR (Xc AG c.good.base c.ok hke EC.name dk ?_)
 refine callWith_K0 (AG.kIn.keeps c.good.base) hkeep ?_
 refine Qmy (V:=V) (W:=W) AG EC c.good c.excl fun x dx f s₂ k2 nx nd hxd e₂=>?_
 refine Qaa (Jb c nx) fun neLx neCx nVx nWx b0x=>?_
 refine Qaa (Jb c nd) fun neLd neCd nVd nWd b0d=>?_
 have live2:(∃ ob,s₂.heap.get? x=some ob)∧∃ ob,s₂.heap.get? dx=some ob:=⟨⟨_,e₂.1⟩,ob2_2 e₂.2 fun es m b _=>⟨_,b⟩⟩
 have c₂:Cx G (n + 2) V ks A env s₂ (fun a=>(W a∨a=x)∨a=dx) ρ:=c.widen k2 (fun a ha=>.inl (.inl ha))
  (fun a ob ea hw=>by
   rcases hw with (hw | hw) | hw
   ·exact hw
   ·rw [hw,nx] at ea;exact nSo ea
   ·rw [hw,nd] at ea;exact nSo ea)
  (fun a ha=>by
   rcases ha with (ha | ha) | ha
   ·exact (c.step k2).excl.live a ha
   ·exact ha ▸ live2.1
   ·exact ha ▸ live2.2)
 have nOx:¬ O x:=fun q=>nWx (o.sub _ q)
 have nOd:¬ O dx:=fun q=>nWd (o.sub _ q)
 refine Qt c₂ (fun a ha=>.inl (.inl (o.sub a ha))) o.base (o.store hy hyd) (d:=.raw (.ref x)) rfl fun s₃ k3 c3=>?_
 have e₃:=e₂.step k3 nOx nOd
 refine st_attr4 AG EC c3 ⟨.inl (.inr rfl),nVx⟩ ⟨.inr rfl,nVd⟩ b0d hxd neLd neCd e₃ (by lia) h1 h2 h3 h4 ho1 ho2 ho3 ho4 (d1 x) (d2 x) (d3 x) (d4 x) (x1 x) (x2 x) (x3 x) (x4 x) (s1 env c.ok) (s2 env c.ok) (s3 env c.ok) (s4 env c.ok) fun s₄ k4 c4 e₄=>?_
 have kk:Step G (Or2 V O) s s₃:=(k2.mono fun _=>.inl).trans (k3.mono fun _=>.inr)
 have kk4:Step G (Or2 V O) s s₄:=kk.later k4 fun a ha=>ha.elim (fun q=>.inr (.inl q)) fun q=>.inl (q ▸ nd)
 exact h x s₄ kk4 (c4.narrow (fun a ha=>.inl (.inl ha)) c.excl.sub) (e₄.entAt (fun a ha=>.inl (.inl ha)) nWx nWd) ⟨dx,e₄,nd⟩ nx
end
noncomputable def mergeF(ds:List D):Option D:=(l2 ds).bind fun p=>(qEn p.1).bind fun a=>(qEn p.2).bind fun b=>if a.u.length <= 1000∧b.u.length <= 1000∧a.r.length + b.r.length <= 1000 then some (.ent (Xg a b)) else none
theorem Qfx{ds:List D}{d:D}(h:mergeF ds=some d):∃ a b,ds=[.ent a,.ent b]∧(a.u.length <= 1000∧b.u.length <= 1000∧a.r.length + b.r.length <= 1000)∧d=.ent (Xg a b):=
 ob2_2 (iv_2 h) fun x y e h=>ob1_2 (iv1 h) fun a ea h=>ob1_2 (iv1 h) fun b eb h=>Qx (ifS h) fun hz h=>⟨a,b,e.trans ((congrArg (fun q=>[q,y]) ea).trans (congrArg (fun q=>[D.ent a,q]) eb)),hz,Qo h⟩
section
variable {G:Amb}[Qab G] {n:Nat}{V:Addr->Prop}{ks:Qi}
theorem fn_merge(AG:Qv G)(FO:Zp G)(EC:Qcr G)(hkeep:keepIn G.K (.ref G.C)=true)(hd:Xf G 3):FnOk G (n + 3) V "merge_entries" mergeF:=by
 refine ob1_2 hd.ex fun fa hd hm=>?_
 refine ob4_3 hd.ex fun o pm code doc ho hdat hcr=>?_
 refine ⟨fa,o,_,hm,ho,hdat,?_⟩
 intro A s W vs ds d Q E good ex r e h
 refine ob2_3 (Qfx e) ?_;rintro a b rfl hz rfl
 refine ob2_3 (Qdt r) ?_;rintro v u rfl rv ru
 refine wpAny_call (Qcm (n:=n + 2) (V:=V) (W:=W) (xs:=["e1","e2"]) (us:=[v,u]) (ds:=[.ent a,.ent b]) (ρc:=fun _=>none) AG good ex (good.base _ _ ho) hdat (hcr.keeps good.base) rfl rfl rfl rfl rfl rfl (show Xs (Qe 3).names _ from Xm dk) (.of_eq rfl) r (show Qfl G V s.heap W (Qe 3).names [] _ from Qaw dk) ?_)
 intro s₁ env E' k1 c1 ow hloc hcells
 change Cx G (n + 2) V (Qe 3).names _ _ _ _ (Zl (Qe 3).names _ _ _) at c1
 change Own G (Qe 3).names _ _ _ at ow
 have l1:(Zl (Qe 3).names ["e1","e2"] [.ent a,.ent b] (fun _=>none)) "e1"=some (.ent a):=rfl
 have l2:(Zl (Qe 3).names ["e1","e2"] [.ent a,.ent b] (fun _=>none)) "e2"=some (.ent b):=rfl
 refine Qkq (e:=Xg a b) (rest:=_) AG EC c1 ow rfl (.inl rfl) dk hkeep rfl
  (ev_keep AG FO rfl rfl rfl (fun _=>rfl) (fun _=>rfl) (fun _=>rfl) (fun _=>rfl) (Zr AG .u (fun _=>rfl) (Qb _ _ dk dk)) (Zr AG .u (fun _=>rfl) (Qb _ _ dk dk)))
  (Zc Qeg (Zr AG .r (fun _=>rfl) (Qb _ _ dk dk)) (Zr AG .r (fun _=>rfl) (Qb _ _ dk dk)))
  (Qmm (Ql op_is Qq (Zr AG .d (fun _=>rfl) (Qb _ _ dk dk)) (Qaj _ _) rfl) (Zr AG .d (fun _=>rfl) (Qb _ _ dk dk)) (Zr AG .d (fun _=>rfl) (Qb _ _ dk dk)))
  (Qmm (Ql op_is Qq (Zr AG .q (fun _=>rfl) (Qb _ _ dk dk)) (Qaj _ _) rfl) (Zr AG .q (fun _=>rfl) (Qb _ _ dk dk)) (Zr AG .q (fun _=>rfl) (Qb _ _ dk dk)))
  (Qb _ _ dk dk) (Qb _ _ dk dk) (Qb _ _ dk dk) (Qb _ _ dk dk)
  ?_ ?_ ?_ ?_ (fun x=>Qd _ _ _) (fun x=>Qd _ _ _) (fun x=>Qd _ _ _) (fun x=>Qd _ _ _) (fun _ _=>rfl) (fun _ _=>rfl) (fun _ _=>rfl) (fun _ _=>rfl) ?_
 ·intro x
  simp [upd,ofString_inj,l1,l2,attrD,Qz,keepD_l,strsOf?_map,hz.1,hz.2.1,Xg]
 ·intro x
  simp [upd,ofString_inj,l1,l2,attrD,Xa,addD_l,hz.2.2,Xg]
 ·intro x
  cases hb:b.d <;> simp [upd,ofString_inj,l1,l2,attrD,hb,optD,isD_n,isNone_n,isNone_i,Jz,Xg,orO]
 ·intro x
  cases hb:b.q <;> simp [upd,ofString_inj,l1,l2,attrD,hb,optD,isD_n,isNone_n,isNone_i,Jz,Xg,orO]
 ·intro x s2 k2 c₂ e2 _ _
  refine wpAny_execs_cons (wpAny_Return_some (((Qb _ _ dk dk):Zo G (n + 2) V (Qe 3).names _ _) _ _ _ _ _ _ _ _ c₂ (Qd _ _ _) fun v₃ s3 k3 r₃=>?_))
  cases r₃
  have newL:∀ a,V a∨a=s.heap.objs.size->s.heap.get? a=none∨V a:=fun a ha=>ha.elim .inr fun q=>.inl (q ▸ Heap.get?_none_of_le (Nat.le_refl _))
  exact h _ s3 ((k1.later k2 newL).trans k3) ((e2.mono (k3.keepX c₂.excl.sub)).weak fun a ha=>.inl ha)
end
section
variable {prog:Program}{w:World}{A:Around}{E:Value->Shared->Prop}{s:Shared}
theorem Qbw{l:Addr}{items:Array Value}{Q:Value->Shared->Prop}(hl:s.heap.IsList l items)
  (h:Q (.ref s.heap.objs.size) { s with heap:=s.heap.push { cls:=.type "list_iterator",data:=.fields #[.ref l,.int 0 0] } }):wpAny (model prog w) A (call (.builtin "iter") [.ref l]) Q E s:=by
 refine Calls.call_function_entry dk dk kdk_entry_iter (kdk_args_iter _) ?_
 unfold Builtin.«iter»
 refine wpAny_bind (m:=someArgs "iter" 1 2 _) (wpAny_of_eq (a:=[Value.ref l]) (by first | rfl | kernel_rfl!) ?_)
 show wpAny _ _ (pyIter (.ref l) >>= _) _ _ _
 refine wpAny_bind (wpAny_pyIter_list hl ?_)
 exact wpAny_pure ⟨_,rfl,h⟩
theorem Qfi{it l:Addr}{i:Nat}{items:Array Value}{x:Value}{Q:Value->Shared->Prop}(hit:s.heap.IsListIter it l i)(hl:s.heap.IsList l items)(hx:items[i]?=some x)
  (hQ:∀ h',h'.IsListIter it l (i + 1)->Heap.SameBut it s.heap h'->Q x { s with heap:=h' }):wpAny (model prog w) A (call (.builtin "next") [.ref it]) Q E s:=by
 refine Calls.call_function_entry dk dk kdk_entry_next (kdk_args_next _) ?_
 unfold Builtin.«next»
 refine wpAny_bind (m:=someArgs "next" 1 2 _) (wpAny_of_eq (a:=[Value.ref it]) (by first | rfl | kernel_rfl!) ?_)
 dsimp only
 refine Qg (fun K k=>wpAny_specialOf (name:=Str.ofString "__next__") hit.typeIs slot_listiter_next.lookup k) ?_
 refine wpAny_ite_split (fun hab=>absurd hab (by decide)) (fun _=>?_)
 refine wpAny_bind (Qbu hit hl hx fun h' hit' hs=>?_)
 exact wpAny_pure ⟨_,rfl,hQ h' hit' hs⟩
end
noncomputable def FunAt(G:Amb)(n:Nat)(V:Addr->Prop)(P:Heap->Prop)(f:Value)(F:List D->Option D):Prop:=
 ∀ (A:Around) (s:Shared) (W:Addr->Prop) (vs:List Value) (ds:List D) (d:D) (Q:Value->Shared->Prop) (E:Value->Shared->Prop),
  P s.heap->Good G n A s.heap->Excl s.heap V W->RepL G s.heap W vs ds->F ds=some d->(∀ v s',Step G V s s'->Rep G s'.heap W v d->Q v s')->wpAny (model G.prog G.w) A (call f vs) Q E s
structure Qi1 (G:Amb):Prop where
 ex:∃ fa o fd im,G.mg "reduce"=some (.ref fa)∧G.h₀.get? fa=some o∧o.data=.func fd∧G.h₀.CodeRec fd.code fd.qualname∧fd.body=.stmts (Jl 7)∧fd.scope=Qe 7∧fd.globals=mainGlobals∧fd.builtins=builtinsNs∧fd.closure=[]∧
  G.mg "_initial_missing"=some (.ref im)∧∀ s:Shared,G.h₀.StaysIn s.heap->∀ f l:Value,BindsTo s fd ⟨[f,l],[]⟩ [(("function":Str),f),(("sequence":Str),l),(("initial":Str),.ref im)]
section
variable {G:Amb}[Qab G] {n:Nat}{V:Addr->Prop}{ks:Qi}
theorem Qlg{x:Str}{pos:Pos}{v:Value}(AG:Qv G)(hk:ks.lookup x=some .globalImplicit)(hm:G.mg x=some v)(hd:(x == ("__debug__":Str))=false):Zo G n V ks (.Name x pos) (fun _=>some (.raw v)):=by
 intro A env s W ρ d Q E c hq h
 obtain rfl:=Qo hq
 exact Xc AG c.good.base c.ok hk hm hd (h v s .refl rfl)
noncomputable def isRefV:Value->Bool
 | .ref _=>true
 | _=>false
theorem Qmd{v:Value}(h:isRefV v=true):∃ a,v=.ref a:=by
 cases v with
 | ref a=>exact ⟨a,rfl⟩
 | _=>exact fT h
noncomputable def isSelf(a b:D):Option D:=(qR a).bind fun x=>(qR b).bind fun y=>if x=y∧isRefV x=true then some (.data (.bool true)) else none
theorem Qk5(x:Addr):isSelf (.raw (.ref x)) (.raw (.ref x))=some (.data (.bool true)):=if_pos ⟨rfl,rfl⟩
theorem Qh3:Qe7 G n V (compareOp .Is) isSelf:=by
 intro A s W v u a b d Q E g x rv ru e h
 unfold isSelf at e
 refine ob1_2 (ivR e) ?_;rintro x1 rfl e
 refine ob1_2 (ivR e) ?_;rintro x2 rfl e
 refine Qx (ifS e) fun hxy e=>?_
 obtain rfl:=Qo e
 cases rv;cases ru
 refine ob1_1 (Qmd hxy.2) ?_;rintro q rfl
 rw [← hxy.1]
 exact wpAny_is_ref_self (h _ s .refl (RepD.bool _))
theorem Qdx{A:Around}{env:Env}{s s₁:Shared}{W O U:Addr->Prop}{ρ:Qf}{ds:List D}{x:Str}{px:Pos}{body:List Stmt}{I:Addr}{R:Result->Shared->Prop}
  (good:Good G n A s.heap)(hk:ks.lookup x=some .local∨ks.lookup x=some .cell)(hd:(x == ("__classdict__":Str))=false)(o:Own G ks env W O)
  (hI:s.heap.get? I=none)(nW:¬ W I)(liveL:env.locals≠I)(liveC:∀ y a,env.cells.lookup y=some a->a≠I)(hOU:∀ a,O a->U a)(hUW:∀ a,U a->W a)(hVW:∀ a,V a->W a)
  (k1:Step G U s s₁)(c1:Cx G n V ks A env s₁ (fun a=>W a∨a=I) ρ)(it1:ItAt G s₁.heap (fun a=>W a∨a=I) I ds)
  (J:List D->Qf->Shared->Prop)(h0:J ds ρ s₁)
  (item:∀ d rest ρ₁ s₁ s2,J (d :: rest) ρ₁ s₁->Step G U s s₁->Step G (fun a=>a=I∨O a) s₁ s2->Step G U s s2->Cx G n V ks A env s2 (fun a=>W a∨a=I) (upd ρ₁ x d)->
   wpAny (model G.prog G.w) A (execs body env) (fun fl s3=>Step G U s2 s3∧match fl with
    | .next | .cont=>∃ ρ2,Cx G n V ks A env s3 (fun a=>W a∨a=I) ρ2∧J rest ρ2 s3
    | .brk=>R (.ok .next) s3
    | .ret v=>R (.ok (.ret v)) s3) (notedBy (model G.prog G.w) A env fun e s'=>R (.error e) s') s2)
  (fin:∀ ρ₁ s₁ h',J [] ρ₁ s₁->Step G U s s₁->Heap.ExtBut I s₁.heap h'->Step G U s { s₁ with heap:=h' }->Cx G n V ks A env { s₁ with heap:=h' } W ρ₁->R (.ok .next) { s₁ with heap:=h' }):
  codeAny (model G.prog G.w) A (.forLoop (.Name x px) (.ref I) body [] env) R s₁:=by
 have nU:¬ U I:=fun q=>nW (hUW I q)
 have nO:¬ O I:=fun q=>nU (hOU I q)
 have bI:G.h₀.get? I=none:=Zd good I hI
 refine codeAny_forLoop (Qi5 G n V ks A env s U (fun a=>W a∨a=I) I J) ?_ ds.length
  ⟨ds,ρ,k1,c1,it1,h0,rfl⟩
 rintro k s2 ⟨rest,ρ',k2,c₂,it2,j2,rfl⟩
 refine ob1_2 it2.cls fun oI2 eI2 tI=>?_
 cases rest with
 | nil=>
  refine Qcf it2 c₂.good.cold fun h' he=>wpAny_execs_nil ?_
  have kE:=k2.ext he hI bI
  exact fin ρ' s2 h' j2 k2 he kE (c₂.ext he (good.step kE) (.inr rfl) (fun ob e t=>by rw [eI2] at e;obtain rfl:=Qo e;exact tI t) nW (fun a ha=>.inl ha) hVW liveL liveC)
 | cons d rest=>
  refine Qbc it2 (.inr rfl) fun v h1 tk1 hs1 it3 rv3=>?_
  have kI:Step G (fun a=>a=I) s2 { s2 with heap:=h1,toks:=tk1 }:=Qn hs1 rfl bI (ob1_2 it3.cls fun ob e _=>⟨ob,e⟩) (fun ob e t=>by rw [eI2] at e;obtain rfl:=Qo e;exact tI t) it2.noFrm it2.noTab
  have c3:=c₂.stepU kI (fun a ha=>.inr ha) liveL (fun y a ha=>liveC y a ha)
  refine wpAny_assign_Name (Qt c3 (fun a ha=>.inl (o.sub a ha)) o.base (o.store hk hd) rv3 fun s4 k4 c4=>?_)
  have kk:Step G (fun a=>a=I∨O a) s2 s4:=(kI.mono fun a ha=>.inl ha).trans (k4.mono fun a ha=>.inr ha)
  have it4:=it3.mono (k4.keepX (W:=fun a=>W a∨a=I) fun a ha=>.inl (o.sub a ha)) (fun ob e hf=>k4.exact e (.inl nO) hf)
  have k24:Step G U s s4:=k2.later kk (fun a ha=>ha.elim (fun q=>.inl (q ▸ hI)) fun q=>.inr (hOU a q))
  refine wpAny_mono (item d rest ρ' s2 s4 j2 k2 kk k24 c4) (fun fl s5 hq=>?_) (fun _ _ e=>e)
  obtain ⟨k5,hq⟩:=hq
  have fin':(∃ ρ2,Cx G n V ks A env s5 (fun a=>W a∨a=I) ρ2∧J rest ρ2 s5)->∃ m,m < (d :: rest).length∧Qi5 G n V ks A env s U (fun a=>W a∨a=I) I J m s5:=by
   intro z0;refine ob1_2 z0 fun ρ2 c₅ j5=>?_
   exact in1_2 rest.length (by simp) ⟨rest,ρ2,k24.trans k5,c₅,it4.mono (k5.keepX (W:=fun a=>W a∨a=I) fun a ha=>.inl (hUW a ha)) (fun ob e hf=>k5.exact e (.inl nU) hf),j5,rfl⟩
  cases fl with
  | next=>exact fin' hq
  | cont=>exact fin' hq
  | brk=>exact hq
  | ret v=>exact hq
end
section
variable {G:Amb}[Qab G] {n:Nat}{V:Addr->Prop}{ks:Qi}
noncomputable def Qaq(fl c':Addr)(ol:Obj)(q:Str)(h:Heap):Prop:=h.get? fl=some ol∧h.CodeRec (.ref c') q
omit [Qab G] in
theorem Xv{V:Addr->Prop}{s s':Shared}{c:Addr}{q:Str}(k:Step G V s s')(hr:s.heap.CodeRec (.ref c) q)(nV:¬ V c):s'.heap.CodeRec (.ref c) q:=by
 refine ob4_4 hr fun c' o vs t e ho hd' hv=>?_
 cases e
 refine ob1_2 (k.keep c o ho) fun o' e' sm=>?_
 exact in4_4 c o' vs t rfl e' ((sm (.inl nV)).2.1.trans hd') hv
theorem Qdf{h:Heap}{c:Addr}{q:Str}(hr:h.CodeRec (.ref c) q):∃ o,h.get? c=some o:=by
 refine ob4_3 hr fun c' o vs t e ho _=>?_
 cases e
 exact ⟨o,ho⟩
inductive RedInv (fl c':Addr) (ol:Obj) (cq:Str) (e:Ent) (es:List Ent) (rest:List D) (ρ':Qf) (s':Shared):Prop
 | mk (acc:Ent) (esr:List Ent) (h1:rest=List.map D.ent esr) (h2:ρ' "value"=some (.ent acc)) (h3:ρ' "function"=some (.raw (.ref fl))) (h4:Qm acc esr=Qm e es) (h5:acc.u.length <= 20) (h6:acc.r.length + 20 * esr.length <= 400) (h7:∀ x ∈ esr,Qa1 x) (h8:Qaq fl c' ol cq s'.heap):RedInv fl c' ol cq e es rest ρ' s'
theorem Qj9{A:Around}{s:Shared}{W:Addr->Prop}{fl l c':Addr}{ol:Obj}{cq:Str}{fdl:FuncData}{fr:Addr}{e:Ent}{es:List Ent}{Q:Value->Shared->Prop}{E:Value->Shared->Prop}(AG:Qv G)(FO:Zp G)(RA:Qi1 G)
  (good:Good G (n + 1) A s.heap)(ex:Excl s.heap V W)(hlam:Qaq fl c' ol cq s.heap)(hol:ol.data=.func fdl)(hcls:ol.cls≠.type "frame")(nV:¬ V fl)(nVc:¬ V c')(hF:FunAt G n V (Qaq fl c' ol cq) (.ref fl) mergeF)
  (hfr:G.mg "reduce"=some (.ref fr))(rl:Rep G s.heap W (.ref l) (.ents (e :: es)))(hok:∀ x ∈ e :: es,Qa1 x)(hlen:es.length <= 10)
  (h:∀ v s',Step G V s s'->Rep G s'.heap W v (.ent (Qm e es))->Q v s'):wpAny (model G.prog G.w) A (call (.ref fr) [.ref fl,.ref l]) Q E s:=by
 have hfl:=hlam.1
 have two:∀ {U:Addr->Prop}{t t':Shared},Step G U t t'->Qaq fl c' ol cq t.heap->¬ U fl->¬ U c'->Qaq fl c' ol cq t'.heap:=fun k x a b=>⟨k.exact x.1 (.inl a) hcls,Xv k x.2 b⟩
 refine ob4_8 RA.ex ?_;intro fa o fd im hm ho hdat hcr hbody hsc hgl z0;refine Qdk z0 fun hbi hcl him hbind=>?_
 rw [hm] at hfr;replace hfr:=hfr
 cases hfr
 have hN:Xs fd.scope.names ["function","sequence","initial"]:=by rw [hsc];exact Xm dk
 refine wpAny_call (Qcm (n:=n) (V:=V) (W:=W) (fd:=fd) (body:=Jl 7) (xs:=["function","sequence","initial"]) (us:=[.ref fl,.ref l,.ref im]) (ds:=[.raw (.ref fl),.ents (e :: es),.raw (.ref im)]) (ρc:=fun _=>none) AG good ex (good.base _ _ ho) hdat (hcr.keeps good.base) hbody
  (by rw [hsc];rfl) (by rw [hsc];rfl) (by rw [hsc];rfl) hgl hbi hN (hbind s good.base _ _) ⟨rfl,rl,rfl,trivial⟩ (by rw [hcl,hsc];exact Qaw dk) ?_)
 rw [hsc]
 intro s₁ env E' k1 c1 ow hloc hcells
 have newL:s.heap.get? s.heap.objs.size=none:=Heap.get?_none_of_le (Nat.le_refl _)
 revert c1 ow hloc newL;refine Qm2 (s.heap.objs.size) fun a0=>?_;intro c1 ow hloc newL
 refine Zf ?_;intro Q0 E0
 revert c1;refine Qdb (Zl (Qe 7).names ["function","sequence","initial"] [.raw (.ref fl),.ents (e :: es),.raw (.ref im)] (fun _=>none)) fun ρ hρ=>?_;intro c1
 have l1:ρ "function"=some (.raw (.ref fl)):=by rw [← hρ];rfl
 have l2:ρ "sequence"=some (.ents (e :: es)):=by rw [← hρ];rfl
 have l3:ρ "initial"=some (.raw (.ref im)):=by rw [← hρ];rfl
 have f1:Qaq fl c' ol cq s₁.heap:=two k1 hlam nV nVc
 have nLf:fl≠a0:=fun q=>by rw [q,newL] at hfl;exact nSo hfl
 have nLc:c'≠a0:=fun q=>by obtain ⟨o',e'⟩:=Qdf hlam.2;rw [q,newL] at e';exact nSo e'
 have ev:∀ {x:Str}{p:Pos},Vis (Qe 7).names x=true->(x == ("__debug__":Str))=false->Zo G n V (Qe 7).names (.Name x p) (fun ρ=>ρ x):=fun hv hd=>Qb _ _ hv hd
 refine wpAny_execs_cons (wpAny_Assign_Name ?_ rfl)
 refine wpAny_Call_NameR (Qh AG c1.good.base c1.ok rfl (FO _ dk) PyProof.Rows.Boot.«iter» dk dk ?_)
 refine Zf ?_;intro Q0 E0
 refine PySem.callWith_builtin1 (ev (x:="sequence") dk dk _ env s₁ _ ρ _ _ _ c1 l2 fun v₂ s2 k2 r₂=>?_)
 refine ob2_4 r₂ ?_;rintro l' vs rfl wl ll rs
 refine Qbw ll ?_
 refine Qdb (({ s2 with heap:=s2.heap.push { cls:=.type "list_iterator",data:=.fields #[.ref l',.int 0 0] } }:Shared)) fun s3 hs3=>?_
 have h3:s3.heap=s2.heap.push { cls:=.type "list_iterator",data:=.fields #[.ref l',.int 0 0] }:=by rw [← hs3]
 have k3:Step G V s2 s3:=by rw [← hs3];exact .push s2 _
 refine Qdb (s2.heap.objs.size) fun I hI=>?_
 have eI:s3.heap.IsListIter I l' 0:=by rw [h3,← hI];exact in1_3 _ (Heap.get?_push_size _ rfl) rfl rfl
 have newI2:s2.heap.get? I=none:=by rw [← hI];exact Heap.get?_none_of_le (Nat.le_refl _)
 have newI1:s₁.heap.get? I=none:=k2.get_none newI2
 have newI:s.heap.get? I=none:=k1.get_none newI1
 refine Qaa (Jb c1 newI1) fun neL neC nVI nWI bI=>?_
 refine ob1_2 (id eI) fun oI hoI _=>?_
 have nx:Qd0 s₁.heap (fun a=>W a∨a=a0) (fun a=>(W a∨a=a0)∨a=I):=fun a ob ea hw=>hw.elim id fun q=>by rw [q,newI1] at ea;exact nSo ea
 have c3:Cx G n V (Qe 7).names (A.deeper env) env s3 (fun a=>(W a∨a=a0)∨a=I) ρ:=c1.widen (k2.trans k3) (fun a ha=>.inl ha) nx (fun a ha=>ha.elim (fun q=>(c1.step (k2.trans k3)).excl.live a q) fun q=>⟨oI,q ▸ hoI⟩)
 have nx2:Qd0 s2.heap (fun a=>W a∨a=a0) (fun a=>(W a∨a=a0)∨a=I):=fun a ob ea hw=>hw.elim id fun q=>by rw [q,newI2] at ea;exact nSo ea
 have nlI:l'≠I:=fun q=>by refine ob1_2 ll fun ob eb _=>?_;rw [q,newI2] at eb;exact nSo eb
 have kx3:Jm (fun a=>(W a∨a=a0)∨a=I) s2.heap s3.heap:=fun b ob eb _ _=>by rw [h3];exact Heap.get?_push_of_some _ eb
 have ll3:=Qs ll kx3 (fun q=>q.elim wl nlI)
 have rs3:EntsAt G s3.heap (fun a=>(W a∨a=a0)∨a=I) vs (e :: es):=(rs.strong nx2).mono kx3
 have f3:Qaq fl c' ol cq s3.heap:=two (k2.trans k3) f1 nV nVc
 have ow3:Own G (Qe 7).names env (fun a=>(W a∨a=a0)∨a=I) (fun a=>a=a0):=ow.wide fun a ha=>.inl ha
 refine Qt c3 ow3.sub ow3.base (ow3.store (.inl rfl) dk) (d:=.raw (.ref I)) rfl fun s4 k4 c4=>?_
 have neIL:I≠a0:=fun q=>neL (hloc.trans q.symm)
 have eI4:s4.heap.IsListIter I l' 0:=by
  refine ob1_3 eI fun ob eb cb db=>?_
  exact in1_3 ob (k4.exact eb (.inl neIL) (by rw [cb];decide)) cb db
 have kx4:=k4.keepX ow3.sub
 have ll4:=Qs ll3 kx4 (fun q=>q.elim wl nlI)
 have rs4:=rs3.mono kx4
 have f4:Qaq fl c' ol cq s4.heap:=two k4 f3 nLf nLc
 refine wpAny_execs_cons (wpAny_If ((Ql Qh3 Qq (ev (x:="initial") dk dk) (Qlg AG rfl him dk) rfl) _ env s4 _ _ true _ _ c4 (by simp [upd,ofString_inj,l3,Qk5,Jz]) fun s5 k5=>?_))
 refine Zf ?_;intro Q0 E0
 have c₅:=c4.step k5
 have kx5:=k5.keepX c4.excl.sub
 have ll5:=Qs ll4 kx5 (fun q=>q.elim wl nlI)
 have rs5:=rs4.mono kx5
 have eI5:s5.heap.IsListIter I l' 0:=by
  refine ob1_3 eI4 fun ob eb cb db=>?_
  exact in1_3 ob (k5.exact eb (.inl nVI) (by rw [cb];decide)) cb db
 have f5:Qaq fl c' ol cq s5.heap:=two k5 f4 nV nVc
 refine wpAny_execs_cons (wpAny_Try_except ?_)
 refine Zf ?_;intro Q0 E0
 refine wpAny_execs_cons (wpAny_Assign_Name ?_ rfl)
 refine wpAny_Call_NameR (Qh AG c₅.good.base c₅.ok rfl (FO _ dk) PyProof.Rows.Boot.«next» dk dk ?_)
 refine Zf ?_;intro Q0 E0
 refine PySem.callWith_builtin1 (ev (x:="it") dk dk _ env s5 _ _ (.raw (.ref I)) _ _ c₅ (Qd _ _ _) fun v₆ s6 k6 r6=>?_)
 cases r6
 have c6:=c₅.step k6
 have kx6:=k6.keepX c₅.excl.sub
 have ll6:=Qs ll5 kx6 (fun q=>q.elim wl nlI)
 have rs6:=rs5.mono kx6
 have eI6:s6.heap.IsListIter I l' 0:=by
  refine ob1_3 eI5 fun ob eb cb db=>?_
  exact in1_3 ob (k6.exact eb (.inl nVI) (by rw [cb];decide)) cb db
 have f6:Qaq fl c' ol cq s6.heap:=two k6 f5 nV nVc
 obtain ⟨v0,vs',rfl,re,res⟩:∃ v0 vs',vs=v0 :: vs'∧EntAt G s6.heap (fun a=>(W a∨a=a0)∨a=I) v0 e∧EntsAt G s6.heap (fun a=>(W a∨a=a0)∨a=I) vs' es:=by
  cases vs with
  | nil=>exact rs6.elim
  | cons v0 vs'=>exact in2_3 v0 vs' rfl rs6.1 rs6.2
 refine Qfi eI6 ll6 (x:=v0) (by simp) fun h7 eI7 hs7=>?_
 have kI:Step G (fun a=>a=I) s6 { s6 with heap:=h7 }:=by
  refine ob1_2 (id eI7) fun ob eb _=>?_
  refine ob1_3 (id eI6) fun ob6 eb6 cb6 _=>?_
  exact Qn (tk:=s6.toks) hs7 rfl bI ⟨ob,eb⟩ (fun o' e' t=>by rw [eb6] at e';obtain rfl:=Qo e';exact absurd t.1 (by rw [cb6];decide)) (Jr eb6 (by rw [cb6];decide)) (Qay eb6 (by rw [cb6];decide))
 have c7:=c6.stepU kI (fun a ha=>.inr ha) neL (fun y a ha=>neC y a ha)
 have kx7:=kI.keepX (W:=fun a=>(W a∨a=a0)∨a=I) (fun a ha=>.inr ha)
 have neflI:fl≠I:=fun q=>by rw [q,newI] at hfl;exact nSo hfl
 have necI:c'≠I:=fun q=>by obtain ⟨o',e'⟩:=Qdf hlam.2;rw [q,newI] at e';exact nSo e'
 have f7:Qaq fl c' ol cq h7:=⟨(hs7.2 fl neflI).trans f6.1,by refine ob4_3 f6.2 fun c2 o2 vs2 t2 e2 ho2 r2=>?_;cases e2;exact ⟨c',o2,vs2,t2,rfl,(hs7.2 c' necI).trans ho2,r2⟩⟩
 refine Qt c7 ow3.sub ow3.base (ow3.store (.inl rfl) dk) (d:=.ent e) (re.mono kx7) fun s8 k8 c8=>?_
 have kx8:=k8.keepX ow3.sub
 have ll8:=Qs (Qs ll6 kx7 (fun q=>q.elim wl nlI)) kx8 (fun q=>q.elim wl nlI)
 have rs8:EntsAt G s8.heap (fun a=>(W a∨a=a0)∨a=I) vs' es:=(res.mono kx7).mono kx8
 have eI8:s8.heap.IsListIter I l' 1:=by
  refine ob1_3 eI7 fun ob eb cb db=>?_
  exact in1_3 ob (k8.exact eb (.inl neIL) (by rw [cb];decide)) cb db
 have f8:Qaq fl c' ol cq s8.heap:=two k8 f7 nLf nLc
 refine wpAny_execs_nil (wpAny_execs_nil (wpAny_execs_nil ?_))
 let U:Addr->Prop:=fun a=>V a∨a=a0
 have it8:ItAt G s8.heap (fun a=>(W a∨a=a0)∨a=I) I (es.map .ent):=.inl ⟨l',v0 :: vs',1,eI8,fun q=>q.elim wl nlI,ll8,by simpa using Qec rs8⟩
 have toU:∀ a,a=a0->U a:=fun a ha=>.inr ha
 have vU:∀ a,V a->U a:=fun a ha=>.inl ha
 have kk:Step G U s₁ s8:=((((((k2.trans k3).mono vU).trans (k4.mono toU)).trans (k5.mono vU)).trans (k6.mono vU)).later kI (fun a ha=>.inl (ha ▸ newI1))).trans (k8.mono toU)
 refine wpAny_execs_cons (wpAny_For ?_ (fun _=>rfl))
 refine ev (x:="it") dk dk _ env s8 _ _ (.raw (.ref I)) _ _ c8 (by simp [upd,ofString_inj]) fun v9 s9 k9 r9=>?_;refine Zf ?_;intro Q0 E0
 cases r9
 have c9:=c8.step k9
 have it9:=it8.mono (k9.keepX c8.excl.sub) (fun ob eb hf=>k9.exact eb (.inl nVI) hf)
 have f9:Qaq fl c' ol cq s9.heap:=two k9 f8 nV nVc
 refine Qen it9 ?_
 have nVW:∀ a,U a->(W a∨a=a0):=fun a ha=>ha.imp (ex.sub a) id
 refine Qdx (n:=n) (V:=V) (ks:=(Qe 7).names) (s:=s₁) (W:=fun a=>W a∨a=a0) (O:=fun a=>a=a0) (U:=U) c1.good (.inl rfl) dk ow newI1 nWI neL neC toU nVW (fun a ha=>.inl (ex.sub a ha)) (kk.trans (k9.mono vU)) c9 it9
  (RedInv fl c' ol cq e es)
  ⟨e,es,rfl,by simp [upd,ofString_inj],by simp [upd,ofString_inj,l1],rfl,(hok e (.head _)).ul,by have:=(hok e (.head _)).rl;lia,fun x hx=>hok x (.tail _ hx),f9⟩ ?_ ?_
 ·rintro d rest ρ₁ t₁ t₂ ⟨acc,esr,hrest,hv,hfn,hmg,hul,hrl,hokr,hft⟩ _ kt12 _ ct
  cases esr with
  | nil=>cases hrest
  | cons b esr=>
   obtain ⟨rfl,rfl⟩:=List.cons.inj hrest
   have hft2:Qaq fl c' ol cq t₂.heap:=two kt12 hft (fun q=>q.elim neflI nLf) (fun q=>q.elim necI nLc)
   have hb:=hokr b (.head _)
   have hmf:mergeF [.ent acc,.ent b]=some (.ent (Xg acc b)):=by
    have:=hb.ul
    have:=hb.rl
    simp only [List.length_cons] at hrl
    exact if_pos ⟨by lia,by lia,by lia⟩
   refine wpAny_execs_cons (wpAny_Assign_Name ?_ rfl)
   refine wpAny_Call_NameR (ev (x:="function") dk dk _ env t₂ _ _ (.raw (.ref fl)) _ _ ct (by simp [upd,ofString_inj,hfn]) fun vf t₃ kt3 rf=>?_)
   refine Zf ?_;intro Q0 E0
   cases rf
   have ct3:=ct.step kt3
   refine callWith_of (P:=Qaq fl c' ol cq) (by rfl) (fun h hp=>⟨.frame,.inl rfl,(Looks.ld (part:=none) hp.1).andThen (by rw [hol];exact .now)⟩) (Zm (by rfl) ?_)
   refine (Qc (fun _=>rfl) (ev (x:="value") dk dk) (Qc (fun _=>rfl) (ev (x:="element") dk dk) evs_nil)).2 _ env t₃ _ _ [.ent acc,.ent b] _ _ _ ct3 (by simp [upd,ofString_inj,hv]) fun us t₄ kt4 ru=>?_
   have hft4:Qaq fl c' ol cq t₄.heap:=two (kt3.trans kt4) hft2 nV nVc
   have ct4:=ct3.step kt4
   refine ⟨hft4,hF _ t₄ _ us [.ent acc,.ent b] _ _ _ hft4 ct4.good ct4.excl ru hmf fun y t₅ kt5 ry=>?_⟩
   have ct5:=ct4.step kt5
   have hft5:Qaq fl c' ol cq t₅.heap:=two kt5 hft4 nV nVc
   refine Qt ct5 ow3.sub ow3.base (ow3.store (.inl rfl) dk) ry fun t₆ kt6 ct6=>wpAny_execs_nil ⟨(((kt3.trans kt4).trans kt5).mono vU).trans (kt6.mono toU),_,ct6,⟨Xg acc b,esr,rfl,Qd _ _ _,?_,hmg,?_,?_,fun x hx=>hokr x (.tail _ hx),two kt6 hft5 nLf nLc⟩⟩
   ·simp [upd,ofString_inj,hfn]
   ·exact Nat.le_trans (List.length_filter_le _ _) hul
   ·have:=hb.rl
    simp only [List.length_cons] at hrl
    simp only [Xg,List.length_append]
    lia
 ·rintro ρ₁ t₁ h' ⟨acc,esr,hrest,hv,_,hmg,_,_,_,_⟩ _ _ kE cE
  cases esr with
  | cons b esr=>cases hrest
  | nil=>
   have hacc:acc=Qm e es:=hmg
   refine wpAny_execs_cons (wpAny_Return_some (ev (x:="value") dk dk _ env _ _ _ (.ent acc) _ _ cE hv fun v t₂ kt2 rv=>?_))
   have kfin:Step G V s t₂:=((k1.later kE fun a ha=>ha.elim .inr fun q=>.inl (q ▸ newL))).trans kt2
   rw [← hacc] at h
   exact h v t₂ kfin (Rep.weak (fun a ha=>.inl ha) rv)
end
noncomputable abbrev rowsP(rows:List (List Str)):PyData:=.list (rows.map fun r=>.list (r.map .str))
noncomputable abbrev Zy(rows:List (List Str)):D:=.data (rowsP rows)
theorem Qbj{b:Int}(h:-(2 ^ 60) <= b∧b < 2 ^ 60):Zi [.data (.int b)]=some (Qa9 0 b):=by
 simp only [Qb2,Qee]
 exact if_pos h
theorem Qfq{a b:Int}(h:-(2 ^ 60) <= a∧a < 2 ^ 60∧-(2 ^ 60) <= b∧b < 2 ^ 60):Zi [.data (.int a),.data (.int b)]=some (Qa9 a b):=by
 simp only [Qb2,Qee]
 exact if_pos h
theorem Qgu:Qa9 0 16=(List.range 16).map fun k=>D.data (.int (k:Nat)):=by
 unfold Qa9
 exact List.map_congr_left fun k _=>by simp
theorem Qc8{rows:List (List Str)}{k:Nat}(h:k < rows.length)(h2:rows.length <= 1000):Qb5 (Zy rows) (.data (.int (k:Nat)))=some (Qz (rows.getD k [])):=by
 rw [idxD_l]
 have h1:(0:Int) <= (k:Nat)∧((k:Nat):Int) < 2 ^ 62:=⟨Int.natCast_nonneg _,by lia⟩
 simp only [h1,and_self,if_true,Int.toNat_natCast,List.getElem?_map,List.getD_eq_getElem?_getD,List.getElem?_eq_getElem h,Option.map_some,Option.getD_some]
noncomputable def Xd(rows:List (List Str)):List (List Str × Int):=(List.range 16).map fun k=>(rows.getD k [],((k:Nat):Int))
theorem Qkx:∀ (rows:List (List Str)) (ks:List Nat),(∀ k ∈ ks,texty (rows.getD k []))->prs? (ks.map fun k=>PyData.tuple [.list ((rows.getD k []).map .str),.int (k:Nat)])=some (ks.map fun k=>(rows.getD k [],((k:Nat):Int)))
 | _,[],_=>rfl
 | rows,k :: ks,h=>by
  rw [List.map_cons,List.map_cons,prs?,Qkx rows ks fun j hj=>h j (.tail _ hj),prOf_2,Option.bind_some,strsOf?_map,Option.bind_some,Option.bind_some,if_pos (Qb3 (h k (.head _)))]
theorem Qa6{lt:Nat->Nat->Bool}{n:Nat}(w:Qdh lt)(h:1 <= n):(Xi lt n).Perm (List.range n):=(Xb (Jd w h)).2
theorem Qb0{lt:Nat->Nat->Bool}{n:Nat}(w:Qdh lt)(h:1 <= n){i:Nat}(hi:i ∈ Xi lt n):i < n:=List.mem_range.mp ((Qa6 w h).mem_iff.mp hi)
theorem Qd6{lt:Nat->Nat->Bool}{n:Nat}(w:Qdh lt)(h:1 <= n):(Xi lt n).length=n:=by rw [(Qa6 w h).length_eq,List.length_range]
theorem tup2{f g:Option D}{a b:PyData}(hf:f=some (.data a))(hg:g=some (.data b)):((f.bind fun a=>Option.map (fun x=>a :: x) (g.bind fun a=>some [a])).bind fun ds=>if ds.length <= 1000 then Option.map (fun l=>D.data (PyData.tuple l)) (Xz ds) else none)=some (.data (.tuple [a,b])):=by
 subst hf hg
 rfl
theorem idx_rows{rows:List (List Str)}{k:Nat}(h:k < rows.length)(hz:rows.length <= 1000){ρ:Qf}(h1:ρ "rows"=some (Zy rows))(h2:ρ "which"=some (.data (.int (k:Nat)))):
  ((ρ (Str.ofString "rows")).bind fun a=>(ρ (Str.ofString "which")).bind fun b=>Qb5 a b)=some (Qz (rows.getD k [])):=by
 rw [h1,h2,Option.bind_some,Option.bind_some,Qc8 h hz]
section
variable {G:Amb}[Qab G] {n:Nat}{V:Addr->Prop}
theorem fn_order(AG:Qv G)(FO:Zp G)(hd:Xf G 23):∃ F,FnOk G 1 V "_law_order" F∧∀ rows:List (List Str),rows.length=16->(∀ r ∈ rows,texty r)->
  F [Zy rows]=some (Xa ((Xi (ltP (Xd rows)) 16).map fun k=>((k:Nat):Int))):=by
 refine ⟨_,Qfe (n:=0) (xs:=["rows"]) AG hd rfl (fun _ _ _=>bind1 fun _=>rfl) dk dk dk rfl rfl rfl dk
  (Qk (Qu (Jg dk (Zj (ev_sortP AG FO rfl (Qc (fun _=>rfl) (Jg dk (Xk AG rfl (FO _ dk) (Qc (fun _=>rfl) (Qj _ _ _) evs_nil)) (fun _ _=>rfl) Qai (Qdy (Qc (fun _=>rfl) (Zu (fun _ _ _=>rfl) (Qb _ _ dk dk) (Qb _ _ dk dk)) (Qc (fun _=>rfl) (Qb _ _ dk dk) evs_nil)))) evs_nil))) (fun _ _=>rfl) Qai (Zu (fun _ _ _=>rfl) (Qb _ _ dk dk) (Qj _ _ _))))
  Zh),?_⟩
 intro rows h16 ht
 have htx:∀ k,texty (rows.getD k []):=fun k x hx=>by
  rw [List.getD_eq_getElem?_getD] at hx;replace hx:=hx
  cases hk:rows[k]? with
  | none=>rw [hk] at hx;cases hx
  | some r=>rw [hk] at hx;exact ht r (List.mem_of_getElem? hk) x hx
 simp only [List.length_cons,List.length_nil,if_true,Qp,Option.bind_some,Option.map_some]
 refine Qg2 ?_
 have hr:Zi [.data (.int 16)]=some ((List.range 16).map fun k=>D.data (.int (k:Nat))):=by
  rw [Qbj ⟨by lia,by lia⟩,Qgu]
 have hl16:((List.range 16).map fun k=>D.data (.int (k:Nat))).length <= 1000:=by simp
 have c1:∀ ks:List Nat,(∀ k ∈ ks,k < 16)->Xl (Str.ofString "which") (fun _=>some true) (fun ρ=>(((ρ (Str.ofString "rows")).bind fun a=>(ρ (Str.ofString "which")).bind fun b=>Qb5 a b).bind fun a=>Option.map (fun x=>a :: x) ((ρ (Str.ofString "which")).bind fun a=>some [a])).bind fun ds=>if ds.length <= 1000 then Option.map (fun l=>D.data (PyData.tuple l)) (Xz ds) else none)
   (Xt [Str.ofString "rows"] [Zy rows]) (ks.map fun k=>D.data (.int (k:Nat)))=some (ks.map fun k=>D.data (.tuple [.list ((rows.getD k []).map .str),.int (k:Nat)])):=by
  intro ks hks
  refine Xq fun k hk=>?_
  have hk':k < rows.length:=by rw [h16];exact hks k hk
  have hz:rows.length <= 1000:=by lia
  have h1:(upd (Xt [Str.ofString "rows"] [Zy rows]) (Str.ofString "which") (D.data (.int (k:Nat)))) "rows"=some (Zy rows):=by simp [upd,Qp,ofString_inj]
  exact tup2 (idx_rows hk' hz h1 (Qd _ _ _)) (Qd _ _ _)
 have c1':=c1 (List.range 16) fun k hk=>List.mem_range.mp hk
 have hps:prs? ((List.range 16).map fun k=>PyData.tuple [.list ((rows.getD k []).map .str),.int (k:Nat)])=some (Xd rows):=Qkx rows _ fun k _=>htx k
 have hz:2 <= (Xd rows).length∧(Xd rows).length < 64:=by simp [Xd]
 have hlen:(Xd rows).length=16:=by simp [Xd]
 have hsort:Qhv (.data (.list ((List.range 16).map fun k=>PyData.tuple [.list ((rows.getD k []).map .str),.int (k:Nat)])))=some (.data (.list ((Xi (ltP (Xd rows)) 16).map fun i=>((List.range 16).map fun k=>PyData.tuple [.list ((rows.getD k []).map .str),.int (k:Nat)]).getD i .none))):=by
  rw [sortPD_l]
  simp only [hps,Option.bind_some,hlen]
  exact if_pos ‹_›
 have hw:=Qcb (Xd rows)
 generalize hlt:ltP (Xd rows)=lt at hw hsort ⊢
 have hmem:∀ i ∈ Xi lt 16,i < 16:=fun i hi=>Qb0 hw (by lia) hi
 have hslen:(Xi lt 16).length=16:=Qd6 hw (by lia)
 generalize Xi lt 16=is at hmem hslen hsort ⊢
 have c2:∀ ρ:Qf,Xl (Str.ofString "pair") (fun _=>some true) (fun ρ=>(ρ (Str.ofString "pair")).bind fun a=>Qb5 a (D.data (PyData.int 1))) ρ (is.map fun i=>D.data (((List.range 16).map fun k=>PyData.tuple [.list ((rows.getD k []).map .str),.int (k:Nat)]).getD i .none)) =
   some (is.map fun i=>D.data (.int (i:Nat))):=fun ρ=>by
  refine Xq fun i hi=>?_
  have hi16:=hmem i hi
  have e1:((List.range 16).map fun k=>PyData.tuple [.list ((rows.getD k []).map .str),.int (k:Nat)]).getD i .none=.tuple [.list ((rows.getD i []).map .str),.int (i:Nat)]:=by
   rw [List.getD_eq_getElem?_getD,List.getElem?_map,List.getElem?_range hi16];rfl
  rw [e1,Qd]
  have h1:(0:Int) <= 1∧(1:Int) < (([PyData.list ((rows.getD i []).map .str),.int (i:Nat)]:List PyData).length:Int)∧(1:Int) < 2 ^ 62:=⟨by lia,by simp,by lia⟩
  simp only [Option.bind_some,idxD_t]
  rw [if_pos h1]
  rfl
 have h1000:(16:Nat) <= 1000:=by decide
 simp only [hr,Option.bind_some,List.length_map,List.length_range,h1000,if_true,c1',pack_map,one_1,hsort,Jh,Ji,List.map_map,Function.comp_def,hslen,c2,Option.map_some]
 simp only [Xa,List.map_map,Function.comp_def]
end
noncomputable def msk(es:List Ent)(t:Str):Nat:=((List.range 4).map fun k=>if decide (t ∈ (es.getD k ⟨[],[],none,none⟩).u) then 2 ^ k else 0).sum
noncomputable def sub(w m:Nat):Bool:=(Qad w).all fun k=>m / 2 ^ k.toNat % 2 == 1
noncomputable def sgn(k z:Nat):Int:=(-1) ^ (z - k) * (choose z k:Nat)
noncomputable def Xw(k:Nat)(f:Nat->Int):List Nat->Int
 | []=>0
 | w :: ws=>(if k <= (Qad w).length then sgn k (Qad w).length * f w else 0) + Xw k f ws
theorem Qge(k:Nat)(f g:Nat->Int):∀ ws,Xw k (fun w=>f w + g w) ws=Xw k f ws + Xw k g ws
 | []=>rfl
 | w :: ws=>by
  simp only [Xw,Qge k f g ws]
  split
  ·rw [Int.mul_add];lia
  ·lia
theorem Qe3(k:Nat):∀ ws,Xw k (fun _=>0) ws=0
 | []=>rfl
 | w :: ws=>by simp [Xw,Qe3 k ws]
theorem Qmz:∀ k < 5,∀ m < 16,Xw k (fun w=>if sub w m then 1 else 0) (List.range 16)=if (Qad m).length=k then 1 else 0:=by decide +kernel
theorem Qgd{k:Nat}(hk:k < 5)(μ:Str->Nat):∀ ts:List Str,(∀ t ∈ ts,μ t < 16)->
  Xw k (fun w=>((ts.filter fun t=>sub w (μ t)).length:Int)) (List.range 16)=((ts.filter fun t=>decide ((Qad (μ t)).length=k)).length:Int)
 | [],_=>Qe3 k _
 | t :: ts,h=>by
  have ih:=Qgd hk μ ts fun t ht=>h t (.tail _ ht)
  have h1:=Qmz k hk (μ t) (h t (.head _))
  have e:(fun w=>(((t :: ts).filter fun t=>sub w (μ t)).length:Int))=fun w=>(if sub w (μ t) then 1 else 0) + ((ts.filter fun t=>sub w (μ t)).length:Int):=by
   funext w
   rw [List.filter_cons]
   split <;> rename_i hs <;> simp [hs] <;> lia
  rw [e,Qge,ih,h1,List.filter_cons]
  by_cases hz:(Qad (μ t)).length=k <;> simp [hz] <;> lia
theorem msk_lt(es:List Ent)(t:Str):msk es t < 16:=by
 unfold msk
 simp only [List.range,List.range.loop,List.map_cons,List.map_nil,List.sum_cons,List.sum_nil]
 split <;> split <;> split <;> split <;> lia
theorem msk_memb(es:List Ent)(t:Str):((Qad (msk es t)).map (·.toNat))=(List.range 4).filter fun k=>decide (t ∈ (es.getD k ⟨[],[],none,none⟩).u):=by
 unfold msk
 simp only [List.range,List.range.loop,List.map_cons,List.map_nil,List.sum_cons,List.sum_nil,List.filter_cons,List.filter_nil]
 split <;> split <;> split <;> split <;> decide +kernel
theorem Qlc{α:Type}{x:Str}{g:Qf->Option Out}{h:α->D}{ok:α->Bool}{P:Qf->Prop}{d:D}:∀ {l:List α}{ρ:Qf},
  (∀ a ∈ l,∀ ρ,P ρ->∃ o,g (upd ρ x (h a))=some o∧((ok a=true∧∃ ρ',o=.next ρ'∧P ρ')∨(ok a=false∧o=.ret d)))->P ρ->
  ∃ o,forL x g (l.map h) ρ=some o∧((l.all ok=true->∃ ρ',o=.next ρ')∧(l.all ok=false->o=.ret d))
 | [],ρ,_,hP=>⟨_,rfl,fun _=>⟨ρ,rfl⟩,fun h=>by simp at h⟩
 | a :: l,ρ,hg,hP=>by
  refine ob1_2 (hg a (.head _) ρ hP) ?_;rintro o e (⟨ho,ρ',rfl,hP'⟩ | ⟨ho,rfl⟩)
  ·refine ob1_2 (Qlc (l:=l) (fun a ha=>hg a (.tail _ ha)) hP') fun o e2 r=>?_
   refine in1_2 o ?_ ?_
   ·rw [List.map_cons,forL,e];exact e2
   ·rw [List.all_cons,ho,Bool.true_and];exact r
  ·refine in1_2 (.ret d) ?_ ?_
   ·rw [List.map_cons,forL,e];rfl
   ·rw [List.all_cons,ho];simp
theorem bind_exE{α β:Type}{x:Option α}{f:α->Option β}{P:α->Prop}{Q:β->Prop}(h:∃ a,x=some a∧P a)(h2:∀ a,P a->∃ b,f a=some b∧Q b):∃ b,x.bind f=some b∧Q b:=by
 refine ob1_2 h ?_;rintro a rfl hP
 exact h2 a hP
theorem sgn_small:∀ k < 5,∀ z < 5,-(2 ^ 64) < sgn k z∧sgn k z < 2 ^ 64:=by decide +kernel
theorem Ql1(e:Nat):-(2 ^ 64) < ((-1:Int)) ^ e∧((-1:Int)) ^ e < 2 ^ 64:=by
 have:∀ e:Nat,((-1:Int)) ^ e=1∨((-1:Int)) ^ e=-1:=fun e=>by
  induction e with
  | zero=>exact .inl rfl
  | succ e ih=>rw [Int.pow_succ];rcases ih with h | h <;> rw [h] <;> simp
 rcases this e with h | h <;> rw [h] <;> decide
theorem Ql8:∀ w < 16,(Qad (w:Nat)).length < 5:=by decide +kernel
theorem pack_len{l:List Ent}(h:l.length <= 1000):(((Qcs (l.map D.ent)).bind fun a=>some [a]).bind (one Qma))=some (.data (.int (l.length:Nat))):=by
 cases l with
 | nil=>rfl
 | cons a l=>
  have e:∀ l:List Ent,Qgc (l.map D.ent)=some l:=fun l=>by
   induction l with
   | nil=>rfl
   | cons a l ih=>simp [Qln,ih]
  have e2:Xz ((a :: l).map D.ent)=none:=rfl
  unfold Qcs
  simp only [e2,e,Option.elim_none,Option.map_some,Option.bind_some,one_1,Qk2,lenD_e,h,if_true]
theorem Qeo:∀ ns:List Nat,Jv (ns.map fun z=>PyData.int (z:Nat))=some (ns.map Int.ofNat)
 | []=>rfl
 | a :: ns=>by rw [List.map_cons,Jv,Qeo ns];rfl
theorem Qf8(k:Nat):∀ ns:List Nat,(ns.map Int.ofNat).count (k:Int)=(ns.filter fun z=>decide (z=k)).length
 | []=>rfl
 | a :: ns=>by
  rw [List.map_cons,List.count_cons,Qf8 k ns,List.filter_cons]
  by_cases h:a=k
  ·simp [h]
  ·have h':¬ ((a:Nat):Int)=(k:Nat):=by lia
   simp [h,h']
noncomputable def Qe5(rows:List (List Str))(k:Nat)(b:Int)(w:Nat):Int:=if k <= (Qad w).length then b + sgn k (Qad w).length * ((rows.getD w []).length:Nat) else b
theorem Qe4(rows:List (List Str))(k:Nat):∀ (ws:List Nat) (b:Int),ws.foldl (Qe5 rows k) b=b + Xw k (fun w=>((rows.getD w []).length:Int)) ws
 | [],b=>by simp [Xw]
 | w :: ws,b=>by
  rw [List.foldl_cons,Qe4 rows k ws,Xw,Qe5]
  split <;> lia
theorem pow_fact{z k:Nat}(hkz:k <= z)(hz:z < 5):powD (.data (.int (-1))) (.data (.int ((z:Int) - k)))=some (.data (.int ((-1) ^ (z - k)))):=by
 have ht:((z:Int) - k).toNat=z - k:=by lia
 rw [powD_i]
 simp only [ht]
 rw [if_pos ⟨by lia,by lia,by decide⟩]
theorem mul_fact{z k:Nat}:mulD (.data (.int ((-1) ^ (z - k)))) (.data (.int (choose z k:Nat)))=some (.data (.int (sgn k z))):=by
 rw [mulD_i]
 rw [if_pos (Ql1 (z - k))]
 rfl
theorem mul_fact2{z k m:Nat}(hk5:k < 5)(hz:z < 5):mulD (.data (.int (sgn k z))) (.data (.int (m:Nat)))=some (.data (.int (sgn k z * (m:Nat)))):=by
 rw [mulD_i]
 rw [if_pos (sgn_small k hk5 z hz)]
noncomputable def cntIf(Fw:List D->Option D):Qf->Option Out:=fun ρ'=>(Option.map (fun d=>Out.next (upd ρ' (Str.ofString "count") d)) ((ρ' (Str.ofString "count")).bind fun a=>
  ((((negD (D.data (PyData.int 1))).bind fun a=>((ρ' (Str.ofString "size")).bind fun a=>(ρ' (Str.ofString "k")).bind fun b=>Qi9 a b).bind fun b=>powD a b).bind fun a=>
   (((ρ' (Str.ofString "k")).bind fun a=>Option.map (fun x=>a :: x) ((ρ' (Str.ofString "size")).bind fun a=>some [a])).bind Fw).bind fun b=>mulD a b).bind fun a=>
   ((((ρ' (Str.ofString "rows")).bind fun a=>(ρ' (Str.ofString "which")).bind fun b=>Qb5 a b).bind fun a=>some [a]).bind (one Qma)).bind fun b=>mulD a b).bind fun b=>addD a b)).bind fun o=>
  match o with
  | Out.next ρ'=>some (Out.next ρ')
  | Out.ret d=>some (Out.ret d)
noncomputable def cntIn(Fm Fw:List D->Option D):Qf->Option Out:=fun ρ=>
 (Option.map (fun d=>Out.next (upd ρ (Str.ofString "size") d)) (((((ρ (Str.ofString "which")).bind fun a=>some [a]).bind Fm).bind fun a=>some [a]).bind (one Qma))).bind fun o=>
  match o with
  | Out.next ρ'=>(((ρ' (Str.ofString "size")).bind fun a=>(ρ' (Str.ofString "k")).bind fun b=>(geD a b).bind trD).bind fun c=>if c then cntIf Fw ρ' else some (Out.next ρ')).bind fun o=>
    match o with
    | Out.next ρ'=>some (Out.next ρ')
    | Out.ret d=>some (Out.ret d)
  | Out.ret d=>some (Out.ret d)
theorem Qms{Fm Fw:List D->Option D}(eM:∀ w:Int,0 <= w->w < 16->Fm [.data (.int w)]=some (Xa (Qad w)))(eW:∀ few many:Nat,few <= many->many <= 4->Fw [.data (.int few),.data (.int many)]=some (.data (.int (choose many few)))){rows:List (List Str)}{N:D}{k:Nat}(hk5:k < 5)(h16:rows.length=16)(hr:∀ r ∈ rows,texty r∧r.length <= 20):
  ∀ w ∈ List.range 16,∀ (b:Int) (ρ:Qf),(ρ "rows"=some (Zy rows)∧ρ "named"=some N∧ρ "k"=some (.data (.int (k:Nat)))∧ρ "count"=some (.data (.int b)))->
   ∃ ρ',cntIn Fm Fw (upd ρ "which" (.data (.int (w:Nat))))=some (.next ρ')∧(ρ' "rows"=some (Zy rows)∧ρ' "named"=some N∧ρ' "k"=some (.data (.int (k:Nat)))∧ρ' "count"=some (.data (.int (Qe5 rows k b w)))):=by
 unfold cntIn
 intro w hw b ρ z0;refine Qdk z0 fun q1 q2 q3 q4=>?_
 have hw16:w < 16:=List.mem_range.mp hw
 have hz:=Ql8 w hw16
 have eM':=eM (w:Nat) (by lia) (by lia)
 have el:Qma (Xa (Qad (w:Nat)))=some (.data (.int ((Qad (w:Nat)).length:Nat))):=by
  rw [Qk2]
  simp only [List.length_map]
  rw [if_pos (by lia)]
 have ei:=Qc8 (rows:=rows) (k:=w) (by lia) (by lia)
 have hrl:(rows.getD w []).length <= 20:=by
  have:rows.getD w []=rows[w]'(by lia):=by rw [List.getD_eq_getElem?_getD,List.getElem?_eq_getElem (by lia)];rfl
  rw [this];exact (hr _ (List.getElem_mem _)).2
 have el2:Qma (Qz (rows.getD w []))=some (.data (.int ((rows.getD w []).length:Nat))):=by
  rw [Qk2]
  simp only [List.length_map]
  rw [if_pos (by lia)]
 have ealt:Qe5 rows k b w=if k <= (Qad (w:Nat)).length then b + sgn k (Qad (w:Nat)).length * ((rows.getD w []).length:Nat) else b:=rfl
 rw [ealt]
 generalize (Qad (w:Nat)).length=z at hz el ealt ⊢
 have ez:((upd ρ (Str.ofString "which") (.data (.int (w:Nat)))) (Str.ofString "which"))=some (.data (.int (w:Nat))):=Qd _ _ _
 simp only [ez,Option.bind_some,eM',one_1,el,Option.map_some]
 generalize hρ2:upd (upd ρ (Str.ofString "which") (.data (.int (w:Nat)))) (Str.ofString "size") (.data (.int (z:Nat)))=ρ2
 have p1:ρ2 "rows"=some (Zy rows):=by rw [← hρ2];simp [upd,ofString_inj,q1]
 have p2:ρ2 "named"=some N:=by rw [← hρ2];simp [upd,ofString_inj,q2]
 have p3:ρ2 "k"=some (.data (.int (k:Nat))):=by rw [← hρ2];simp [upd,ofString_inj,q3]
 have p4:ρ2 "count"=some (.data (.int b)):=by rw [← hρ2];simp [upd,ofString_inj,q4]
 have p5:ρ2 "size"=some (.data (.int (z:Nat))):=by rw [← hρ2];exact Qd _ _ _
 have p6:ρ2 "which"=some (.data (.int (w:Nat))):=by rw [← hρ2];simp [upd,ofString_inj]
 have eg:geD (.data (.int (z:Nat))) (.data (.int (k:Nat)))=some (.data (.bool (decide (k <= z)))):=by
  rw [geD_i]
  simp only [ge_iff_le,Int.ofNat_le]
 simp only [p5,p3,Option.bind_some,eg,Jz]
 by_cases hkz:k <= z
 ·have en:negD (.data (.int 1))=some (.data (.int (-1))):=rfl
  have es':Qi9 (.data (.int (z:Nat))) (.data (.int (k:Nat)))=some (.data (.int ((z:Int) - k))):=rfl
  have ep:=pow_fact hkz hz
  have em:=mul_fact (z:=z) (k:=k)
  have em2:=mul_fact2 (m:=(rows.getD w []).length) hk5 hz
  have ew:=eW k z hkz (by lia)
  have eo:one Qma [Qz (rows.getD w [])]=some (.data (.int ((rows.getD w []).length:Nat))):=el2
  have ea:addD (.data (.int b)) (.data (.int (sgn k z * ((rows.getD w []).length:Nat))))=some (.data (.int (b + sgn k z * ((rows.getD w []).length:Nat)))):=rfl
  have e2:((ρ2 (Str.ofString "k")).bind fun a=>Option.map (fun x=>a :: x) ((ρ2 (Str.ofString "size")).bind fun a=>some [a]))=some [.data (.int (k:Nat)),.data (.int (z:Nat))]:=by rw [p3,p5,Option.bind_some,Option.bind_some,Option.map_some]
  have e3:((ρ2 (Str.ofString "size")).bind fun a=>(ρ2 (Str.ofString "k")).bind fun b=>Qi9 a b)=some (.data (.int ((z:Int) - k))):=by rw [p3,p5,Option.bind_some,Option.bind_some,es']
  have e4:((ρ2 (Str.ofString "rows")).bind fun a=>(ρ2 (Str.ofString "which")).bind fun b=>Qb5 a b)=some (Qz (rows.getD w [])):=by rw [p1,p6,Option.bind_some,Option.bind_some,ei]
  have e5:((negD (D.data (PyData.int 1))).bind fun a=>((ρ2 (Str.ofString "size")).bind fun a=>(ρ2 (Str.ofString "k")).bind fun b=>Qi9 a b).bind fun b=>powD a b)=some (.data (.int ((-1) ^ (z - k)))):=by rw [en,e3,Option.bind_some,Option.bind_some,ep]
  have e6:cntIf Fw ρ2=some (.next (upd ρ2 "count" (.data (.int (b + sgn k z * ((rows.getD w []).length:Nat)))))):=by
   unfold cntIf
   rw [e5,e2,e4,p4]
   rw [Option.bind_some,Option.bind_some,Option.bind_some,ew,Option.bind_some,em,Option.bind_some,Option.bind_some]
   rw [Option.bind_some,eo,Option.bind_some,em2,Option.bind_some,ea]
   rfl
  rw [if_pos (by simpa using hkz),if_pos hkz,e6]
  exact in1_5 _ rfl (by simp [upd,ofString_inj,p1]) (by simp [upd,ofString_inj,p2]) (by simp [upd,ofString_inj,p3]) (Qd _ _ _)
 ·simp only [hkz,decide_false,Bool.false_eq_true,if_false,Option.bind_some]
  exact in1_5 _ rfl p1 p2 p3 p4
section
variable {G:Amb}[Qab G] {n:Nat}{V:Addr->Prop}
theorem fn_counts(AG:Qv G)(FO:Zp G)(hd:Xf G 25)(h_t:∃ F,FnOk G 1 V "_law_texts" F∧F []=some (Qz texts))
  (h_m:∃ F,FnOk G 1 V "_law_members" F∧∀ w:Int,0 <= w->w < 16->F [.data (.int w)]=some (Xa (Qad w)))
  (h_w:∃ F,FnOk G 1 V "_law_ways" F∧∀ few many:Nat,few <= many->many <= 4->F [.data (.int few),.data (.int many)]=some (.data (.int (choose many few)))):
  ∃ F,FnOk G 3 V "_law_counts_are_right" F∧∀ (rows:List (List Str)) (es:List Ent),rows.length=16->(∀ r ∈ rows,texty r∧r.length <= 20)->es.length=4->(∀ e ∈ es,Qa1 e)->F [Zy rows,.ents es]=some (.data (.bool ((List.range 5).all fun k=>decide (Xw k (fun w=>((rows.getD w []).length:Int)) (List.range 16)=(((texts.map fun t=>(es.filter fun e=>decide (t ∈ e.u)).length).filter fun z=>decide (z=k)).length:Int))))):=by
 refine ob1_2 h_t fun Ft h__law_texts eT=>?_
 refine ob1_2 h_m fun Fm h__law_members eM=>?_
 refine ob1_2 h_w fun Fw h__law_ways eW=>?_
 refine ⟨_,Qfe (n:=2) (xs:=["rows","records"]) AG hd rfl (fun _ _ _=>bind2 fun _ _=>rfl) dk dk dk rfl rfl rfl dk
  (Qk (st_compP dk (Zj (Zw AG h__law_texts rfl (by lia) (fun _ h=>h) dk evs_nil)) (fun _ _=>rfl) Qai (Qip AG FO rfl (Qc (fun _=>rfl) (Jg dk (Zj (Qb _ _ dk dk)) (fun _ _=>rfl) (Qah (Ql op_in Qq (Qb _ _ dk dk) (Zr AG .u (fun _=>rfl) (Qb _ _ dk dk)) rfl)) (Qb _ _ dk dk)) evs_nil)) rfl dk rfl rfl)
  (Qk (Qht (Xk AG rfl (FO _ dk) (Qc (fun _=>rfl) (Qj _ _ _) evs_nil)) (fun _ _=>rfl) (.inl rfl) dk (Qk (Zx (Qj _ _ _) (.inl rfl) dk (fun _ _=>rfl))
  (Qk (Qht (Xk AG rfl (FO _ dk) (Qc (fun _=>rfl) (Qj _ _ _) evs_nil)) (fun _ _=>rfl) (.inl rfl) dk (Qk (Zx (Qip AG FO rfl (Qc (fun _=>rfl) (Zw AG h__law_members rfl (by lia) (fun _ h=>h) dk (Qc (fun _=>rfl) (Qb _ _ dk dk) evs_nil)) evs_nil)) (.inl rfl) dk (fun _ _=>rfl))
  (Qk (Qgl (Ql op_ge Qq (Qb _ _ dk dk) (Qb _ _ dk dk) rfl) (Qk (Zx (Zc Qeg (Qb _ _ dk dk) (Zc Qky (Zc Qky (Zc op_pow (ev_un Qkk (Qj _ _ _)) (Zc Qef (Qb _ _ dk dk) (Qb _ _ dk dk))) (Zw AG h__law_ways rfl (by lia) (fun _ h=>h) dk (Qc (fun _=>rfl) (Qb _ _ dk dk) (Qc (fun _=>rfl) (Qb _ _ dk dk) evs_nil)))) (Qip AG FO rfl (Qc (fun _=>rfl) (Zu (fun _ _ _=>rfl) (Qb _ _ dk dk) (Qb _ _ dk dk)) evs_nil)))) (.inl rfl) dk (fun _ _=>rfl))
  Zh) Zh)
  Zh)))
  (Qk (Qgl (Ql Qfa Qq (Qb _ _ dk dk) (ev_count (fun _=>rfl) (fun _=>rfl) rfl (fun _=>rfl) (Qb _ _ dk dk) (Qb _ _ dk dk)) rfl) (Qk (Qu (Qb9 _ _ _))
  Zh) Zh)
  Zh))))
  (Qk (Qu (Qb9 _ _ _))
  Zh))),?_⟩
 intro rows es h16 hr h4 he
 simp only [List.length_cons,List.length_nil,if_true,Option.bind_some,Option.map_some,eT,Jh,Ji]
 have hlt:(texts.map (D.data ∘ PyData.str)).length <= 1000:=by decide
 have hle:(es.map D.ent).length <= 1000:=by rw [List.length_map];lia
 have c1:Xl (Str.ofString "text") (fun x=>some true) (fun ρ=>((((ρ (Str.ofString "records")).bind Ju).bind fun ds=>if ds.length <= 1000 then (Xl (Str.ofString "record") (fun ρ=>(ρ (Str.ofString "text")).bind fun a=>((ρ (Str.ofString "record")).bind (attrD fun e=>PyData.list (List.map PyData.str e.u))).bind fun b=>(inD a b).bind trD) (fun ρ=>ρ (Str.ofString "record")) ρ ds).bind Qcs else none).bind fun a=>some [a]).bind (one Qma))
   (Xt [Str.ofString "rows",Str.ofString "records"] [Zy rows,D.ents es]) (texts.map (D.data ∘ PyData.str))=some (texts.map fun t=>.data (.int ((es.filter fun e=>decide (t ∈ e.u)).length:Nat))):=by
  refine Xq fun t ht=>?_
  simp only [upd,ofString_inj,String.reduceEq,if_true,if_false,Qp,Option.bind_some,Jh,Ji,hle,Function.comp]
  rw [Xp (p:=fun e=>decide (t ∈ e.u)) (q:=fun e=>.ent e)]
  ·simp only [List.map_id',Option.bind_some]
   exact pack_len (Nat.le_trans (List.length_filter_le _ _) (by lia))
  ·intro e hm
   simp [upd,ofString_inj,attrD,Qk8 ht (he e hm).u,Jz]
  ·intro e _ _
   simp [upd]
 have hmm:List.map D.data (List.map PyData.str texts)=texts.map (D.data ∘ PyData.str):=List.map_map
 have hr5:Zi [.data (.int 5)]=some ((List.range 5).map fun k=>D.data (.int (k:Nat))):=by
  rw [Qbj ⟨by lia,by lia⟩];unfold Qa9;congr 1
 have hr16:Zi [.data (.int 16)]=some ((List.range 16).map fun k=>D.data (.int (k:Nat))):=by
  rw [Qbj ⟨by lia,by lia⟩,Qgu]
 generalize hns:(texts.map fun t=>(es.filter fun e=>decide (t ∈ e.u)).length)=ns
 have hpl:Xz (texts.map fun t=>.data (.int ((es.filter fun e=>decide (t ∈ e.u)).length:Nat)))=some (ns.map fun z=>.int (z:Nat)):=by
  rw [Qe2 (g:=fun t=>.int ((es.filter fun e=>decide (t ∈ e.u)).length:Nat)),← hns,List.map_map];rfl
 simp only [hmm,hlt,if_true,c1,Option.bind_some,hpl,Option.map_some,hr5,hr16]
 refine Qg2 ?_
 refine Qkd (Qlc (ok:=fun k=>decide (Xw k (fun w=>((rows.getD w []).length:Int)) (List.range 16)=((ns.filter fun z=>decide (z=k)).length:Int))) (d:=.data (.bool false))
  (P:=fun ρ=>ρ "rows"=some (Zy rows)∧ρ "named"=some (.plain (ns.map fun z=>.int (z:Nat)))) ?_ ?_) ?_
 ·intro k hk ρ z0;refine Qx z0 fun hρr hρn=>?_
  have hk5:k < 5:=List.mem_range.mp hk
  refine bind_exE (Qch (g:=cntIn Fm Fw) (step:=Qe5 rows k) (b:=(0:Int)) (P:=fun b ρ=>ρ "rows"=some (Zy rows)∧ρ "named"=some (.plain (ns.map fun z=>.int (z:Nat)))∧ρ "k"=some (.data (.int (k:Nat)))∧ρ "count"=some (.data (.int b))) ?_ ?_) ?_
  ·exact Qms eM eW hk5 h16 hr
  ·exact Qj0 (by simp [upd,ofString_inj,hρr]) (by simp [upd,ofString_inj,hρn]) (by simp [upd,ofString_inj]) (Qd _ _ _)
  ·intro o z0;refine ob1_5 z0 ?_;rintro ρ' rfl q1 q2 q3 q4
   have hlen:ns.length <= 1000:=by rw [← hns,List.length_map];decide
   rw [Qe4,Int.zero_add] at q4
   have ec:countD (.plain (ns.map fun z=>.int (z:Nat))) (.data (.int (k:Nat)))=some (.data (.int ((ns.filter fun z=>decide (z=k)).length:Nat))):=by
    show (Jv _).map _=_
    rw [Qeo,Option.map_some,Qf8]
   simp only [q2,q3,q4,Option.bind_some,ec]
   generalize Xw k (fun w=>((rows.getD w []).length:Int)) (List.range 16)=a
   generalize ((ns.filter fun z=>decide (z=k)).length)=b'
   have en:neD (.data (.int a)) (.data (.int (b':Nat)))=some (.data (.bool (!decide (a=(b':Int))))):=by
    rw [Qjs]
    simp only [Qh5,PyData.eqv,Bool.and_self,if_true]
    by_cases h:a=(b':Int) <;> simp [h]
   simp only [en,Option.bind_some,Jz]
   by_cases h:a=(b':Int)
   ·simp only [h,decide_true,Bool.not_true,Bool.false_eq_true,if_false,Option.bind_some]
    exact in1_2 _ rfl (.inl ⟨trivial,_,rfl,q1,q2⟩)
   ·simp only [h,decide_false,Bool.not_false,if_true,Option.bind_some]
    exact in1_2 _ rfl (.inr ⟨trivial,rfl⟩)
 ·exact ⟨by simp [upd,ofString_inj,Qp],by simp [upd,ofString_inj]⟩
 ·rintro o ⟨h1,h2⟩
  cases hall:(List.range 5).all fun k=>decide (Xw k (fun w=>((rows.getD w []).length:Int)) (List.range 16)=((ns.filter fun z=>decide (z=k)).length:Int)) with
  | true=>obtain ⟨ρ',rfl⟩:=h1 hall;rfl
  | false=>rw [h2 hall]
end
theorem bS{α β:Type}(a:α)(f:α->Option β):(some a).bind f=f a:=by simp
theorem mS{α β:Type}(a:α)(f:α->β):(some a).map f=some (f a):=by simp
noncomputable def Row(l:List Str):Prop:=∃ p:Str->Bool,l=texts.filter p
theorem Row.texty{l:List Str}(h:Row l):texty l:=by
 obtain ⟨p,rfl⟩:=h
 exact fun x hx=>(List.mem_filter.mp hx).1
theorem Row.few{l:List Str}(h:Row l):l.length <= 5:=by
 refine ob1_1 h ?_;rintro p rfl
 exact List.length_filter_le _ _
theorem seqX{x:Option Out}{k:Qf->Option Out}{P R:Qf->Prop}(h:∃ ρ',x=some (.next ρ')∧P ρ')(h2:∀ ρ',P ρ'->∃ ρ2,k ρ'=some (.next ρ2)∧R ρ2):∃ ρ2,(x.bind fun o=>match o with | .next ρ'=>k ρ' | .ret d=>some (.ret d))=some (.next ρ2)∧R ρ2:=by
 refine ob1_2 h ?_;rintro ρ' rfl hP
 exact h2 ρ' hP
section
variable {G:Amb}{n:Nat}{V:Addr->Prop}{ks:Qi}
theorem Qlv{x y:Str}{px py p:Pos}{k:Nat}{e:Expr}{env:Env}{vs:List Expr}{k2:Nat}{p2:Pos}(he:EnvOk G V ks env)(hv:e=.Tuple vs k2 p2)(hx:ks.lookup x=some .cell)(hy:ks.lookup y=some .cell):
  swappedStores [.Tuple [.Name x px,.Name y py] k p] e env=pure none:=by
 subst hv
 have e1:env.kindOf x=some .cell:=by unfold Env.kindOf;rw [he.names];exact hx
 have e2:env.kindOf y=some .cell:=by unfold Env.kindOf;rw [he.names];exact hy
 unfold swappedStores
 simp [e1,e2,List.filterMap]
end
noncomputable def dueF(a b:List Str):Int:=if a=b then 0 else if ltL b a then 1 else -1
theorem due_b3(a b:List Str):b3 a b=dueF a b:=by
 unfold b3 dueF
 by_cases h:a=b
 ·subst h
  simp
 ·rw [if_neg h]
  cases h1:ltL b a with
  | true=>rw [Qat b a h1];rfl
  | false=>
   cases h2:ltL a b with
   | true=>rfl
   | false=>exact absurd (Jt a b h2 h1) h
theorem ne_int(a b:Int):neD (.data (.int a)) (.data (.int b))=some (.data (.bool (!decide (a=b)))):=by
 rw [Qjs]
 simp only [Qh5,Bool.and_self,if_true,PyData.eqv]
 congr 3
theorem Qlh(a b:Int):eqD (.data (.int a)) (.data (.int b))=some (.data (.bool (decide (a=b)))):=by
 rw [eqD_d]
 simp only [Qh5,Bool.and_self,if_true,PyData.eqv]
 congr 3
noncomputable abbrev Qdo(a b:List Str):PyData:=.tuple [.list ((a.filter fun t=>decide (t ∉ b)).map .str),.list ((b.filter fun t=>decide (t ∉ a)).map .str)]
theorem ne_diff{a b:List Str}(ha:texty a)(hb:texty b):neD (.data (Qdo a b)) (.data (Qdo a b))=some (.data (.bool false)):=by
 have h1:=Qa2 (fun t=>decide (t ∉ b)) ha
 have h2:=Qa2 (fun t=>decide (t ∉ a)) hb
 have ok:okD (Qdo a b)=true:=Qbz (by
  have e1:∀ l:List Str,texty l->(l.map PyData.str).all (Qlt 7)=true:=fun l hl=>by
   simp only [List.all_map,List.all_eq_true,Function.comp]
   intro x hx
   show decide (x ∈ texts)=true
   exact decide_eq_true (hl x hx)
  show ([PyData.list _,PyData.list _].all (Qlt 8))=true
  simp only [List.all_cons,List.all_nil,Bool.and_true,Qcd,e1 _ h1,e1 _ h2])
 rw [Qjs]
 rw [ok]
 simp [Qdo,PyData.eqv,PyData.eqvAll,Qci]
theorem Qll{x y:Str}{ρ:Qf}{a b:List Str}(ha:texty a)(hb:texty b)(hl:a.length <= 1000)(hxy:y≠x)(h1:ρ y=some (Qz b)):
  ((Ju (Qz a)).bind fun ds=>if ds.length <= 1000 then (Xl x (fun ρ=>(ρ x).bind fun a=>(ρ y).bind fun b=>(Qej a b).bind trD) (fun ρ=>ρ x) ρ ds).bind Qcs else none)=some (Qz (a.filter fun t=>decide (t ∉ b))):=by
 have e:Ju (Qz a)=some (a.map fun t=>D.data (.str t)):=by
  show some ((a.map PyData.str).map D.data)=_
  rw [List.map_map];rfl
 rw [e,Option.bind_some,List.length_map,if_pos hl]
 rw [Xp (p:=fun t=>decide (t ∉ b)) (q:=fun t=>.data (.str t))]
 ·rw [Option.bind_some,pack_map]
 ·intro t ht
  rw [Qd,Zb _ _ hxy,h1,Option.bind_some,Option.bind_some,notIn_str (ha t ht) hb]
  simp [Jz]
 ·intro t _ _
  exact Qd _ _ _
section
variable {G:Amb}[Qab G] {V:Addr->Prop}
theorem fn_halves(AG:Qv G)(FO:Zp G)(hd:Xf G 20)(h_3:∃ F,FnOk G 1 V "three_way_cmp" F∧∀ a b:List Str,F [Qz a,Qz b]=some (.data (.int (b3 a b))))(h_d:∃ F,FnOk G 2 V "sorted_list_difference" F∧∀ a b:List Str,Row a->Row b->F [Qz a,Qz b]=some (.data (Qdo a b))):
  ∃ F,FnOk G 3 V "_law_halves_are_right" F∧∀ rows:List (List Str),rows.length=16->(∀ r ∈ rows,Row r)->F [Zy rows]=some (.data (.bool true)):=by
 obtain ⟨F3,h_three_way_cmp,e3⟩:=h_3
 obtain ⟨Fd,h_sorted_list_difference,eD⟩:=h_d
 refine ⟨_,Qfe (n:=2) (xs:=["rows"]) AG hd rfl (fun _ _ _=>bind1 fun _=>rfl) dk dk dk rfl rfl rfl dk
  (Qk (Qht (Xk AG rfl (FO _ dk) (Qc (fun _=>rfl) (Qj _ _ _) evs_nil)) (fun _ _=>rfl) (.inl rfl) dk (Qk (st_pair (Qdy (Qc (fun _=>rfl) (Zu (fun _ _ _=>rfl) (Qb _ _ dk dk) (Qb _ _ dk dk)) (Qc (fun _=>rfl) (Zu (fun _ _ _=>rfl) (Qb _ _ dk dk) (Zc Qef (Qj _ _ _) (Qb _ _ dk dk))) evs_nil))) (.inr rfl) (.inr rfl) dk dk (fun _=>rfl) (fun env he=>Qlv he rfl rfl rfl))
  (Qk (Zx (Zw AG h_three_way_cmp rfl (by lia) (fun _ h=>h) dk (Qc (fun _=>rfl) (Qb _ _ dk dk) (Qc (fun _=>rfl) (Qb _ _ dk dk) evs_nil))) (.inl rfl) dk (fun _ _=>rfl))
  (Qk (Zx (Qmm (Ql Qh4 Qq (Qb _ _ dk dk) (Qb _ _ dk dk) rfl) (Qj _ _ _) (Qj _ _ _)) (.inl rfl) dk (fun _ _=>rfl))
  (Qk (Qgl (test_and (Ql Qh4 Qq (Qb _ _ dk dk) (Qj _ _ _) rfl) (Ql Qh4 Qq (Zu (fun _ _ _=>rfl) (ev_sort2 AG FO rfl (Qc (fun _=>rfl) (Qau (Qc (fun _=>rfl) (Qb _ _ dk dk) (Qc (fun _=>rfl) (Qb _ _ dk dk) evs_nil))) evs_nil)) (Qj _ _ _)) (Qb _ _ dk dk) rfl)) (Qk (Zx (ev_un Qkk (Qj _ _ _)) (.inl rfl) dk (fun _ _=>rfl))
  Zh) Zh)
  (Qk (Qgl (test_or (Ql Qjp Qq (ev_type AG FO rfl (fun _=>rfl) (Qb _ _ dk dk)) (ev_bname AG FO rfl dk PyProof.Rows.Boot.«int» dk dk) rfl) (Ql Qfa Qq (Qb _ _ dk dk) (Qb _ _ dk dk) rfl)) (Qk (Qu (Qb9 _ _ _))
  Zh) Zh)
  (Qk (Qd5 dk (Zj (Qb _ _ dk dk)) (fun _ _=>rfl) (Qah (Ql Qgw Qq (Qb _ _ dk dk) (Qb _ _ dk dk) rfl)) (Qb _ _ dk dk) rfl dk rfl rfl)
  (Qk (Qgl (Ql Qfa Qq (Zw AG h_sorted_list_difference rfl (by lia) (fun _ h=>h) dk (Qc (fun _=>rfl) (Qb _ _ dk dk) (Qc (fun _=>rfl) (Qb _ _ dk dk) evs_nil))) (Qdy (Qc (fun _=>rfl) (Qb _ _ dk dk) (Qc (fun _=>rfl) (Jg dk (Zj (Qb _ _ dk dk)) (fun _ _=>rfl) (Qah (Ql Qgw Qq (Qb _ _ dk dk) (Qb _ _ dk dk) rfl)) (Qb _ _ dk dk)) evs_nil))) rfl) (Qk (Qu (Qb9 _ _ _))
  Zh) Zh)
  Zh))))))))
  (Qk (Qu (Qb9 _ _ _))
  Zh)),?_⟩
 intro rows h16 hr
 refine Qg2 ?_
 have hr16:Zi [.data (.int 16)]=some ((List.range 16).map fun k=>D.data (.int (k:Nat))):=by
  rw [Qbj ⟨by lia,by lia⟩,Qgu]
 simp only [bS,hr16]
 refine Qkd (Qch (P:=fun _ ρ=>ρ "rows"=some (Zy rows)) (step:=fun b _=>b) (b:=()) ?_ (by simp [Qp])) ?_
 ·rintro w hw _ ρ hρ
  have hw16:w < 16:=List.mem_range.mp hw
  have mem:∀ k,k < 16->Row (rows.getD k []):=fun k hk=>hr _ (by
   have:rows.getD k []=rows[k]'(by lia):=by rw [List.getD_eq_getElem?_getD,List.getElem?_eq_getElem (by lia)];rfl
   rw [this];exact List.getElem_mem _)
  have ra:=mem w hw16
  have rb:=mem (15 - w) (by lia)
  have ia:=Qc8 (rows:=rows) (k:=w) (by lia) (by lia)
  have ib:=Qc8 (rows:=rows) (k:=15 - w) (by lia) (by lia)
  generalize rows.getD w []=a at ra ia
  generalize rows.getD (15 - w) []=b at rb ib
  have es:Qi9 (.data (.int 15)) (.data (.int (w:Nat)))=some (.data (.int ((15 - w:Nat):Int))):=by
   rw [subD_i]
   have:(15:Int) - (w:Nat)=((15 - w:Nat):Int):=by lia
   rw [this]
  have ha:=ra.texty
  have hb:=rb.texty
  have la:=ra.few
  have lb:=rb.few
  rw [show ((0:Int) + (w:Nat))=(w:Nat) from Int.zero_add _]
  have q1:upd ρ "which" (.data (.int (w:Nat))) "rows"=some (Zy rows):=by simp [upd,ofString_inj,hρ]
  have q2:upd ρ "which" (.data (.int (w:Nat))) "which"=some (.data (.int (w:Nat))):=Qd _ _ _
  generalize upd ρ "which" (.data (.int (w:Nat)))=ρ1 at q1 q2 ⊢
  have e0:(0 + 1 + 1:Nat) <= 1000:=by decide
  refine seqX (P:=fun ρ=>ρ "rows"=some (Zy rows)∧ρ "one"=some (Qz a)∧ρ "other"=some (Qz b)) ⟨upd (upd ρ1 "one" (Qz a)) "other" (Qz b),?_,?_⟩ ?_
  ·simp only [q1,q2,bS,mS,ia,es,ib,List.length_cons,List.length_nil,e0,if_true]
   rfl
  ·exact Jw (by simp [upd,ofString_inj,q1]) (by simp [upd,ofString_inj]) (Qd _ _ _)
  intro ρ2 z0;refine Jo z0 fun p1 p2 p3=>?_
  refine seqX (P:=fun ρ=>ρ "rows"=some (Zy rows)∧ρ "one"=some (Qz a)∧ρ "other"=some (Qz b)∧ρ "told"=some (.data (.int (b3 a b)))) ⟨upd ρ2 "told" (.data (.int (b3 a b))),?_,?_⟩ ?_
  ·simp only [p2,p3,bS,mS,e3]
  ·exact Qj0 (by simp [upd,ofString_inj,p1]) (by simp [upd,ofString_inj,p2]) (by simp [upd,ofString_inj,p3]) (Qd _ _ _)
  clear p1 p2 p3
  intro ρ3 z0;refine Qdk z0 fun p1 p2 p3 p4=>?_
  refine seqX (P:=fun ρ=>ρ "rows"=some (Zy rows)∧ρ "one"=some (Qz a)∧ρ "other"=some (Qz b)∧ρ "told"=some (.data (.int (b3 a b)))∧ρ "due"=some (.data (.int (if a=b then 0 else 1)))) ⟨upd ρ3 "due" (.data (.int (if a=b then 0 else 1))),?_,?_⟩ ?_
  ·simp only [p2,p3,bS,Qj5 ha hb,Jz]
   by_cases h:a=b <;> simp [h]
  ·exact Qg9 (by simp [upd,ofString_inj,p1]) (by simp [upd,ofString_inj,p2]) (by simp [upd,ofString_inj,p3]) (by simp [upd,ofString_inj,p4]) (Qd _ _ _)
  clear p1 p2 p3 p4
  intro ρ4 z0;refine Qaa z0 fun p1 p2 p3 p4 p5=>?_
  refine seqX (P:=fun ρ=>ρ "rows"=some (Zy rows)∧ρ "one"=some (Qz a)∧ρ "other"=some (Qz b)∧ρ "told"=some (.data (.int (b3 a b)))∧ρ "due"=some (.data (.int (dueF a b)))) ?_ ?_
  ·by_cases h:a=b
   ·refine in1_6 ρ4 ?_ p1 p2 p3 p4 ?_
    ·simp only [p5,h,if_true,bS,Qlh,Jz]
     rfl
    ·rw [p5];simp [dueF,h]
   ·have e1:Qcs [Qz a,Qz b]=some (.data (.list [.list (a.map .str),.list (b.map .str)])):=rfl
    have e2:Qc6 (.data (.list [.list (a.map .str),.list (b.map .str)]))=some (.data (.list (if ltL b a then [.list (b.map .str),.list (a.map .str)] else [.list (a.map .str),.list (b.map .str)]))):=by
     simp only [sort2D_2,strsOf?_map,bS,mS]
     split <;> rfl
    have e3:one Qc6 [.data (.list [.list (a.map .str),.list (b.map .str)])]=Qc6 (.data (.list [.list (a.map .str),.list (b.map .str)])):=rfl
    have e4:Qb5 (.data (.list (if ltL b a then [.list (b.map .str),.list (a.map .str)] else [.list (a.map .str),.list (b.map .str)]))) (.data (.int 0))=some (Qz (if ltL b a then b else a)):=by
     cases ltL b a <;> rfl
    have e5:eqD (Qz (if ltL b a then b else a)) (Qz a)=some (.data (.bool (!ltL b a))):=by
     split
     ·rename_i hb'
      rw [Qj5 hb ha,decide_eq_false (fun q=>h q.symm),hb'];rfl
     ·rename_i hb'
      rw [Qj5 ha ha,decide_eq_true rfl]
      simp [hb']
    have ee:eqD (.data (.int 1)) (.data (.int 1))=some (.data (.bool true)):=by rw [Qlh];rfl
    rw [if_neg h] at p5;replace p5:=p5
    have e6:((((((ρ4 (Str.ofString "one")).bind fun a=>Option.map (fun x=>a :: x) ((ρ4 (Str.ofString "other")).bind fun a=>Option.map (fun x=>a :: x) (some []))).bind fun ds=>if ds.length <= 1000 then Qcs ds else none).bind fun a=>Option.map (fun x=>a :: x) (some [])).bind (one Qc6)).bind fun a=>Qb5 a (D.data (PyData.int 0)))=some (Qz (if ltL b a then b else a)):=by
     rw [p2,p3]
     simp only [bS,mS,List.length_cons,List.length_nil,e0,if_true,e1,e3,e2,e4]
    simp only [p5,ee,bS,Jz,if_true]
    rw [e6,p2]
    simp only [bS,e5,Jz]
    cases hlt:ltL b a with
    | true=>exact in1_6 ρ4 rfl p1 p2 p3 p4 (by rw [p5];simp [dueF,h,hlt])
    | false=>exact in1_6 (upd ρ4 "due" (.data (.int (-1)))) rfl (by simp [upd,ofString_inj,p1]) (by simp [upd,ofString_inj,p2]) (by simp [upd,ofString_inj,p3]) (by simp [upd,ofString_inj,p4]) (by rw [Qd];simp [dueF,h,hlt])
  clear p1 p2 p3 p4 p5
  intro ρ5 z0;refine Qaa z0 fun p1 p2 p3 p4 p5=>?_
  refine seqX (P:=fun ρ=>ρ "rows"=some (Zy rows)∧ρ "one"=some (Qz a)∧ρ "other"=some (Qz b)) ⟨ρ5,?_,p1,p2,p3⟩ ?_
  ·rw [due_b3] at p4;replace p4:=p4
   have e1:typeD (.data (.int (dueF a b)))=some (.raw (.type "int")):=rfl
   have e2:Qg7 (.raw (.type "int")) (.raw (.type "int"))=some (.data (.bool false)):=by rfl
   simp only [p4,p5,bS,e1,e2,Jz,Bool.false_eq_true,if_false,ne_int,decide_true,Bool.not_true]
  clear p1 p2 p3 p4 p5
  intro ρ6 z0;refine Jo z0 fun p1 p2 p3=>?_
  refine seqX (P:=fun ρ=>ρ "rows"=some (Zy rows)∧ρ "one"=some (Qz a)∧ρ "other"=some (Qz b)∧ρ "beyond"=some (Qz (a.filter fun t=>decide (t ∉ b)))) ⟨upd ρ6 "beyond" (Qz (a.filter fun t=>decide (t ∉ b))),?_,?_⟩ ?_
  ·rw [p2,bS,Qll ha hb (by lia) (by simp [ofString_inj]) p3]
   rfl
  ·exact Qj0 (by simp [upd,ofString_inj,p1]) (by simp [upd,ofString_inj,p2]) (by simp [upd,ofString_inj,p3]) (Qd _ _ _)
  clear p1 p2 p3
  intro ρ7 z0;refine Qdk z0 fun p1 p2 p3 p4=>?_
  refine seqX (P:=fun ρ=>ρ "rows"=some (Zy rows)) ⟨ρ7,?_,p1⟩ (fun ρ' h=>⟨ρ',rfl,h⟩)
  have eT:Fd [Qz a,Qz b]=some (.data (Qdo a b)):=eD a b ra rb
  have eC:((Ju (Qz b)).bind fun ds=>if ds.length <= 1000 then (Xl "text" (fun ρ=>(ρ "text").bind fun a=>(ρ "one").bind fun b=>(Qej a b).bind trD) (fun ρ=>ρ "text") ρ7 ds).bind Qcs else none)=some (Qz (b.filter fun t=>decide (t ∉ a))):=Qll hb ha (by lia) (by simp [ofString_inj]) p2
  have eN:=ne_diff ha hb
  rw [p2,p3,p4]
  simp only [bS,mS,eT,eC,List.length_cons,List.length_nil,e0]
  have eA:Xz [Qz (List.filter (fun t=>decide (t ∉ b)) a),Qz (List.filter (fun t=>decide (t ∉ a)) b)]=some [.list ((a.filter fun t=>decide (t ∉ b)).map .str),.list ((b.filter fun t=>decide (t ∉ a)).map .str)]:=rfl
  simp only [if_true,eA,mS,bS,eN,Jz,Bool.false_eq_true,if_false]
 ·rintro o ⟨ρ',rfl,_⟩
  rfl
end
noncomputable abbrev slt(x y:Str):Prop:=x.cps.toList < y.cps.toList
theorem Qhw{x y:Str}(h:slt x y):x≠y:=fun q=>sl_irr x (by subst q;exact h)
theorem texts_rise:texts.Pairwise slt:=by decide +kernel
theorem Row.rise{l:List Str}(h:Row l):l.Pairwise slt:=by
 obtain ⟨p,rfl⟩:=h
 exact texts_rise.sublist List.filter_sublist
structure Qlq (xs ys:List Str) (i j:Nat) (ms us:List Str):Prop where
 hi:i <= xs.length
 hj:j <= ys.length
 hm:ms ++ (xs.drop i).filter (fun t=>decide (t ∉ ys.drop j))=xs.filter fun t=>decide (t ∉ ys)
 hu:us ++ (ys.drop j).filter (fun t=>decide (t ∉ xs.drop i))=ys.filter fun t=>decide (t ∉ xs)
section
variable {xs ys:List Str}{i j:Nat}{ms us:List Str}{x y:Str}
theorem inv9_zero:Qlq xs ys 0 0 [] []:=⟨Nat.zero_le _,Nat.zero_le _,rfl,rfl⟩
theorem Qk6(h:Qlq xs ys i j ms us)(rx:Row xs)(ry:Row ys):i <= 5∧j <= 5∧ms.length <= 5∧us.length <= 5:=by
 have h1:=rx.few
 have h2:=ry.few
 have h3:=congrArg List.length h.hm
 have h4:=congrArg List.length h.hu
 have h5:=List.length_filter_le (fun t=>decide (t ∉ ys)) xs
 have h6:=List.length_filter_le (fun t=>decide (t ∉ xs)) ys
 rw [List.length_append] at h3 h4
 have:=h.hi
 have:=h.hj
 lia
theorem inv9_fin(h:Qlq xs ys i j ms us)(e:i=xs.length∨j=ys.length):ms ++ xs.drop i=(xs.filter fun t=>decide (t ∉ ys))∧us ++ ys.drop j=(ys.filter fun t=>decide (t ∉ xs)):=by
 have hm:=h.hm
 have hu:=h.hu
 have eT:∀ l:List Str,l.filter (fun t=>decide (t ∉ ([]:List Str)))=l:=fun l=>List.filter_eq_self.mpr (by simp)
 rcases e with e | e
 ·have:xs.drop i=[]:=List.drop_eq_nil_iff.mpr (by lia)
  rw [this] at hm hu ⊢
  rw [eT] at hu;replace hu:=hu
  exact ⟨by simpa using hm,hu⟩
 ·have:ys.drop j=[]:=List.drop_eq_nil_iff.mpr (by lia)
  rw [this] at hm hu ⊢
  rw [eT] at hm
  exact ⟨hm,by simpa using hu⟩
theorem Qca{l:List Str}{k:Nat}{z:Str}(h:l[k]?=some z):l.drop k=z :: l.drop (k + 1):=by
 refine ob1_1 (List.getElem?_eq_some_iff.mp h) ?_;rintro hlt rfl
 exact List.drop_eq_getElem_cons hlt
theorem Qgp{l:List Str}(r:l.Pairwise slt){k:Nat}{z:Str}(h:l[k]?=some z):∀ w ∈ l.drop (k + 1),slt z w:=by
 have:=r.sublist (List.drop_sublist k l)
 rw [Qca h] at this
 exact (List.pairwise_cons.mp this).1
theorem next_ne{l:List Str}(r:l.Pairwise slt){k:Nat}{z w:Str}(h:l[k]?=some z)(h2:l[k + 1]?=some w):w≠z:=by
 have:=Qgp r h w (by rw [Qca h2];exact List.mem_cons_self)
 exact fun q=>Qhw this q.symm
theorem not_in{l:List Str}(r:l.Pairwise slt){k:Nat}{z w:Str}(h:l[k]?=some z)(hlt:slt w z):w ∉ l.drop k:=by
 rw [Qca h]
 intro hw
 rcases List.mem_cons.mp hw with q | q
 ·exact Qhw hlt q
 ·exact Qhw (Qks hlt (Qgp r h w q)) rfl
theorem inv9_lt(h:Qlq xs ys i j ms us)(ry:Row ys)(hx:xs[i]?=some x)(hy:ys[j]?=some y)(hlt:slt x y):Qlq xs ys (i + 1) j (ms ++ [x]) us:=by
 have nx:=not_in ry.rise hy hlt
 have hm:=h.hm
 have hu:=h.hu
 rw [Qca hx] at hm hu
 refine ⟨(List.getElem?_eq_some_iff.mp hx).1,h.hj,?_,?_⟩
 ·rw [List.filter_cons_of_pos (by simpa using nx)] at hm
  rw [List.append_assoc]
  exact hm
 ·rw [← hu]
  congr 1
  refine List.filter_congr fun z hz=>?_
  have:z≠x:=fun q=>nx (q ▸ hz)
  simp [this]
theorem inv9_gt(h:Qlq xs ys i j ms us)(rx:Row xs)(hx:xs[i]?=some x)(hy:ys[j]?=some y)(hlt:slt y x):Qlq xs ys i (j + 1) ms (us ++ [y]):=by
 have ny:=not_in rx.rise hx hlt
 have hm:=h.hm
 have hu:=h.hu
 rw [Qca hy] at hm hu
 refine ⟨h.hi,(List.getElem?_eq_some_iff.mp hy).1,?_,?_⟩
 ·rw [← hm]
  congr 1
  refine List.filter_congr fun z hz=>?_
  have:z≠y:=fun q=>ny (q ▸ hz)
  simp [this]
 ·rw [List.filter_cons_of_pos (by simpa using ny)] at hu
  rw [List.append_assoc]
  exact hu
theorem inv9_eq(h:Qlq xs ys i j ms us)(rx:Row xs)(ry:Row ys)(hx:xs[i]?=some x)(hy:ys[j]?=some x):Qlq xs ys (i + 1) (j + 1) ms us:=by
 have h1:=Qgp rx.rise hx
 have h2:=Qgp ry.rise hy
 have hm:=h.hm
 have hu:=h.hu
 rw [Qca hx,Qca hy] at hm hu
 refine ⟨(List.getElem?_eq_some_iff.mp hx).1,(List.getElem?_eq_some_iff.mp hy).1,?_,?_⟩
 ·rw [List.filter_cons_of_neg (by simp)] at hm
  rw [← hm]
  congr 1
  refine List.filter_congr fun z hz=>?_
  have:z≠x:=fun q=>Qhw (h1 z hz) q.symm
  simp [this]
 ·rw [List.filter_cons_of_neg (by simp)] at hu
  rw [← hu]
  congr 1
  refine List.filter_congr fun z hz=>?_
  have:z≠x:=fun q=>Qhw (h2 z hz) q.symm
  simp [this]
end
theorem cmd_get:typeLookup (.type "classmethod_descriptor") "__get__"=pure (some (.builtin "classmethod_descriptor.__get__")):=by rw [typeLookup_type,builtinLookup_eq_fast];kernel_rfl
noncomputable def Qco(id:String)(v:Value):Obj:={ cls:=.type "builtin_function_or_method",data:=.fields #[.builtin id,v] }
theorem Qfd(b:Value):Meets (Builtin.«classmethod_descriptor.__get__» ⟨[.builtin "type.__prepare__",b,.type "type"],[]⟩) (fun _ R s=>R (.ok (.ret (.ref s.heap.objs.size))) { s with heap:=s.heap.push (Qco "type.__prepare__" (.type "type")) }):=
 Meets.of_wp fun prog w A R s hs=>by
  obtain ⟨hp,g,d,tk,os⟩:=s
  have e0:isType (.type "type")=pure true:=by rfl
  have e2:isSubtype (.type "type") (.type "type")=pure true:=by rw [isSubtype_type];kernel_rfl
  unfold Builtin.«classmethod_descriptor.__get__»
  have e1:".".intercalate ("type.__prepare__".cutAt '.').dropLast="type":=by decide +kernel
  repeat (any_goals (first | assumption | wp_step))
  rw [e1]
  repeat (any_goals (first | assumption | wp_step))
  exact in1_2 _ rfl hs
theorem Qbd:typeOf (.builtin "type.__prepare__")=pure (.type "classmethod_descriptor"):=by kernel_rfl
theorem Qek(u:Tok):Meets (Builtin.«type.__getattribute__» ⟨[.type "type",.str "__prepare__" u],[]⟩) (fun _ R s=>R (.ok (.ret (.ref s.heap.objs.size))) { s with heap:=s.heap.push (Qco "type.__prepare__" (.type "type")) }):=
 Meets.of_wp fun prog w A R s hs=>by
  obtain ⟨hp,g,d,tk,os⟩:=s
  have e0:isType (.type "type")=pure true:=by rfl
  have e2:typeOf (.type "type")=pure (.type "type"):=by rfl
  have e3:typeLookup (.type "type") "__prepare__"=pure (some (.builtin "type.__prepare__")):=by rw [typeLookup_type,builtinLookup_eq_fast];kernel_rfl
  have e4:specialOf (.builtin "type.__prepare__") "__get__"=pure (some (.builtin "classmethod_descriptor.__get__")):=by unfold specialOf;rw [Qbd];exact cmd_get
  have e5:specialOf (.builtin "type.__prepare__") "__set__"=pure none:=by unfold specialOf;rw [Qbd];show typeLookup _ _=_;rw [typeLookup_type,builtinLookup_eq_fast];kernel_rfl
  have e6:specialOf (.builtin "type.__prepare__") "__delete__"=pure none:=by unfold specialOf;rw [Qbd];show typeLookup _ _=_;rw [typeLookup_type,builtinLookup_eq_fast];kernel_rfl
  have e7:=Qbd
  have e8:opaqueClassAbove (.type "type")=pure none:=by kernel_rfl
  unfold Builtin.«type.__getattribute__»
  repeat (any_goals (first | assumption | wp_step))
  refine codeAny_mono (codeAny_call_builtin (R:=fun r s'=>r=.ok (.ret (.ref hp.objs.size))∧s'=⟨hp.push (Qco "type.__prepare__" (.type "type")),g,d,tk,os⟩) PySem.W.KFB.slot_get.plain PySem.W.KFB.entry_get (PySem.W.KFB.slot_get.check _ _ _ _ _ _ _ _ Qbd (PySem.W.KFB.args_get _ _ _) (Qfd _ prog w A.in1 (fun r s'=>r=.ok (.ret (.ref hp.objs.size))∧s'=⟨hp.push (Qco "type.__prepare__" (.type "type")),g,d,tk,os⟩) ⟨hp,g,d,tk,os⟩ (by exact ⟨rfl,rfl⟩)))) ?_
  rintro r s' ⟨rfl,rfl⟩
  exact wpAny_pure ⟨_,rfl,hs⟩
theorem Qj8(a1 a2:Value):checkBoundCall "type.__prepare__" ⟨[.type "type",a1,a2],[]⟩=pure ():=by
 unfold checkBoundCall
 have h0:builtinKind "type.__prepare__"=some .classMethod:=by decide +kernel
 have h1:isSubtype (.type "type") (.type "module")=pure false:=by rw [isSubtype_type];kernel_rfl
 have e2:typeOf (.type "type")=pure (.type "type"):=by rfl
 simp only [h0,e2,h1,pure_bind,isInstance]
 kernel_rfl
section
variable {prog:Program}{w:World}{A:Around}{E:Value->Shared->Prop}{s:Shared}
theorem Qik{Q:Option Value->Shared->Prop}
  (h:∀ tk,Q (some (.ref s.heap.objs.size)) { s with heap:=s.heap.push (Qco "type.__prepare__" (.type "type")),toks:=tk }):wpAny (model prog w) A (getAttr? (.type "type") "__prepare__") Q E s:=by
 obtain ⟨hp,g,d,tk,os⟩:=s
 have hT:∀ tk',(⟨hp,g,d,tk',os⟩:Shared).TypeIs (.type "type") "type":=fun _=>by show typeOf _=_;rfl
 have e2:typeOf (.type "type")=pure (.type "type"):=by rfl
 have f3:=PySem.W.KF.slot_tga.lookup
 have f4:=PySem.W.KF.slot_tga.bind (.type "type")
 unfold getAttr? getAttrBy? getAttrBy
 repeat (any_goals (first | assumption | ((with_reducible show wpAny _ _ (call (Value.builtin "type.__getattribute__") _ _) _ _ _);refine call_meets PySem.W.KF.slot_tga (hT _) PySem.W.KF.entry_tga (PySem.W.KF.args_tga _ _) (Qek _) ?_) | wp_step))
 show wpAny _ A (handedOut (.ref hp.objs.size)) _ _ _
 rw [handedOut_of rfl]
 exact wpAny_pure (wpAny_pure (h _))
theorem Qmo:entryFor table "type.__prepare__"=some Builtin.«type.__prepare__»:=entryFor_of_tree (by kernel_rfl)
theorem call_prep{b:Addr}{a1 a2:Value}{Q:Value->Shared->Prop}(hb:s.heap.get? b=some (Qco "type.__prepare__" (.type "type")))
  (h:Q (.ref s.heap.objs.size) { s with heap:=s.heap.push { cls:=.type "dict",data:=.dict #[] } }):wpAny (model prog w) A (call (.ref b) [a1,a2]) Q E s:=by
 refine wpAny_call (codeAny_of_tree ?_)
 show wpAny _ _ (callAny (.ref b) ⟨[a1,a2],[]⟩) _ _ _
 unfold callAny
 refine Qg (fun K k=>wpAny_load hb k) ?_
 show wpAny _ _ (do checkBoundCall "type.__prepare__" ⟨[.type "type",a1,a2],[]⟩;again (.builtin "type.__prepare__" ⟨[.type "type",a1,a2],[]⟩)) _ _ _
 rw [Qj8]
 refine Qg (fun K k=>wpAny_pure k) ?_
 refine wpAny_pure ⟨Code.quiet_builtin _ dk,codeAny_builtin Qmo ?_⟩
 unfold Builtin.«type.__prepare__»
 obtain ⟨hp,g,d,tk,os⟩:=s
 repeat (any_goals (first | assumption | wp_step))
end
noncomputable def kSt:Option Stmt:=(Jl 5)[0]?
noncomputable def kBody:List Stmt:=match kSt with
 | some (.ClassDef _ _ _ body _ _ _ _ _ _ _)=>body
 | _=>[]
noncomputable def kScope:Scope:=match kSt with
 | some (.ClassDef _ _ _ _ _ _ sc _ _ _ _)=>sc
 | _=>default
noncomputable def kPos:Pos:=⟨45,4,66,23⟩
noncomputable def Qg5:List Str:=["obj"]
theorem kSt_eq:Jl 5=[.ClassDef "K" [.Name "object" ⟨45,12,45,18⟩] [] kBody [] [] kScope none "K" Qg5 kPos,.Return (some (.Name "K" ⟨67,11,67,12⟩)) ⟨67,4,67,12⟩]:=by rfl
noncomputable def Qjz(q:Str)(ns f c2 cc:Addr):Env:={ scope:=kScope,locals:=ns,globals:=mainGlobals,cells:=[("mycmp",cc)],qual:=q ++ ".",code:=.ref c2,frame:=some f,builtins:=builtinsNs }
theorem Qin{M:Model}{A:Around}{E:Value->Shared->Prop}{s:Shared}{f:Value}{x:Sem Value}{rest:List (Bool × Sem Value)}{Q:Args->Shared->Prop}
  (h:wpAny M A (spliced ((false,x) :: rest)) (fun vs s'=>Q ⟨vs,[]⟩ s') E s):wpAny M A (evalArgs f false ((false,x) :: rest) []) Q E s:=by
 unfold evalArgs
 show wpAny M A (spliced ((false,x) :: rest) >>= _) Q E s
 refine wpAny_bind (wpAny_mono h (fun vs s' h'=>?_) fun _ _ x=>x)
 refine wpAny_bind (wpAny_pure (wpAny_holding ?_))
 exact wpAny_bind (wpAny_pure (wpAny_bind (wpAny_pure (wpAny_pure h'))))
structure CB (P c2 P2 ns:Addr) (s0:Shared) (F:List (Addr × Obj)) (R:List (Addr × Str)) (es:List DictEntry) (ps2:Array Value) (s:Shared):Prop where
 form:∃ h tk,s={ s0 with heap:=h,toks:=tk }
 ext:Heap.ExtBut P s0.heap s.heap
 tab:∃ ps,s.heap.get? P=some (tabObj ps)
 nsd:∃ m,s.heap.get? ns=some (dictOf es m)
 nsNew:s0.heap.get? ns=none
 c2New:s0.heap.get? c2=none
 p2New:s0.heap.get? P2=none
 neP:ns≠P∧P2≠P∧c2≠P
 code:CodeHd s.heap c2 P2
 tab2:s.heap.get? P2=some (tabObj ps2)
 led:∀ p ∈ F,s.heap.get? p.1=some p.2∧p.1≠ns∧p.1≠P2∧p.1≠P∧s0.heap.get? p.1=none
 recs:∀ p ∈ R,s.heap.CodeRec (.ref p.1) p.2∧p.1≠ns∧p.1≠P2∧p.1≠P∧s0.heap.get? p.1=none
section
variable {M:Model}{A:Around}{E:Value->Shared->Prop}{s s0:Shared}{P c2 P2 ns:Addr}{F:List (Addr × Obj)}{R:List (Addr × Str)}{es:List DictEntry}{ps2:Array Value}
theorem Qew{h h':Heap}{c P:Addr}(x:CodeHd h c P)(k:∀ o,h.get? c=some o->h'.get? c=some o):CodeHd h' c P:=
 x.imp fun o=>Exists.imp fun _=>Exists.imp fun _=>Exists.imp fun _=>Exists.imp fun _=>Exists.imp fun _=>Exists.imp fun _=>Exists.imp fun _=>Exists.imp fun _=>And.imp_left (k o)
theorem Qd3{h:Heap}{ns P2:Addr}{es:List DictEntry}{m:Nat}{ps:Array Value}(a:h.get? ns=some (dictOf es m))(b:h.get? P2=some (tabObj ps)):P2≠ns:=fun q=>by
 rw [q,a] at b;exact absurd (congrArg (fun o=>o.map (·.cls)) b) (by simp)
theorem CB.put(c:CB P c2 P2 ns s0 F R es ps2 s){h':Heap}{tk:Tok}{es':List DictEntry}{m':Nat}(hs:Heap.SameBut ns s.heap h')(hd:h'.get? ns=some (dictOf es' m')):CB P c2 P2 ns s0 F R es' ps2 { s with heap:=h',toks:=tk }:=by
 refine ob2_1 c.form ?_;rintro h t rfl
 refine ob1_1 c.nsd fun m hm=>?_
 have n2:c2≠ns:=fun q=>by
  refine ob5_1 c.code ?_;intro o vs file tf flags z0;refine ob4_4 z0 fun tg inF text tt e hc hdat _=>?_
  rw [q] at e;rw [hm] at e;obtain rfl:=Qo e;cases hdat
 have np:P2≠ns:=Qd3 hm c.tab2
 refine ⟨⟨_,_,rfl⟩,fun b o hb e=>?_,?_,⟨_,hd⟩,c.nsNew,c.c2New,c.p2New,c.neP,Qew c.code fun o e=>(hs.2 c2 n2).trans e,(hs.2 P2 np).trans c.tab2,fun p hp=>?_,fun p hp=>?_⟩
 ·have:=c.ext b o hb e
  exact (hs.2 b (fun q=>by rw [q,c.nsNew] at e;exact nSo e)).trans this
 ·refine ob1_1 c.tab fun ps hps=>?_
  exact ⟨ps,(hs.2 P (Ne.symm c.neP.1)).trans hps⟩
 ·refine Qx (c.led p hp) fun a b=>?_
  exact ⟨(hs.2 _ b.1).trans a,b⟩
 ·refine Qx (c.recs p hp) fun a b=>?_
  exact ⟨Heap.CodeRec.at a fun o e=>(hs.2 _ b.1).trans e,b⟩
theorem CB.push(c:CB P c2 P2 ns s0 F R es ps2 s){o:Obj}(hf:o.isFreed=false):CB P c2 P2 ns s0 ((s.heap.objs.size,o) :: F) R es ps2 { s with heap:=s.heap.push o }:=by
 refine ob2_1 c.form ?_;rintro h t rfl
 have k:∀ b ob,h.get? b=some ob->(h.push o).get? b=some ob:=fun b ob e=>Heap.get?_push_of_some _ e
 refine ob1_1 c.nsd fun m hm=>?_
 refine ob1_1 c.tab fun ps hps=>?_
 refine ⟨⟨_,_,rfl⟩,fun b ob hb e=>k _ _ (c.ext b ob hb e),⟨ps,k _ _ hps⟩,⟨m,k _ _ hm⟩,c.nsNew,c.c2New,c.p2New,c.neP,c.code.keeps k,k _ _ c.tab2,fun p hp=>?_,fun p hp=>?_⟩
 ·rcases List.mem_cons.mp hp with rfl | hp
  ·refine Qg9 (Heap.get?_push_size _ hf) (Nat.ne_of_gt (Heap.lt_size hm)) (Nat.ne_of_gt (Heap.lt_size c.tab2)) (Nat.ne_of_gt (Heap.lt_size hps)) ?_
   cases q:s0.heap.get? h.objs.size with
   | none=>rfl
   | some ob=>
    by_cases hb:h.objs.size=P
    ·exact absurd (show P < h.objs.size from Heap.lt_size hps) (by rw [show h.objs.size=P from hb];exact Nat.lt_irrefl _)
    ·exact absurd (show h.objs.size < h.objs.size from Heap.lt_size (c.ext _ _ hb q)) (by lia)
  ·refine Qx (c.led p hp) fun a b=>?_
   exact ⟨k _ _ a,b⟩
 ·refine Qx (c.recs p hp) fun a b=>?_
  exact ⟨Heap.CodeRec.at a fun o e=>k _ _ e,b⟩
theorem CB.toks(c:CB P c2 P2 ns s0 F R es ps2 s)(tk:Tok):CB P c2 P2 ns s0 F R es ps2 { s with toks:=tk }:=by
 refine ob2_1 c.form ?_;rintro h t rfl
 exact ⟨⟨_,_,rfl⟩,c.ext,c.tab,c.nsd,c.nsNew,c.c2New,c.p2New,c.neP,c.code,c.tab2,c.led,c.recs⟩
end
section
variable {M:Model}{A:Around}{E:Value->Shared->Prop}{s s0:Shared}{P c2 P2 ns:Addr}{F:List (Addr × Obj)}{R:List (Addr × Str)}{es:List DictEntry}{ps2:Array Value}
theorem Qae{q:Str}{f cc:Addr}{name:Str}{v:Value}{Q:Unit->Shared->Prop}(hk:kScope.names.lookup name=some .local∨(kScope.names.lookup name=none∧compilersOwnNames.contains name=true))(c:CB P c2 P2 ns s0 F R es ps2 s)(htx:Xj es)
  (h:∀ hsh t s',CB P c2 P2 ns s0 F R (putL name hsh (.str name t) v es) ps2 s'->Q () s'):wpAny M A (storeName (Qjz q ns f c2 cc) name v) Q E s:=by
 refine ob1_1 c.nsd fun m D=>?_
 have go:wpAny M A (localSet (Qjz q ns f c2 cc) name v) Q E s:=by
  unfold localSet
  refine Qg (fun K k=>wpAny_load D k) ?_
  show wpAny _ _ (nsSet ns name v) _ _ _
  unfold nsSet
  refine wpAny_bind (wpAny_bind (wpAny_askSetting (wpAny_pure (wpAny_bind (wpAny_mkText (wpAny_bind (wpAny_loadPart D ?_)))))))
  dsimp only
  have cc:(!es.toArray.any (·.key.isStr name) && es.toArray.any (·.refKey))=false:=by
   rw [← Array.any_toList,← Array.any_toList]
   show (!es.any _ && es.any _)=false
   rw [noRef htx,Bool.and_false]
  rw [aRefKeyMayBeTheName_at,cc]
  have eD:=putName_dict name (PyData.keyHash M.w.params name) (.str name s.toks) v es m
  have D':(s.heap.update ns (Obj.putName name (PyData.keyHash M.w.params name) (.str name s.toks) v)).get? ns=some (dictOf (putL name (PyData.keyHash M.w.params name) (.str name s.toks) v es) (putN name es m)):=by
   rw [Heap.get?_update_self _ D (by rw [eD];rfl),eD]
  refine wpAny_updatePart D (h _ _ _ (c.put (tk:=s.toks + 1) (Heap.SameBut.update ..) D'))
 unfold storeName
 have e0:(Qjz q ns f c2 cc).kindOf name=kScope.names.lookup name:=rfl
 have e1:(Qjz q ns f c2 cc).scope.kind=.class:=by show kScope.kind=_;rfl
 have e2:(Qjz q ns f c2 cc).blockKind=.class:=by show (if kScope.kind.isAnnotationScope then _ else kScope.kind)=_;rfl
 rcases hk with hk | ⟨hk,hc⟩
 ·simp only [e0,hk,e1]
  exact go
 ·simp only [e0,hk,e1,e2,hc]
  exact go
theorem CB.grow(c:CB P c2 P2 ns s0 F R es ps2 s){h':Heap}{tk:Tok}{ps2':Array Value}{f c':Addr}{o:Obj}{q:Str}(hx:Heap.ExtBut P2 s.heap h')(hc':s.heap.objs.size <= c')(hcf:c' < h'.objs.size)(hrec:h'.CodeRec (.ref c') q)(ht:h'.get? P2=some (tabObj ps2'))(hf:f=h'.objs.size)(ho:o.isFreed=false):
  CB P c2 P2 ns s0 ((f,o) :: F) ((c',q) :: R) es ps2' { s with heap:=h'.push o,toks:=tk }:=by
 refine ob2_1 c.form ?_;rintro h t rfl
 subst hf
 have k:∀ b ob,b≠P2->h.get? b=some ob->(h'.push o).get? b=some ob:=fun b ob hb e=>Heap.get?_push_of_some _ (hx b ob hb e)
 refine ob1_1 c.nsd fun m hm=>?_
 refine ob1_1 c.tab fun ps hps=>?_
 have np:P2≠ns:=Qd3 hm c.tab2
 have new0:∀ b,h.objs.size <= b->s0.heap.get? b=none:=fun b hb=>by
  cases q:s0.heap.get? b with
  | none=>rfl
  | some ob=>
   by_cases e:b=P
   ·exact absurd (show P < h.objs.size from Heap.lt_size hps) (Nat.not_lt.mpr (e ▸ hb))
   ·exact absurd (show b < h.objs.size from Heap.lt_size (c.ext _ _ e q)) (Nat.not_lt.mpr hb)
 have l1:ns < h.objs.size:=Heap.lt_size hm
 have l2:P2 < h.objs.size:=Heap.lt_size c.tab2
 have l3:P < h.objs.size:=Heap.lt_size hps
 have hc'':h.objs.size <= c':=hc'
 refine ⟨⟨_,_,rfl⟩,fun b ob hb e=>k b ob (fun q=>by rw [q,c.p2New] at e;exact nSo e) (c.ext b ob hb e),⟨ps,k _ _ (Ne.symm c.neP.2.1) hps⟩,⟨m,k _ _ (Ne.symm np) hm⟩,c.nsNew,c.c2New,c.p2New,c.neP,
  Qew c.code fun o e=>k _ _ ?_ e,Heap.get?_push_of_some _ ht,fun p hp=>?_,fun p hp=>?_⟩
 ·refine ob5_1 c.code ?_;intro _ _ _ _ _ z0;refine ob4_10 z0 fun _ _ _ _ _ _ _ _ _ _ _ _ _ ne=>?_
  exact ne
 ·rcases List.mem_cons.mp hp with rfl | hp
  ·exact Qg9 (Heap.get?_push_size _ ho) (Nat.ne_of_gt (Nat.lt_trans (Nat.lt_of_lt_of_le l1 hc'') hcf)) (Nat.ne_of_gt (Nat.lt_trans (Nat.lt_of_lt_of_le l2 hc'') hcf)) (Nat.ne_of_gt (Nat.lt_trans (Nat.lt_of_lt_of_le l3 hc'') hcf)) (new0 _ (Nat.le_trans hc'' (Nat.le_of_lt hcf)))
  ·refine Qdk (c.led p hp) fun a b1 b2 b3=>?_
   exact Qj0 (k _ _ b2 a) b1 b2 b3
 ·rcases List.mem_cons.mp hp with rfl | hp
  ·exact Qg9 (Heap.CodeRec.at hrec fun o e=>Heap.get?_push_of_some _ e) (Nat.ne_of_gt (Nat.lt_of_lt_of_le l1 hc'')) (Nat.ne_of_gt (Nat.lt_of_lt_of_le l2 hc'')) (Nat.ne_of_gt (Nat.lt_of_lt_of_le l3 hc'')) (new0 _ hc'')
  ·refine Qdk (c.recs p hp) fun a b1 b2 b3=>?_
   exact Qj0 (Heap.CodeRec.at a fun o e=>k _ _ b2 e) b1 b2 b3
theorem Qf0{q:Str}{f cc:Addr}{name:Str}{params:Arguments}{body:List Stmt}{scope:Scope}{pos:Pos}{clos:List (Str × Addr)}{mg:Str->Option Value}{Q:Flow->Shared->Prop}(c:CB P c2 P2 ns s0 F R es ps2 s)(htx:Xj es)
  (hg:s0.heap.Ns mainGlobals mg)(hb:s0.heap.BuiltinsAt mg P)(hgP:mainGlobals≠P)(ht:TriplesOk ps2.toList)(hnf:codeAmong pos ps2.toList=none)(hcl:closureFor scope (Qjz q ns f c2 cc)=pure clos)
  (hd0:params.defaults=[])(hk0:params.kw_defaults=[])(ha:annTrees params none (Qjz q ns f c2 cc)=[])(hk:kScope.names.lookup name=some .local)
  (h:∀ fa c' doc ctv hsh t s',CB P c2 P2 ns s0 ((fa,fnMade name (qualnameIn (Qjz q ns f c2 cc) name name) params body scope clos doc ((mg "__name__").getD .none) c' ctv) :: F) ((c',qualnameIn (Qjz q ns f c2 cc) name name) :: R) (putL name hsh (.str name t) (.ref fa) es) (ps2 ++ #[rawInt pos.line,rawInt pos.col,.ref c']) s'->Q .next s'):
  wpAny M A (exec (.FunctionDef name params body [] none [] scope none name pos) (Qjz q ns f c2 cc)) Q E s:=by
 have eg:s.heap.Ns mainGlobals mg:=hg.extBut c.ext hgP
 have eb:s.heap.BuiltinsAt mg P2:=by
  refine ob2_6 hb fun bm ob h1 h2 h3 h4 h5 h6=>?_
  exact in2_6 bm ob h1 h2 h3 (fun q=>by rw [q,c.p2New] at h5;exact nSo h5) (c.ext _ _ h4 h5) h6
 have gP2:mainGlobals≠P2:=fun q=>by
  refine ob3_2 hg fun o es ep e _=>?_
  rw [q,c.p2New] at e;exact nSo e
 refine nestDef_K hd0 hk0 ha (makeFunction_K hcl rfl eg rfl c.code c.tab2 ht hnf gP2 eb fun c' ctv doc h' tk hx hge hlt hrec htb=>?_)
 exact Qae (.inl hk) (c.grow hx hge hlt hrec htb rfl rfl) htx fun hsh t s' c'=>h _ _ _ _ _ _ s' c'
end
noncomputable def kDef(i:Nat):Option Stmt:=kBody[i + 2]?
noncomputable def Qg6(i:Nat):Arguments:=match kDef i with
 | some (.FunctionDef _ a _ _ _ _ _ _ _ _)=>a
 | _=>default
noncomputable def Qc0(i:Nat):List Stmt:=match kDef i with
 | some (.FunctionDef _ _ b _ _ _ _ _ _ _)=>b
 | _=>[]
noncomputable def Qem(i:Nat):Scope:=match kDef i with
 | some (.FunctionDef _ _ _ _ _ _ s _ _ _)=>s
 | _=>default
noncomputable def kPs(i:Nat):Pos:=match kDef i with
 | some (.FunctionDef _ _ _ _ _ _ _ _ _ p)=>p
 | _=>default
theorem kBody_eq:kBody=[.Assign [.Name "__module__" ⟨46,8,46,18⟩] (.Constant (.str "cpy313.functools") 0 ⟨46,21,46,39⟩) ⟨46,8,46,39⟩,
  .Assign [.Name "__slots__" ⟨47,8,47,17⟩] (.List [.Constant (.str "obj") 0 ⟨47,21,47,26⟩] ⟨47,20,47,27⟩) ⟨47,8,47,27⟩,
  .FunctionDef "__init__" (Qg6 0) (Qc0 0) [] none [] (Qem 0) none "__init__" (kPs 0),
  .FunctionDef "__lt__" (Qg6 1) (Qc0 1) [] none [] (Qem 1) none "__lt__" (kPs 1),
  .FunctionDef "__gt__" (Qg6 2) (Qc0 2) [] none [] (Qem 2) none "__gt__" (kPs 2),
  .FunctionDef "__eq__" (Qg6 3) (Qc0 3) [] none [] (Qem 3) none "__eq__" (kPs 3),
  .FunctionDef "__le__" (Qg6 4) (Qc0 4) [] none [] (Qem 4) none "__le__" (kPs 4),
  .FunctionDef "__ge__" (Qg6 5) (Qc0 5) [] none [] (Qem 5) none "__ge__" (kPs 5),
  .Assign [.Name "__hash__" ⟨66,8,66,16⟩] (.Constant .none 0 ⟨66,19,66,23⟩) ⟨66,8,66,23⟩]:=by rfl
noncomputable def fnK(i:Nat)(nm q:Str)(cl:List (Str × Addr))(doc pm:Value)(c':Addr)(ctv:Value):Obj:=fnMade nm (q ++ "." ++ nm) (Qg6 i) (Qc0 i) (Qem i) cl doc pm c' ctv
section
variable {M:Model}{A:Around}{E:Value->Shared->Prop}{s s0:Shared}{P c2 P2 ns:Addr}
theorem Qa{h:Int}{x:Str}{t:Tok}{v:Value}{es:List DictEntry}(k:Xj es):Xj (⟨h,.str x t,v⟩ :: es):=fun e he=>by
 rcases List.mem_cons.mp he with rfl | he
 ·exact in2_1 x t rfl
 ·exact k e he
theorem Qr:Xj []:=fun _ h=>nomatch h
theorem kn_body{q:Str}{f cc:Addr}{F:List (Addr × Obj)}{h0 h1 h2:Int}{t0 t1 t2:Tok}{v0 v1 v2:Value}{mg:Str->Option Value}{Q:Flow->Shared->Prop}
  (c:CB P c2 P2 ns s0 F [] [⟨h0,.str "__module__" t0,v0⟩,⟨h1,.str "__qualname__" t1,v1⟩,⟨h2,.str "__firstlineno__" t2,v2⟩] #[] s)
  (hg:s0.heap.Ns mainGlobals mg)(hb:s0.heap.BuiltinsAt mg P)(hgP:mainGlobals≠P)
  (h : ∀ lst t3 (fa ca:Nat->Addr) (doc ctv:Nat->Value) (hs:Nat->Int) (ts:Nat->Tok) u0 s',CB P c2 P2 ns s0
    ((fa 5,fnK 5 "__ge__" q [("mycmp",cc)] (doc 5) ((mg "__name__").getD .none) (ca 5) (ctv 5)) :: (fa 4,fnK 4 "__le__" q [("mycmp",cc)] (doc 4) ((mg "__name__").getD .none) (ca 4) (ctv 4)) ::
     (fa 3,fnK 3 "__eq__" q [("mycmp",cc)] (doc 3) ((mg "__name__").getD .none) (ca 3) (ctv 3)) :: (fa 2,fnK 2 "__gt__" q [("mycmp",cc)] (doc 2) ((mg "__name__").getD .none) (ca 2) (ctv 2)) ::
     (fa 1,fnK 1 "__lt__" q [("mycmp",cc)] (doc 1) ((mg "__name__").getD .none) (ca 1) (ctv 1)) :: (fa 0,fnK 0 "__init__" q [] (doc 0) ((mg "__name__").getD .none) (ca 0) (ctv 0)) ::
     (lst,{ cls:=.type "list",data:=.seq #[.str "obj" t3] }) :: F)
    [(ca 5,q ++ "." ++ "__ge__"),(ca 4,q ++ "." ++ "__le__"),(ca 3,q ++ "." ++ "__eq__"),(ca 2,q ++ "." ++ "__gt__"),(ca 1,q ++ "." ++ "__lt__"),(ca 0,q ++ "." ++ "__init__")]
    [⟨h0,.str "__module__" t0,.str "cpy313.functools" u0⟩,⟨h1,.str "__qualname__" t1,v1⟩,⟨h2,.str "__firstlineno__" t2,v2⟩,⟨hs 0,.str "__slots__" (ts 0),.ref lst⟩,
     ⟨hs 1,.str "__init__" (ts 1),.ref (fa 0)⟩,⟨hs 2,.str "__lt__" (ts 2),.ref (fa 1)⟩,⟨hs 3,.str "__gt__" (ts 3),.ref (fa 2)⟩,⟨hs 4,.str "__eq__" (ts 4),.ref (fa 3)⟩,⟨hs 5,.str "__le__" (ts 5),.ref (fa 4)⟩,
     ⟨hs 6,.str "__ge__" (ts 6),.ref (fa 5)⟩,⟨hs 7,.str "__hash__" (ts 7),.none⟩]
    (#[rawInt 49,rawInt 8,.ref (ca 0),rawInt 52,rawInt 8,.ref (ca 1),rawInt 55,rawInt 8,.ref (ca 2),rawInt 58,rawInt 8,.ref (ca 3),rawInt 61,rawInt 8,.ref (ca 4),rawInt 64,rawInt 8,.ref (ca 5)]) s'->Q .next s'):
  wpAny M A (execs kBody (Qjz q ns f c2 cc)) Q E s:=by
 rw [kBody_eq]
 have kl:∀ x:Str,kScope.names.lookup x=some .local->kScope.names.lookup x=some .local∨(kScope.names.lookup x=none∧compilersOwnNames.contains x=true):=fun _=>.inl
 refine wpAny_execs_cons (wpAny_Assign_Name (wpAny_Constant_str ?_) rfl)
 refine Qae (.inl rfl) (c.toks _) (Qa (Qa (Qa Qr))) fun a1 b1 s1 c1=>?_
 rw [show putL "__module__" a1 (.str "__module__" b1) (.str "cpy313.functools" s.toks) [⟨h0,.str "__module__" t0,v0⟩,⟨h1,.str "__qualname__" t1,v1⟩,⟨h2,.str "__firstlineno__" t2,v2⟩]=[⟨h0,.str "__module__" t0,.str "cpy313.functools" s.toks⟩,⟨h1,.str "__qualname__" t1,v1⟩,⟨h2,.str "__firstlineno__" t2,v2⟩] from by kernel_rfl] at c1
 refine wpAny_execs_cons (wpAny_Assign_Name (List_ (spliced_more (e:=.Constant (.str "obj") 0 ⟨47,21,47,26⟩) (rest:=[]) (wpAny_Constant_str (Calls.spliced_nil ?_)))) rfl)
 generalize hu:s.toks=u at c1
 refine wpAny_newList ?_ (by rw [sizeLine_eq];simp)
 have c2':=(c1.toks (s1.toks + 1)).push (o:={ cls:=.type "list",data:=.seq #[.str "obj" s1.toks] }) rfl
 generalize hl:s1.heap.objs.size=lst at c2'
 refine Qae (.inl rfl) c2' (Qa (Qa (Qa Qr))) fun hs0 ts0 s2 c2=>?_
 rw [show putL "__slots__" hs0 (.str "__slots__" ts0) (.ref lst) [⟨h0,.str "__module__" t0,.str "cpy313.functools" u⟩,⟨h1,.str "__qualname__" t1,v1⟩,⟨h2,.str "__firstlineno__" t2,v2⟩]=[⟨h0,.str "__module__" t0,.str "cpy313.functools" u⟩,⟨h1,.str "__qualname__" t1,v1⟩,⟨h2,.str "__firstlineno__" t2,v2⟩,⟨hs0,.str "__slots__" ts0,.ref lst⟩] from by kernel_rfl] at c2
 refine wpAny_execs_cons (Qf0 (clos:=[]) c2 (Qa (Qa (Qa (Qa Qr)))) hg hb hgP (by simp [TriplesOk,rawInt]) (by kernel_rfl) (by kernel_rfl) rfl rfl (by kernel_rfl) rfl fun fa0 ca0 doc0 ctv0 hs1 ts1 s3 c3=>?_)
 rw [show putL "__init__" hs1 (.str "__init__" ts1) (.ref fa0) [⟨h0,.str "__module__" t0,.str "cpy313.functools" u⟩,⟨h1,.str "__qualname__" t1,v1⟩,⟨h2,.str "__firstlineno__" t2,v2⟩,⟨hs0,.str "__slots__" ts0,.ref lst⟩]=[⟨h0,.str "__module__" t0,.str "cpy313.functools" u⟩,⟨h1,.str "__qualname__" t1,v1⟩,⟨h2,.str "__firstlineno__" t2,v2⟩,⟨hs0,.str "__slots__" ts0,.ref lst⟩,⟨hs1,.str "__init__" ts1,.ref fa0⟩] from by kernel_rfl] at c3
 replace c3:CB P _ P2 ns s0 _ _ _ #[rawInt 49,rawInt 8,.ref ca0] _:=c3
 refine wpAny_execs_cons (Qf0 (clos:=[(("mycmp":Str),cc)]) c3 (Qa (Qa (Qa (Qa (Qa Qr))))) hg hb hgP (by simp [TriplesOk,rawInt]) (by kernel_rfl) (by kernel_rfl) rfl rfl (by kernel_rfl) rfl fun fa1 ca1 doc1 ctv1 hs2 ts2 s4 c4=>?_)
 rw [show putL "__lt__" hs2 (.str "__lt__" ts2) (.ref fa1) [⟨h0,.str "__module__" t0,.str "cpy313.functools" u⟩,⟨h1,.str "__qualname__" t1,v1⟩,⟨h2,.str "__firstlineno__" t2,v2⟩,⟨hs0,.str "__slots__" ts0,.ref lst⟩,⟨hs1,.str "__init__" ts1,.ref fa0⟩]=[⟨h0,.str "__module__" t0,.str "cpy313.functools" u⟩,⟨h1,.str "__qualname__" t1,v1⟩,⟨h2,.str "__firstlineno__" t2,v2⟩,⟨hs0,.str "__slots__" ts0,.ref lst⟩,⟨hs1,.str "__init__" ts1,.ref fa0⟩,⟨hs2,.str "__lt__" ts2,.ref fa1⟩] from by kernel_rfl] at c4
 replace c4:CB P _ P2 ns s0 _ _ _ #[rawInt 49,rawInt 8,.ref ca0,rawInt 52,rawInt 8,.ref ca1] _:=c4
 refine wpAny_execs_cons (Qf0 (clos:=[(("mycmp":Str),cc)]) c4 (Qa (Qa (Qa (Qa (Qa (Qa Qr)))))) hg hb hgP (by simp [TriplesOk,rawInt]) (by kernel_rfl) (by kernel_rfl) rfl rfl (by kernel_rfl) rfl fun fa2 ca2 doc2 ctv2 hs3 ts3 s5 c5=>?_)
 rw [show putL "__gt__" hs3 (.str "__gt__" ts3) (.ref fa2) [⟨h0,.str "__module__" t0,.str "cpy313.functools" u⟩,⟨h1,.str "__qualname__" t1,v1⟩,⟨h2,.str "__firstlineno__" t2,v2⟩,⟨hs0,.str "__slots__" ts0,.ref lst⟩,⟨hs1,.str "__init__" ts1,.ref fa0⟩,⟨hs2,.str "__lt__" ts2,.ref fa1⟩]=[⟨h0,.str "__module__" t0,.str "cpy313.functools" u⟩,⟨h1,.str "__qualname__" t1,v1⟩,⟨h2,.str "__firstlineno__" t2,v2⟩,⟨hs0,.str "__slots__" ts0,.ref lst⟩,⟨hs1,.str "__init__" ts1,.ref fa0⟩,⟨hs2,.str "__lt__" ts2,.ref fa1⟩,⟨hs3,.str "__gt__" ts3,.ref fa2⟩] from by kernel_rfl] at c5
 replace c5:CB P _ P2 ns s0 _ _ _ #[rawInt 49,rawInt 8,.ref ca0,rawInt 52,rawInt 8,.ref ca1,rawInt 55,rawInt 8,.ref ca2] _:=c5
 refine wpAny_execs_cons (Qf0 (clos:=[(("mycmp":Str),cc)]) c5 (Qa (Qa (Qa (Qa (Qa (Qa (Qa Qr))))))) hg hb hgP (by simp [TriplesOk,rawInt]) (by kernel_rfl) (by kernel_rfl) rfl rfl (by kernel_rfl) rfl fun fa3 ca3 doc3 ctv3 hs4 ts4 s6 c6=>?_)
 rw [show putL "__eq__" hs4 (.str "__eq__" ts4) (.ref fa3) [⟨h0,.str "__module__" t0,.str "cpy313.functools" u⟩,⟨h1,.str "__qualname__" t1,v1⟩,⟨h2,.str "__firstlineno__" t2,v2⟩,⟨hs0,.str "__slots__" ts0,.ref lst⟩,⟨hs1,.str "__init__" ts1,.ref fa0⟩,⟨hs2,.str "__lt__" ts2,.ref fa1⟩,⟨hs3,.str "__gt__" ts3,.ref fa2⟩]=[⟨h0,.str "__module__" t0,.str "cpy313.functools" u⟩,⟨h1,.str "__qualname__" t1,v1⟩,⟨h2,.str "__firstlineno__" t2,v2⟩,⟨hs0,.str "__slots__" ts0,.ref lst⟩,⟨hs1,.str "__init__" ts1,.ref fa0⟩,⟨hs2,.str "__lt__" ts2,.ref fa1⟩,⟨hs3,.str "__gt__" ts3,.ref fa2⟩,⟨hs4,.str "__eq__" ts4,.ref fa3⟩] from by kernel_rfl] at c6
 replace c6:CB P _ P2 ns s0 _ _ _ #[rawInt 49,rawInt 8,.ref ca0,rawInt 52,rawInt 8,.ref ca1,rawInt 55,rawInt 8,.ref ca2,rawInt 58,rawInt 8,.ref ca3] _:=c6
 refine wpAny_execs_cons (Qf0 (clos:=[(("mycmp":Str),cc)]) c6 (Qa (Qa (Qa (Qa (Qa (Qa (Qa (Qa Qr)))))))) hg hb hgP (by simp [TriplesOk,rawInt]) (by kernel_rfl) (by kernel_rfl) rfl rfl (by kernel_rfl) rfl fun fa4 ca4 doc4 ctv4 hs5 ts5 s7 c7=>?_)
 rw [show putL "__le__" hs5 (.str "__le__" ts5) (.ref fa4) [⟨h0,.str "__module__" t0,.str "cpy313.functools" u⟩,⟨h1,.str "__qualname__" t1,v1⟩,⟨h2,.str "__firstlineno__" t2,v2⟩,⟨hs0,.str "__slots__" ts0,.ref lst⟩,⟨hs1,.str "__init__" ts1,.ref fa0⟩,⟨hs2,.str "__lt__" ts2,.ref fa1⟩,⟨hs3,.str "__gt__" ts3,.ref fa2⟩,⟨hs4,.str "__eq__" ts4,.ref fa3⟩]=[⟨h0,.str "__module__" t0,.str "cpy313.functools" u⟩,⟨h1,.str "__qualname__" t1,v1⟩,⟨h2,.str "__firstlineno__" t2,v2⟩,⟨hs0,.str "__slots__" ts0,.ref lst⟩,⟨hs1,.str "__init__" ts1,.ref fa0⟩,⟨hs2,.str "__lt__" ts2,.ref fa1⟩,⟨hs3,.str "__gt__" ts3,.ref fa2⟩,⟨hs4,.str "__eq__" ts4,.ref fa3⟩,⟨hs5,.str "__le__" ts5,.ref fa4⟩] from by kernel_rfl] at c7
 replace c7:CB P _ P2 ns s0 _ _ _ #[rawInt 49,rawInt 8,.ref ca0,rawInt 52,rawInt 8,.ref ca1,rawInt 55,rawInt 8,.ref ca2,rawInt 58,rawInt 8,.ref ca3,rawInt 61,rawInt 8,.ref ca4] _:=c7
 refine wpAny_execs_cons (Qf0 (clos:=[(("mycmp":Str),cc)]) c7 (Qa (Qa (Qa (Qa (Qa (Qa (Qa (Qa (Qa Qr))))))))) hg hb hgP (by simp [TriplesOk,rawInt]) (by kernel_rfl) (by kernel_rfl) rfl rfl (by kernel_rfl) rfl fun fa5 ca5 doc5 ctv5 hs6 ts6 s8 c8=>?_)
 rw [show putL "__ge__" hs6 (.str "__ge__" ts6) (.ref fa5) [⟨h0,.str "__module__" t0,.str "cpy313.functools" u⟩,⟨h1,.str "__qualname__" t1,v1⟩,⟨h2,.str "__firstlineno__" t2,v2⟩,⟨hs0,.str "__slots__" ts0,.ref lst⟩,⟨hs1,.str "__init__" ts1,.ref fa0⟩,⟨hs2,.str "__lt__" ts2,.ref fa1⟩,⟨hs3,.str "__gt__" ts3,.ref fa2⟩,⟨hs4,.str "__eq__" ts4,.ref fa3⟩,⟨hs5,.str "__le__" ts5,.ref fa4⟩]=[⟨h0,.str "__module__" t0,.str "cpy313.functools" u⟩,⟨h1,.str "__qualname__" t1,v1⟩,⟨h2,.str "__firstlineno__" t2,v2⟩,⟨hs0,.str "__slots__" ts0,.ref lst⟩,⟨hs1,.str "__init__" ts1,.ref fa0⟩,⟨hs2,.str "__lt__" ts2,.ref fa1⟩,⟨hs3,.str "__gt__" ts3,.ref fa2⟩,⟨hs4,.str "__eq__" ts4,.ref fa3⟩,⟨hs5,.str "__le__" ts5,.ref fa4⟩,⟨hs6,.str "__ge__" ts6,.ref fa5⟩] from by kernel_rfl] at c8
 replace c8:CB P _ P2 ns s0 _ _ _ #[rawInt 49,rawInt 8,.ref ca0,rawInt 52,rawInt 8,.ref ca1,rawInt 55,rawInt 8,.ref ca2,rawInt 58,rawInt 8,.ref ca3,rawInt 61,rawInt 8,.ref ca4,rawInt 64,rawInt 8,.ref ca5] _:=c8
 refine wpAny_execs_cons (wpAny_Assign_Name (wpAny_Constant_none ?_) rfl)
 refine Qae (.inl rfl) c8 (Qa (Qa (Qa (Qa (Qa (Qa (Qa (Qa (Qa (Qa Qr)))))))))) fun hs7 ts7 s9 c9=>wpAny_execs_nil ?_
 rw [show putL "__hash__" hs7 (.str "__hash__" ts7) (.none) [⟨h0,.str "__module__" t0,.str "cpy313.functools" u⟩,⟨h1,.str "__qualname__" t1,v1⟩,⟨h2,.str "__firstlineno__" t2,v2⟩,⟨hs0,.str "__slots__" ts0,.ref lst⟩,⟨hs1,.str "__init__" ts1,.ref fa0⟩,⟨hs2,.str "__lt__" ts2,.ref fa1⟩,⟨hs3,.str "__gt__" ts3,.ref fa2⟩,⟨hs4,.str "__eq__" ts4,.ref fa3⟩,⟨hs5,.str "__le__" ts5,.ref fa4⟩,⟨hs6,.str "__ge__" ts6,.ref fa5⟩]=[⟨h0,.str "__module__" t0,.str "cpy313.functools" u⟩,⟨h1,.str "__qualname__" t1,v1⟩,⟨h2,.str "__firstlineno__" t2,v2⟩,⟨hs0,.str "__slots__" ts0,.ref lst⟩,⟨hs1,.str "__init__" ts1,.ref fa0⟩,⟨hs2,.str "__lt__" ts2,.ref fa1⟩,⟨hs3,.str "__gt__" ts3,.ref fa2⟩,⟨hs4,.str "__eq__" ts4,.ref fa3⟩,⟨hs5,.str "__le__" ts5,.ref fa4⟩,⟨hs6,.str "__ge__" ts6,.ref fa5⟩,⟨hs7,.str "__hash__" ts7,.none⟩] from by kernel_rfl] at c9
 exact h lst s1.toks (fun i=>match i with | 0=>fa0 | 1=>fa1 | 2=>fa2 | 3=>fa3 | 4=>fa4 | _=>fa5) (fun i=>match i with | 0=>ca0 | 1=>ca1 | 2=>ca2 | 3=>ca3 | 4=>ca4 | _=>ca5) (fun i=>match i with | 0=>doc0 | 1=>doc1 | 2=>doc2 | 3=>doc3 | 4=>doc4 | _=>doc5) (fun i=>match i with | 0=>ctv0 | 1=>ctv1 | 2=>ctv2 | 3=>ctv3 | 4=>ctv4 | _=>ctv5) (fun i=>match i with | 0=>hs0 | 1=>hs1 | 2=>hs2 | 3=>hs3 | 4=>hs4 | 5=>hs5 | 6=>hs6 | _=>hs7) (fun i=>match i with | 0=>ts0 | 1=>ts1 | 2=>ts2 | 3=>ts3 | 4=>ts4 | 5=>ts5 | 6=>ts6 | _=>ts7) u s9 c9
end
section
variable {M:Model}{A:Around}{E:Value->Shared->Prop}{s:Shared}
theorem Qmt{env:Env}{c P:Addr}{ps:Array Value}{pos:Pos}{firstLine:Nat}{name qualname:Str}{scope:Scope}
  {Q:Value->Shared->Prop}(hc:env.code=.ref c)(hok:s.heap.IsCode c P ps)(hP:s.heap.get? P=some (tabObj ps))(hnf:codeAmong pos ps.toList=none)
  (hQ:∀ c' P' h' tk,Heap.ExtBut P s.heap h'->s.heap.objs.size <= c'->s.heap.objs.size <= P'->c' < h'.objs.size->CodeHd h' c' P'->h'.get? P'=some (tabObj #[])->h'.get? P=some (tabObj (ps ++ #[rawInt pos.line,rawInt pos.col,.ref c']))->
   Q (.ref c') { s with heap:=h',toks:=tk }):
  wpAny M A (classCode env pos firstLine name qualname scope) Q E s:=by
 refine ob5_1 (id hok) ?_;intro o vs file tf flags z0;refine ob5_9 z0 ?_;rintro tg inF text tt op ho hd h11 h2 h7 h9 h10 hop ⟨hpd,htr,hne⟩
 unfold classCode codeAt
 rw [hc,if_neg (show ¬ ((Value.ref c == Value.none)=true) from Bool.false_ne_true)]
 refine Qg (fun K k=>wpAny_fieldsOf ho hd k) ?_
 rw [h11]
 refine Qg (fun K k=>wpAny_fieldsOf hop hpd k) ?_
 rw [hnf,h2,h7,h9,h10]
 refine wpAny_bind (wpAny_newCodeX fun c' P' h' tk hk hc' hP' hcode' htab' hrec'=>?_)
 have hop':=hk _ _ hop
 refine wpAny_bind (wpAny_updateFieldsOfTheText hop' hpd ?_)
 have hnew:(Obj.mapFields (fun vs=>if (codeAmong pos vs.toList).isSome=true then vs else vs ++ #[rawInt pos.line,rawInt pos.col,.ref c']) op).data =
   .fields (ps ++ #[rawInt pos.line,rawInt pos.col,.ref c']):=by
  rw [Obj.data_mapFields hpd,hnf];rfl
 have hget:=Heap.get?_update_self (h:=h') (fun o=>Obj.mapFields (fun vs=>if (codeAmong pos vs.toList).isSome=true then vs else
  vs ++ #[rawInt pos.line,rawInt pos.col,.ref c']) o) hop' (Obj.isFreed_of_fields hnew)
 refine wpAny_bind (wpAny_fieldsOf hget hnew ?_)
 have hl:(ps ++ #[rawInt pos.line,rawInt pos.col,Value.ref c']).toList=ps.toList ++ [rawInt pos.line,rawInt pos.col,.ref c']:=by simp
 rw [hl,codeAmong_snoc _ htr hnf]
 have lP:=Heap.lt_size hop
 have hcP:c'≠P:=Nat.ne_of_gt (Nat.lt_of_lt_of_le lP hc')
 have hPP:P'≠P:=Nat.ne_of_gt (Nat.lt_of_lt_of_le lP hP')
 have sb:Heap.SameBut P h' _:=Heap.SameBut.update (h:=h') (a:=P) (f:=fun o=>Obj.mapFields (fun vs=>if (codeAmong pos vs.toList).isSome=true then vs else vs ++ #[rawInt pos.line,rawInt pos.col,.ref c']) o)
 have e1:op={ cls:=.none,data:=.fields ps }:=Option.some.inj (hop.symm.trans hP)
 refine wpAny_pure (hQ _ P' _ _ (fun b o' hb e=>(sb.extBut b o' hb (hk b o' e))) hc' hP' (by rw [Heap.size_after_update];exact hcode'.lt.1) ?_ ?_ ?_)
 ·exact Qew (CodeHd.of hcode' htab') fun o e=>(sb.2 c' hcP).trans e
 ·exact (sb.2 P' hPP).trans htab'.2
 ·rw [hget,e1]
  simp only [Obj.mapFields,hnf]
  rfl
end
section
variable {prog:Program}{w:World}{A:Around}{E:Value->Shared->Prop}{s:Shared}{P c5 cc:Addr}{mg:Str->Option Value}
noncomputable def kEs(H:Nat->Int)(T U:Nat->Tok)(vn:Str)(q:Str)(lst sa:Addr)(fa:Nat->Addr):List DictEntry:=
 [⟨H 0,.str "__module__" (T 0),.str vn (U 0)⟩,⟨H 1,.str "__qualname__" (T 1),.str q (U 1)⟩,⟨H 2,.str "__firstlineno__" (T 2),.int 45 (U 2)⟩,⟨H 3,.str "__slots__" (T 3),.ref lst⟩,
  ⟨H 4,.str "__init__" (T 4),.ref (fa 0)⟩,⟨H 5,.str "__lt__" (T 5),.ref (fa 1)⟩,⟨H 6,.str "__gt__" (T 6),.ref (fa 2)⟩,⟨H 7,.str "__eq__" (T 7),.ref (fa 3)⟩,⟨H 8,.str "__le__" (T 8),.ref (fa 4)⟩,
  ⟨H 9,.str "__ge__" (T 9),.ref (fa 5)⟩,⟨H 10,.str "__hash__" (T 10),.none⟩,⟨H 11,.str "__static_attributes__" (T 11),.ref sa⟩]
noncomputable def kFns(q:Str)(cc:Addr)(pm:Value)(fa ca:Nat->Addr)(doc ctv:Nat->Value):List (Addr × Obj):=
 [(fa 5,fnK 5 "__ge__" q [("mycmp",cc)] (doc 5) pm (ca 5) (ctv 5)),(fa 4,fnK 4 "__le__" q [("mycmp",cc)] (doc 4) pm (ca 4) (ctv 4)),(fa 3,fnK 3 "__eq__" q [("mycmp",cc)] (doc 3) pm (ca 3) (ctv 3)),
  (fa 2,fnK 2 "__gt__" q [("mycmp",cc)] (doc 2) pm (ca 2) (ctv 2)),(fa 1,fnK 1 "__lt__" q [("mycmp",cc)] (doc 1) pm (ca 1) (ctv 1)),(fa 0,fnK 0 "__init__" q [] (doc 0) pm (ca 0) (ctv 0))]
noncomputable def kRecs(q:Str)(ca:Nat->Addr):List (Addr × Str):=
 [(ca 5,q ++ "." ++ "__ge__"),(ca 4,q ++ "." ++ "__le__"),(ca 3,q ++ "." ++ "__eq__"),(ca 2,q ++ "." ++ "__gt__"),(ca 1,q ++ "." ++ "__lt__"),(ca 0,q ++ "." ++ "__init__")]
noncomputable def kLed(q:Str)(cc:Addr)(pm:Value)(fa ca:Nat->Addr)(doc ctv:Nat->Value)(lst sa bt:Addr)(t3 t4:Tok):List (Addr × Obj):=
 (sa,{ cls:=.type "tuple",data:=.seq #[.str "obj" t4] }) :: (kFns q cc pm fa ca doc ctv ++ [(lst,{ cls:=.type "list",data:=.seq #[.str "obj" t3] }),(bt,{ cls:=.type "tuple",data:=.seq #[.type "object"] })])
theorem kn_name{M:Model}{q:Str}{s s0:Shared}{c2 P2 ns f:Addr}{F:List (Addr × Obj)}{R:List (Addr × Str)}{ps2:Array Value}{Q:Value->Shared->Prop}{v:Value}(c:CB P c2 P2 ns s0 F R [] ps2 s)(hg:s0.heap.Ns mainGlobals mg)(hgP:mainGlobals≠P)(hv:mg "__name__"=some v)(h:Q v s):
  wpAny M A (loadName (Qjz q ns f c2 cc) "__name__") Q E s:=by
 refine ob1_1 c.nsd fun m D=>?_
 unfold loadName
 have e0:(Qjz q ns f c2 cc).kindOf "__name__"=none:=by kernel_rfl
 have e1:(Qjz q ns f c2 cc).scope.kind=.class:=rfl
 have e2:(Qjz q ns f c2 cc).blockKind=.class:=by show (if kScope.kind.isAnnotationScope then _ else kScope.kind)=_;rfl
 simp only [e0,e1,e2]
 have e3:compilersOwnNames.contains ("__name__":Str)=true:=by decide +kernel
 refine wpAny_ite_false rfl ?_
 rw [e3]
 refine wpAny_ite_false rfl ?_
 refine wpAny_bind ?_
 unfold localGet
 refine Qg (fun K k=>wpAny_load D k) ?_
 refine wpAny_ite_true (by rfl) ?_
 refine wpAny_bind ?_
 refine Qg (fun K k=>wpAny_loadPart D k) ?_
 refine wpAny_pure ?_
 refine wpAny_of_eq (a:=none) (by kernel_rfl) ?_
 unfold loadGlobal
 refine wpAny_bind (wpAny_nsGet (hg.extBut c.ext hgP) ?_)
 rw [hv]
 exact wpAny_pure h
theorem k_front{q:Str}{env:Env}{Q:Value->Shared->Prop}(hscope:env.scope.kind=.function)(hgl:env.globals=mainGlobals)(hbi:env.builtins=builtinsNs)(hcode:env.code=.ref c5)(hcells:env.cells.lookup ("mycmp":Str)=some cc)
  (hok:s.heap.IsCode c5 P #[])(hP:s.heap.get? P=some (tabObj #[]))(hg:s.heap.Ns mainGlobals mg)(hn:(mg "__name__").isSome=true)(hb:s.heap.BuiltinsAt mg P)(hgP:mainGlobals≠P)(hnl:s.heap.NoLimit)(hSP:cStatics≠P)(hroom:A.depth + 1 < recursionLimit)
  (h:∀ c2 P2 ns H T U lst sa bt fa ca doc ctv t3 t4 t5 ps2 s',CB P c2 P2 ns s (kLed q cc ((mg "__name__").getD .none) fa ca doc ctv lst sa bt t3 t4) (kRecs q ca) (kEs H T U "cpy313.functools" q lst sa fa) ps2 s'->
   wpAny (model prog w) A (call (.type "type") [.str "K" t5,.ref bt,.ref ns]) Q E s')
  : wpAny (model prog w) A (buildClass "K" q [.type "object"] [] kBody kScope Qg5 45 env kPos none) Q E s:=by
 unfold buildClass
 have i1:isType (.type "object")=pure true:=by rfl
 have i2:typeOf (.type "object")=pure (.type "type"):=by rfl
 have i3:isType (.type "type")=pure true:=by rfl
 have i5:typeOf (.type "type")=pure (.type "type"):=by rfl
 have i4:isSubtype (.type "type") (.type "type")=pure true:=by rw [isSubtype_type];kernel_rfl
 with_reducible refine wpAny_bind ?_
 with_reducible refine wpAny_newTuple ?_ (by rw [sizeLine_eq];simp)
 with_reducible refine Ze (([Value.type "object"],false)) (by kernel_rfl) ?_
 wp_delta
 with_reducible refine Ze _ i2 ?_
 with_reducible refine Ze _ i3 ?_
 ((with_reducible apply wpAny_ite_true);focus (rfl;done))
 with_reducible refine wpAny_bind ?_
 with_reducible refine wpAny_of_eq (a:=Value.type "type") (by simp only [List.forIn_cons,List.forIn_nil,i2,i4,pure_bind,if_true]) ?_
 with_reducible refine Qg (fun K k=>wpAny_mkText k) ?_
 ((with_reducible apply wpAny_ite_false);focus (rfl;done))
 with_reducible refine Qcp ?_
 with_reducible refine wpAny_holding ?_
 with_reducible refine wpAny_bind ?_
 refine Qik fun tk1=>?_
 with_reducible refine wpAny_bind ?_
 generalize hH1:s.heap.push ({ cls:=.type "tuple",data:=.seq #[.type "object"] }:Obj)=H1
 refine call_prep (s:={ s with heap:=H1.push (Qco "type.__prepare__" (.type "type")),toks:=tk1 }) (Heap.get?_push_size _ rfl) ?_
 refine Qdb (H1.push (Qco "type.__prepare__" (.type "type"))) fun H2 hH2=>?_
 generalize hns:H2.objs.size=ns
 generalize hH3:H2.push ({ cls:=.type "dict",data:=.dict #[] }:Obj)=H3
 have hz1:H1.objs.size=s.heap.objs.size + 1:=by rw [← hH1];exact Heap.size_push ..
 have hz2:ns=s.heap.objs.size + 2:=by rw [← hns,← hH2,Heap.size_push,hz1]
 have hmg:mainGlobals < s.heap.objs.size:=by refine ob3_2 hg fun o es ep e _=>?_;exact Heap.lt_size e
 have hnsm:(ns == sysModules)=false:=by
  rw [beq_eq_false_iff_ne];intro e;rw [e] at hz2;exact absurd hmg (by rw [show s.heap.objs.size=sysModules - 2 from by lia];decide)
 have hgi:s.heap.objs.size < ns:=by lia
 have D3:H3.get? ns=some (dictOf [] 0):=by rw [← hH3,← hns];exact Heap.get?_push_size _ rfl
 have hT:({ s with heap:=H3,toks:=tk1 }:Shared).TypeIs (.ref ns) "dict":=⟨_,D3,rfl⟩
 with_reducible refine wpAny_bind ?_
 unfold notTheModulesDict
 rw [hnsm]
 ((with_reducible apply wpAny_ite_false);focus (rfl;done))
 with_reducible refine wpAny_pure ?_
 with_reducible refine wpAny_bind ?_
 with_reducible refine wpAny_specialOf hT slot_dict_getitem.lookup ?_
 ((with_reducible apply wpAny_ite_false);focus (rfl;done))
 with_reducible refine wpAny_holding ?_
 ((with_reducible apply wpAny_ite_false);focus (rfl;done))
 with_reducible refine wpAny_bind ?_
 with_reducible refine wpAny_pure ?_
 ((with_reducible apply wpAny_ite_false);focus (rfl;done))
 with_reducible refine Qcp ?_
 with_reducible refine wpAny_bind ?_
 have kH3:∀ b o,s.heap.get? b=some o->H3.get? b=some o:=fun b o e=>by rw [← hH3,← hH2,← hH1];exact Heap.get?_push_of_some _ (Heap.get?_push_of_some _ (Heap.get?_push_of_some _ e))
 refine Qmt (s:={ s with heap:=H3,toks:=tk1 }) hcode (hok.keeps kH3) (kH3 _ _ hP) rfl fun c2 P2 h4 tk4 hx4 hge4 hgP4 hlt4 hcd4 htb4 htP4=>?_
 dsimp only at hx4 hge4 hgP4 ⊢
 have hx:Heap.ExtBut P s.heap h4:=fun b o hb e=>hx4 b o hb (kH3 b o e)
 have g4:=hg.extBut hx hgP
 refine ob2_8 (id hb) fun bm ob hbm hne0 hneG hneP hbo hcls hdict hdata=>?_
 rw [hgl,hbi]
 refine Qg (fun K k=>wpAny_builtinsFor (s:={ s with heap:=h4,toks:=tk4 }) g4 hbm hne0 (hx _ _ hneP hbo) hcls hdict hdata k) ?_
 with_reducible refine wpAny_bind ?_
 unfold newBodyFrame
 with_reducible refine Qg (fun K k=>wpAny_nsGet (s:={ s with heap:=h4,toks:=tk4 }) g4 k) ?_
 refine wpAny_alloc ?_
 have hcl:closureFor kScope env=pure [(("mycmp":Str),cc)]:=by
  rw [Qcn fun p hp hf=>?_]
  ·show pure (match env.cells.lookup ("mycmp":Str) with | some c=>[(("mycmp":Str),c)] | none=>[])=_
   rw [hcells]
  ·have:p.1=("mycmp":Str):=by
    have h2:kScope.names.all (fun p=>!(p.2 == .free) || p.1 == ("mycmp":Str))=true:=by decide +kernel
    have h3:=List.all_eq_true.mp h2 p hp
    rw [hf] at h3;simpa using h3
   rw [this];exact ⟨cc,hcells⟩
 rw [hcl]
 with_reducible refine Qcp ?_
 with_reducible refine wpAny_holding ?_
 generalize hf:h4.objs.size=f
 have lP:@LT.lt Nat _ P s.heap.objs.size:=Heap.lt_size hP
 have hz3:H3.objs.size=s.heap.objs.size + 3:=by rw [← hH3,Heap.size_push,← hH2,Heap.size_push,hz1]
 have neP:ns≠P∧P2≠P∧c2≠P:=⟨Nat.ne_of_gt (show @LT.lt Nat _ P ns by lia),Nat.ne_of_gt (show @LT.lt Nat _ P P2 by lia),Nat.ne_of_gt (show @LT.lt Nat _ P c2 by lia)⟩
 have new0:∀ b,s.heap.objs.size <= b->s.heap.get? b=none:=fun b hb=>Heap.get?_none_of_le hb
 refine ob1_1 (Option.isSome_iff_exists.mp hn) fun vn hvn=>?_
 generalize hs5:({ s with heap:=h4.push _,toks:=tk4 }:Shared)=s5
 have hp5:∀ b o,h4.get? b=some o->s5.heap.get? b=some o:=fun b o e=>by rw [← hs5];exact Heap.get?_push_of_some _ e
 have cb:CB P c2 P2 ns s [(s.heap.objs.size,{ cls:=.type "tuple",data:=.seq #[.type "object"] })] [] [] #[] s5:=by
  refine ⟨⟨_,_,hs5.symm⟩,fun b o hb e=>hp5 b o (hx b o hb e),⟨_,hp5 _ _ htP4⟩,⟨0,hp5 _ _ (hx4 _ _ neP.1 D3)⟩,new0 _ (by lia),new0 _ (by lia),new0 _ (by lia),neP,hcd4.keeps hp5,hp5 _ _ htb4,fun p hp=>?_,fun p hp=>nomatch hp⟩
  rcases List.mem_singleton.mp hp with rfl
  refine Qg9 (hp5 _ _ (hx4 _ _ (Nat.ne_of_gt lP) ?_)) (Nat.ne_of_lt (show @LT.lt Nat _ s.heap.objs.size ns by lia)) (Nat.ne_of_lt (show @LT.lt Nat _ s.heap.objs.size P2 by lia)) (Nat.ne_of_gt lP) (new0 _ (Nat.le_refl _))
  rw [← hH3,← hH2,← hH1]
  exact Heap.get?_push_of_some _ (Heap.get?_push_of_some _ (Heap.get?_push_size _ rfl))
 have hnl5:s5.heap.NoLimit:=by
  refine ob1_2 hnl fun mc a b=>?_
  exact in1_2 mc (a.extBut cb.ext hSP) b
 with_reducible refine Qg (fun K k=>wpAny_enterFrame hnl5 (by lia) k) ?_
 with_reducible refine wpAny_bind ?_
 with_reducible refine wpAny_onRaise ?_
 with_reducible refine wpAny_bind ?_
 refine kn_name (q:=q) (f:=f) (cc:=cc) cb hg hgP hvn ?_
 with_reducible refine wpAny_bind ?_
 refine Qae (q:=q) (f:=f) (cc:=cc) (.inl rfl) cb Qr fun h0 t0 s6 c6=>?_
 with_reducible refine Qg (fun K k=>wpAny_mkText k) ?_
 with_reducible refine wpAny_bind ?_
 refine Qae (q:=q) (f:=f) (cc:=cc) (.inr ⟨rfl,by decide +kernel⟩) (c6.toks _) (Qa Qr) fun h1 t1 s7 c7=>?_
 rw [show putL "__qualname__" h1 (.str "__qualname__" t1) (.str q s6.toks) (putL "__module__" h0 (.str "__module__" t0) vn [])=[⟨h0,.str "__module__" t0,vn⟩,⟨h1,.str "__qualname__" t1,.str q s6.toks⟩] from by kernel_rfl] at c7
 with_reducible refine wpAny_bind ?_
 refine wpAny_mkInt ?_
 with_reducible refine wpAny_bind ?_
 refine Qae (q:=q) (f:=f) (cc:=cc) (.inr ⟨rfl,by decide +kernel⟩) (c7.toks _) (Qa (Qa Qr)) fun h2 t2 s8 c8=>?_
 rw [show putL "__firstlineno__" h2 (.str "__firstlineno__" t2) (.int ((45:Nat):Int) s7.toks) [⟨h0,.str "__module__" t0,vn⟩,⟨h1,.str "__qualname__" t1,.str q s6.toks⟩]=[⟨h0,.str "__module__" t0,vn⟩,⟨h1,.str "__qualname__" t1,.str q s6.toks⟩,⟨h2,.str "__firstlineno__" t2,.int 45 s7.toks⟩] from by kernel_rfl] at c8
 with_reducible refine wpAny_pure ?_
 with_reducible refine wpAny_bind ?_
 refine wpAny_run (codeAny_body (by kernel_rfl) (by kernel_rfl) (kn_body (q:=q) (f:=f) (cc:=cc) c8 hg hb hgP fun lst t3 fa ca doc ctv hs ts u0 s9 c9=>?_))
 with_reducible refine wpAny_bind ?_
 with_reducible refine wpAny_onRaise ?_
 with_reducible refine wpAny_bind ?_
 unfold Qg5
 rw [List.mapM_cons,List.mapM_nil]
 with_reducible refine wpAny_bind ?_
 with_reducible refine wpAny_mkText ?_
 with_reducible refine Qcp ?_
 with_reducible refine wpAny_pure ?_
 with_reducible refine wpAny_bind ?_
 refine wpAny_newTextTuple ?_
 with_reducible refine wpAny_bind ?_
 have c10:=(c9.toks (s9.toks + 1)).push (o:={ cls:=.type "tuple",data:=.seq #[.str "obj" s9.toks] }) rfl
 refine Qae (q:=q) (f:=f) (cc:=cc) (.inr ⟨rfl,by decide +kernel⟩) c10 (Qa (Qa (Qa (Qa (Qa (Qa (Qa (Qa (Qa (Qa (Qa Qr))))))))))) fun hz tz s11 c11=>?_
 with_reducible refine wpAny_pure ?_
 ((with_reducible apply wpAny_ite_false);focus (rfl;done))
 with_reducible refine wpAny_bind ?_
 rw [show putL "__static_attributes__" hz (.str "__static_attributes__" tz) (.ref ({ s9 with toks:=s9.toks + 1 }:Shared).heap.objs.size) [⟨h0,.str "__module__" t0,.str "cpy313.functools" u0⟩,⟨h1,.str "__qualname__" t1,.str q s6.toks⟩,⟨h2,.str "__firstlineno__" t2,.int 45 s7.toks⟩,⟨hs 0,.str "__slots__" (ts 0),.ref lst⟩,⟨hs 1,.str "__init__" (ts 1),.ref (fa 0)⟩,⟨hs 2,.str "__lt__" (ts 2),.ref (fa 1)⟩,⟨hs 3,.str "__gt__" (ts 3),.ref (fa 2)⟩,⟨hs 4,.str "__eq__" (ts 4),.ref (fa 3)⟩,⟨hs 5,.str "__le__" (ts 5),.ref (fa 4)⟩,⟨hs 6,.str "__ge__" (ts 6),.ref (fa 5)⟩,⟨hs 7,.str "__hash__" (ts 7),.none⟩]=kEs (fun i=>match i with | 0=>h0 | 1=>h1 | 2=>h2 | 3=>hs 0 | 4=>hs 1 | 5=>hs 2 | 6=>hs 3 | 7=>hs 4 | 8=>hs 5 | 9=>hs 6 | 10=>hs 7 | _=>hz) (fun i=>match i with | 0=>t0 | 1=>t1 | 2=>t2 | 3=>ts 0 | 4=>ts 1 | 5=>ts 2 | 6=>ts 3 | 7=>ts 4 | 8=>ts 5 | 9=>ts 6 | 10=>ts 7 | _=>tz) (fun i=>match i with | 0=>u0 | 1=>s6.toks | _=>s7.toks) "cpy313.functools" q lst s9.heap.objs.size fa from by kernel_rfl] at c11
 exact wpAny_mono (h c2 P2 ns (fun i=>match i with | 0=>h0 | 1=>h1 | 2=>h2 | 3=>hs 0 | 4=>hs 1 | 5=>hs 2 | 6=>hs 3 | 7=>hs 4 | 8=>hs 5 | 9=>hs 6 | 10=>hs 7 | _=>hz) (fun i=>match i with | 0=>t0 | 1=>t1 | 2=>t2 | 3=>ts 0 | 4=>ts 1 | 5=>ts 2 | 6=>ts 3 | 7=>ts 4 | 8=>ts 5 | 9=>ts 6 | 10=>ts 7 | _=>tz) (fun i=>match i with | 0=>u0 | 1=>s6.toks | _=>s7.toks) lst _ s.heap.objs.size fa ca doc ctv t3 s9.toks s.toks _ s11 c11) (fun v s' hq=>wpAny_pure hq) (fun _ _ e=>e)
end
theorem Qjy:Builtin.notOverATurnedClass [.type "object"]=pure ():=by kernel_rfl
theorem kc_ext:Builtin.extendedBase [.type "object"]=pure (.type "object"):=by kernel_rfl
theorem kc_best:Builtin.Slots.bestBase [.type "object"]=pure (.type "object"):=by kernel_rfl
theorem kc_names:Builtin.Slots.slotNamesOf (.type "object")=pure []:=by kernel_rfl
theorem kc_gd:Builtin.Slots.givesDict (.type "object")=pure false:=by kernel_rfl
theorem kc_gw:Builtin.Slots.givesWeak (.type "object")=pure false:=by kernel_rfl
theorem kc_vs:Builtin.Slots.varSize (.type "object")=pure false:=by kernel_rfl
theorem kc_hook:Builtin.mroHook? (.type "type")=pure none:=by kernel_rfl
theorem kc_lin:Builtin.linearize [.type "object"] mroOf=pure [.type "object"]:=by kernel_rfl
theorem kc_made:Bind.madeBy (.type "object")=pure (some "object.__new__"):=by kernel_rfl
section
variable {prog:Program}{w:World}{A:Around}{E:Value->Shared->Prop}{s:Shared}
theorem Qf5{α:Type}{M:Model}{f:α->PUnit->Sem (ForInStep PUnit)}{Q:PUnit->Shared->Prop}:∀ {l:List α},(∀ e ∈ l,∀ Q':ForInStep PUnit->Shared->Prop,Q' (.yield ⟨⟩) s->wpAny M A (f e ⟨⟩) Q' E s)->Q ⟨⟩ s->wpAny M A (forIn l PUnit.unit f) Q E s
 | [],_,h=>by rw [List.forIn_nil];exact wpAny_pure h
 | e :: l,hf,h=>by
  rw [List.forIn_cons]
  exact wpAny_bind (hf e (.head _) _ (Qf5 (fun e he=>hf e (.tail _ he)) h))
theorem Qgx{ns:Addr}{es:List DictEntry}{m:Nat}{name:Str}{r:Option Value}{M:Model}{Q:Option Value->Shared->Prop}(hD:s.heap.get? ns=some (dictOf es m))(hr:nsLook name (dictOf es m)=pure r)(h:Q r s):wpAny M A (nsGet ns name) Q E s:=by
 unfold nsGet
 refine wpAny_bind (wpAny_loadPart hD ?_)
 rw [hr];exact wpAny_pure h
theorem Qlz{lst sa:Addr}{q:Str}{H:Nat->Int}{T U:Nat->Tok}{fa:Nat->Addr}{t3:Tok}{Q:Builtin.Slots.Plan->Shared->Prop}(hlst:s.heap.get? lst=some { cls:=.type "list",data:=.seq #[.str "obj" t3] })
  (h:∀ h',(∀ b o,s.heap.get? b=some o->h'.get? b=some o)->Q { names:=["obj"],dict:=false,weak:=false,inherited:=[] } { s with heap:=h' }):
  wpAny (model prog w) A (Builtin.Slots.read "K" [.type "object"] (kEs H T U "cpy313.functools" q lst sa fa).toArray) Q E s:=by
 unfold Builtin.Slots.read
 with_reducible refine Ze _ kc_best ?_
 with_reducible refine Ze _ kc_names ?_
 with_reducible refine Ze _ kc_gd ?_
 with_reducible refine Ze _ kc_gw ?_
 with_reducible refine Ze _ kc_vs ?_
 rw [show Array.find? (fun x=>x.key.isStr "__slots__") (kEs H T U "cpy313.functools" q lst sa fa).toArray=some ⟨H 3,.str "__slots__" (T 3),.ref lst⟩ from by kernel_rfl]
 wp_delta
 with_reducible refine Qg (fun K k=>wpAny_rule k) ?_
 with_reducible refine wpAny_bind ?_
 have ha:∀ {Q':Option Str->Shared->Prop}{E':Value->Shared->Prop},Q' none s->wpAny (model prog w) A (asStr? (.ref lst)) Q' E' s:=fun hq=>by
  unfold asStr?
  refine wpAny_bind (wpAny_load hlst ?_)
  exact wpAny_pure hq
 refine ha ?_
 ((with_reducible apply wpAny_ite_false);focus (rfl;done))
 with_reducible refine wpAny_bind ?_
 refine wpAny_collect_seq lst (T:="list") (.inl rfl) hlst rfl rfl fun h' hk=>?_
 ((with_reducible apply wpAny_ite_true);focus (rfl;done))
 with_reducible refine Ze _ kc_vs ?_
 ((with_reducible apply wpAny_ite_false);focus (rfl;done))
 with_reducible refine Ze ((false,false,#[("obj":Str)],([]:List Str))) (by kernel_rfl) ?_
 with_reducible refine Ze (([("obj":Str)],3)) (by kernel_rfl) ?_
 with_reducible refine Ze ((false,false)) (by kernel_rfl) ?_
 exact wpAny_pure (h h' hk)
end
structure TB (s0:Shared) (C nd:Addr) (oC oD:Obj) (F:List (Addr × Obj)) (s:Shared):Prop where
 form:∃ h tk,s={ s0 with heap:=h,toks:=tk }
 keep:∀ b o,s0.heap.get? b=some o->s.heap.get? b=some o
 hC:s.heap.get? C=some oC
 hD:s.heap.get? nd=some oD
 nC:s0.heap.get? C=none
 nD:s0.heap.get? nd=none
 ne:C≠nd
 led:∀ p ∈ F,s.heap.get? p.1=some p.2∧p.1≠C∧p.1≠nd∧s0.heap.get? p.1=none
section
variable {M:Model}{A:Around}{E:Value->Shared->Prop}{s s0:Shared}{C nd:Addr}{oC oD:Obj}{F:List (Addr × Obj)}
theorem TB.setC(c:TB s0 C nd oC oD F s){h':Heap}{tk:Tok}{oC':Obj}(hs:Heap.SameBut C s.heap h')(e:h'.get? C=some oC'):TB s0 C nd oC' oD F { s with heap:=h',toks:=tk }:=by
 refine ob2_1 c.form ?_;rintro h t rfl
 refine ⟨⟨_,_,rfl⟩,fun b o q=>(hs.2 b fun r=>by rw [r,c.nC] at q;exact nSo q).trans (c.keep b o q),e,(hs.2 nd (Ne.symm c.ne)).trans c.hD,c.nC,c.nD,c.ne,fun p hp=>?_⟩
 refine Qx (c.led p hp) fun a b=>?_
 exact ⟨(hs.2 _ b.1).trans a,b⟩
theorem TB.setD(c:TB s0 C nd oC oD F s){h':Heap}{tk:Tok}{oD':Obj}(hs:Heap.SameBut nd s.heap h')(e:h'.get? nd=some oD'):TB s0 C nd oC oD' F { s with heap:=h',toks:=tk }:=by
 refine ob2_1 c.form ?_;rintro h t rfl
 refine ⟨⟨_,_,rfl⟩,fun b o q=>(hs.2 b fun r=>by rw [r,c.nD] at q;exact nSo q).trans (c.keep b o q),(hs.2 C c.ne).trans c.hC,e,c.nC,c.nD,c.ne,fun p hp=>?_⟩
 refine Qx (c.led p hp) fun a b=>?_
 exact ⟨(hs.2 _ b.2.1).trans a,b⟩
theorem TB.push(c:TB s0 C nd oC oD F s){o:Obj}{tk:Tok}(hf:o.isFreed=false):TB s0 C nd oC oD ((s.heap.objs.size,o) :: F) { s with heap:=s.heap.push o,toks:=tk }:=by
 refine ob2_1 c.form ?_;rintro h t rfl
 have k:∀ b ob,h.get? b=some ob->(h.push o).get? b=some ob:=fun b ob e=>Heap.get?_push_of_some _ e
 refine ⟨⟨_,_,rfl⟩,fun b o q=>k _ _ (c.keep b o q),k _ _ c.hC,k _ _ c.hD,c.nC,c.nD,c.ne,fun p hp=>?_⟩
 rcases List.mem_cons.mp hp with rfl | hp
 ·refine Qj0 (Heap.get?_push_size _ hf) (Nat.ne_of_gt (Heap.lt_size c.hC)) (Nat.ne_of_gt (Heap.lt_size c.hD)) ?_
  cases q:s0.heap.get? h.objs.size with
  | none=>rfl
  | some ob=>exact absurd (show h.objs.size < h.objs.size from Heap.lt_size (c.keep _ _ q)) (Nat.lt_irrefl _)
 ·refine Qx (c.led p hp) fun a b=>?_
  exact ⟨k _ _ a,b⟩
theorem TB.grow(c:TB s0 C nd oC oD F s){h':Heap}{tk:Tok}(k:∀ b o,s.heap.get? b=some o->h'.get? b=some o):TB s0 C nd oC oD F { s with heap:=h',toks:=tk }:=by
 refine ob2_1 c.form ?_;rintro h t rfl
 exact ⟨⟨_,_,rfl⟩,fun b o q=>k _ _ (c.keep b o q),k _ _ c.hC,k _ _ c.hD,c.nC,c.nD,c.ne,fun p hp=>⟨k _ _ (c.led p hp).1,(c.led p hp).2⟩⟩
theorem TB.toks(c:TB s0 C nd oC oD F s)(tk:Tok):TB s0 C nd oC oD F { s with toks:=tk }:=by
 refine ob2_1 c.form ?_;rintro h t rfl
 exact ⟨⟨_,_,rfl⟩,c.keep,c.hC,c.hD,c.nC,c.nD,c.ne,c.led⟩
theorem Qd2{i:Nat}{v:Option Value}{Q:Unit->Shared->Prop}(c:TB s0 C nd oC oD F s)(hi:i < 1000)(hf:oC.isFreed=false)
  (h:∀ s',TB s0 C nd { oC with slots:=(oC.slots ++ Array.replicate (i + 1 - oC.slots.size) none).setIfInBounds i v } oD F s'->Q () s'):wpAny M A (setSlotAt C i v) Q E s:=by
 unfold setSlotAt
 refine wpAny_ite_false (by rw [sizeLine_eq];exact decide_eq_false (by lia)) ?_
 refine wpAny_updatePart c.hC (h _ (c.setC (tk:=s.toks) (Heap.SameBut.update ..) (Heap.get?_update_self _ c.hC ?_)))
 exact (PySem.W.kts_isFreed _ _).trans hf
theorem tb_cls{f:ClassData->ClassData}{cd:ClassData}{Q:Unit->Shared->Prop}(c:TB s0 C nd oC oD F s)(hd:oC.data=.cls cd)(hp:(Data.cls (f cd)).pastItsLine=none)
  (h:∀ s',TB s0 C nd { oC with data:=.cls (f cd) } oD F s'->Q () s'):wpAny M A (updateCls C f) Q E s:=by
 unfold updateCls
 refine Qg (fun K k=>wpAny_load c.hC k) ?_
 rw [hd]
 have e:Obj.mapCls f oC={ oC with data:=.cls (f cd) }:=by
  obtain ⟨a,b,d,e⟩:=oC
  simp only at hd;subst hd;rfl
 have g:=Heap.get?_update_self (f:=Obj.mapCls f) c.hC (by rw [e];rfl)
 rw [e] at g
 refine wpAny_bind (wpAny_update c.hC (wpAny_lookBehind g hp ?_))
 exact h _ (c.setC (tk:=s.toks) (Heap.SameBut.update ..) g)
theorem Qcc{name:Str}{r:Option Value}{Q:Option Value->Shared->Prop}(c:TB s0 C nd oC oD F s)(hr:nsLook name oD=pure r)(h:Q r s):wpAny M A (nsGet nd name) Q E s:=by
 unfold nsGet
 refine wpAny_bind (wpAny_loadPart c.hD ?_)
 rw [hr];exact wpAny_pure h
theorem tb_del{name:Str}{oD':Obj}{Q:Bool->Shared->Prop}(c:TB s0 C nd oC oD F s)(h1:nsHas name oD=pure true)(h2:Obj.dropName name oD=oD')(hf:oD'.isFreed=false)(h:∀ s',TB s0 C nd oC oD' F s'->Q true s'):wpAny M A (nsDel nd name) Q E s:=by
 unfold nsDel
 refine Qg (fun K k=>wpAny_loadPart c.hD k) ?_
 rw [h1]
 refine Qg (fun K k=>wpAny_pure k) ?_
 refine wpAny_ite_true rfl ?_
 subst h2
 exact wpAny_bind (wpAny_updatePart c.hD (wpAny_pure (h _ (c.setD (tk:=s.toks) (Heap.SameBut.update ..) (Heap.get?_update_self _ c.hD hf)))))
theorem tb_set{name:Str}{v:Value}{es:List DictEntry}{m:Nat}{Q:Unit->Shared->Prop}(c:TB s0 C nd oC (dictOf es m) F s)(htx:Xj es)
  (h:∀ hsh t s',TB s0 C nd oC (dictOf (putL name hsh (.str name t) v es) (putN name es m)) F s'->Q () s'):wpAny M A (nsSet nd name v) Q E s:=by
 unfold nsSet
 refine wpAny_bind (wpAny_bind (wpAny_askSetting (wpAny_pure (wpAny_bind (wpAny_mkText (wpAny_bind (wpAny_loadPart c.hD ?_)))))))
 dsimp only
 have cc:(!es.toArray.any (·.key.isStr name) && es.toArray.any (·.refKey))=false:=by
  rw [← Array.any_toList,← Array.any_toList]
  show (!es.any _ && es.any _)=false
  rw [noRef htx,Bool.and_false]
 rw [aRefKeyMayBeTheName_at,cc]
 have eD:=putName_dict name (PyData.keyHash M.w.params name) (.str name s.toks) v es m
 have D':(s.heap.update nd (Obj.putName name (PyData.keyHash M.w.params name) (.str name s.toks) v)).get? nd=some (dictOf (putL name (PyData.keyHash M.w.params name) (.str name s.toks) v es) (putN name es m)):=by
  rw [Heap.get?_update_self _ c.hD (by rw [eD];rfl),eD]
 exact wpAny_updatePart c.hD (h _ _ _ (c.setD (tk:=s.toks + 1) (Heap.SameBut.update ..) D'))
end
noncomputable def kfind(es:List DictEntry)(name:Str):Option (Option Value):=match getL name es with
 | some (some v)=>some (some v)
 | some none=>some (fastBuiltinOwn "object" name)
 | none=>none
theorem nsIn_of{K:Frag}{nd:Addr}{es:List DictEntry}{m:Nat}{name:Str}(h:K.lookup nd=some (dictOf es m)):nsIn K nd name=getL name es:=by
 unfold nsIn
 rw [h]
 rfl
theorem Qle{K:Frag}{C nd:Addr}{oc:Value}{od:Option Addr}{cd:ClassData}{sl:Array (Option Value)}{es:List DictEntry}{m:Nat}{name:Str}(h1:K.lookup C=some ⟨oc,od,.cls cd,sl⟩)(hm:cd.mro=[.ref C,.type "object"])(hn:cd.ns=nd)(h2:K.lookup nd=some (dictOf es m)):
  findIn K (.ref C) name=kfind es name:=by
 have e1:findIn K (.ref C) name=alongIn K name cd.mro:=by
  unfold findIn;dsimp only;rw [h1]
 have e2:ownIn K name (.ref C)=getL name es:=by
  unfold ownIn;simp only [h1,hn];exact nsIn_of h2
 have e3:∀ n:String,ownIn K name (.type n)=some (fastBuiltinOwn n name):=fun _=>rfl
 have e4:alongIn K name [.type "object"]=some (fastBuiltinOwn "object" name):=by
  unfold alongIn
  rw [e3]
  cases hf:fastBuiltinOwn "object" name with
  | none=>rfl
  | some v=>rfl
 rw [e1,hm]
 unfold alongIn kfind
 rw [e2]
 cases hg:getL name es with
 | none=>rfl
 | some r=>cases r with
  | none=>exact e4
  | some v=>rfl
theorem Qlb{h:Heap}{a b:Addr}{oa ob:Obj}(ha:h.get? a=some oa)(hb:h.get? b=some ob):Frag.In [(a,oa),(b,ob)] h:=fun x o e=>by
 simp only [List.lookup_cons,List.lookup_nil] at e
 by_cases h1:x=a
 ·subst h1;simp at e;subst e;exact ha
 ·have:(x == a)=false:=by simpa using h1
  rw [this] at e;replace e:=e
  by_cases h2:x=b
  ·subst h2;simp at e;subst e;exact hb
  ·have:(x == b)=false:=by simpa using h2
   rw [this] at e;exact nSo e
section
variable {prog:Program}{w:World}{A:Around}{E:Value->Shared->Prop}{h:Heap}{g:Array GenState}{d:Drawn}{t:Nat}{os:OsState}
theorem super_cls{C:Addr}{oC:Obj}{cd:ClassData}{Q:Value->Shared->Prop}(hC:h.get? C=some oC)(hCt:oC.data=.cls cd)(hsub:Looks (model prog w) h (isSubtype (.ref C) (.ref C)) true)
  (hq:∀ h',h'.get? h.objs.size=some { cls:=.type "super",dict:=none,data:=.fields #[.ref C,.ref C,.ref C],slots:=#[] }->(∀ y o,h.get? y=some o->h'.get? y=some o)->Q (.ref h.objs.size) ⟨h',g,d,t,os⟩):
  wpAny (model prog w) A (call (.type "super") [.ref C,.ref C]) Q E ⟨h,g,d,t,os⟩:=by
 refine ks_callType_codesW (Q₁:=fun obj s₁=>obj=.ref h.objs.size∧s₁=⟨h.push { cls:=.type "super",data:=.fields #[.none,.none,.none] },g,d,t,os⟩) F.ks_called_super (ks_wpAny_checkTypeCall_super hC hCt) F.ks_entry_super_init
  (ks_code_super_new _ _ ⟨rfl,rfl⟩) fun obj s₁ h1=>?_
 obtain ⟨rfl,rfl⟩:=h1
 have up:∀ y o,h.get? y=some o->(h.push { cls:=.type "super",data:=.fields #[.none,.none,.none] }).get? y=some o:=fun y o e=>Heap.get?_push_of_some _ e
 have hso:(h.push { cls:=.type "super",data:=.fields #[.none,.none,.none] }).get? h.objs.size=some { cls:=.type "super",dict:=none,data:=.fields #[.none,.none,.none],slots:=#[] }:=Heap.get?_push_at rfl rfl
 have hC':=up _ _ hC
 have hsub':=hsub.keeps up
 refine Jw ⟨_,hso,rfl⟩ (F.ks_initArgs_super _ _ _) ?_
 unfold Builtin.«super.__init__» noKeywords
 repeat (first | (with_reducible refine ks_wpAny_isType_cls hC' hCt ?_) | (with_reducible refine Looks.at hsub' ?_) | (with_reducible refine ks_wpAny_super_set3 hso ?_) | wp_step)
 all_goals first
  | (intro h' e k;exact ⟨rfl,hq h' e fun y o ey=>k y o (Nat.ne_of_lt (Heap.lt_size ey)) (up y o ey)⟩)
  | (refine ks_wpAny_super_set3 hso ?_;intro h' e k;exact ⟨rfl,hq h' e fun y o ey=>k y o (Nat.ne_of_lt (Heap.lt_size ey)) (up y o ey)⟩)
theorem Qmw:typeOf (.builtin "object.__init_subclass__")=pure (.type "classmethod_descriptor"):=by kernel_rfl
theorem Qg1{C:Addr}{oC:Obj}{cd:ClassData}{Q:Fin->Shared->Prop}(hC:h.get? C=some oC)(hCt:oC.data=.cls cd)(hsub:Looks (model prog w) h (isSubtype (.ref C) (.type "object")) true)
  (hq:Q (.done (.ret (.ref h.objs.size))) ⟨h.push (Qco "object.__init_subclass__" (.ref C)),g,d,t,os⟩):
  wpAny (model prog w) A (Builtin.«classmethod_descriptor.__get__» ⟨[.builtin "object.__init_subclass__",.none,.ref C],[]⟩) Q E ⟨h,g,d,t,os⟩:=by
 have e1:".".intercalate ("object.__init_subclass__".cutAt '.').dropLast="object":=by decide +kernel
 unfold Builtin.«classmethod_descriptor.__get__»
 repeat (first | (with_reducible refine ks_wpAny_isType_cls hC hCt ?_) | (rw [e1];with_reducible refine Looks.at hsub ?_) | wp_step)
 all_goals exact hq
theorem Qhr{so C:Addr}{oC:Obj}{cd:ClassData}{K:Frag}{tk:Tok}{Q:Fin->Shared->Prop}
  (hso:h.get? so=some { cls:=.type "super",dict:=none,data:=.fields #[.ref C,.ref C,.ref C],slots:=#[] })(hno:Looks (model prog w) h (opaqueClassAbove (.ref C)) none)
  (hC:h.get? C=some oC)(hCt:oC.data=.cls cd)(hm:Looks (model prog w) h (mroOf (.ref C)) [.ref C,.type "object"])(hsub:Looks (model prog w) h (isSubtype (.ref C) (.type "object")) true)(X:K.In h)
  (hq:Q (.done (.ret (.ref h.objs.size))) ⟨h.push (Qco "object.__init_subclass__" (.ref C)),g,d,t,os⟩):
  wpAny (model prog w) A (Builtin.«super.__getattribute__» ⟨[.ref so,.str "__init_subclass__" tk],[]⟩) Q E ⟨h,g,d,t,os⟩:=by
 have hlk:=cmd_get
 have hdt:({ cls:=.type "super",dict:=none,data:=.fields #[.ref C,.ref C,.ref C],slots:=#[] }:Obj).data=.fields #[.ref C,.ref C,.ref C]:=rfl
 have f0:(#[.ref C,.ref C,.ref C]:Array Value)[0]?=some (.ref C):=rfl
 have f1:(#[.ref C,.ref C,.ref C]:Array Value)[1]?=some (.ref C):=rfl
 have f2:(#[.ref C,.ref C,.ref C]:Array Value)[2]?=some (.ref C):=rfl
 have hl:([Value.ref C,Value.type "object"].dropWhile (· != .ref C)).drop 1=[.type "object"]:=by simp
 have hne:(Value.ref C == Value.ref C)=true:=by simp
 have hT:=Qmw
 have hf:alongIn K "__init_subclass__" [.type "object"]=some (some (.builtin "object.__init_subclass__")):=by unfold alongIn ownIn;kernel_rfl
 unfold Builtin.«super.__getattribute__»
 with_reducible refine Ze (some ("__init_subclass__":Str)) (by kernel_rfl) ?_
 ((with_reducible apply wpAny_ite_false);focus (rfl;done))
 with_reducible refine Ze (some ("__init_subclass__":Str)) (by kernel_rfl) ?_
 with_reducible refine Qg (fun K k=>wpAny_field hso hdt f0 k) ?_
 with_reducible refine Qg (fun K k=>wpAny_field hso hdt f1 k) ?_
 with_reducible refine Qg (fun K k=>wpAny_field hso hdt f2 k) ?_
 ((with_reducible apply wpAny_ite_false);focus (kernel_rfl;done))
 with_reducible refine Qg (fun K k=>ks_wpAny_notOpaque hno k) ?_
 ((with_reducible apply wpAny_ite_false);focus (kernel_rfl;done))
 with_reducible refine wpAny_bind ?_
 refine Looks.at hm ?_
 rw [hl]
 wp_delta
 with_reducible refine wpAny_bind ?_
 rw [List.forIn_cons]
 with_reducible refine wpAny_bind ?_
 with_reducible refine Ze (some (.builtin "object.__init_subclass__")) (by kernel_rfl) ?_
 with_reducible refine Ze _ hT ?_
 with_reducible refine Ze _ hlk ?_
 with_reducible refine wpAny_bind ?_
 with_reducible refine wpAny_holding ?_
 rw [hne]
 show wpAny _ _ (call (.builtin "classmethod_descriptor.__get__") [.builtin "object.__init_subclass__",.none,.ref C]) _ _ _
 refine wpAny_call_entry PySem.W.KFB.slot_get hT PySem.W.KFB.entry_get (Qg1 hC hCt hsub ?_) (PySem.W.KFB.args_get _ _ _)
 exact in1_2 _ rfl (wpAny_bind (wpAny_pure (wpAny_pure (wpAny_pure (wpAny_pure hq)))))
theorem Qlx{so C:Addr}{oC:Obj}{cd:ClassData}{K:Frag}{Q:Value->Shared->Prop}
  (hso:h.get? so=some { cls:=.type "super",dict:=none,data:=.fields #[.ref C,.ref C,.ref C],slots:=#[] })(hno:Looks (model prog w) h (opaqueClassAbove (.ref C)) none)
  (hC:h.get? C=some oC)(hCt:oC.data=.cls cd)(hm:Looks (model prog w) h (mroOf (.ref C)) [.ref C,.type "object"])(hsub:Looks (model prog w) h (isSubtype (.ref C) (.type "object")) true)(X:K.In h)
  (hq:Q (.ref h.objs.size) ⟨h.push (Qco "object.__init_subclass__" (.ref C)),g,d,t + 1,os⟩):
  wpAny (model prog w) A (getAttr (.ref so) "__init_subclass__") Q E ⟨h,g,d,t,os⟩:=by
 have hlk:=F.ks_slot_super_ga.lookup
 have hT:∀ t',(⟨h,g,d,t',os⟩:Shared).TypeIs (.ref so) "super":=fun _=>⟨_,hso,rfl⟩
 unfold getAttr getAttrBy
 refine wpAny_bind (wpAny_mkText (wpAny_holding (wpAny_bind (wpAny_typeOf (hT _) (wpAny_bind (wpAny_of_eq hlk ?_))))))
 show wpAny _ _ (getAttrByItsOwn (.ref so) (.str "__init_subclass__" t) (.type "super") (.builtin "super.__getattribute__") true false) _ _ _
 unfold getAttrByItsOwn hookBefore callGetattribute boundAndCalled
 refine wpAny_bind (wpAny_of_eq (show (if onTheHeap (.type "super") then typeLookup (.type "super") "__getattr__" else pure none)=pure none from rfl) ?_)
 refine wpAny_bind (wpAny_attempt (wpAny_holding ?_))
 show wpAny _ _ (bindSpecial (.builtin "super.__getattribute__") (.ref so) >>= _) _ _ _
 refine wpAny_bind (wpAny_of_eq (F.ks_slot_super_ga.bind _) ?_)
 refine wpAny_mono (Q:=fun v s'=>v=.ref h.objs.size∧s'=⟨h.push (Qco "object.__init_subclass__" (.ref C)),g,d,t + 1,os⟩) (E:=fun _ _=>False)
  (wpAny_call_entry F.ks_slot_super_ga (hT _) F.ks_entry_super_ga (Qhr hso hno hC hCt hm hsub X ⟨_,rfl,rfl,rfl⟩) (F.ks_gaArgs_super _ _)) (fun v s' hv=>?_) fun _ _ z=>z.elim
 obtain ⟨rfl,rfl⟩:=hv
 show wpAny _ A (handedOut (.ref h.objs.size)) _ _ _
 rw [handedOut_of rfl]
 exact wpAny_pure hq
theorem entry_isc:entryFor table "object.__init_subclass__"=some Builtin.«object.__init_subclass__»:=entryFor_of_tree (by kernel_rfl)
theorem Qmu{C:Addr}{Q:Unit->Shared->Prop}{oC:Obj}{cd:ClassData}(hC:h.get? C=some oC)(hCt:oC.data=.cls cd)(hcls:oC.cls=.type "type")(hqn:cd.qualname="cmp_to_key.<locals>.K")(hq:Q () ⟨h,g,d,t,os⟩):
  wpAny (model prog w) A (checkBoundCall "object.__init_subclass__" ⟨[.ref C],[]⟩) Q E ⟨h,g,d,t,os⟩:=by
 unfold checkBoundCall
 have h0:builtinKind "object.__init_subclass__"=some .classMethod:=by decide +kernel
 have h1:isSubtype (.type "type") (.type "module")=pure false:=by rw [isSubtype_type];kernel_rfl
 have hT:(⟨h,g,d,t,os⟩:Shared).TypeIs (.ref C) "type":=⟨_,hC,hcls⟩
 simp only [h0]
 wp_delta
 ((with_reducible apply wpAny_ite_false);focus (kernel_rfl;done))
 with_reducible refine Qg (fun K k=>wpAny_isInstance hT h1 k) ?_
 ((with_reducible apply wpAny_ite_false);focus (kernel_rfl;done))
 with_reducible refine Qg (fun K k=>ks_wpAny_isType_cls hC hCt k) ?_
 ((with_reducible apply wpAny_ite_true);focus (rfl;done))
 with_reducible refine Qcp ?_
 with_reducible refine wpAny_bind ?_
 unfold classData
 refine Qg (fun K k=>wpAny_load hC k) ?_
 rw [hCt]
 with_reducible refine wpAny_pure ?_
 rw [hqn]
 with_reducible refine Qg (fun K k=>wpAny_typeOf hT k) ?_
 ((with_reducible apply wpAny_ite_true);focus (kernel_rfl;done))
 exact wpAny_of_eq (a:=()) (by kernel_rfl) hq
theorem call_bisc{b C:Addr}{oC:Obj}{cd:ClassData}{Q:Value->Shared->Prop}(hb:h.get? b=some (Qco "object.__init_subclass__" (.ref C)))(hC:h.get? C=some oC)(hCt:oC.data=.cls cd)(hcls:oC.cls=.type "type")(hqn:cd.qualname="cmp_to_key.<locals>.K")
  (hq:Q .none ⟨h,g,d,t,os⟩):wpAny (model prog w) A (call (.ref b) []) Q E ⟨h,g,d,t,os⟩:=by
 refine wpAny_call (codeAny_of_tree ?_)
 show wpAny _ _ (callAny (.ref b) ⟨[],[]⟩) _ _ _
 unfold callAny
 refine Qg (fun K k=>wpAny_load hb k) ?_
 show wpAny _ _ (do checkBoundCall "object.__init_subclass__" ⟨[.ref C],[]⟩;again (.builtin "object.__init_subclass__" ⟨[.ref C],[]⟩)) _ _ _
 refine Qg (fun K k=>Qmu hC hCt hcls hqn k) ?_
 refine wpAny_pure ⟨Code.quiet_builtin _ dk,codeAny_builtin entry_isc ?_⟩
 unfold Builtin.«object.__init_subclass__»
 exact wpAny_ite_true rfl (wpAny_pure hq)
theorem Qlw{C:Addr}{oC:Obj}{cd:ClassData}{K:Frag}{Q:Unit->Shared->Prop}(hno:Looks (model prog w) h (opaqueClassAbove (.ref C)) none)
  (hC:h.get? C=some oC)(hCt:oC.data=.cls cd)(hcls:oC.cls=.type "type")(hqn:cd.qualname="cmp_to_key.<locals>.K")(hm:Looks (model prog w) h (mroOf (.ref C)) [.ref C,.type "object"])(hsub:Looks (model prog w) h (isSubtype (.ref C) (.type "object")) true)(hsub2:Looks (model prog w) h (isSubtype (.ref C) (.ref C)) true)(X:K.In h)
  (hq:∀ h' tk,(∀ y o,h.get? y=some o->h'.get? y=some o)->Q () ⟨h',g,d,tk,os⟩):
  wpAny (model prog w) A (do let sup ← call (.type "super") [.ref C,.ref C];let f ← holding [sup] (getAttr sup "__init_subclass__");let _ ← call f [] [];pure ()) Q E ⟨h,g,d,t,os⟩:=by
 refine wpAny_bind (super_cls hC hCt hsub2 fun h1 hso k1=>?_)
 refine wpAny_bind (wpAny_holding (Qlx hso (hno.keeps k1) (k1 _ _ hC) hCt (hm.keeps k1) (hsub.keeps k1) (X.keeps k1) ?_))
 have k2:∀ y o,h1.get? y=some o->(h1.push (Qco "object.__init_subclass__" (.ref C))).get? y=some o:=fun y o e=>Heap.get?_push_of_some _ e
 refine wpAny_bind (call_bisc (C:=C) (Heap.get?_push_size _ rfl) (k2 _ _ (k1 _ _ hC)) hCt hcls hqn ?_)
 exact wpAny_pure (hq _ _ fun y o e=>k2 _ _ (k1 _ _ e))
end
section
variable {prog:Program}{w:World}{A:Around}{E:Value->Shared->Prop}{s:Shared}
noncomputable def kEs1(H:Nat->Int)(T U:Nat->Tok)(vn:Str)(q:Str)(lst sa:Addr)(fa:Nat->Addr):List DictEntry:=
 [⟨H 0,.str "__module__" (T 0),.str vn (U 0)⟩,⟨H 2,.str "__firstlineno__" (T 2),.int 45 (U 2)⟩,⟨H 3,.str "__slots__" (T 3),.ref lst⟩,
  ⟨H 4,.str "__init__" (T 4),.ref (fa 0)⟩,⟨H 5,.str "__lt__" (T 5),.ref (fa 1)⟩,⟨H 6,.str "__gt__" (T 6),.ref (fa 2)⟩,⟨H 7,.str "__eq__" (T 7),.ref (fa 3)⟩,⟨H 8,.str "__le__" (T 8),.ref (fa 4)⟩,
  ⟨H 9,.str "__ge__" (T 9),.ref (fa 5)⟩,⟨H 10,.str "__hash__" (T 10),.none⟩,⟨H 11,.str "__static_attributes__" (T 11),.ref sa⟩]
noncomputable def kC(cd:ClassData)(sl:Array (Option Value)):Obj:={ cls:=.type "type",data:=.cls cd,slots:=sl }
noncomputable def kD0(q:Str)(nd:Addr):ClassData:={ name:="K",bases:=[.type "object"],mro:=[],ns:=nd,qualname:=q }
noncomputable def kD1(q:Str)(nd C:Addr):ClassData:={ name:="K",bases:=[.type "object"],mro:=[.ref C,.type "object"],ns:=nd,qualname:=q }
theorem Ql3{M:Model}{s0:Shared}{C nd:Addr}{cd:ClassData}{sl:Array (Option Value)}{es:List DictEntry}{m:Nat}{F:List (Addr × Obj)}{Q:Unit->Shared->Prop}(c:TB s0 C nd (kC cd sl) (dictOf es m) F s)(hm:cd.mro=[.ref C,.type "object"])(hn:cd.ns=nd)
  (hs:sl[4]?=some (some (.builtin "object.__new__")))(hk:kfind es "__new__"=some (some (.builtin "object.__new__")))(h:Q () s):wpAny M A (Bind.refreshMaker C) Q E s:=by
 unfold Bind.refreshMaker
 refine wpAny_bind ?_
 unfold slotAt
 refine wpAny_bind (wpAny_loadPart c.hC (wpAny_pure ?_))
 have e1:((kC cd sl).slots[4]?).join=some (.builtin "object.__new__"):=by
  show (sl[4]?).join=_;rw [hs];rfl
 rw [e1]
 refine wpAny_ite_false rfl ?_
 refine wpAny_bind ((looks_findIn (Qlb c.hC c.hD) (r:=some (.builtin "object.__new__")) ?_).here ?_)
 ·rw [Qle (oc:=.type "type") (od:=none) (cd:=cd) (sl:=sl) (es:=es) (m:=m) (by simp;rfl) hm hn ?_]
  ·exact hk
  ·have:(nd == C)=false:=by simpa using Ne.symm c.ne
   simp [List.lookup_cons,this]
 ·exact wpAny_ite_false dk (wpAny_pure h)
noncomputable def kD2(q:Str)(nd C:Addr):ClassData:={ name:="K",bases:=[.type "object"],mro:=[.ref C,.type "object"],ns:=nd,qualname:=q,hasDict:=false,slotNames:=["obj"] }
noncomputable def kMd(C:Addr)(t:Tok):Obj:={ cls:=.type "member_descriptor",data:=.fields #[.str "obj" t,.ref C,.builtin "proto.slot",.builtin "proto.slot#set",rawInt 0] }
theorem Qme{M:Model}{s0:Shared}{C nd:Addr}{q:Str}{sl:Array (Option Value)}{es:List DictEntry}{m:Nat}{Q:Unit->Shared->Prop}(c:TB s0 C nd (kC (kD1 q nd C) sl) (dictOf es m) [] s)(htx:Xj es)
  (hn:nsLook "obj" (dictOf es m)=pure none)(hz:es.length <= 100)(h:∀ md td hsh t s',TB s0 C nd (kC (kD2 q nd C) sl) (dictOf (putL "obj" hsh (.str "obj" t) (.ref md) es) (putN "obj" es m)) [(md,kMd C td)] s'->Q () s'):
  wpAny M A (Builtin.Slots.install (.ref C) nd [.type "object"] { names:=["obj"],dict:=false,weak:=false,inherited:=[] }) Q E s:=by
 unfold Builtin.Slots.install
 with_reducible refine wpAny_bind ?_
 show wpAny _ _ (forIn [("obj":Str)] 1 _) _ _ _
 rw [List.forIn_cons]
 with_reducible refine wpAny_bind ?_
 with_reducible refine Qg (fun K k=>Qcc c hn k) ?_
 ((with_reducible apply wpAny_ite_true);focus (rfl;done))
 with_reducible refine wpAny_bind ?_
 refine wpAny_mkStr ?_ (by rw [sizeLine_eq];decide +kernel)
 with_reducible refine wpAny_bind ?_
 unfold newFields
 refine wpAny_newObj_type ?_ (by show 5 <= sizeLine + 2;rw [sizeLine_eq];decide)
 have c1:=c.push (o:=kMd C s.toks) (tk:=s.toks + 1) rfl
 with_reducible refine wpAny_bind ?_
 unfold nsSetByValue
 refine Qg (fun K k=>wpAny_loadPart c1.hD k) ?_
 dsimp -zeta only
 have hsz:decide (es.toArray.size > sizeLine)=false:=by rw [sizeLine_eq,List.size_toArray];exact decide_eq_false (by lia)
 rw [hsz,Bool.false_and]
 wp_delta
 ((with_reducible apply wpAny_ite_false);focus (rfl;done))
 refine tb_set c1 htx fun hsh t s2 c2=>?_
 with_reducible refine wpAny_pure ?_
 show wpAny _ _ (forIn ([]:List Str) (1 - 1) _) _ _ _
 rw [List.forIn_nil]
 with_reducible refine wpAny_pure ?_
 with_reducible refine Ze (false) (by kernel_rfl) ?_
 ((with_reducible apply wpAny_ite_false);focus (rfl;done))
 refine tb_cls c2 (cd:=kD1 q nd C) rfl (by rfl) fun s3 c3=>?_
 exact h _ _ _ _ _ c3
noncomputable def kEs2(H:Nat->Int)(T U:Nat->Tok)(vn:Str)(q:Str)(lst sa:Addr)(fa:Nat->Addr)(hm:Int)(tm:Tok)(md:Addr):List DictEntry:=
 [⟨H 0,.str "__module__" (T 0),.str vn (U 0)⟩,⟨H 2,.str "__firstlineno__" (T 2),.int 45 (U 2)⟩,⟨H 3,.str "__slots__" (T 3),.ref lst⟩,
  ⟨H 4,.str "__init__" (T 4),.ref (fa 0)⟩,⟨H 5,.str "__lt__" (T 5),.ref (fa 1)⟩,⟨H 6,.str "__gt__" (T 6),.ref (fa 2)⟩,⟨H 7,.str "__eq__" (T 7),.ref (fa 3)⟩,⟨H 8,.str "__le__" (T 8),.ref (fa 4)⟩,
  ⟨H 9,.str "__ge__" (T 9),.ref (fa 5)⟩,⟨H 10,.str "__hash__" (T 10),.none⟩,⟨H 11,.str "__static_attributes__" (T 11),.ref sa⟩,⟨hm,.str "obj" tm,.ref md⟩]
noncomputable def kEs3(H:Nat->Int)(T U:Nat->Tok)(vn:Str)(q:Str)(lst sa:Addr)(fa:Nat->Addr)(hm:Int)(tm:Tok)(md:Addr)(hd:Int)(td:Tok):List DictEntry:=
 [⟨H 0,.str "__module__" (T 0),.str vn (U 0)⟩,⟨H 2,.str "__firstlineno__" (T 2),.int 45 (U 2)⟩,⟨H 3,.str "__slots__" (T 3),.ref lst⟩,
  ⟨H 4,.str "__init__" (T 4),.ref (fa 0)⟩,⟨H 5,.str "__lt__" (T 5),.ref (fa 1)⟩,⟨H 6,.str "__gt__" (T 6),.ref (fa 2)⟩,⟨H 7,.str "__eq__" (T 7),.ref (fa 3)⟩,⟨H 8,.str "__le__" (T 8),.ref (fa 4)⟩,
  ⟨H 9,.str "__ge__" (T 9),.ref (fa 5)⟩,⟨H 10,.str "__hash__" (T 10),.none⟩,⟨H 11,.str "__static_attributes__" (T 11),.ref sa⟩,⟨hm,.str "obj" tm,.ref md⟩,⟨hd,.str "__doc__" td,.none⟩]
noncomputable def kC0(q:Str)(nd:Addr):Obj:={ cls:=.type "type",data:=.cls { name:="K",bases:=[.type "object"],mro:=[],ns:=nd,qualname:=q } }
theorem type_new{bt ns lst sa:Addr}{q:Str}{H:Nat->Int}{T U:Nat->Tok}{fa:Nat->Addr}{t3 t5:Tok}{m:Nat}{Q:PySem.Fin->Shared->Prop}
  (hbt:s.heap.get? bt=some { cls:=.type "tuple",data:=.seq #[.type "object"] })(hns:s.heap.get? ns=some (dictOf (kEs H T U "cpy313.functools" q lst sa fa) m))(hlst:s.heap.get? lst=some { cls:=.type "list",data:=.seq #[.str "obj" t3] })
  (hfa:∀ i,i < 6->∃ o,s.heap.get? (fa i)=some o∧o.cls=.type "function")(hsa:∃ o,s.heap.get? sa=some o∧o.cls=.type "tuple")(hnsm:(ns == sysModules)=false)(hq0:q="cmp_to_key.<locals>.K")(hno:∀ h',(∀ b o,s.heap.get? b=some o->h'.get? b=some o)->∀ C:Addr,Looks (model prog w) h' (opaqueClassAbove (.ref C)) none)
  (h:∀ C nd md td hm tm hd tdd k s',TB s C nd (kC (kD2 q nd C) #[some (.ref bt),none,some (.str "K" t5),some (.str q (U 1)),some (.builtin "object.__new__"),some (.bool false)]) (dictOf (kEs3 H T U "cpy313.functools" q lst sa fa hm tm md hd tdd) k) [(md,kMd C td)] s'->Q (.done (.ret (.ref C))) s')
  : wpAny (model prog w) A (Builtin.«type.__new__» ⟨[.type "type",.str "K" t5,.ref bt,.ref ns],[]⟩) Q E s:=by
 unfold Builtin.«type.__new__»
 have hTb:s.TypeIs (.ref bt) "tuple":=⟨_,hbt,rfl⟩
 have hTn:s.TypeIs (.ref ns) "dict":=⟨_,hns,rfl⟩
 have i1:isType (.type "object")=pure true:=by rfl
 have i2:typeOf (.type "object")=pure (.type "type"):=by rfl
 have i4:isSubtype (.type "type") (.type "type")=pure true:=by rw [isSubtype_type];kernel_rfl
 have i5:isSubtype (.type "tuple") (.type "tuple")=pure true:=by rw [isSubtype_type];kernel_rfl
 have i6:isSubtype (.type "dict") (.type "dict")=pure true:=by rw [isSubtype_type];kernel_rfl
 have di:typeLookup (.type "dict") "__iter__"=pure (some (.builtin "dict.__iter__")):=by rw [typeLookup_type,builtinLookup_eq_fast];kernel_rfl
 with_reducible refine Ze (some ("K":Str)) (by kernel_rfl) ?_
 with_reducible refine Qg (fun K k=>wpAny_isInstance hTb i5 k) ?_
 ((with_reducible apply wpAny_ite_false);focus (rfl;done))
 with_reducible refine Qg (fun K k=>wpAny_isInstance hTn i6 k) ?_
 refine jpF (by rfl) ?_
 with_reducible refine Qg (fun K k=>wpAny_seqItems hbt rfl k) ?_
 ((with_reducible apply wpAny_ite_false);focus (rfl;done))
 with_reducible refine Ze (PUnit.unit) (by kernel_rfl) ?_
 with_reducible refine Ze (Value.type "type") (by kernel_rfl) ?_
 ((with_reducible apply wpAny_ite_false);focus (rfl;done))
 rw [show (if ((some #[Value.type "object"]).getD #[]).toList.isEmpty=true then [Value.type "object"] else ((some #[Value.type "object"]).getD #[]).toList)=[Value.type "object"] from rfl]
 with_reducible refine Ze _ Qjy ?_
 with_reducible refine Ze _ kc_ext ?_
 rw [hnsm]
 wp_delta
 ((with_reducible apply wpAny_ite_false);focus (rfl;done))
 with_reducible refine Qg (fun K k=>wpAny_dictEntries hns rfl k) ?_
 with_reducible refine Qg (fun K k=>wpAny_specialOf hTn di k) ?_
 ((with_reducible apply wpAny_ite_true);focus (rfl;done))
 with_reducible refine Qcp ?_
 with_reducible refine wpAny_bind ?_
 with_reducible refine wpAny_holding ?_
 refine Qlz hlst fun h1 k1=>?_
 with_reducible refine wpAny_bind ?_
 refine wpAny_newObj_type ?_ ?hsz
 case hsz=>exact Nat.le_of_ble_eq_true rfl
 dsimp -zeta only
 refine Qdb (h1.objs.size) fun nd hnd=>?_
 refine Qdb (h1.push { cls:=.type "dict",data:=.dict (kEs H T U "cpy313.functools" q lst sa fa).toArray }) fun h2 hH2=>?_
 have D2:h2.get? nd=some (dictOf (kEs H T U "cpy313.functools" q lst sa fa) 0):=by rw [← hH2,← hnd];exact Heap.get?_push_size _ rfl
 have k2:∀ b o,s.heap.get? b=some o->h2.get? b=some o:=fun b o e=>by rw [← hH2];exact Heap.get?_push_of_some _ (k1 b o e)
 have nd0:s.heap.get? nd=none:=by
  cases e:s.heap.get? nd with
  | none=>rfl
  | some o=>exact absurd (Heap.lt_size (k1 _ _ e)) (by rw [hnd];exact Nat.lt_irrefl _)
 ((with_reducible apply wpAny_ite_false);focus (kernel_rfl;done))
 with_reducible refine wpAny_bind ?_
 ((with_reducible apply wpAny_ite_false);focus (kernel_rfl;done))
 with_reducible refine wpAny_pure ?_
 ((with_reducible apply wpAny_ite_false);focus (kernel_rfl;done))
 with_reducible refine wpAny_bind ?_
 refine Qgx D2 (r:=some (.str q (U 1))) (by kernel_rfl) ?_
 with_reducible refine wpAny_bind ?_
 refine Qgx D2 (r:=some (.str q (U 1))) (by kernel_rfl) ?_
 with_reducible refine Ze ((some q)) (by kernel_rfl) ?_
 with_reducible refine Qcp ?_
 with_reducible refine Qg (fun K k=>Qgx D2 (r:=none) (by kernel_rfl) k) ?_
 with_reducible refine Qg (fun K k=>wpAny_alloc k) ?_
 refine Qdb (h2.objs.size) fun C hC=>?_
 refine Qdb (({ s with heap:=h2.push { cls:=.type "type",data:=.cls { name:="K",bases:=[.type "object"],mro:=[],ns:=nd,qualname:=q } } }:Shared)) fun s3 hs3=>?_
 have lnd:=Heap.lt_size D2
 have c3:TB s C nd (kC0 q nd) (dictOf (kEs H T U "cpy313.functools" q lst sa fa) 0) [] s3:=by
  have e3:s3.heap=h2.push (kC0 q nd):=by rw [← hs3];rfl
  refine ⟨⟨_,_,hs3.symm⟩,fun b o e=>by rw [e3];exact Heap.get?_push_of_some _ (k2 b o e),by rw [e3,← hC];exact Heap.get?_push_size _ rfl,by rw [e3];exact Heap.get?_push_of_some _ D2,?_,nd0,Nat.ne_of_gt (hC ▸ lnd),fun p hp=>nomatch hp⟩
  cases e:s.heap.get? C with
  | none=>rfl
  | some o=>exact absurd (Heap.lt_size (k2 _ _ e)) (by rw [hC];exact Nat.lt_irrefl _)
 ((with_reducible apply wpAny_ite_true);focus (rfl;done))
 with_reducible refine wpAny_bind ?_
 refine Qd2 c3 (by decide) (by rfl) fun s4 c4=>?_
 replace c4:TB s C nd (kC (kD0 q nd) #[some (.ref bt)]) _ _ _:=c4
 with_reducible refine wpAny_bind ?_
 refine Qd2 c4 (by decide) (by rfl) fun s5 c5=>?_
 replace c5:TB s C nd (kC (kD0 q nd) #[some (.ref bt),none,some (.str "K" t5)]) _ _ _:=c5
 wp_delta
 with_reducible refine wpAny_bind ?_
 refine Qd2 c5 (by decide) (by rfl) fun s6 c6=>?_
 replace c6:TB s C nd (kC (kD0 q nd) #[some (.ref bt),none,some (.str "K" t5),some (.str q (U 1))]) _ _ _:=c6
 with_reducible refine wpAny_bind ?_
 refine tb_del c6 (oD':=dictOf (kEs1 H T U "cpy313.functools" q lst sa fa) 1) (by kernel_rfl) (by kernel_rfl) rfl fun s7 c7=>?_
 with_reducible refine wpAny_bind ?_
 refine Qcc c7 (r:=none) (by kernel_rfl) ?_
 with_reducible refine wpAny_bind ?_
 rw [List.forIn_cons]
 with_reducible refine wpAny_bind ?_
 with_reducible refine wpAny_bind ?_
 refine Qcc c7 (r:=none) (by kernel_rfl) ?_
 with_reducible refine wpAny_pure ?_
 show wpAny _ _ (forIn [("__class_getitem__":Str)] PUnit.unit _) _ _ _
 rw [List.forIn_cons]
 with_reducible refine wpAny_bind ?_
 with_reducible refine wpAny_bind ?_
 refine Qcc c7 (r:=none) (by kernel_rfl) ?_
 with_reducible refine wpAny_pure ?_
 show wpAny _ _ (forIn ([]:List Str) PUnit.unit _) _ _ _
 rw [List.forIn_nil]
 with_reducible refine wpAny_pure ?_
 with_reducible refine wpAny_bind ?_
 refine Qcc c7 (r:=none) (by kernel_rfl) ?_
 with_reducible refine wpAny_bind ?_
 refine Qcc c7 (r:=none) (by kernel_rfl) ?_
 with_reducible refine Ze _ kc_hook ?_
 with_reducible refine Ze _ kc_lin ?_
 with_reducible refine Qcp ?_
 wp_delta
 rw [show List.filter (fun x=>x != Value.ref C) [Value.ref C,Value.type "object"]=[Value.type "object"] from by simp]
 with_reducible refine Ze (false) (by kernel_rfl) ?_
 with_reducible refine wpAny_bind ?_
 refine tb_cls c7 (cd:=kD0 q nd) rfl (by rfl) fun s8 c8=>?_
 have e8:((kEs H T U "cpy313.functools" q lst sa fa).toArray.any fun x=>x.key.isStr "__del__")=false:=by kernel_rfl
 rw [e8] at c8
 replace c8:TB s C nd (kC (kD1 q nd C) #[some (.ref bt),none,some (.str "K" t5),some (.str q (U 1))]) _ _ _:=c8
 with_reducible refine Ze _ kc_made ?_
 with_reducible refine wpAny_bind ?_
 refine Qd2 c8 (by decide) (by rfl) fun s9 c9=>?_
 replace c9:TB s C nd (kC (kD1 q nd C) #[some (.ref bt),none,some (.str "K" t5),some (.str q (U 1)),some (.builtin "object.__new__")]) _ _ _:=c9
 with_reducible refine wpAny_bind ?_
 refine Ql3 c9 rfl rfl rfl (by kernel_rfl) ?_
 with_reducible refine wpAny_bind ?_
 refine Qme c9 (Qa (Qa (Qa (Qa (Qa (Qa (Qa (Qa (Qa (Qa (Qa Qr))))))))))) (by kernel_rfl) (by show 11 <= 100;decide) fun md td hmd tmd s10 c10=>?_
 rw [show putL "obj" hmd (.str "obj" tmd) (.ref md) (kEs1 H T U "cpy313.functools" q lst sa fa)=kEs2 H T U "cpy313.functools" q lst sa fa hmd tmd md from by kernel_rfl] at c10
 with_reducible refine Ze _ kc_gw ?_
 with_reducible refine wpAny_bind ?_
 refine Qd2 c10 (by decide) (by rfl) fun s11 c11=>?_
 replace c11:TB s C nd (kC (kD2 q nd C) #[some (.ref bt),none,some (.str "K" t5),some (.str q (U 1)),some (.builtin "object.__new__"),some (.bool false)]) _ _ _:=c11
 ((with_reducible apply wpAny_ite_false);focus (rfl;done))
 ((with_reducible apply wpAny_ite_false);focus (rfl;done))
 with_reducible refine wpAny_bind ?_
 refine Qcc c11 (r:=none) (by kernel_rfl) ?_
 ((with_reducible apply wpAny_ite_true);focus (rfl;done))
 with_reducible refine wpAny_bind ?_
 refine tb_set c11 (Qa (Qa (Qa (Qa (Qa (Qa (Qa (Qa (Qa (Qa (Qa (Qa Qr)))))))))))) fun hdoc tdoc s12 c12=>?_
 rw [show putL "__doc__" hdoc (.str "__doc__" tdoc) .none (kEs2 H T U "cpy313.functools" q lst sa fa hmd tmd md)=kEs3 H T U "cpy313.functools" q lst sa fa hmd tmd md hdoc tdoc from by kernel_rfl] at c12;replace c12:=c12
 with_reducible refine wpAny_bind ?_
 refine Qcc c12 (r:=some (.ref (fa 3))) (by kernel_rfl) ?_
 ((with_reducible apply wpAny_ite_true);focus (rfl;done))
 with_reducible refine wpAny_bind ?_
 refine Qcc c12 (r:=some .none) (by kernel_rfl) ?_
 ((with_reducible apply wpAny_ite_false);focus (rfl;done))
 with_reducible refine Ze (PUnit.unit) (by kernel_rfl) ?_
 with_reducible refine wpAny_bind ?_
 refine wpAny_tryCatch ?_
 with_reducible refine wpAny_holding ?_
 with_reducible refine wpAny_bind ?_
 refine wpAny_dictEntries c12.hD rfl ?_
 with_reducible refine Ze (false) (by kernel_rfl) ?_
 ((with_reducible apply wpAny_ite_false);focus (rfl;done))
 with_reducible refine wpAny_bind ?_
 refine wpAny_dictEntries c12.hD rfl ?_
 with_reducible refine wpAny_bind ?_
 rw [List.forIn_toArray]
 refine Qf5 (fun e he Q' hq=>?_) ?_
 ·have tl:∀ T:String,typeLookup (.type T) "__set_name__"=pure none->∀ v,s12.TypeIs v T->∀ {Q'':Option Value->Shared->Prop}{E'':Value->Shared->Prop},Q'' none s12->wpAny (model prog w) A (specialOf v "__set_name__") Q'' E'' s12:=fun T hT v hv _ _ hq'=>wpAny_specialOf hv hT hq'
  have go:Builtin.laidUnderItsOwnName e.key e.val=false∧∃ T:String,typeLookup (.type T) "__set_name__"=pure none∧s12.TypeIs e.val T:=by
   have q1:typeLookup (.type "str") "__set_name__"=pure none:=by rw [typeLookup_type,builtinLookup_eq_fast];kernel_rfl
   have q2:typeLookup (.type "int") "__set_name__"=pure none:=by rw [typeLookup_type,builtinLookup_eq_fast];kernel_rfl
   have q3:typeLookup (.type "list") "__set_name__"=pure none:=by rw [typeLookup_type,builtinLookup_eq_fast];kernel_rfl
   have q4:typeLookup (.type "function") "__set_name__"=pure none:=by rw [typeLookup_type,builtinLookup_eq_fast];kernel_rfl
   have q5:typeLookup (.type "NoneType") "__set_name__"=pure none:=by rw [typeLookup_type,builtinLookup_eq_fast];kernel_rfl
   have q6:typeLookup (.type "tuple") "__set_name__"=pure none:=by rw [typeLookup_type,builtinLookup_eq_fast];kernel_rfl
   have q7:typeLookup (.type "member_descriptor") "__set_name__"=pure none:=by rw [typeLookup_type,builtinLookup_eq_fast];kernel_rfl
   have qf:∀ i,i < 6->s12.TypeIs (.ref (fa i)) "function":=fun i hi=>by
    refine ob1_2 (hfa i hi) fun o a b=>?_
    exact ⟨o,c12.keep _ _ a,b⟩
   simp only [kEs3,List.mem_cons,List.not_mem_nil,or_false] at he
   rcases he with rfl | rfl | rfl | rfl | rfl | rfl | rfl | rfl | rfl | rfl | rfl | rfl | rfl
   ·exact ⟨rfl,_,q1,rfl⟩
   ·exact ⟨rfl,_,q2,rfl⟩
   ·exact ⟨rfl,_,q3,⟨_,c12.keep _ _ hlst,rfl⟩⟩
   ·exact ⟨rfl,_,q4,qf 0 (by decide)⟩
   ·exact ⟨rfl,_,q4,qf 1 (by decide)⟩
   ·exact ⟨rfl,_,q4,qf 2 (by decide)⟩
   ·exact ⟨rfl,_,q4,qf 3 (by decide)⟩
   ·exact ⟨rfl,_,q4,qf 4 (by decide)⟩
   ·exact ⟨rfl,_,q4,qf 5 (by decide)⟩
   ·exact ⟨rfl,_,q5,rfl⟩
   ·exact ⟨rfl,_,q6,ob1_2 hsa fun o a b=>⟨o,c12.keep _ _ a,b⟩⟩
   ·exact ⟨rfl,_,q7,⟨_,(c12.led _ (.head _)).1,rfl⟩⟩
   ·exact ⟨rfl,_,q5,rfl⟩
  refine Qx go ?_;intro g1 z0;refine ob1_2 z0 fun T' g2 g3=>?_
  rw [g1]
  ((with_reducible apply wpAny_ite_false);focus (rfl;done))
  with_reducible refine wpAny_bind ?_
  refine tl T' g2 _ g3 ?_
  exact wpAny_pure hq
 ·have XK:=Qlb c12.hC c12.hD
  have lk:List.lookup C [(C,kC (kD2 q nd C) #[some (.ref bt),none,some (.str "K" t5),some (.str q (U 1)),some (.builtin "object.__new__"),some (.bool false)]),(nd,dictOf (kEs3 H T U "cpy313.functools" q lst sa fa hmd tmd md hdoc tdoc) (putN "__doc__" (kEs2 H T U "cpy313.functools" q lst sa fa hmd tmd md) (putN "obj" (kEs1 H T U "cpy313.functools" q lst sa fa) 1)))]=some (kC (kD2 q nd C) #[some (.ref bt),none,some (.str "K" t5),some (.str q (U 1)),some (.builtin "object.__new__"),some (.bool false)]):=by simp
  have ck:clsIn [(C,kC (kD2 q nd C) #[some (.ref bt),none,some (.str "K" t5),some (.str q (U 1)),some (.builtin "object.__new__"),some (.bool false)]),(nd,dictOf (kEs3 H T U "cpy313.functools" q lst sa fa hmd tmd md hdoc tdoc) (putN "__doc__" (kEs2 H T U "cpy313.functools" q lst sa fa hmd tmd md) (putN "obj" (kEs1 H T U "cpy313.functools" q lst sa fa) 1)))] C=some (kD2 q nd C):=by
   unfold clsIn;rw [lk];rfl
  have s1:Looks (model prog w) s12.heap (isSubtype (.ref C) (.type "object")) true:=looks_mroIn XK (by unfold mroIn;rw [ck];simp [kD2])
  have s2:Looks (model prog w) s12.heap (isSubtype (.ref C) (.ref C)) true:=looks_mroIn XK (by unfold mroIn;rw [ck];simp [kD2])
  have s3:Looks (model prog w) s12.heap (mroOf (.ref C)) [.ref C,.type "object"]:=(looks_clsIn XK ck).andThen .now
  obtain ⟨h12,g12,d12,t12,o12⟩:=s12
  refine Qlw (hno h12 c12.keep C) c12.hC rfl rfl hq0 s3 s1 s2 XK fun h' tk k=>?_
  refine wpAny_pure (h C nd md td hmd tmd hdoc tdoc _ _ (c12.grow k))
end
theorem Qfg:entryFor table "type.__new__"=some Builtin.«type.__new__»:=entryFor_of_tree (by kernel_rfl)
theorem Qet:entryFor table "type.__init__"=some Builtin.«type.__init__»:=entryFor_of_tree (by kernel_rfl)
theorem slot_type_init:Slot "type" "__init__" "type.__init__":=
 .of (owner:="type") (n:="__init__") (by rw [typeLookup_type,builtinLookup_eq_fast];kernel_rfl) dk dk dk (.inl dk) (by rw [isSubtype_type];kernel_rfl)
theorem Qfk(a b c d:Value):argsOk "type.__init__" ⟨[a,b,c,d],[]⟩:=by unfold argsOk;kernel_rfl
theorem Qfh(a b c:Value):checkBuiltinCall "type.__new__" ⟨[.type "type",a,b,c],[]⟩=pure ():=by kernel_rfl
theorem check_tc(a:Str)(t:Tok)(b c:Addr):checkTypeCall "type" ⟨[.str a t,.ref b,.ref c],[]⟩=pure ():=by kernel_rfl
theorem mro_type:mroOf (.type "type")=pure [.type "type",.type "object"]:=by rw [mroOf_type];kernel_rfl
theorem made_type:Bind.madeBy (.type "type")=pure (some "type.__new__"):=by kernel_rfl
section
variable {prog:Program}{w:World}{A:Around}{E:Value->Shared->Prop}{s:Shared}
theorem Qmx{name:Str}{t5:Tok}{bt ns:Addr}{Q Q₁:Value->Shared->Prop}
  (hnew:∀ A':Around,wpAny (model prog w) A' (Builtin.«type.__new__» ⟨[.type "type",.str name t5,.ref bt,.ref ns],[]⟩) (fun fin s'=>∃ v,fin=.done (.ret v)∧Q₁ v s') E s)
  (h:∀ v s',Q₁ v s'->(∃ C o,v=.ref C∧s'.heap.get? C=some o∧o.cls=.type "type")∧Q v s'):
  wpAny (model prog w) A (call (.type "type") [.str name t5,.ref bt,.ref ns]) Q E s:=by
 refine wpAny_call (codeAny_of_tree ?_)
 show wpAny _ _ (callAny (.type "type") _) _ _ _
 refine wpAny_pure ⟨Code.quiet_builtin _ dk,codeAny_builtin F.entry_type_call ?_⟩
 rw [Around.under_plain (weight_type_call_type "type" [.str name t5,.ref bt,.ref ns] []) (units_type_call_type "type" [.str name t5,.ref bt,.ref ns] [])]
 unfold Builtin.«type.__call__»
 have i4:isSubtype (.type "type") (.type "type")=pure true:=by rw [isSubtype_type];kernel_rfl
 ((with_reducible apply wpAny_ite_true);focus (kernel_rfl;done))
 ((with_reducible apply wpAny_ite_false);focus (kernel_rfl;done))
 ((with_reducible apply wpAny_ite_false);focus (kernel_rfl;done))
 ((with_reducible apply wpAny_ite_false);focus (kernel_rfl;done))
 with_reducible refine Ze _ (check_tc _ _ _ _) ?_
 with_reducible refine Ze _ mro_type ?_
 ((with_reducible apply wpAny_ite_false);focus (kernel_rfl;done))
 with_reducible refine Ze _ made_type ?_
 with_reducible refine Qcp ?_
 with_reducible refine wpAny_bind ?_
 with_reducible refine wpAny_holding ?_
 show wpAny _ _ (call (.builtin "type.__new__") [.type "type",.str name t5,.ref bt,.ref ns]) _ _ _
 refine wpAny_call (codeAny_call_builtin dk Qfg (wpAny_of_eq (Qfh _ _ _) ?_))
 refine wpAny_mono (hnew _) (fun fin s1 hq=>?_) fun _ _ e=>e
 obtain ⟨v,rfl,hq⟩:=hq
 obtain ⟨⟨C,o,rfl,hC,hcls⟩,hQ⟩:=h _ _ hq
 have hT:s1.TypeIs (.ref C) "type":=⟨_,hC,hcls⟩
 with_reducible refine Qg (fun K k=>wpAny_isInstance hT i4 k) ?_
 ((with_reducible apply wpAny_ite_false);focus (rfl;done))
 with_reducible refine wpAny_bind ?_
 with_reducible refine wpAny_holding ?_
 unfold callSpecial?
 with_reducible refine Qg (fun K k=>wpAny_specialOf hT slot_type_init.lookup k) ?_
 with_reducible refine wpAny_holding ?_
 with_reducible refine Ze _ (slot_type_init.bind _) ?_
 with_reducible refine wpAny_bind ?_
 show wpAny _ _ (call (.builtin "type.__init__") [.ref C,.str name t5,.ref bt,.ref ns]) _ _ _
 refine wpAny_call_entry slot_type_init hT Qet ?_ (Qfk _ _ _ _)
 unfold Builtin.«type.__init__»
 ((with_reducible apply wpAny_ite_false);focus (kernel_rfl;done))
 ((with_reducible apply wpAny_ite_false);focus (kernel_rfl;done))
 exact wpAny_pure ⟨_,rfl,wpAny_pure (wpAny_ite_false rfl (wpAny_pure hQ))⟩
end
section
variable {G:Amb}{n:Nat}{V:Addr->Prop}
structure DefTab (G:Amb) (i:Nat) (P:Addr):Prop where
 ex:∃ fa o pm c doc,G.h₀.get? fa=some o∧o.data=.func (Calls.docDef (Jn i) (Qiz i) (Jl i) (Qe i) pm (.ref c) doc)∧G.h₀.CodeRec (.ref c) (Jn i)∧CodeHd G.h₀ c P∧G.mg (Jn i)=some (.ref fa)
theorem Qb7{A:Around}{s:Shared}{W:Addr->Prop}{fa:Addr}{o:Obj}{name:Str}{params:Arguments}{body:List Stmt}{scope:Scope}{xs:List Str}{pm code doc:Value}{vs:List Value}{ds:List D}{R:Result->Shared->Prop}(AG:Qv G)
  (gd:Good G (n + 1) A s.heap)(ex:Excl s.heap V W)(ho:s.heap.get? fa=some o)(hdat:o.data=.func (Calls.docDef name params body scope pm code doc))(hcr:s.heap.CodeRec code name)
  (hbind:bindArgs (Calls.docDef name params body scope pm code doc) ⟨vs,[]⟩=pure (xs.zip vs))(r:RepL G s.heap W vs ds)
  (hxs:xs.all (fun x=>scope.names.lookup x == some .local || scope.names.lookup x == some .cell)=true)(hcd:scope.names.all (fun p=>!(p.1 == ("__classdict__":Str)))=true)(hnd:xs.Nodup)
  (hco:scope.isCoroutine=false)(hgen:scope.isGenerator=false)(hk:scope.kind=.function)(hfree:scope.names.all (fun p=>!(p.2 == .free))=true)
  (h:∀ (s₁:Shared) (env:Env) (O:Addr->Prop) (E':Value->Shared->Prop),Step G V s s₁->(∀ b o,s.heap.get? b=some o->s₁.heap.get? b=some o)->Cx G n V scope.names (A.deeper env) env s₁ (fun a=>W a∨O a) (Xt xs ds)->Own G scope.names env (fun a=>W a∨O a) O->(∀ a,O a->s.heap.get? a=none)->
   env.code=code->env.qual=name ++ ".<locals>."->env.cells=cellsFrom (s.heap.objs.size + 1) scope.names []->
   wpAny (model G.prog G.w) (A.deeper env) (execs body env) (fun f s'=>R (.ok (.ret (match f with | .ret v=>v | _=>.none))) s') E' s₁):
  codeAny (model G.prog G.w) A (.call (.ref fa) ⟨vs,[]⟩) R s:=by
 have hlocal:∀ x,x ∈ xs->scope.names.lookup x=some .local∨scope.names.lookup x=some .cell:=fun x hx=>by
  have:=List.all_eq_true.mp hxs x hx
  simpa using this
 refine Jy (fd:=Calls.docDef name params body scope pm code doc) (binds:=xs.zip vs) (by have:=gd.depth;show A.depth < 1000;omega) ho hdat (AG.nolimit.keeps gd.base) hcr rfl hbind rfl
  (fun q hq=>?_) (fun s₁ X hfr=>?_) hco hgen hk
 ·rcases hlocal q.1 (List.of_mem_zip hq).1 with e | e
  ·exact .inl e
  ·refine ob1_1 (Xe (n:=s.heap.objs.size + 1) (acc:=[]) (mem_of_lookup e)) fun c' hc'=>?_
   refine ob1_1 (Za hc') fun c'' hc''=>?_
   exact .inr ⟨e,by show ((cellsFrom (s.heap.objs.size + 1) scope.names []).lookup q.1).isSome=true;rw [hc''];rfl⟩
 ·revert X;refine Qdb (callEnvC (Calls.docDef name params body scope pm code doc) s.heap.objs.size fa) fun env henv=>?_;intro X
  have e_scope:env.scope=scope:=by rw [← henv];rfl
  have e_loc:env.locals=s.heap.objs.size:=by rw [← henv];rfl
  have e_cells:env.cells=cellsFrom (s.heap.objs.size + 1) scope.names []:=by rw [← henv];rfl
  have e_frame:env.frame=some s.heap.objs.size:=by rw [← henv];rfl
  have e_kind:∀ y,env.kindOf y=scope.names.lookup y:=fun y=>by unfold Env.kindOf;rw [e_scope]
  refine ob2_1 X.toInCall.same fun h₁ tk hs1=>?_
  have k1:Step G V s s₁:=by
   have hk':=X.toInCall.keep
   rw [hs1] at hk' ⊢
   exact .of_heap (s:=s) hk'
  let O:Addr->Prop:=fun a=>s.heap.get? a=none∧∃ o,s₁.heap.get? a=some o
  have nsL:=X.toInCall.ns
  have liveL:∃ o,s₁.heap.get? s.heap.objs.size=some o:=by
   refine ob3_2 nsL fun o es ep e _=>?_
   rw [e_loc] at e
   exact ⟨o,e⟩
  have newL:s.heap.get? s.heap.objs.size=none:=Heap.get?_none_of_le (Nat.le_refl _)
  have base0:∀ a,s.heap.get? a=none->G.h₀.get? a=none:=fun a e=>Zd gd a e
  have cellNew:∀ y a,env.cells.lookup y=some a->O a∧s₁.heap.IsCell a (bindC env.kindOf (xs.zip vs) (fun _=>none) y):=fun y a e=>by
   have h1:=X.cell y a e
   have h2:=X.above y a (mem_of_lookup e)
   rw [e_loc] at h2
   refine ob1_2 (id h1) fun o e' _=>?_
   exact ⟨⟨Heap.get?_none_of_le (Nat.le_of_lt h2),o,e'⟩,h1⟩
  have oL:O env.locals:=by rw [e_loc];exact ⟨newL,liveL⟩
  have nV:∀ a,O a->¬ V a:=fun a ha q=>by refine ob1_1 (ex.live a (ex.sub a q)) fun o e=>?_;rw [ha.1] at e;exact nSo e
  have eok:EnvOk G V scope.names env:=by
   refine ⟨by rw [e_scope];exact hk,by rw [e_scope],by rw [← henv];rfl,by rw [← henv];rfl,fun y hy=>?_,⟨nV _ oL,fun y a e=>nV a (cellNew y a e).1⟩,fun y y' a e e'=>name_of_addr X.apart (mem_of_lookup e) (mem_of_lookup e')⟩
   rw [e_cells]
   rcases hy with hy | hy
   ·refine ob1_1 (Xe (n:=s.heap.objs.size + 1) (acc:=[]) (mem_of_lookup hy)) fun c' hc'=>?_
    exact Za hc'
   ·have:=List.all_eq_true.mp hfree _ (mem_of_lookup hy)
    simp at this
  have nx:Qd0 s.heap W (fun a=>W a∨O a):=fun a ob e hw=>hw.elim id fun q=>by rw [q.1] at e;exact nSo e
  have cx:Cx G n V scope.names (A.deeper env) env s₁ (fun a=>W a∨O a) (Xt xs ds):=by
   refine ⟨(gd.step k1).deeper (by rw [e_scope];exact hk) e_frame hfr (base0 _ newL),eok,⟨fun a ha=>.inl (ex.sub a ha),fun a ha=>ha.elim (fun q=>(ex.step k1).live a q) fun q=>q.2⟩,fun y d' hv hd'=>?_,⟨_,nsL⟩,fun y a e=>⟨_,(cellNew y a e).2⟩⟩
   refine ob1_2 (Qar (r.strong nx) hd') fun v hv' rv=>?_
   refine in1_2 v ?_ (rv.mono (k1.keepX fun a ha=>.inl (ex.sub a ha)))
   have hy:y ∈ xs:=(List.of_mem_zip (mem_of_lookup hv')).1
   rcases hlocal y hy with e | e
   ·exact .inl ⟨(e_kind y).trans e,_,nsL,Qex ((e_kind y).trans e) hnd hv'⟩
   ·refine ob1_1 (eok.cells y (.inl e)) fun c' hc'=>?_
    refine .inr ⟨.inl ((e_kind y).trans e),?_,c',hc',?_⟩
    ·have:=List.all_eq_true.mp hcd _ (mem_of_lookup e)
     simpa using this
    ·have:=(cellNew y c' hc').2
     rw [Qez (by rw [e_kind,e];decide) hnd hv'] at this
     exact this
  have own:Own G scope.names env (fun a=>W a∨O a) O:=⟨fun a ha=>.inr ha,fun a ha=>base0 a ha.1,oL,fun y a _ e=>(cellNew y a e).1⟩
  exact h s₁ env O _ k1 X.toInCall.keep cx own (fun a ha=>ha.1) (by rw [← henv];rfl) (by rw [← henv];rfl) e_cells
end
structure KOk (G:Amb) (P:Addr):Prop where
 dt:DefTab G 5 P
 bm:G.h₀.BuiltinsAt G.mg P
 name:(G.mg "__name__").isSome=true
 tp:nsIn G.K cStatics "thirdparty.any"=some none
 p0:G.h₀.get? P=none
 sm:∃ o,G.h₀.get? sysModules=some o
noncomputable abbrev qK:Str:="cmp_to_key.<locals>.K"
noncomputable def kCO(nd C bt:Addr)(t5 u:Tok):Obj:=kC (kD2 qK nd C) #[some (.ref bt),none,some (.str "K" t5),some (.str qK u),some (.builtin "object.__new__"),some (.bool false)]
inductive KCls (G:Amb) (V:Addr->Prop) (h:Heap) (C:Addr) (f:Value):Prop
 | mk (nd md bt lst sa cc:Addr) (fa ca:Nat->Addr) (H:Nat->Int) (T U:Nat->Tok) (td t5 tm tdd:Tok) (hm hd:Int) (k:Nat) (doc ctv:Nat->Value) (pm:Value)
  (h1:h.get? C=some (kCO nd C bt t5 (U 1))) (h2:h.get? nd=some (dictOf (kEs3 H T U "cpy313.functools" qK lst sa fa hm tm md hd tdd) k))
  (h3:h.get? md=some (kMd C td)) (h4:h.get? (fa 0)=some (fnK 0 "__init__" qK [] (doc 0) pm (ca 0) (ctv 0))) (h5:h.get? (fa 1)=some (fnK 1 "__lt__" qK [("mycmp",cc)] (doc 1) pm (ca 1) (ctv 1))) (h6:h.IsCell cc (some f))
  (h7:h.CodeRec (.ref (ca 0)) (qK ++ "." ++ "__init__")) (h8:h.CodeRec (.ref (ca 1)) (qK ++ "." ++ "__lt__"))
  (hn:∀ a ∈ [C,nd,md,fa 0,fa 1,ca 0,ca 1,cc],¬ V a) (r:C≠nd∧C≠md∧nd≠md∧fa 0≠C∧fa 0≠nd∧fa 0≠md∧fa 1≠C∧fa 1≠nd∧fa 1≠md∧fa 0≠fa 1):KCls G V h C f
theorem KCls.here{G:Amb}{V:Addr->Prop}{h:Heap}{C:Addr}{f:Value}(x:KCls G V h C f):∃ o,h.get? C=some o∧o.cls=.type "type":=by
 cases x with
 | mk nd md bt lst sa cc fa ca H T U td t5 tm tdd hm hd k doc ctv pm h1=>exact in1_2 _ h1 rfl
section
variable {G:Amb}{n:Nat}{V:Addr->Prop}
theorem KCls.weak{h:Heap}{V':Addr->Prop}{C:Addr}{f:Value}(x:KCls G V' h C f)(hv:∀ a,V a->V' a):KCls G V h C f:=by
 obtain ⟨nd,md,bt,lst,sa,cc,fa,ca,H,T,U,td,t5,tm,tdd,hm,hd,m,doc,ctv,pm,h1,h2,h3,h4,h5,h6,h7,h8,hn,r⟩:=x
 exact ⟨nd,md,bt,lst,sa,cc,fa,ca,H,T,U,td,t5,tm,tdd,hm,hd,m,doc,ctv,pm,h1,h2,h3,h4,h5,h6,h7,h8,fun a ha q=>hn a ha (hv a q),r⟩
theorem KCls.step{s s':Shared}{C:Addr}{f:Value}(x:KCls G V s.heap C f)(k:Step G V s s'):KCls G V s'.heap C f:=by
 obtain ⟨nd,md,bt,lst,sa,cc,fa,ca,H,T,U,td,t5,tm,tdd,hm,hd,m,doc,ctv,pm,h1,h2,h3,h4,h5,h6,h7,h8,hn,r⟩:=x
 have q:∀ {a o},a ∈ [C,nd,md,fa 0,fa 1,ca 0,ca 1,cc]->o.cls≠.type "frame"->s.heap.get? a=some o->s'.heap.get? a=some o:=fun ha hc e=>k.exact e (.inl (hn _ ha)) hc
 have qr:∀ {a qn},a ∈ [C,nd,md,fa 0,fa 1,ca 0,ca 1,cc]->s.heap.CodeRec (.ref a) qn->s'.heap.CodeRec (.ref a) qn:=fun {a qn} ha hr=>by
  refine ob4_4 hr fun c' o vs t e ho hd' hv=>?_
  cases e
  refine ob1_2 (k.keep a o ho) fun o' e' sm=>?_
  exact in4_4 a o' vs t rfl e' ((sm (.inl (hn _ ha))).2.1.trans hd') hv
 refine ⟨nd,md,bt,lst,sa,cc,fa,ca,H,T,U,td,t5,tm,tdd,hm,hd,m,doc,ctv,pm,q (by simp) (by show Value.type "type"≠_;decide) h1,q (by simp) (by show Value.type "dict"≠_;decide) h2,q (by simp) (by show Value.type "member_descriptor"≠_;decide) h3,
  q (by simp) (by show Value.type "function"≠_;decide) h4,q (by simp) (by show Value.type "function"≠_;decide) h5,Qao k h6 (hn _ (by simp)),qr (by simp) h7,qr (by simp) h8,hn,r⟩
theorem Qd4{P:Addr}{s:Shared}{h':Heap}{tk:Tok}(he:Heap.ExtBut P s.heap h')(hV:V P)(h0:G.h₀.get? P=none)(hl:∃ o,h'.get? P=some o)(hd:∀ o,s.heap.get? P=some o->¬ Tup o)(hf:FrmAt s.heap P->FrmAt h' P)(ht:Qdq s.heap P->Qdq h' P):Step G V s { s with heap:=h',toks:=tk }:=by
 refine ⟨⟨_,_,rfl⟩,fun b o e=>?_,fun b o e0 e=>he b o (fun q=>by rw [q,h0] at e0;exact nSo e0) e,fun b f=>?_,fun b f=>?_⟩
 by_cases hb:b=P
 ·subst hb
  obtain ⟨o',e'⟩:=hl
  exact in1_2 o' e' (fun hw=>(hw.elim (fun n=>n hV) (fun t=>hd o e t)).elim)
 ·exact in1_2 o (he b o hb e) (Same.refl V b o)
 ·by_cases hb:b=P
  ·subst hb;exact hf f
  ·refine ob1_2 f fun o e f=>?_
   exact in1_2 o (he b o hb e) f
 ·by_cases hb:b=P
  ·subst hb;exact ht f
  ·refine ob1_1 f fun ps e=>?_
   exact ⟨ps,he b _ hb e⟩
end
section
variable {G:Amb}{n:Nat}{V:Addr->Prop}
theorem fnK_ne{q:Str}{cl:List (Str × Addr)}{d d' pm pm':Value}{c c':Addr}{t t':Value}{cl':List (Str × Addr)}:fnK 0 "__init__" q cl d pm c t≠fnK 1 "__lt__" q cl' d' pm' c' t':=fun e=>by
 have h:=congrArg (fun o:Obj=>match o.data with | .func fd=>fd.name | _=>("":Str)) e
 simp only [fnK,fnMade,fnX] at h
 exact absurd ((ofString_inj _ _).mp h) (by decide)
theorem call_ctk{A:Around}{s:Shared}{W:Addr->Prop}{P f fc:Addr}{Q:Value->Shared->Prop}{E:Value->Shared->Prop}(AG:Qv G)(FO:Zp G)(K:KOk G P)(good:Good G (n + 2) A s.heap)(ex:Excl s.heap V W)(hV:V P)(hP:s.heap.get? P=some (tabObj #[]))(hfc:G.mg "cmp_to_key"=some (.ref fc))
  (h:∀ C s',Step G V s s'->KCls G V s'.heap C (.ref f)->Q (.ref C) s'):wpAny (model G.prog G.w) A (call (.ref fc) [.ref f]) Q E s:=by
 refine ob5_5 K.dt.ex fun fa o pm c5 doc ho hdat hcr hcd hm=>?_
 rw [show Jn 5=("cmp_to_key":Str) from rfl] at hm hcr hdat
 rw [hfc] at hm;replace hm:=hm
 cases hm
 refine wpAny_call (Qb7 (n:=n + 1) (V:=V) (W:=W) (xs:=["mycmp"]) (ds:=[.raw (.ref f)]) AG good ex (good.base _ _ ho) hdat (hcr.keeps good.base) rfl ⟨rfl,trivial⟩ dk dk dk rfl rfl rfl dk ?_)
 intro s₁ env O E' k1 kk c1 ow hO hcode hqual hcells
 rw [kSt_eq]
 have hP1:=kk _ _ hP
 have cc1:∃ cc,env.cells.lookup ("mycmp":Str)=some cc∧O cc∧s₁.heap.IsCell cc (some (.ref f)):=by
  refine ob1_2 (c1.vars "mycmp" (.raw (.ref f)) dk rfl) fun v hs hv=>?_
  cases hv
  rcases hs with ⟨hk,_⟩ | ⟨hk,nd,cc,hcc,hcell⟩
  ·exact absurd hk (by unfold Env.kindOf;rw [c1.ok.names];decide +kernel)
  ·exact in1_3 cc hcc (ow.cells "mycmp" cc rfl hcc) hcell
 refine ob1_3 cc1 fun cc hcc hOcc hcell=>?_
 have good1:=c1.good
 have mgP:mainGlobals≠P:=fun q=>by
  refine ob3_2 AG.g fun o es ep e _=>?_
  rw [q,K.p0] at e;exact nSo e
 have csP:cStatics≠P:=fun q=>by
  refine ob1_2 AG.nolimit ?_;intro mc z0;refine ob3_2 z0 fun o es ep e _=>?_;rintro _
  rw [q,K.p0] at e;exact nSo e
 refine wpAny_execs_cons ?_
 rw [arm_exec_ClassDef]
 refine wpAny_bind (m:=evalAll _) (wpAny_pure ?_)
 refine wpAny_bind (wpAny_standAt ?_)
 unfold buildClassGuard
 rw [c1.ok.builtins]
 have hbc:G.mb "__build_class__"=some (.builtin "__build_class__"):=by
  rw [AG.builtins _ dk];kernel_rfl
 refine wpAny_bind (wpAny_bind (wpAny_nsGet (AG.b.keeps good1.base) ?_))
 rw [hbc]
 refine wpAny_pure ?_
 refine wpAny_bind (wpAny_holding ?_)
 refine wpAny_bind (Qin (Calls.spliced_cons ?_))
 refine Qh AG good1.base c1.ok rfl (FO _ dk) PyProof.Rows.Boot.«object» dk dk ?_
 refine Calls.spliced_nil ?_
 refine wpAny_bind (wpAny_standAt (wpAny_holding ?_))
 have hqn:qualnameIn env "K" "K"=qK:=by
  unfold qualnameIn
  have:env.kindOf "K"=some .local:=by unfold Env.kindOf;rw [c1.ok.names];rfl
  rw [this,hqual];kernel_rfl
 rw [hqn]
 have hd:=good1.depth
 refine k_front (cc:=cc) (P:=P) (c5:=c5) (mg:=G.mg) (q:=qK) c1.ok.kind c1.ok.globals c1.ok.builtins hcode hcc ((hcd.keeps good1.base).code hP1 trivial) hP1 (AG.g.keeps good1.base) K.name ?_ mgP (AG.nolimit.keeps good1.base) csP (by show _ < 1000;lia) ?_
 ·refine ob2_6 K.bm fun bm ob h1 h2 h3 h4 h5 h6=>?_
  exact in2_6 bm ob h1 h2 h3 h4 (good1.base _ _ h5) h6
 intro c2 P2 ns H T U lst sa bt fa ca doc' ctv t3 t4 t5 ps2 s2 cb
 have led:=cb.led
 have lf:∀ i,i < 6->∃ o,s2.heap.get? (fa i)=some o∧o.cls=.type "function":=fun i hi=>by
  have:i=0∨i=1∨i=2∨i=3∨i=4∨i=5:=by lia
  rcases this with rfl | rfl | rfl | rfl | rfl | rfl
  ·exact in1_2 _ ((led _ (.tail _ (.tail _ (.tail _ (.tail _ (.tail _ (.tail _ (.head _)))))))).1) rfl
  ·exact in1_2 _ ((led _ (.tail _ (.tail _ (.tail _ (.tail _ (.tail _ (.head _))))))).1) rfl
  ·exact in1_2 _ ((led _ (.tail _ (.tail _ (.tail _ (.tail _ (.head _)))))).1) rfl
  ·exact in1_2 _ ((led _ (.tail _ (.tail _ (.tail _ (.head _))))).1) rfl
  ·exact in1_2 _ ((led _ (.tail _ (.tail _ (.head _)))).1) rfl
  ·exact in1_2 _ ((led _ (.tail _ (.head _))).1) rfl
 have eqK:∀ {a:Addr},s.heap.get? a=none->¬ V a:=fun {a} e q=>by obtain ⟨ob,eb⟩:=ex.live a (ex.sub a q);rw [e] at eb;exact nSo eb
 have s10:∀ {a:Addr},s₁.heap.get? a=none->s.heap.get? a=none:=fun {a} e=>by
  cases q:s.heap.get? a with
  | none=>rfl
  | some ob=>rw [kk _ _ q] at e;exact noS e
 obtain ⟨mns,hns⟩:=cb.nsd
 have nsm:(ns == sysModules)=false:=by
  rw [beq_eq_false_iff_ne];intro e
  have:=cb.nsNew
  rw [e] at this
  obtain ⟨ob,eb⟩:=K.sm
  rw [good1.base _ _ eb] at this;exact noS this
 refine Qmx (Q₁:=fun v s'=>∃ C,v=.ref C∧KCls G (fun a=>V a∨a=env.locals) s'.heap C (.ref f)∧Step G V s₁ s') (fun A'=>?_) (fun v s' hq=>?_)
 ·refine type_new (led _ (.tail _ (.tail _ (.tail _ (.tail _ (.tail _ (.tail _ (.tail _ (.tail _ (.head _)))))))))).1 hns (led _ (.tail _ (.tail _ (.tail _ (.tail _ (.tail _ (.tail _ (.tail _ (.head _))))))))).1 lf ⟨_,(led _ (.head _)).1,rfl⟩ nsm rfl (fun h' hk C=>looks_opaque (fun a ob e=>hk _ _ (cb.ext _ _ (fun q=>by rw [q] at e;exact absurd (AG.kIn _ _ e) (by rw [K.p0];simp)) (good1.base _ _ (AG.kIn _ _ e)))) K.tp) ?_
  intro C nd md td hm tm hd tdd k s3 tb
  refine in1_2 (.ref C) rfl ⟨C,rfl,⟨nd,md,bt,lst,sa,cc,fa,ca,H,T,U,td,t5,tm,tdd,hm,hd,k,doc',ctv,_,tb.hC,tb.hD,(tb.led _ (.head _)).1,tb.keep _ _ (led _ (.tail _ (.tail _ (.tail _ (.tail _ (.tail _ (.tail _ (.head _)))))))).1,tb.keep _ _ (led _ (.tail _ (.tail _ (.tail _ (.tail _ (.tail _ (.head _))))))).1,?_,?_,?_,?_,?_⟩,?_⟩
  ·refine ob1_2 hcell fun ob e d=>?_
   exact in1_2 ob (tb.keep _ _ (cb.ext _ _ (fun q=>by have:=hO _ hOcc;rw [q,hP] at this;exact noS this) e)) d
  ·exact Heap.CodeRec.at (cb.recs _ (.tail _ (.tail _ (.tail _ (.tail _ (.tail _ (.head _))))))).1 fun o e=>tb.keep _ _ e
  ·exact Heap.CodeRec.at (cb.recs _ (.tail _ (.tail _ (.tail _ (.tail _ (.head _)))))).1 fun o e=>tb.keep _ _ e
  ·refine ob4_3 c1.ns fun mL oL esL epL eL dL _=>?_
   have notL:∀ {a:Addr},s₁.heap.get? a=none->¬ (V a∨a=env.locals):=fun {a} e q=>q.elim (eqK (s10 e)) fun r=>by rw [r,eL] at e;exact noS e
   have back:∀ {a:Addr},s2.heap.get? a=none->¬ (V a∨a=env.locals):=fun {a} e=>notL (by
    cases q:s₁.heap.get? a with
    | none=>rfl
    | some ob=>
     by_cases hb:a=P
     ·refine ob1_1 cb.tab fun ps hps=>?_
      rw [hb,hps] at e;exact noS e
     ·rw [cb.ext _ _ hb q] at e;exact noS e)
   intro a ha
   simp only [List.mem_cons,List.not_mem_nil,or_false] at ha
   rcases ha with rfl | rfl | rfl | rfl | rfl | rfl | rfl | rfl
   ·exact back tb.nC
   ·exact back tb.nD
   ·exact back (tb.led _ (.head _)).2.2.2
   ·exact notL (led _ (.tail _ (.tail _ (.tail _ (.tail _ (.tail _ (.tail _ (.head _)))))))).2.2.2.2
   ·exact notL (led _ (.tail _ (.tail _ (.tail _ (.tail _ (.tail _ (.head _))))))).2.2.2.2
   ·exact notL (cb.recs _ (.tail _ (.tail _ (.tail _ (.tail _ (.tail _ (.head _))))))).2.2.2.2
   ·exact notL (cb.recs _ (.tail _ (.tail _ (.tail _ (.tail _ (.head _)))))).2.2.2.2
   ·refine fun q=>q.elim (eqK (hO _ hOcc)) fun r=>?_
    refine ob1_2 hcell fun ob e d=>?_
    rw [r,eL] at e;obtain rfl:=Qo e;rw [d] at dL;cases dL
  ·have live0:=(led _ (.tail _ (.tail _ (.tail _ (.tail _ (.tail _ (.tail _ (.head _)))))))).1
   have live1:=(led _ (.tail _ (.tail _ (.tail _ (.tail _ (.tail _ (.head _))))))).1
   have nn:∀ {a b:Addr}{o:Obj},s2.heap.get? a=some o->s2.heap.get? b=none->a≠b:=fun x y q=>by rw [q,y] at x;exact nSo x
   have m:=tb.led _ (.head _)
   exact in0_10 tb.ne (Ne.symm m.2.1) (Ne.symm m.2.2.1) (nn live0 tb.nC) (nn live0 tb.nD) (nn live0 m.2.2.2) (nn live1 tb.nC) (nn live1 tb.nD) (nn live1 m.2.2.2) (fun q=>by rw [q,live1] at live0;exact fnK_ne (Option.some.inj live0).symm)
  ·refine ob2_1 cb.form ?_;rintro h2 t2 rfl
   obtain ⟨h3,t3',rfl⟩:=tb.form
   refine Qd4 (fun b ob hb e=>tb.keep _ _ (cb.ext _ _ hb e)) hV K.p0 (ob1_1 cb.tab fun ps hps=>⟨_,tb.keep _ _ hps⟩) (fun o e t=>by rw [hP1] at e;obtain rfl:=Qo e;cases t.1) (Jr hP1 (by intro q;cases q)) (fun _=>ob1_1 cb.tab fun ps hps=>⟨ps,tb.keep _ _ hps⟩)
 ·refine ob1_3 hq ?_;rintro C rfl kc st
  refine ⟨ob1_2 kc.here fun o h1 hc=>⟨C,o,rfl,h1,hc⟩,?_⟩
  have c₂:=c1.step st
  show wpAny _ _ (do let c ← pure (Value.ref C);standAt kPos;bindName env "K" c;pure Flow.next) _ _ _
  refine wpAny_bind (wpAny_pure (wpAny_bind (wpAny_standAt (wpAny_bind (wpAny_bindName ?_)))))
  refine Qt (O:=fun a=>a=env.locals) c₂ (fun a ha=>ow.sub a (ha ▸ ow.loc)) (fun a ha=>ow.base a (ha ▸ ow.loc)) ⟨rfl,.inl rfl,by decide +kernel⟩ (d:=.raw (.ref C)) rfl fun s4 k4 c4=>wpAny_pure ?_
  have kc4:=(kc.step (k4.mono fun a ha=>.inr ha)).weak (V:=V) fun a ha=>.inl ha
  refine wpAny_execs_cons (wpAny_Return_some ((Qb (G:=G) (n:=n + 1) (V:=V) (ks:=(Qe 5).names) "K" ⟨67,11,67,12⟩ dk dk) _ env s4 _ _ (.raw (.ref C)) _ _ c4 (Qd _ _ _) fun v s5 k5 r5=>?_))
  cases r5
  exact h C s5 ((k1.trans st).later k4 (fun a ha=>.inl (hO a (ha ▸ ow.loc))) |>.trans k5) (kc4.step k5)
end
inductive KFr (K:Frag) (C nd md fI fL:Addr):Prop
 | mk (bt lst sa cc:Addr) (fa ca:Nat->Addr) (H:Nat->Int) (T U:Nat->Tok) (td t5 tm tdd:Tok) (hm hd:Int) (k:Nat) (doc ctv:Nat->Value) (pm:Value) (e1:fa 0=fI) (e2:fa 1=fL)
  (l1:K.lookup C=some (kCO nd C bt t5 (U 1))) (l2:K.lookup nd=some (dictOf (kEs3 H T U "cpy313.functools" qK lst sa fa hm tm md hd tdd) k))
  (l3:K.lookup md=some (kMd C td)) (l4:K.lookup fI=some (fnK 0 "__init__" qK [] (doc 0) pm (ca 0) (ctv 0))) (l5:K.lookup fL=some (fnK 1 "__lt__" qK [("mycmp",cc)] (doc 1) pm (ca 1) (ctv 1))):KFr K C nd md fI fL
inductive KFi (K:Frag) (C md fI fL:Addr) (name:Str):Prop
 | mk (lst sa:Addr) (fa:Nat->Addr) (H:Nat->Int) (T U:Nat->Tok) (tm tdd:Tok) (hm hd:Int) (e1:fa 0=fI) (e2:fa 1=fL) (e:findIn K (.ref C) name=kfind (kEs3 H T U "cpy313.functools" qK lst sa fa hm tm md hd tdd) name):KFi K C md fI fL name
section
variable {K:Frag}{C nd md fI fL:Addr}
theorem KFr.find(F:KFr K C nd md fI fL):∀ name:Str,KFi K C md fI fL name:=fun name=>by
 obtain ⟨bt,lst,sa,cc,fa,ca,H,T,U,td,t5,tm,tdd,hm,hd,k,doc,ctv,pm,e1,e2,l1,l2,_⟩:=F
 exact ⟨lst,sa,fa,H,T,U,tm,tdd,hm,hd,e1,e2,Qle l1 rfl rfl l2⟩
theorem KFr.init(F:KFr K C nd md fI fL):findIn K (.ref C) "__init__"=some (some (.ref fI)):=by
 obtain ⟨lst,sa,fa,H,T,U,tm,tdd,hm,hd,rfl,_,e⟩:=F.find "__init__"
 rw [e];kernel_rfl
theorem KFr.lt(F:KFr K C nd md fI fL):findIn K (.ref C) "__lt__"=some (some (.ref fL)):=by
 obtain ⟨lst,sa,fa,H,T,U,tm,tdd,hm,hd,_,rfl,e⟩:=F.find "__lt__"
 rw [e];kernel_rfl
theorem KFr.obj(F:KFr K C nd md fI fL):findIn K (.ref C) "obj"=some (some (.ref md)):=by
 obtain ⟨lst,sa,fa,H,T,U,tm,tdd,hm,hd,_,_,e⟩:=F.find "obj"
 rw [e];kernel_rfl
theorem KFr.setattr(F:KFr K C nd md fI fL):findIn K (.ref C) "__setattr__"=some (some (.builtin "object.__setattr__")):=by
 obtain ⟨lst,sa,fa,H,T,U,tm,tdd,hm,hd,_,_,e⟩:=F.find "__setattr__"
 rw [e];kernel_rfl
theorem KFr.ga(F:KFr K C nd md fI fL):findIn K (.ref C) "__getattribute__"=some (some (.builtin "object.__getattribute__")):=by
 obtain ⟨lst,sa,fa,H,T,U,tm,tdd,hm,hd,_,_,e⟩:=F.find "__getattribute__"
 rw [e];kernel_rfl
theorem KFr.hook(F:KFr K C nd md fI fL):findIn K (.ref C) "__getattr__"=some none:=by
 obtain ⟨lst,sa,fa,H,T,U,tm,tdd,hm,hd,_,_,e⟩:=F.find "__getattr__"
 rw [e];kernel_rfl
theorem KFr.cls(F:KFr K C nd md fI fL):clsIn K C=some (kD2 qK nd C):=by
 obtain ⟨bt,lst,sa,cc,fa,ca,H,T,U,td,t5,tm,tdd,hm,hd,k,doc,ctv,pm,e1,e2,l1,l2,_⟩:=F
 unfold clsIn;rw [l1];rfl
theorem KFr.typeC(F:KFr K C nd md fI fL):typeIn K (.ref C)=some (.type "type"):=by
 obtain ⟨bt,lst,sa,cc,fa,ca,H,T,U,td,t5,tm,tdd,hm,hd,k,doc,ctv,pm,e1,e2,l1,l2,_⟩:=F
 show (K.lookup C).map (·.cls)=_;rw [l1];rfl
theorem KFr.typeM(F:KFr K C nd md fI fL):typeIn K (.ref md)=some (.type "member_descriptor"):=by
 obtain ⟨bt,lst,sa,cc,fa,ca,H,T,U,td,t5,tm,tdd,hm,hd,k,doc,ctv,pm,e1,e2,l1,l2,l3,_⟩:=F
 show (K.lookup md).map (·.cls)=_;rw [l3];rfl
theorem KFr.typeI(F:KFr K C nd md fI fL):typeIn K (.ref fI)=some (.type "function"):=by
 obtain ⟨bt,lst,sa,cc,fa,ca,H,T,U,td,t5,tm,tdd,hm,hd,k,doc,ctv,pm,e1,e2,l1,l2,l3,l4,_⟩:=F
 show (K.lookup fI).map (·.cls)=_;rw [l4];rfl
theorem KFr.typeL(F:KFr K C nd md fI fL):typeIn K (.ref fL)=some (.type "function"):=by
 obtain ⟨bt,lst,sa,cc,fa,ca,H,T,U,td,t5,tm,tdd,hm,hd,k,doc,ctv,pm,e1,e2,l1,l2,l3,l4,l5⟩:=F
 show (K.lookup fL).map (·.cls)=_;rw [l5];rfl
theorem Qj4(K:Frag)(n:String)(name:Str):findIn K (.type n) name=fastLookup n name:=rfl
theorem KFr.getM(F:KFr K C nd md fI fL):specialIn K (.ref md) "__get__"=some (some (.builtin "member_descriptor.__get__")):=by
 unfold specialIn;rw [F.typeM,Option.bind_some,Qj4];kernel_rfl
theorem KFr.takesM(F:KFr K C nd md fI fL):takesIn K (.ref md)=some true:=by
 have e:specialIn K (.ref md) "__set__"=some (some (.builtin "member_descriptor.__set__")):=by
  unfold specialIn;rw [F.typeM,Option.bind_some,Qj4];kernel_rfl
 unfold takesIn;rw [e]
theorem KFr.taker(F:KFr K C nd md fI fL):takerIn K C "obj"=some (some (.ref md)):=by
 unfold takerIn;rw [F.obj,Option.bind_some]
 show (takesIn K (.ref md)).map _=_
 rw [F.takesM];rfl
theorem KFr.plain(F:KFr K C nd md fI fL):plainOver K C=true:=by
 unfold plainOver;rw [F.cls];rfl
theorem KFr.slot(F:KFr K C nd md fI fL):slotIn K md C=some 0:=by
 obtain ⟨bt,lst,sa,cc,fa,ca,H,T,U,td,t5,tm,tdd,hm,hd,k,doc,ctv,pm,e1,e2,l1,l2,l3,_⟩:=id F
 have e:recIn K md "member_descriptor"=some [.str "obj" td,.ref C,.builtin "proto.slot",.builtin "proto.slot#set",.int 0 0]:=by
  unfold recIn;rw [l3];rfl
 unfold slotIn
 rw [e,F.cls]
 simp [kD2]
theorem KFr.makes(F:KFr K C nd md fI fL):makesIn K C=true:=by
 have h1:specialIn K (.ref C) "__call__"=some (some (.builtin "type.__call__")):=by
  unfold specialIn;rw [F.typeC,Option.bind_some,Qj4];kernel_rfl
 have h2:instIn K (.ref C) (.type "type")=some true:=by
  unfold instIn;rw [F.typeC,Option.bind_some];show subIn K (.type "type") (.type "type")=_;kernel_rfl
 obtain ⟨bt,lst,sa,cc,fa,ca,H,T,U,td,t5,tm,tdd,hm,hd,k,doc,ctv,pm,e1,e2,l1,l2,l3,_⟩:=F
 unfold makesIn
 rw [l1]
 simp only [kC,kCO,h1,h2,kD2]
 simp
theorem KFr.objGet(F:KFr K C nd md fI fL)(od:Obj):findObj K C (some od) "obj"=some (.bind (.builtin "member_descriptor.__get__") (.ref md)):=findObj_data (by rw [F.cls];rfl) F.obj F.getM F.takesM
end
noncomputable abbrev Qib(C dx:Addr)(v:Value):Obj:={ cls:=.ref C,dict:=some dx,data:=.plain,slots:=#[some v] }
noncomputable def KeyAt(V:Addr->Prop)(h:Heap)(C x:Addr)(v:Value):Prop:=∃ dx o,h.get? x=some (Qib C dx v)∧h.get? dx=some o∧o.cls=.type "dict"∧¬ V x∧¬ V dx
theorem KeyAt.step{G:Amb}{V:Addr->Prop}{s s':Shared}{C x:Addr}{v:Value}(a:KeyAt V s.heap C x v)(k:Step G V s s'):KeyAt V s'.heap C x v:=by
 refine ob2_5 a fun dx o h1 h2 h3 h4 h5=>?_
 exact in2_5 dx o (k.exact h1 (.inl h4) (by intro q;cases q)) (k.exact h2 (.inl h5) (by rw [h3];decide)) h3 h4 h5
section
variable {G:Amb}{n:Nat}{V:Addr->Prop}
theorem KCls.frag{h:Heap}{C:Addr}{f:Value}(x:KCls G V h C f):∃ K nd md fI fL,K.In h∧KFr K C nd md fI fL∧
  (∃ doc pm ca ctv,h.get? fI=some (fnK 0 "__init__" qK [] doc pm ca ctv)∧h.CodeRec (.ref ca) (qK ++ "." ++ "__init__"))∧
  (∃ cc doc pm ca ctv,h.get? fL=some (fnK 1 "__lt__" qK [("mycmp",cc)] doc pm ca ctv)∧h.CodeRec (.ref ca) (qK ++ "." ++ "__lt__")∧h.IsCell cc (some f)∧¬ V cc):=by
 obtain ⟨nd,md,bt,lst,sa,cc,fa,ca,H,T,U,td,t5,tm,tdd,hm,hd,m,doc,ctv,pm,h1,h2,h3,h4,h5,h6,h7,h8,hn,n1,n2,n3,n4,n5,n6,n7,n8,n9,n10⟩:=x
 have b1:(nd == C)=false:=by simpa using Ne.symm n1
 have b2:(md == C)=false:=by simpa using Ne.symm n2
 have b3:(md == nd)=false:=by simpa using Ne.symm n3
 have b4:(fa 0 == C)=false:=by simpa using n4
 have b5:(fa 0 == nd)=false:=by simpa using n5
 have b6:(fa 0 == md)=false:=by simpa using n6
 have b7:(fa 1 == C)=false:=by simpa using n7
 have b8:(fa 1 == nd)=false:=by simpa using n8
 have b9:(fa 1 == md)=false:=by simpa using n9
 have b10:(fa 1 == fa 0)=false:=by simpa using Ne.symm n10
 refine ⟨[(C,kCO nd C bt t5 (U 1)),(nd,dictOf (kEs3 H T U "cpy313.functools" qK lst sa fa hm tm md hd tdd) m),(md,kMd C td),(fa 0,fnK 0 "__init__" qK [] (doc 0) pm (ca 0) (ctv 0)),(fa 1,fnK 1 "__lt__" qK [("mycmp",cc)] (doc 1) pm (ca 1) (ctv 1))],
  nd,md,fa 0,fa 1,fun a o e=>?_,⟨bt,lst,sa,cc,fa,ca,H,T,U,td,t5,tm,tdd,hm,hd,m,doc,ctv,pm,rfl,rfl,?_,?_,?_,?_,?_⟩,⟨doc 0,pm,ca 0,ctv 0,h4,h7⟩,⟨cc,doc 1,pm,ca 1,ctv 1,h5,h8,h6,hn _ (by simp)⟩⟩
 ·have:=mem_of_lookupK e
  simp only [List.mem_cons,List.not_mem_nil,or_false,Prod.mk.injEq] at this
  rcases this with ⟨rfl,rfl⟩ | ⟨rfl,rfl⟩ | ⟨rfl,rfl⟩ | ⟨rfl,rfl⟩ | ⟨rfl,rfl⟩
  ·exact h1
  ·exact h2
  ·exact h3
  ·exact h4
  ·exact h5
 ·simp [List.lookup_cons,kCO]
 ·simp [List.lookup_cons,b1]
 ·simp [List.lookup_cons,b2,b3]
 ·simp [List.lookup_cons,b4,b5,b6]
 ·simp [List.lookup_cons,b7,b8,b9,b10]
end
section
variable {prog:Program}{w:World}{A:Around}{K:Frag}{C x:Addr}{s:Shared}{R:Result->Shared->Prop}
theorem slot_put{ox:Obj}{od:Option Obj}{v:Value}{p i:Nat}(X:K.In s.heap)(I:InstAt s.heap x ox C od)(hp:slotIn K p C=some i)(hi:i < 1000)
  (h:R (.ok (.ret .none)) { s with heap:=s.heap.update x fun o=>{ o with slots:=(o.slots ++ Array.replicate (i + 1 - o.slots.size) none).setIfInBounds i (some v) } }):
  codeAny (model prog w) A (.call (.builtin "member_descriptor.__set__") ⟨[.ref p,.ref x,v],[]⟩) R s:=by
 refine ob5_1 (slot_of X hp) ?_;intro n tn owner behind tb z0;refine ob3_5 z0 ?_;rintro d sl cd ho hc hm hb rfl
 obtain ⟨hh,g,dr,t,os⟩:=s
 have L0:=I.type (M:=model prog w)
 have L1:=looks_mroIn (M:=model prog w) X hm
 have L2:Looks (model prog w) hh (Builtin.Slots.slotNamesOf (.ref C)) cd.slotNames:=(looks_clsIn X hc).andThen .now
 have hx:=I.at_
 dsimp only at ho hx L0 L1
 have f0:=looks_field (M:=model prog w) ho 0 (v:=.str n tn) rfl
 have f1:=looks_field (M:=model prog w) ho 1 (v:=owner) rfl
 have f3:=looks_field (M:=model prog w) ho 3 (v:=.builtin "proto.slot#set") rfl
 have f4:=looks_field (M:=model prog w) ho 4 (v:=.int behind tb) rfl
 refine codeAny_call_builtin KF.slot_mset.plain KF.entry_mset (KF.slot_mset.check _ _ _ _ _ _ _ _ ⟨_,ho,rfl⟩ (KF.args_mset _ _ _) ?_)
 unfold Builtin.«member_descriptor.__set__» Builtin.Getset_descriptor.descrSet Builtin.Getset_descriptor.descrStoreThrough Builtin.Getset_descriptor.descrCheckInstance Builtin.Getset_descriptor.descrNameAndClass isInstance
 have f5:Looks (model prog w) hh (Builtin.Getset_descriptor.descrItself (.ref p)) [.ref p]:=((Looks.ld (part:=none) ho).andThen .now).andThen (Looks.of_pure (by kernel_rfl))
 repeat lk
 refine ⟨Code.quiet_builtin _ dk,codeAny_builtin KF.entry_slotset ?_⟩
 unfold Builtin.«proto.slot#set» Builtin.Slots.target
 repeat lk
 rw [if_neg hb]
 refine wpAny_pure (wpAny_bind ?_)
 unfold setSlotAt
 dsimp only
 rw [if_neg (by rw [sizeLine_eq];lia)]
 exact wpAny_updatePart hx (wpAny_pure h)
end
theorem kStms0:Qc0 0=[.Assign [.Attribute (.Name "self" ⟨50,12,50,16⟩) "obj" ⟨50,12,50,20⟩] (.Name "obj" ⟨50,23,50,26⟩) ⟨50,12,50,26⟩]:=by rfl
section
variable {G:Amb}{n:Nat}{V:Addr->Prop}
theorem Good.under2{A:Around}{h:Heap}{C:Addr}{rest:List Value}(g:Good G (n + 1) A h):Good G n (A.under (.builtin "type.__call__" ⟨.ref C :: rest,[]⟩)) h:=by
 refine ⟨g.base,g.handled,?_,?_,?_⟩
 ·have:=g.depth
  show A.depth + 1 + n < 1000
  lia
 ·have:=g.units
  show A.units + 1 + 20 * n < 9000
  lia
 ·refine ob1_2 g.stk fun envs e p=>?_
  exact in1_2 envs (by show pushEnvs [] A.frames=_;rw [e];rfl) p
theorem key_make{A:Around}{s:Shared}{W:Addr->Prop}{C:Addr}{f v:Value}{Q:Value->Shared->Prop}{E:Value->Shared->Prop}(AG:Qv G)(good:Good G (n + 2) A s.heap)(ex:Excl s.heap V W)(kc:KCls G V s.heap C f)
  (h:∀ x s',Step G V s s'->s.heap.get? x=none->KeyAt V s'.heap C x v->Q (.ref x) s'):wpAny (model G.prog G.w) A (call (.ref C) [v]) Q E s:=by
 refine ob5_4 kc.frag ?_;intro K nd md fI fL X F z0;refine ob4_2 z0 fun doc pm ca ctv hfI hcr=>?_;rintro _
 obtain ⟨hh,g,d,t,os⟩:=s
 refine wpAny_call (make_core (makes_of X F.makes) (looks_findIn X F.init) (fun self=>bind_fn X self F.typeI) (.inl rfl) ?_)
 refine Qdb ((⟨(hh.push emptyDict).push (instObj C hh.objs.size),g,d,t,os⟩:Shared)) fun s₁ hs1=>?_
 have h1:s₁.heap=(hh.push emptyDict).push (instObj C hh.objs.size):=by rw [← hs1]
 have up:∀ b o,hh.get? b=some o->s₁.heap.get? b=some o:=fun b o e=>by rw [h1];exact Heap.get?_push_of_some _ (Heap.get?_push_of_some _ e)
 have k1:Step G V ⟨hh,g,d,t,os⟩ s₁:=by rw [← hs1];exact .of_heap (s:=⟨hh,g,d,t,os⟩) (tk:=t) fun b ob e=>Heap.get?_push_of_some _ (Heap.get?_push_of_some _ e)
 have hsz:(hh.push emptyDict).objs.size=hh.objs.size + 1:=Heap.size_push ..
 have ex1:s₁.heap.get? (hh.objs.size + 1)=some (instObj C hh.objs.size):=by rw [h1,← hsz];exact Heap.get?_push_size _ rfl
 have ed1:s₁.heap.get? hh.objs.size=some (dictOf [] 0):=by rw [h1];exact Heap.get?_push_of_some _ (Heap.get?_push_size _ rfl)
 have newx:hh.get? (hh.objs.size + 1)=none:=Heap.get?_none_of_le (Nat.le_succ _)
 have newd:hh.get? hh.objs.size=none:=Heap.get?_none_of_le (Nat.le_refl _)
 have nx:¬ W (hh.objs.size + 1):=ex.fresh newx
 have nd':¬ W hh.objs.size:=ex.fresh newd
 have exW:Excl s₁.heap V W:=⟨ex.sub,fun a ha=>(ex.step k1).live a ha⟩
 have nVx:¬ V (hh.objs.size + 1):=fun q=>nx (ex.sub _ q)
 have nVd:¬ V hh.objs.size:=fun q=>nd' (ex.sub _ q)
 have nK0:Xs (Qem 0).names ["self","obj"]:=Xm dk
 have fK0:(Qem 0).names.all (fun p=>!(p.2 == .free))=true:=by decide +kernel
 refine Qcm (V:=V) (W:=W) (fd:=fnX "__init__" (qK ++ "." ++ "__init__") (Qg6 0) (Qc0 0) (Qem 0) [] .none .none doc pm none (.ref ca) ctv) (xs:=["self","obj"]) (us:=[.ref (hh.objs.size + 1),v]) (ds:=[.raw (.ref (hh.objs.size + 1)),.raw v]) (ρc:=fun _=>none) AG ((good.step k1).under2) exW (up _ _ hfI) rfl (hcr.keeps up) rfl rfl rfl rfl rfl rfl nK0
  (.of_eq rfl) ⟨rfl,rfl,trivial⟩ (Qaw fK0) ?_
 intro s2 env E' k2 c2 ow hloc hcells;refine Zf ?_;intro Q0 E0
 have hself:Zl (Qem 0).names ["self","obj"] [.raw (.ref (hh.objs.size + 1)),.raw v] (fun _=>none) "self"=some (.raw (.ref (hh.objs.size + 1))):=rfl
 have hobj:Zl (Qem 0).names ["self","obj"] [.raw (.ref (hh.objs.size + 1)),.raw v] (fun _=>none) "obj"=some (.raw v):=rfl
 show wpAny _ _ (execs (Qc0 0) env) _ _ _
 rw [kStms0]
 refine wpAny_execs_cons (plainObj_wpAny_Assign_Attribute (Qb (G:=G) (n:=n) (V:=V) (ks:=(Qem 0).names) "obj" ⟨50,23,50,26⟩ dk dk _ env s2 _ _ _ _ _ c2 hobj fun u s3 k3 r3=>?_) rfl)
 cases r3
 refine Qb (G:=G) (n:=n) (V:=V) (ks:=(Qem 0).names) "self" ⟨50,12,50,16⟩ dk dk _ env s3 _ _ _ _ _ (c2.step k3) hself fun u s4 k4 r4=>?_;refine Zf ?_;intro Q0 E0
 cases r4
 have kk:=(k2.trans k3).trans k4
 have kc4:KCls G V s4.heap C f:=(kc.step k1).step kk
 refine ob5_3 kc4.frag fun K' nd2 md2 fI2 fL2 X2 F2 _=>?_
 have ex4:s4.heap.get? (hh.objs.size + 1)=some (instObj C hh.objs.size):=kk.exact ex1 (.inl nVx) (by intro q;cases q)
 have ed4:s4.heap.get? hh.objs.size=some (dictOf [] 0):=kk.exact ed1 (.inl nVd) (by show Value.type "dict"≠_;decide)
 have I:InstAt s4.heap (hh.objs.size + 1) (instObj C hh.objs.size) C (some (dictOf [] 0)):=⟨ex4,rfl,rfl,ed4⟩
 refine set_plain X2 I F2.setattr (osa_descr (s:={ s4 with toks:=s4.toks + 1 }) KF.slot_mset X2 I F2.plain F2.taker F2.typeM (slot_put (s:={ s4 with toks:=s4.toks + 1 }) X2 I F2.slot (by decide) ?_))
 refine wpAny_execs_nil ⟨rfl,?_⟩
 have e5:(s4.heap.update (hh.objs.size + 1) fun o=>{ o with slots:=(o.slots ++ Array.replicate (0 + 1 - o.slots.size) none).setIfInBounds 0 (some v) }).get? (hh.objs.size + 1)=some (Qib C hh.objs.size v):=by
  rw [Heap.get?_update_self _ ex4 rfl];rfl
 have sb:=Heap.SameBut.update (h:=s4.heap) (a:=hh.objs.size + 1) (f:=fun o=>{ o with slots:=(o.slots ++ Array.replicate (0 + 1 - o.slots.size) none).setIfInBounds 0 (some v) })
 have kt:Step G V ⟨hh,g,d,t,os⟩ s4:=k1.trans kk
 have k5:Step G (fun a=>a=hh.objs.size + 1) s4 { s4 with heap:=s4.heap.update (hh.objs.size + 1) fun o=>{ o with slots:=(o.slots ++ Array.replicate (0 + 1 - o.slots.size) none).setIfInBounds 0 (some v) },toks:=s4.toks + 1 }:=
  Qn sb rfl (Zd good _ newx) ⟨_,e5⟩ (fun o e t=>by rw [ex4] at e;obtain rfl:=Qo e;exact absurd t.1 (by intro q;cases q)) (Jr ex4 (by intro q;cases q)) (Qay ex4 (by intro q;cases q))
 refine h _ _ (kt.later k5 fun a ha=>.inl (ha ▸ newx)) newx ⟨hh.objs.size,dictOf [] 0,e5,?_,rfl,nVx,nVd⟩
 exact (sb.2 _ (Nat.ne_of_lt (Nat.lt_succ_self _))).trans ed4
end
theorem kStms1:Qc0 1=[.Return (some (.Compare (.Call (.Name "mycmp" ⟨53,19,53,24⟩) [.Attribute (.Name "self" ⟨53,25,53,29⟩) "obj" ⟨53,25,53,33⟩,.Attribute (.Name "other" ⟨53,35,53,40⟩) "obj" ⟨53,35,53,44⟩] [] ⟨53,19,53,45⟩) [.Lt] [.Constant (.int 0) 0 ⟨53,48,53,49⟩] ⟨53,19,53,49⟩)) ⟨53,12,53,49⟩]:=by rfl
section
variable {G:Amb}{n:Nat}{V:Addr->Prop}
theorem key_get{A:Around}{s:Shared}{C x:Addr}{f v:Value}{Q:Value->Shared->Prop}{E:Value->Shared->Prop}{ex:Bool}(kc:KCls G V s.heap C f)(hx:KeyAt V s.heap C x v)(hv:handedIn v=true)(h:Q v { s with toks:=s.toks + 1 }):
  wpAny (model G.prog G.w) A (getAttr (.ref x) "obj" ex) Q E s:=by
 refine ob5_3 kc.frag fun K nd md fI fL X F _=>?_
 refine ob2_3 hx fun dx od hx hd _=>?_
 have I:InstAt s.heap x (Qib C dx v) C (some od):=⟨hx,rfl,rfl,hd⟩
 exact get_bind X I F.ga (F.objGet od) F.hook (wpAny_call (slot_get (s:={ s with toks:=s.toks + 1 }) X I F.slot rfl (handed_on hv h)))
theorem key_lt{A:Around}{s:Shared}{W:Addr->Prop}{C x y fl:Addr}{v u:Value}{k:Int}{ol:Obj}{fdl:FuncData}{Q:Bool->Shared->Prop}{E:Value->Shared->Prop}(AG:Qv G)(good:Good G (n + 1) A s.heap)(ex:Excl s.heap V W)(kc:KCls G V s.heap C (.ref fl))(hx:KeyAt V s.heap C x v)(hy:KeyAt V s.heap C y u)
  (hv:handedIn v=true)(hu:handedIn u=true)(nV:¬ V fl)(hfl:s.heap.get? fl=some ol)(hol:ol.data=.func fdl)(hcls:ol.cls≠.type "frame")
  (hF:∀ (A':Around) (s':Shared) (W':Addr->Prop) (Q':Value->Shared->Prop) (E':Value->Shared->Prop),Step G V s s'->Good G n A' s'.heap->Excl s'.heap V W'->(∀ t s'',Step G V s' s''->Q' (.int k t) s'')->wpAny (model G.prog G.w) A' (call (.ref fl) [v,u]) Q' E' s')
  (h:∀ s',Step G V s s'->Q (decide (k < 0)) s'):wpAny (model G.prog G.w) A (keyLt' oneType' (.ref x) (.ref y)) Q E s:=by
 refine ob5_4 kc.frag ?_;intro K nd md fI fL X F _ z0;refine ob5_4 z0 fun cc doc pm ca ctv hfL hcr hcell hVc=>?_
 have hx':=hx
 refine ob2_5 hx fun dx od hxo hdo hdc _ _=>?_
 have I:InstAt s.heap x (Qib C dx v) C (some od):=⟨hxo,rfl,rfl,hdo⟩
 rw [keyLt'_oneType,oneLt'_eq]
 simp only [if_true]
 refine wpAny_bind (wpAny_cRoomFor (Qcu good) ?_)
 refine wpAny_bind (ifBound_K X I F.lt (by unfold isFn;rw [F.typeL];rfl) ?_);refine Zf ?_;intro Q0 E0
 have nK1:Xs (Qem 1).names ["self","other"]:=Xm dk
 have clo:Qfl G V s.heap W (Qem 1).names [(("mycmp":Str),cc)] (fun y=>if y="mycmp" then some (.raw (.ref fl)) else none):=by
  have only:∀ y,(Qem 1).names.lookup y=some .free->y=("mycmp":Str):=fun y hy=>by
   have h2:(Qem 1).names.all (fun p=>!(p.2 == .free) || p.1 == ("mycmp":Str))=true:=by decide +kernel
   have h3:=List.all_eq_true.mp h2 _ (mem_of_lookup hy)
   simpa using h3
  have lk:∀ y c,[(("mycmp":Str),cc)].lookup y=some c->y=("mycmp":Str)∧c=cc:=fun y c e=>by
   rw [List.lookup_cons] at e
   cases hb:y == ("mycmp":Str) with
   | true=>rw [hb] at e;obtain rfl:=Qo e;exact ⟨eq_of_beq hb,rfl⟩
   | false=>rw [hb] at e;exact nSo e
  refine ⟨fun y hy=>⟨cc,by rw [only y hy];simp⟩,fun y c e=>?_,fun y y' c e e'=>(lk _ _ e).1.trans (lk _ _ e').1.symm,fun y d hy hd=>?_⟩
  ·obtain ⟨_,rfl⟩:=lk _ _ e
   exact ⟨hVc,_,hcell⟩
  ·have hy':=only y hy
   subst hy'
   simp only [if_true] at hd
   obtain rfl:=Qo hd
   exact in2_3 cc _ (by simp) hcell rfl
 refine wpAny_call (Qcm (n:=n) (V:=V) (W:=W) (fd:=fnX "__lt__" (qK ++ "." ++ "__lt__") (Qg6 1) (Qc0 1) (Qem 1) [(("mycmp":Str),cc)] .none .none doc pm none (.ref ca) ctv) (xs:=["self","other"]) (us:=[.ref x,.ref y]) (ds:=[.raw (.ref x),.raw (.ref y)]) AG good ex hfL rfl hcr rfl rfl rfl rfl rfl rfl nK1
  (.of_eq rfl) ⟨rfl,rfl,trivial⟩ clo ?_)
 intro s2 env E' k2 c2 ow hloc hcells;refine Zf ?_;intro Q0 E0
 revert c2
 generalize hρ:Zl (Qem 1).names ["self","other"] [.raw (.ref x),.raw (.ref y)] (fun y=>if y="mycmp" then some (.raw (.ref fl)) else none)=ρ
 have l1:ρ "self"=some (.raw (.ref x)):=by rw [← hρ];rfl
 have l2:ρ "other"=some (.raw (.ref y)):=by rw [← hρ];rfl
 have l3:ρ "mycmp"=some (.raw (.ref fl)):=by rw [← hρ];rfl
 intro c2
 show wpAny _ _ (execs (Qc0 1) env) _ _ _
 rw [kStms1]
 refine wpAny_execs_cons (wpAny_Return_some (wpAny_Compare1 ?_ rfl))
 refine wpAny_Call_NameR (Qb (G:=G) (n:=n) (V:=V) (ks:=(Qem 1).names) "mycmp" ⟨53,19,53,24⟩ dk dk _ env s2 _ _ _ _ _ c2 l3 fun w3 s3 k3 r3=>?_);refine Zf ?_;intro Q0 E0
 cases r3
 have c3:=c2.step k3
 have f3:=(k2.trans k3).exact hfl (.inl nV) hcls
 refine callWith_of (P:=fun h=>h.get? fl=some ol) (by rfl) (fun h hp=>⟨.frame,.inl rfl,(Looks.ld (part:=none) hp).andThen (by rw [hol];exact .now)⟩) (Zm (by rfl) ?_);refine Zf ?_;intro Q0 E0
 refine spliced_more (e:=.Attribute (.Name "self" ⟨53,25,53,29⟩) "obj" ⟨53,25,53,33⟩) (rest:=[.Attribute (.Name "other" ⟨53,35,53,40⟩) "obj" ⟨53,35,53,44⟩]) ?_;refine Zf ?_;intro Q0 E0
 refine Attribute_any_ (Qb (G:=G) (n:=n) (V:=V) (ks:=(Qem 1).names) "self" ⟨53,25,53,29⟩ dk dk _ env s3 _ _ _ _ _ c3 l1 fun w4 s4 k4 r4=>?_)
 cases r4
 have kk4:=(k2.trans k3).trans k4
 refine key_get (kc.step kk4) (hx'.step kk4) hv ?_
 have c5:=(c3.step k4).step (.toks s4 (s4.toks + 1))
 refine spliced_more (e:=.Attribute (.Name "other" ⟨53,35,53,40⟩) "obj" ⟨53,35,53,44⟩) (rest:=[]) ?_;refine Zf ?_;intro Q0 E0
 refine Attribute_any_ (Qb (G:=G) (n:=n) (V:=V) (ks:=(Qem 1).names) "other" ⟨53,35,53,40⟩ dk dk _ env _ _ _ _ _ _ c5 l2 fun w6 s6 k6 r6=>?_)
 cases r6
 have kk6:=(kk4.trans (.toks s4 (s4.toks + 1))).trans k6
 refine key_get (kc.step kk6) (hy.step kk6) hu (Calls.spliced_nil ?_)
 have kk7:=kk6.trans (.toks s6 (s6.toks + 1))
 have c7:=(c5.step k6).step (.toks s6 (s6.toks + 1))
 refine ⟨kk7.exact hfl (.inl nV) hcls,?_⟩
 refine hF _ _ _ _ _ kk7 c7.good c7.excl fun t s8 k8=>?_
 have c8:=c7.step k8
 refine wpAny_Constant_int ?_
 have k9:Step G V s8 { s8 with toks:=s8.toks + 1 }:=.toks s8 _
 refine op_lt _ _ _ _ _ (.data (.int k)) (.data (.int 0)) (.data (.bool (decide (k < 0)))) _ _ (c8.step k9).good (c8.step k9).excl (RepD.int k t) (RepD.int 0 _) ?_ fun r s10 k10 rr=>?_
 ·rfl
 ·obtain rfl:=RepD.bool_inv rr
  exact wpAny_truthy_bool (h s10 (((kk7.trans k8).trans k9).trans k10))
end
section
variable {G:Amb}{V:Addr->Prop}{A:Around}{s:Shared}{E:Value->Shared->Prop}
structure KsInv (G:Amb) (V:Addr->Prop) (s:Shared) (a kS C:Addr) (vs:List Value) (e1:Nat) (i:Nat) (ka:List Value) (s':Shared):Prop where
 st:Step G V s s'
 e:∃ c,s'.heap.get? kS=some (seqObj "list" ka.toArray c)
 em:s'.heap.get? a=some (seqObj "list" #[] e1)
 len:ka.length=i
 keys:∀ j,j < i->∃ x,ka[j]?=some (.ref x)∧KeyAt V s'.heap C x (vs.getD j .none)
theorem type_key{M:Model}{h:Heap}{C x:Addr}{v:Value}(k:KeyAt V h C x v):Looks M h (typeOf (.ref x)) (.ref C):=by
 refine ob2_2 k fun dx o h1 _=>?_
 exact (show Looks M h (typeOf (.ref x)) (Qib C dx v).cls from (Looks.ld (part:=none) h1).andThen .now)
theorem Qhn{prog:Program}{w:World}{ka:List Value}{a kS:Addr}{e1 c:Nat}{st:SortSt}{s':Shared}{out:List Value}{P:PySem.Fin->Shared->Prop}(hk:s'.heap.get? kS=some (seqObj "list" ka.toArray c))(ha:s'.heap.get? a=some (seqObj "list" #[] e1))(ne:kS≠a)
  (hka:ka.length < 64)(ho:(arrOf st).map (·.2)=out.toArray)(hout:out.length < 64)(hf:failedOf st=none)
  (h:∀ h' c2,Heap.SameBut a (s'.heap.update kS (Obj.mapSeq fun _=>#[])) h'->h'.get? a=some (listOf out.toArray c2)->P (.done (.ret .none)) { s' with heap:=h' }):
  wpAny (model prog w) A (ksk_tail a false e1 (.ref kS) st) P E s':=by
 have na1:(s'.heap.update kS (Obj.mapSeq fun _=>(#[]:Array Value))).get? a=some (seqObj "list" #[] e1):=((Heap.SameBut.update s'.heap kS _).2 a ne.symm).trans ha
 unfold ksk_tail
 refine wpAny_bind (listUpdate_at hk rfl ?_ (by rw [List.size_toArray,sizeLine_eq];lia) (Nat.zero_le _))
 refine wpAny_bind (wpAny_letGo ?_)
 refine wpAny_bind (seqEpoch_at na1 rfl ?_)
 rw [ho]
 refine wpAny_bind (listUpdate_at na1 rfl ?_ (Nat.zero_le _) (by simp only [Bool.false_eq_true,if_false];rw [List.size_toArray,sizeLine_eq];lia))
 rw [hf]
 simp only [bne_self_eq_false,Bool.false_eq_true,if_false]
 obtain ⟨c2,hc2⟩:∃ c2,((s'.heap.update kS (Obj.mapSeq fun _=>(#[]:Array Value))).update a (Obj.mapSeq fun _=>out.toArray)).get? a=some (seqObj "list" out.toArray c2):=⟨_,get?_update_seq na1 fun _=>out.toArray⟩
 exact wpAny_pure (h _ c2 (Heap.SameBut.update _ a _) hc2)
theorem Qgh{vs:List Value}{lt:Nat->Nat->Bool}{s₁:Shared}{a C:Addr}{n:Nat}{P:PySem.Fin->Shared->Prop}(hV:∀ a,V a->∃ o,s.heap.get? a=some o)(hb:∀ a,s.heap.get? a=none->G.h₀.get? a=none)
  (k1:Step G V s s₁)(new:s.heap.get? a=none)(ho:s₁.heap.get? a=some (seqObj "list" vs.toArray n))(h2:2 <= vs.length)(h64:vs.length < 64)(hw:Qdh lt)
  (hmake:∀ (j:Nat) (x:Value) (s':Shared) (Q E':Value->Shared->Prop),vs[j]?=some x->Step G V s s'->(∀ k s'',Step G V s' s''->KeyAt V s''.heap C k x->Q (.ref k) s'')->wpAny (model G.prog G.w) A (call (.ref C) [x]) Q E' s')
  (hask:∀ (i j:Nat) (x y:Addr) (s':Shared) (Q:Bool->Shared->Prop),i < vs.length->j < vs.length->Step G V s s'->KeyAt V s'.heap C x (vs.getD i .none)->KeyAt V s'.heap C y (vs.getD j .none)->(∀ s'',Step G V s' s''->Q (lt i j) s'')->wpAny (model G.prog G.w) A (keyLt' oneType' (.ref x) (.ref y)) Q (fun _ _=>False) s')
  (h:∀ p s' c,Pst lt vs.length p vs.length->Step G V s s'->s'.heap.get? a=some (listOf (List.toArray (p.toList.map fun i=>vs.getD i Value.none)) c)->P (.done (.ret .none)) s'):
  wpAny (model G.prog G.w) A (ksk_tree a (.ref C) false) P E s₁:=by
 have s1:=Heap.SameBut.update s₁.heap a (Obj.mapSeq fun _=>(#[]:Array Value))
 obtain ⟨e1,ho1⟩:∃ e1,(s₁.heap.update a (Obj.mapSeq fun _=>(#[]:Array Value))).get? a=some (seqObj "list" #[] e1):=⟨_,get?_update_seq ho fun _=>#[]⟩
 unfold ksk_tree
 refine Qg (fun K k=>listItems_at ho rfl k) ?_
 refine wpAny_bind (listUpdate_at ho rfl ?_ (by rw [List.size_toArray,sizeLine_eq];lia) (Nat.zero_le _))
 refine Qg (fun K k=>seqEpoch_at ho1 rfl k) ?_
 refine wpAny_bind (wpAny_newTuple ?_ (by show vs.length <= _;rw [sizeLine_eq];lia))
 refine wpAny_bind (wpAny_newList ?_ (Nat.zero_le _))
 refine wpAny_holding ?_
 have hkS:((s₁.heap.update a (Obj.mapSeq fun _=>(#[]:Array Value))).push (seqObj "tuple" vs.toArray 0)).objs.size=s₁.heap.objs.size + 1:=by rw [size_push',Heap.size_update]
 have aLt:a < s₁.heap.objs.size:=Heap.lt_size ho
 have hoA:(((s₁.heap.update a (Obj.mapSeq fun _=>(#[]:Array Value))).push (seqObj "tuple" vs.toArray 0)).push (seqObj "list" #[] 0)).get? a=some (seqObj "list" #[] e1):=Heap.get?_push_of_some _ (Heap.get?_push_of_some _ ho1)
 have hoK:(((s₁.heap.update a (Obj.mapSeq fun _=>(#[]:Array Value))).push (seqObj "tuple" vs.toArray 0)).push (seqObj "list" #[] 0)).get? (s₁.heap.objs.size + 1)=some (seqObj "list" #[] 0):=by
  rw [← hkS];exact Heap.get?_push_size _ rfl
 have k2:Step G V s { s₁ with heap:=((s₁.heap.update a (Obj.mapSeq fun _=>(#[]:Array Value))).push (seqObj "tuple" vs.toArray 0)).push (seqObj "list" #[] 0) }:=
  (Qbf k1 new (hb a new) s1).trans (.of_heap (tk:=s₁.toks) fun b o e=>Heap.get?_push_of_some _ (Heap.get?_push_of_some _ e))
 have newK:s.heap.get? (s₁.heap.objs.size + 1)=none:=k1.get_none (Heap.get?_none_of_le (Nat.le_succ _))
 have neK:s₁.heap.objs.size + 1≠a:=Nat.ne_of_gt (Nat.lt_succ_of_lt aLt)
 show wpAny _ _ (ksk_rest a (.ref C) false vs.toArray e1 (.ref ((s₁.heap.update a (Obj.mapSeq fun _=>(#[]:Array Value))).push (seqObj "tuple" vs.toArray 0)).objs.size)) _ _ { s₁ with heap:=((s₁.heap.update a (Obj.mapSeq fun _=>(#[]:Array Value))).push (seqObj "tuple" vs.toArray 0)).push (seqObj "list" #[] 0) }
 rw [hkS]
 generalize hs2:(⟨((s₁.heap.update a (Obj.mapSeq fun _=>(#[]:Array Value))).push (seqObj "tuple" vs.toArray 0)).push (seqObj "list" #[] 0),s₁.gens,s₁.drawn,s₁.toks,s₁.os⟩:Shared)=s2 at k2 ⊢
 have hoA':s2.heap.get? a=some (seqObj "list" #[] e1):=by rw [← hs2];exact hoA
 have hoK':s2.heap.get? (s₁.heap.objs.size + 1)=some (seqObj "list" #[] 0):=by rw [← hs2];exact hoK
 revert newK neK hoK';refine Qm2 (s₁.heap.objs.size + 1) fun kS=>?_;intro newK neK hoK'
 have ncl:∀ {xs c},(seqObj "list" xs c).cls≠.type "frame":=fun {xs c}=>by show Value.type "list"≠_;decide
 unfold ksk_rest
 refine Qg (fun K k=>wpAny_rule k) ?_
 first
  | rw [List.forIn_toArray]
  | (rw [← Array.forIn_toList];simp only [List.toList_toArray])
 refine wpAny_bind (ksk_fold (fun i s'=>∃ ka,KsInv G V s a kS C vs e1 i ka s') vs 0 s2 ⟨[],k2,⟨0,hoK'⟩,hoA',rfl,fun j hj=>absurd hj (Nat.not_lt_zero _)⟩ ?step ?done)
 case step=>
  rintro j x s' hx ⟨ka,inv⟩
  simp only [Nat.zero_add] at inv ⊢
  have hj:j < vs.length:=(List.getElem?_eq_some_iff.mp hx).1
  refine wpAny_bind (wpAny_attempt (hmake j x s' _ _ hx inv.st fun k s3 k3 hk=>?_))
  refine ob1_1 inv.e fun c hc=>?_
  have hc3:=Qce hV newK k3 hc ncl
  have ha3:=Qce hV new k3 inv.em ncl
  have u:=Heap.SameBut.update s3.heap kS (Obj.mapSeq (·.push (.ref k)))
  refine wpAny_bind (listUpdate_at hc3 rfl ?_ (by rw [List.size_toArray,sizeLine_eq];have:=inv.len;lia) (by rw [Array.size_push,List.size_toArray,sizeLine_eq];have:=inv.len;lia))
  have k4:Step G V s { s3 with heap:=s3.heap.update kS (Obj.mapSeq (·.push (.ref k))) }:=Qbf (inv.st.trans k3) newK (hb kS newK) u
  obtain ⟨c2,hc2⟩:∃ c2,(s3.heap.update kS (Obj.mapSeq (·.push (.ref k)))).get? kS=some (seqObj "list" (ka.toArray.push (.ref k)) c2):=⟨_,get?_update_seq hc3 (·.push (.ref k))⟩
  have keep:∀ {y v},KeyAt V s3.heap C y v->KeyAt V (s3.heap.update kS (Obj.mapSeq (·.push (.ref k)))) C y v:=fun {y v} q=>by
   refine ob2_5 q fun dx o h1 h2 h3 h4 h5=>?_
   refine in2_5 dx o ((u.2 _ fun e=>?_).trans h1) ((u.2 _ fun e=>?_).trans h2) h3 h4 h5
   ·rw [e,hc3] at h1;cases h1
   ·rw [e,hc3] at h2;obtain rfl:=Qo h2;exact absurd h3 (by show Value.type "list"≠_;decide)
  refine wpAny_pure ⟨rfl,ka ++ [.ref k],k4,⟨c2,by rw [hc2];simp⟩,(u.2 a neK.symm).trans ha3,by rw [List.length_append,inv.len];rfl,fun i hi=>?_⟩
  by_cases hij:i < j
  ·refine ob1_2 (inv.keys i hij) fun y hy hk2=>?_
   exact in1_2 y (by rw [List.getElem?_append_left (by rw [inv.len];exact hij)];exact hy) (keep (hk2.step k3))
  ·have:i=j:=by lia
   subst this
   refine in1_2 k (by rw [List.getElem?_append_right (by rw [inv.len];exact Nat.le_refl _),inv.len];simp) ?_
   have:vs.getD i .none=x:=by rw [List.getD_eq_getElem?_getD,hx];rfl
   rw [this]
   exact keep hk
 case done=>
  rintro s' ⟨ka,inv⟩
  rw [Nat.zero_add] at inv;replace inv:=inv
  obtain ⟨c,hc⟩:=inv.e
  refine Qg (fun K k=>listItems_at hc rfl k) ?_
  unfold ksk_end
  dsimp only
  have hn2:¬ vs.toArray.size < 2:=by rw [List.size_toArray];lia
  rw [if_neg hn2,if_neg hn2]
  simp only [Bool.false_eq_true,if_false]
  have hlen:=inv.len
  have kk:wpAny (model G.prog G.w) A (keyKind' ka.toArray) (fun κ s''=>κ=oneType'∧s''=s') E s':=by
   refine kas_kind (T:=.ref C) (by lia) (fun v hv=>?_) (by rfl) (by simp) ⟨rfl,rfl⟩
   refine ob1_1 (List.mem_iff_getElem.mp hv) ?_;rintro j ⟨hj,e⟩
   refine ob1_2 (inv.keys j (by lia)) fun y hy hk=>?_
   rw [List.getElem?_eq_getElem hj,e] at hy
   obtain rfl:=Qo hy
   exact type_key hk
  refine wpAny_bind (wpAny_mono kk (fun κ s'' hk=>?_) fun _ _ e=>e)
  obtain ⟨rfl,rfl⟩:=hk
  have run:=kat_run (prog:=G.prog) (w:=G.w) (A:=A) (E:=E) (κ:=oneType') (ks:=ka) (vs:=vs) (Q:=fun st' s3=>∃ p:Array Nat,p.size=vs.length∧arrOf st'=p.map (kas_item (ka.toArray.zip vs.toArray))∧failedOf st'=none∧Pst lt vs.length p vs.length∧Step G V s'' s3)
   hlen h2 h64 (G:=fun p s3=>Pst lt vs.length p vs.length∧Step G V s'' s3) (fun p' st' s3 a1 a2 a3 a4=>⟨p',a1,a2,a3,a4⟩)
   (s:=s'')
   (Asks.wp (Inv:=fun s3=>Step G V s'' s3)
    (fun i j Cn s3 hi hj hI hC=>by
     refine ob1_2 (inv.keys i hi) fun y hy hk=>?_
     refine ob1_2 (inv.keys j hj) fun z hz hl=>?_
     unfold kas_ask
     rw [show ka.getD i Value.none=.ref y by rw [List.getD_eq_getElem?_getD,hy];rfl,show ka.getD j Value.none=.ref z by rw [List.getD_eq_getElem?_getD,hz];rfl]
     exact hask i j y z s3 Cn hi hj (inv.st.trans hI) (hk.step hI) (hl.step hI) fun s4 k4=>hC s4 (hI.trans k4))
    (fun p s3 hp hI=>⟨hp,hI⟩) .refl (Qjd hw (by lia)))
  refine wpAny_bind (wpAny_mono run ?_ fun _ _ e=>e)
  rintro ⟨⟨⟩,st'⟩ s3 ⟨p,hp,har,hf,hpst,k₃⟩
  have hout:=kat_snds hlen har
  have hc3:=Qce hV newK k₃ hc ncl
  have ha3:=Qce hV new k₃ inv.em ncl
  refine Qhn hc3 ha3 neK (by lia) hout (by rw [List.length_map,Array.length_toList,hp];exact h64) hf fun h' c2 hs hc2=>?_
  have k4:Step G V s { s3 with heap:=s3.heap.update kS (Obj.mapSeq fun _=>#[]) }:=Qbf (inv.st.trans k₃) newK (hb kS newK) (Heap.SameBut.update s3.heap kS _)
  exact h p _ c2 hpst (Qbf (s₁:={ s3 with heap:=s3.heap.update kS (Obj.mapSeq fun _=>#[]) }) k4 new (hb a new) hs) hc2
end
section
variable {prog:Program}{w:World}{A:Around}{s:Shared}{E:Value->Shared->Prop}
theorem Qhe{r:Addr}{a b c:Int}{t u v:Tok}{n:Nat}{Q:List Value->Shared->Prop}(hh:A.handled=none)(hr:IsRange s.heap r a b c t u v)(hsmall:Builtin.Range.small a b c=true)(hn:Builtin.Range.rangeSize a b c=n)(hlen:n <= 2 ^ 24)
  (hQ:∀ h' tk acc,(∀ b o,s.heap.get? b=some o->h'.get? b=some o)->ItemsOf (fun i v=>∃ t,v=.int (a + i * c) t) acc n->Q acc.toList { s with heap:=h',toks:=tk }):wpAny (model prog w) A (collect (.ref r)) Q E s:=by
 unfold collect
 refine wpAny_bind (wpAny_runValue (codeAny_builtin F.entry_proto_collect ?_))
 rw [Around.under_plainId F.plain_proto_collect _]
 show wpAny _ A.in1 (newList [] >>= fun l=>again (.builtin "list.__iadd__" ⟨[l,.ref r],[]⟩)) _ _ s
 refine Qg (fun K k=>wpAny_newObj_type k) ?_
 refine wpAny_pure ⟨plainId_quiet F.plain_list_iadd _,codeAny_builtin F.entry_list_iadd ?_⟩
 rw [Around.under_plainId F.plain_list_iadd _]
 have hS1:(s.heap.push { cls:=.type "list",data:=.seq ([]:List Value).toArray }).get? s.heap.objs.size=some { cls:=.type "list",data:=.seq ([]:List Value).toArray }:=Heap.get?_push_size _ rfl
 show wpAny _ A.in1 (Builtin.List.listExtendWith (.ref s.heap.objs.size) (.ref r) (.ref s.heap.objs.size)) _ _ _
 refine wpAny_extend_range (R:=fun r s'=>match r with | .ok (.ret v)=>wpAny (model prog w) A (match v with | .ref a=>(do match (← load a).data with | .seq xs _=>pure xs.toList | _=>unsupported "internal:collect") | _=>unsupported "internal:collect") Q E s' | .ok _=>False | .error e=>E e s') (s:={ s with heap:=s.heap.push { cls:=.type "list",data:=.seq ([]:List Value).toArray } }) hh (Heap.get?_push_of_some _ hr) hsmall hn hlen _ _ _ hS1 fun h' tk acc' c' hk hS' hacc=>?_
 show wpAny _ A (load s.heap.objs.size >>= _) _ _ _
 refine wpAny_bind (wpAny_load hS' ?_)
 exact wpAny_pure (hQ h' tk acc' (fun b o e=>hk b o (Nat.ne_of_lt (Heap.lt_size e)) (Heap.get?_push_of_some _ e)) hacc)
end
section
variable {G:Amb}{V:Addr->Prop}{A:Around}{s:Shared}{E:Value->Shared->Prop}
theorem Qls{lt:Nat->Nat->Bool}{r C:Addr}{a b c:Int}{t u v:Tok}{n:Nat}{Q:Value->Shared->Prop}(hV:∀ a,V a->∃ o,s.heap.get? a=some o)(hb:∀ a,s.heap.get? a=none->G.h₀.get? a=none)
  (hh:A.handled=none)(hr:IsRange s.heap r a b c t u v)(hsmall:Builtin.Range.small a b c=true)(hn:Builtin.Range.rangeSize a b c=n)(h2:2 <= n)(h64:n < 64)(hw:Qdh lt)
  (hmake:∀ (x:Value) (s':Shared) (Q E':Value->Shared->Prop),(∃ (j:Nat) (t:Tok),j < n∧x=.int (a + j * c) t)->Step G V s s'->(∀ k s'',Step G V s' s''->KeyAt V s''.heap C k x->Q (.ref k) s'')->wpAny (model G.prog G.w) A.in1.in1 (call (.ref C) [x]) Q E' s')
  (hask:∀ (i j:Nat) (x y:Addr) (t t':Tok) (s':Shared) (Q:Bool->Shared->Prop),i < n->j < n->Step G V s s'->KeyAt V s'.heap C x (.int (a + i * c) t)->KeyAt V s'.heap C y (.int (a + j * c) t')->(∀ s'',Step G V s' s''->Q (lt i j) s'')->wpAny (model G.prog G.w) A.in1.in1 (keyLt' oneType' (.ref x) (.ref y)) Q (fun _ _=>False) s')
  (h:∀ p s' D (acc:Array Value),Pst lt n p n->Step G V s s'->s.heap.get? D=none->ItemsOf (fun i v=>∃ t,v=.int (a + i * c) t) acc n->s'.heap.PlainList D (List.toArray (p.toList.map fun i=>acc.toList.getD i Value.none))->Q (.ref D) s'):
  wpAny (model G.prog G.w) A (call (.builtin "sorted") [.ref r] [(Str.ofString "key",.ref C)]) Q E s:=by
 refine call_function_entry_kw kind_sorted plain_sorted entry_sorted (ksk_s1 _ _) ?_
 unfold Builtin.«sorted»
 refine wpAny_bind (m:=checkCount "sorted" 1 1 _) (wpAny_pure ?_)
 refine wpAny_bind (Qhe (A:=A.in1) hh hr hsmall hn (by lia) fun h' tk acc hk hacc=>?_)
 have hsz:acc.size=n:=hacc.1
 refine wpAny_bind (wpAny_newList ?_ (by rw [sizeLine_eq,Array.length_toList];lia))
 have k1:Step G V s { s with heap:=h'.push (seqObj "list" acc.toList.toArray 0),toks:=tk }:=.of_heap fun b o e=>Heap.get?_push_of_some _ (hk b o e)
 have hoL:(h'.push (seqObj "list" acc.toList.toArray 0)).get? h'.objs.size=some (seqObj "list" acc.toList.toArray 0):=Heap.get?_push_size _ rfl
 have new:s.heap.get? h'.objs.size=none:=by
  cases q:s.heap.get? h'.objs.size with
  | none=>rfl
  | some o=>exact absurd (Heap.lt_size (hk _ _ q)) (Nat.lt_irrefl _)
 have at':∀ i,i < n->∃ t,acc.toList.getD i Value.none=.int (a + i * c) t:=fun i hi=>by
  have hi':i < acc.size:=by lia
  refine ob1_1 (hacc.2 i acc[i] (by simp [hi'])) fun t e=>?_
  exact ⟨t,by rw [List.getD_eq_getElem?_getD];simp [hi',e]⟩
 refine wpAny_bind (wpAny_holding (wpAny_call_entry_kw slot_list_sort ⟨_,hoL,rfl⟩ entry_list_sort ?body (ksk_l1 _ _)))
 show wpAny (model G.prog G.w) A.in1.in1 (Builtin.«list.sort» ⟨[.ref h'.objs.size],[(Str.ofString "key",.ref C)]⟩) _ _ _
 rw [ksk_t1]
 have hl:acc.toList.length=n:=by rw [Array.length_toList];exact hsz
 refine Qgh (s:=s) (s₁:={ s with heap:=h'.push (seqObj "list" acc.toList.toArray 0),toks:=tk }) (lt:=lt) hV hb k1 new hoL (by lia) (by lia) hw (fun j x s' Q' E' hx k hq=>?_) (fun i j x y s' Q' hi hj k hkx hky hq=>?_) fun p s' c' hp k hc=>?_
 ·have hj:j < n:=by rw [← hl];exact (List.getElem?_eq_some_iff.mp hx).1
  refine ob1_1 (at' j hj) fun t' e=>?_
  rw [List.getD_eq_getElem?_getD,hx] at e
  exact hmake x s' Q' E' ⟨j,t',hj,e⟩ k hq
 ·refine ob1_1 (at' i (by lia)) fun t1 e1=>?_
  refine ob1_1 (at' j (by lia)) fun t2 e2=>?_
  rw [e1] at hkx
  rw [e2] at hky
  exact hask i j x y t1 t2 s' Q' (by lia) (by lia) k hkx hky hq
 ·rw [hl] at hp
  exact in1_2 _ rfl (wpAny_pure ⟨_,rfl,h p s' _ acc hp k new hacc ⟨c',hc⟩⟩)
end
section
variable {G:Amb}{n:Nat}{V:Addr->Prop}{ks:Qi}
theorem Good.in1{A:Around}{h:Heap}(g:Good G (n + 1) A h):Good G n A.in1 h:=by
 refine ⟨g.base,g.handled,?_,?_,?_⟩
 ·have:=g.depth
  show A.depth + n < 1000
  lia
 ·have:=g.units
  show A.units + 1 + 20 * n < 9000
  lia
 ·exact g.stk
theorem Good.in2{A:Around}{h:Heap}(g:Good G (n + 1) A h):Good G n A.in1.in1 h:=by
 refine ⟨g.base,g.handled,?_,?_,?_⟩
 ·have:=g.depth
  show A.depth + n < 1000
  lia
 ·have:=g.units
  show A.units + 1 + 1 + 20 * n < 9000
  lia
 ·exact g.stk
structure Qe6 (G:Amb) (i:Nat) (P:Addr):Prop where
 dt:DefTab G i P
 bm:G.h₀.BuiltinsAt G.mg P
 p0:G.h₀.get? P=none
theorem Qaz{h h':Heap}{mg:Str->Option Value}{P:Addr}(b:h.BuiltinsAt mg P)(k:h.StaysIn h'):h'.BuiltinsAt mg P:=by
 refine ob2_6 b fun bm o h1 h2 h3 h4 h5 h6=>?_
 exact in2_6 bm o h1 h2 h3 h4 (k _ _ h5) h6
theorem Qg3{A:Around}{env:Env}{s:Shared}{W:Addr->Prop}{ρ:Qf}{params:Arguments}{body:Expr}{scope:Scope}{pos:Pos}{cd P:Addr}{clos:List (Str × Addr)}{Q:Value->Shared->Prop}{E:Value->Shared->Prop}(AG:Qv G)(bm:G.h₀.BuiltinsAt G.mg P)(p0:G.h₀.get? P=none)
  (c:Cx G n V ks A env s W ρ)(hV:V P)(hcode:env.code=.ref cd)(C:CodeHd G.h₀ cd P)(hP:s.heap.get? P=some (tabObj #[]))(hdef:defaultsOf params env=([],[]))(hcl:closureFor scope env=pure clos)
  (h:∀ f c' ctv pm s',Step G V s s'->s.heap.get? f=none->s.heap.get? c'=none->s'.heap.get? f=some (kla_obj "<lambda>" (env.qual ++ "<lambda>") params body scope clos pm c' ctv)->s'.heap.CodeRec (.ref c') (env.qual ++ "<lambda>")->
   s'.heap.get? P=some (tabObj #[rawInt pos.line,rawInt pos.col,.ref c'])->Heap.ExtBut P s.heap s'.heap->Q (.ref f) s'):wpAny (model G.prog G.w) A (eval (.Lambda params body scope pos) env) Q E s:=by
 have hgP:mainGlobals≠P:=fun q=>by
  refine ob3_2 AG.g fun o es ep e _=>?_
  rw [q,p0] at e;exact nSo e
 refine kla_eval hdef (kla_makeFunction hcl c.ok.globals (AG.g.keeps c.good.base) hcode (C.keeps c.good.base) hP trivial rfl hgP (Qaz bm c.good.base) fun c' ctv h' tk hx hge hlt hrec htb=>?_)
 have hx2:Heap.ExtBut P s.heap (h'.push (kla_obj "<lambda>" (env.qual ++ "<lambda>") params body scope clos ((G.mg "__name__").getD .none) c' ctv)):=fun b hb o e=>Heap.get?_push_of_some _ (hx b hb o e)
 have htb2:=Heap.get?_push_of_some (kla_obj "<lambda>" (env.qual ++ "<lambda>") params body scope clos ((G.mg "__name__").getD .none) c' ctv) htb
 have hle:s.heap.objs.size <= h'.objs.size:=Nat.le_of_lt (Nat.lt_of_le_of_lt hge hlt)
 refine h h'.objs.size c' ctv _ _ (Qd4 hx2 hV p0 ⟨_,htb2⟩ (fun o e t=>by rw [hP] at e;obtain rfl:=Qo e;cases t.1) (Jr hP (by intro q;cases q)) (fun _=>⟨_,htb2⟩)) (Heap.get?_none_of_le hle) (Heap.get?_none_of_le hge) (Heap.get?_push_size _ rfl) (Heap.CodeRec.at hrec fun o e=>Heap.get?_push_of_some _ e) (by simpa using htb2) hx2
theorem lam_hit{A:Around}{env:Env}{s:Shared}{W:Addr->Prop}{ρ:Qf}{params:Arguments}{body:Expr}{scope:Scope}{pos:Pos}{cd P c':Addr}{clos:List (Str × Addr)}{Q:Value->Shared->Prop}{E:Value->Shared->Prop}(AG:Qv G)(bm:G.h₀.BuiltinsAt G.mg P)
  (c:Cx G n V ks A env s W ρ)(hcode:env.code=.ref cd)(C:CodeHd G.h₀ cd P)(hP:s.heap.get? P=some (tabObj #[rawInt pos.line,rawInt pos.col,.ref c']))(hdef:defaultsOf params env=([],[]))(hcl:closureFor scope env=pure clos)
  (h:∀ f ctv pm s',Step G V s s'->s.heap.get? f=none->s'.heap.get? f=some (kla_obj "<lambda>" (env.qual ++ "<lambda>") params body scope clos pm c' ctv)->(∀ b o,s.heap.get? b=some o->s'.heap.get? b=some o)->Q (.ref f) s'):
  wpAny (model G.prog G.w) A (eval (.Lambda params body scope pos) env) Q E s:=by
 refine kla_eval hdef (kla_makeFunctionHit hcl c.ok.globals (AG.g.keeps c.good.base) hcode (C.keeps c.good.base) hP trivial (cv:=.ref c') (by simp [codeAmong,rawInt]) (Qaz bm c.good.base) fun ctv h' tk hk hle=>?_)
 have hk2:∀ b o,s.heap.get? b=some o->(h'.push (kla_obj "<lambda>" (env.qual ++ "<lambda>") params body scope clos ((G.mg "__name__").getD .none) c' ctv)).get? b=some o:=fun b o e=>Heap.get?_push_of_some _ (hk b o e)
 exact h h'.objs.size ctv _ _ (.of_heap hk2) (Heap.get?_none_of_le hle) (Heap.get?_push_size _ rfl) hk2
end
noncomputable def Qdz:Arguments:={ posonlyargs:=[],args:=[{ arg:="one",annotation:=none,pos:=⟨186,52,186,55⟩ },{ arg:="other",annotation:=none,pos:=⟨186,57,186,62⟩ }],vararg:=none,kwonlyargs:=[],kw_defaults:=[],kwarg:=none,defaults:=[] }
noncomputable def Qix:Expr:=.Call (.Name "three_way_cmp" ⟨186,64,186,77⟩) [.Subscript (.Name "rows" ⟨186,78,186,82⟩) (.Name "one" ⟨186,83,186,86⟩) ⟨186,78,186,87⟩,.Subscript (.Name "rows" ⟨186,89,186,93⟩) (.Name "other" ⟨186,94,186,99⟩) ⟨186,89,186,100⟩] [] ⟨186,64,186,101⟩
noncomputable def cgScope:Scope:={ kind:=.function,names:=[("one",.local),("other",.local),("rows",.free),("three_way_cmp",.globalImplicit)],isGenerator:=false,isCoroutine:=false,more:=[] }
noncomputable def cgLam:Expr:=.Lambda Qdz Qix cgScope ⟨186,45,186,101⟩
noncomputable def Qhh:Expr:=.Call (.Name "range" ⟨186,19,186,24⟩) [.Constant (.int 16) 0 ⟨186,25,186,27⟩] [] ⟨186,19,186,28⟩
noncomputable def cgKey:Expr:=.Call (.Name "cmp_to_key" ⟨186,34,186,44⟩) [cgLam] [] ⟨186,34,186,102⟩
noncomputable def cgSt:Stmt:=.Assign [.Name "order" ⟨186,4,186,9⟩] (.Call (.Name "sorted" ⟨186,12,186,18⟩) [Qhh] [⟨some "key",cgKey,⟨186,30,186,102⟩⟩] ⟨186,12,186,103⟩) ⟨186,4,186,103⟩
theorem body22:Jl 22=cgSt :: (Jl 22).tail:=by rfl
section
variable {G:Amb}{V:Addr->Prop}
noncomputable def cgF(F:List D->Option D):Qf->Option D:=fun ρ=>(((ρ (Str.ofString "rows")).bind fun a=>(ρ (Str.ofString "one")).bind fun b=>Qb5 a b).bind fun a=>((((ρ (Str.ofString "rows")).bind fun a=>(ρ (Str.ofString "other")).bind fun b=>Qb5 a b).bind fun a=>some [a]).map fun x=>a :: x)).bind F
theorem cg_names:Xs cgScope.names ["one","other"]:=Xm dk
theorem cg_body{F:List D->Option D}(AG:Qv G)(hF:FnOk G 1 V "three_way_cmp" F):Zo G 1 V cgScope.names Qix (cgF F):=
 Zw AG hF rfl (by lia) (fun _ h=>h) dk (Qc (fun _=>rfl) (Zu (fun _ _ _=>rfl) (Qb _ _ dk dk) (Qb _ _ dk dk)) (Qc (fun _=>rfl) (Zu (fun _ _ _=>rfl) (Qb _ _ dk dk) (Qb _ _ dk dk)) evs_nil))
theorem cg_eval{F:List D->Option D}{rows:List (List Str)}{ρ:Qf}{i j:Nat}(hE:∀ a b:List Str,F [Qz a,Qz b]=some (.data (.int (b3 a b))))(hz:rows.length <= 1000)(hi:i < rows.length)(hj:j < rows.length)
  (l1:ρ "rows"=some (Zy rows))(l2:ρ "one"=some (.data (.int (i:Nat))))(l3:ρ "other"=some (.data (.int (j:Nat)))):cgF F ρ=some (.data (.int (b3 (rows.getD i []) (rows.getD j [])))):=by
 unfold cgF
 rw [l1,l2,l3,Option.bind_some,Option.bind_some,Option.bind_some,Option.bind_some,Qc8 hi hz,Qc8 hj hz,Option.bind_some,Option.bind_some,Option.map_some,Option.bind_some]
 exact hE _ _
noncomputable def cgC(r:D):Qf:=fun y=>if y="rows" then some r else none
theorem cg_vars(r a b:D):Zl cgScope.names ["one","other"] [a,b] (cgC r) "rows"=some r∧Zl cgScope.names ["one","other"] [a,b] (cgC r) "one"=some a∧Zl cgScope.names ["one","other"] [a,b] (cgC r) "other"=some b:=⟨rfl,rfl,rfl⟩
theorem cg_clo{h:Heap}{cc:Addr}{rv:Value}{r:D}(nV:¬ V cc)(hcell:h.IsCell cc (some rv))(hr:Rep G h V rv r):Qfl G V h V cgScope.names [(("rows":Str),cc)] (cgC r):=by
 have only:∀ y,cgScope.names.lookup y=some .free->y=("rows":Str):=fun y hy=>by
  have h2:cgScope.names.all (fun p=>!(p.2 == .free) || p.1 == ("rows":Str))=true:=by decide +kernel
  have h3:=List.all_eq_true.mp h2 _ (mem_of_lookup hy)
  simpa using h3
 have lk:∀ y c,[(("rows":Str),cc)].lookup y=some c->y=("rows":Str)∧c=cc:=fun y c e=>by
  rw [List.lookup_cons] at e
  cases hb:y == ("rows":Str) with
  | true=>rw [hb] at e;obtain rfl:=Qo e;exact ⟨eq_of_beq hb,rfl⟩
  | false=>rw [hb] at e;exact nSo e
 refine ⟨fun y hy=>⟨cc,by rw [only y hy];simp⟩,fun y c e=>?_,fun y y' c e e'=>(lk _ _ e).1.trans (lk _ _ e').1.symm,fun y d hy hd=>?_⟩
 ·refine Qx (lk _ _ e) ?_;rintro _ rfl
  exact ⟨nV,_,hcell⟩
 ·have hy':=only y hy
  subst hy'
  unfold cgC at hd
  rw [if_pos rfl] at hd
  obtain rfl:=Qo hd
  exact in2_3 cc _ (by simp) hcell hr
theorem cg_call{F:List D->Option D}{A:Around}{s:Shared}{rows:List (List Str)}{f c' cc:Addr}{ctv pm rv:Value}{q:Str}{i j:Nat}{ti tj:Tok}{Q:Value->Shared->Prop}{E:Value->Shared->Prop}(AG:Qv G)(hF:FnOk G 1 V "three_way_cmp" F)(hE:∀ a b:List Str,F [Qz a,Qz b]=some (.data (.int (b3 a b))))
  (good:Good G 2 A s.heap)(live:∀ a,V a->∃ o,s.heap.get? a=some o)(hf:s.heap.get? f=some (kla_obj "<lambda>" q Qdz Qix cgScope [("rows",cc)] pm c' ctv))(hcr:s.heap.CodeRec (.ref c') q)(hcell:s.heap.IsCell cc (some rv))(nV:¬ V cc)
  (hr:Rep G s.heap V rv (Zy rows))(hz:rows.length <= 1000)(hi:i < rows.length)(hj:j < rows.length)
  (h:∀ t s',Step G V s s'->Q (.int (b3 (rows.getD i []) (rows.getD j [])) t) s'):wpAny (model G.prog G.w) A (call (.ref f) [.int (i:Nat) ti,.int (j:Nat) tj]) Q E s:=by
 refine Jo (cg_vars (Zy rows) (.data (.int (i:Nat))) (.data (.int (j:Nat)))) fun l1 l2 l3=>?_
 refine Qiy (n:=1) (V:=V) (W:=V) (fd:=kla_fn "<lambda>" q Qdz Qix cgScope [(("rows":Str),cc)] pm (.ref c') ctv) (xs:=["one","other"]) (us:=[.int (i:Nat) ti,.int (j:Nat) tj]) (ds:=[.data (.int (i:Nat)),.data (.int (j:Nat))])
  (d:=.data (.int (b3 (rows.getD i []) (rows.getD j [])))) AG good ⟨fun _ h=>h,live⟩ hf rfl hcr rfl rfl rfl rfl rfl rfl cg_names (.of_eq rfl)
  ⟨RepD.int _ _,RepD.int _ _,trivial⟩ (cg_clo nV hcell hr) (cg_body AG hF) (cg_eval hE hz hi hj l1 l2 l3) fun v s' k r=>?_
 refine ob1_1 (RepD.int_inv r) ?_;rintro t rfl
 exact h t s' k
end
theorem b3_neg(a b:List Str):decide (b3 a b < 0)=ltL a b:=by
 unfold b3
 cases h:ltL a b with
 | true=>rw [Qat a b h];rfl
 | false=>cases ltL b a <;> rfl
noncomputable def Qd9(rows:List (List Str))(i j:Nat):Bool:=ltL (rows.getD i []) (rows.getD j [])
theorem Xo(rows:List (List Str)):Qdh (Qd9 rows):=weak_of fun i=>rows.getD i []
theorem Qjn{lt lt2:Nat->Nat->Bool}{n:Nat}{p q:Array Nat}(w:Qdh lt)(h:Pst lt n p n)(h':Pst lt2 n q n)(same:∀ i j,i < n->j < n->LT' lt2 i j->LT' lt i j):p.toList=q.toList:=by
 refine Qx (Xb h) fun a b=>?_
 refine Qx (Xb h') fun c d=>?_
 refine Qb1 (Qh8 w) (b.trans d.symm) a (List.Pairwise.imp_of_mem (fun {i j} hi hj r=>same i j ?_ ?_ r) c)
 ·exact List.mem_range.mp (d.mem_iff.mp hi)
 ·exact List.mem_range.mp (d.mem_iff.mp hj)
theorem Qea(rows:List (List Str)){i:Nat}(hi:i < 16):prG (Xd rows) i=(rows.getD i [],((i:Nat):Int)):=by
 unfold prG Xd
 rw [List.getD_eq_getElem?_getD,List.getElem?_map,List.getElem?_range hi]
 rfl
theorem Ql6(rows:List (List Str)):Xi (ltP (Xd rows)) 16=Xi (Qd9 rows) 16:=by
 refine (Qjn (Xo rows) (Jd (Xo rows) (by decide)) (Jd (Qcb (Xd rows)) (by decide)) fun i j hi hj r=>?_).symm
 unfold LT' at r ⊢
 unfold ltP at r
 rw [Qea rows hi,Qea rows hj] at r
 simp only at r
 show ltL (rows.getD i []) (rows.getD j [])=true∨(ltL (rows.getD j []) (rows.getD i [])=false∧i < j)
 by_cases e:rows.getD i []=rows.getD j []
 ·rw [if_pos e,if_pos e.symm] at r
  right
  rw [e]
  refine ⟨ltL_irr _,?_⟩
  simp only [decide_eq_true_eq,decide_eq_false_iff_not] at r
  lia
 ·rw [if_neg e,if_neg (Ne.symm e)] at r
  rcases r with r | ⟨r,_⟩
  ·exact .inl r
  ·refine .inl ?_
   cases q:ltL (rows.getD i []) (rows.getD j []) with
   | true=>rfl
   | false=>exact absurd (Jt _ _ q r) e
theorem Qeb{h:Heap}{W:Addr->Prop}{acc:Array Value}{n:Nat}(ha:ItemsOf (fun i v=>∃ t,v=Value.int (0 + i * 1) t) acc n):∀ l:List Nat,(∀ i ∈ l,i < n)->
  RepDs h W (l.map fun i=>acc.toList.getD i Value.none) ((l.map fun k=>((k:Nat):Int)).map .int)
 | [],_=>.nil
 | i :: l,hl=>by
  rw [List.map_cons,List.map_cons,List.map_cons]
  refine .cons ?_ (Qeb ha l fun j hj=>hl j (.tail _ hj))
  have hi:i < acc.size:=by rw [ha.1];exact hl i (.head _)
  refine ob1_1 (ha.2 i acc[i] (by simp [hi])) fun t e=>?_
  have e2:acc.toList.getD i Value.none=.int (i:Nat) t:=by rw [List.getD_eq_getElem?_getD];simp [hi,e]
  rw [e2]
  exact RepD.int _ _
section
variable {G:Amb}{V:Addr->Prop}
theorem cg_range{A:Around}{env:Env}{s:Shared}{W:Addr->Prop}{ρ:Qf}{n:Nat}{Q:Value->Shared->Prop}{E:Value->Shared->Prop}(AG:Qv G)(FO:Zp G)(c:Cx G n V (Qe 22).names A env s W ρ)
  (h:∀ r t u v s',Step G V s s'->s.heap.get? r=none->IsRange s'.heap r 0 16 1 t u v->(∀ b o,s.heap.get? b=some o->s'.heap.get? b=some o)->Q (.ref r) s'):wpAny (model G.prog G.w) A (eval Qhh env) Q E s:=by
 unfold Qhh
 refine wpAny_Call_NameR (Qh AG c.good.base c.ok rfl (FO _ dk) PyProof.Rows.Boot.«range» (by decide) (by decide) ?_)
 refine PySem.callWith_type (by rfl) (Zm (by rfl) ?_)
 refine spliced_more (e:=.Constant (.int 16) 0 ⟨186,25,186,27⟩) (rest:=[]) ?_
 refine wpAny_Constant_int (Calls.spliced_nil ?_)
 refine call_range_1 ?_
 have k:∀ b o,s.heap.get? b=some o->(s.heap.push { cls:=.type "range",data:=.fields #[.int 0 (s.toks + 1),.int 16 s.toks,.int 1 (s.toks + 1 + 1)] }).get? b=some o:=fun b o e=>Heap.get?_push_of_some _ e
 exact h _ _ _ _ _ (.of_heap fun b o e=>Heap.get?_push_of_some _ e) (Heap.get?_none_of_le (Nat.le_refl _)) (IsRange.new ..) fun b o e=>Heap.get?_push_of_some _ e
theorem Qmv{env:Env}{cc:Addr}(h:env.cells.lookup ("rows":Str)=some cc):closureFor cgScope env=pure [(("rows":Str),cc)]:=by
 have e:cellOf env ("rows":Str)=pure cc:=by unfold cellOf;rw [h]
 unfold closureFor cgScope
 simp only [List.forIn_cons,List.forIn_nil,pure_bind,bind_assoc,show (NameKind.local == NameKind.free)=false from rfl,show (NameKind.free == NameKind.free)=true from rfl,show (NameKind.globalImplicit == NameKind.free)=false from rfl,Bool.false_eq_true,if_false,if_true,e]
structure CgKey (G:Amb) (V:Addr->Prop) (q:Str) (cc C f:Addr) (s':Shared):Prop where
 cls:KCls G V s'.heap C (.ref f)
 ob:∃ pm c' ctv,s'.heap.get? f=some (kla_obj "<lambda>" q Qdz Qix cgScope [(("rows":Str),cc)] pm c' ctv)∧s'.heap.CodeRec (.ref c') q∧¬ V f∧¬ V c'
theorem CgKey.step{q:Str}{cc C f:Addr}{s s':Shared}(x:CgKey G V q cc C f s)(k:Step G V s s'):CgKey G V q cc C f s':=by
 obtain ⟨kc,pm,c',ctv,h1,h2,h3,h4⟩:=x
 exact ⟨kc.step k,pm,c',ctv,k.exact h1 (.inl h3) (by show Value.type "function"≠_;decide),Xv k h2 h4,h3,h4⟩
theorem cg_key{A:Around}{env:Env}{s:Shared}{W:Addr->Prop}{ρ:Qf}{n:Nat}{cd cc P P5 fc:Addr}{Q:Value->Shared->Prop}{E:Value->Shared->Prop}(AG:Qv G)(FO:Zp G)(K:KOk G P5)(L:Qe6 G 22 P)(c:Cx G (n + 2) V (Qe 22).names A env s W ρ)
  (hV:V P)(hV5:V P5)(ne:P5≠P)(hP:s.heap.get? P=some (tabObj #[]))(hP5:s.heap.get? P5=some (tabObj #[]))(hfc:G.mg "cmp_to_key"=some (.ref fc))(hcode:env.code=.ref cd)(CH:CodeHd G.h₀ cd P)(hcc:env.cells.lookup ("rows":Str)=some cc)
  (h:∀ C f s',Step G V s s'->CgKey G V (env.qual ++ "<lambda>") cc C f s'->Q (.ref C) s'):wpAny (model G.prog G.w) A (eval cgKey env) Q E s:=by
 unfold cgKey
 refine ob5_5 K.dt.ex fun fa o pm5 c5 doc5 ho hdat hcr hcd hm=>?_
 rw [show Jn 5=("cmp_to_key":Str) from rfl] at hm;replace hm:=hm
 have hfa:fa=fc:=by rw [hfc] at hm;cases hm;rfl
 subst hfa
 refine wpAny_Call_NameR (Xc AG c.good.base c.ok rfl hfc dk ?_)
 refine callWith_of (P:=fun h=>G.h₀.StaysIn h) (by rfl) (fun h hb=>⟨.frame,.inl rfl,(Looks.ld (part:=none) (hb _ _ ho)).andThen (by rw [hdat];exact .now)⟩) (Zm (by rfl) ?_)
 refine spliced_more (e:=cgLam) (rest:=[]) ?_
 unfold cgLam
 refine Qg3 AG L.bm L.p0 c hV hcode CH hP rfl (Qmv hcc) fun f c' ctv pm s₁ k1 nf nc hf hr ht hx=>?_
 have c1:=c.step k1
 refine Calls.spliced_nil ⟨c1.good.base,?_⟩
 have nVf:¬ V f:=fun q=>by refine ob1_1 (c.excl.live _ (c.excl.sub _ q)) fun o e=>?_;rw [nf] at e;exact nSo e
 have nVc:¬ V c':=fun q=>by refine ob1_1 (c.excl.live _ (c.excl.sub _ q)) fun o e=>?_;rw [nc] at e;exact nSo e
 refine call_ctk AG FO K c1.good c1.excl hV5 (hx _ _ ne hP5) hfc fun C s2 k2 kc=>?_
 exact h C f s2 (k1.trans k2) ⟨kc,pm,c',ctv,k2.exact hf (.inl nVf) (by show Value.type "function"≠_;decide),Xv k2 hr nVc,nVf,nVc⟩
end
section
variable {G:Amb}[Qab G] {V:Addr->Prop}
theorem Qif{s s':Shared}{r:Addr}{a b c:Int}{t u v:Tok}(k:Step G V s s')(h:IsRange s.heap r a b c t u v)(nV:¬ V r):IsRange s'.heap r a b c t u v:=
 k.exact h (.inl nV) (by show Value.type "range"≠_;decide)
theorem cg_sort{F:List D->Option D}{A:Around}{env:Env}{s:Shared}{W O:Addr->Prop}{ρ:Qf}{rows:List (List Str)}{cd cc P P5 fc:Addr}{rv:Value}{Q:Flow->Shared->Prop}{E:Value->Shared->Prop}(AG:Qv G)(FO:Zp G)(hF:FnOk G 1 V "three_way_cmp" F)(hE:∀ a b:List Str,F [Qz a,Qz b]=some (.data (.int (b3 a b))))(K:KOk G P5)(L:Qe6 G 22 P)
  (c:Cx G 4 V (Qe 22).names A env s W ρ)(ow:Own G (Qe 22).names env W O)
  (hV:V P)(hV5:V P5)(ne:P5≠P)(hP:s.heap.get? P=some (tabObj #[]))(hP5:s.heap.get? P5=some (tabObj #[]))(hfc:G.mg "cmp_to_key"=some (.ref fc))(hcode:env.code=.ref cd)(CH:CodeHd G.h₀ cd P)(hcc:env.cells.lookup ("rows":Str)=some cc)
  (hcell:s.heap.IsCell cc (some rv))(nV:¬ V cc)(hr:Rep G s.heap V rv (Zy rows))(hz:rows.length=16)
  (h:∀ s',Step G (Or2 V O) s s'->Cx G 4 V (Qe 22).names A env s' W (upd ρ "order" (Xa ((Xi (Qd9 rows) 16).map fun k=>((k:Nat):Int))))->Q .next s'):
  wpAny (model G.prog G.w) A (exec cgSt env) Q E s:=by
 unfold cgSt
 refine wpAny_Assign_Name ?_ (by rfl)
 refine wpAny_Call_Name_kw (Qh AG c.good.base c.ok rfl (FO _ dk) PyProof.Rows.Boot.«sorted» dk dk ?_)
 refine callWith_kw (spliced_more (e:=Qhh) (rest:=[]) (cg_range AG FO c fun r t u v s₁ k1 nr hr1 kk=>Calls.spliced_nil ?_))
 have c1:=c.step k1
 have nVr:¬ V r:=fun q=>by refine ob1_1 (c.excl.live _ (c.excl.sub _ q)) fun o e=>?_;rw [nr] at e;exact nSo e
 refine kws_cons (cg_key (n:=2) AG FO K L c1 hV hV5 ne (kk _ _ hP) (kk _ _ hP5) hfc hcode CH hcc fun C f s2 k2 key=>kws_nil ?_)
 have c₂:=c1.step k2
 have kk2:=k1.trans k2
 show wpAny _ _ (call (.builtin "sorted") [.ref r] [(Str.ofString "key",.ref C)]) _ _ _
 have live2:∀ a,V a->∃ o,s2.heap.get? a=some o:=fun a ha=>c₂.excl.live a (c₂.excl.sub a ha)
 refine Qls (V:=V) (n:=16) (lt:=Qd9 rows) live2 (Zd c₂.good) c₂.good.cold (Qif k2 hr1 nVr) dk (by rfl) (by decide) (by decide) (Xo rows) ?_ ?_ ?_
 ·intro x s3 Q' E' z0;refine ob2_2 z0 ?_;rintro j tj hj rfl;rintro k3 hq
  have c3:=c₂.step k3
  exact key_make (n:=1) AG c3.good.in2 c3.excl (key.step k3).cls fun y s4 k4 _ hk=>hq y s4 k4 hk
 ·intro i j x y ti tj s3 Q' hi hj k3 hx hy hq
  have e:∀ m:Nat,(0:Int) + m * 1=(m:Nat):=fun m=>by lia
  rw [e] at hx hy
  have c3:=c₂.step k3
  obtain ⟨kc,pm,c',ctv,hf,hcr,nVf,nVc⟩:=key.step k3
  refine key_lt (n:=2) (k:=b3 (rows.getD i []) (rows.getD j [])) AG c3.good.in2 c3.excl kc hx hy rfl rfl nVf hf rfl (by show Value.type "function"≠_;decide) (fun A' s' W' Q'' E'' k' g' ex' hq'=>?_) fun s' k'=>?_
  ·have kall:=(kk2.trans k3).trans k'
   refine cg_call AG hF hE g' (fun a ha=>ex'.live a (ex'.sub a ha)) (k'.exact hf (.inl nVf) (by show Value.type "function"≠_;decide)) (Xv k' hcr nVc) (Qao kall hcell nV) nV (hr.mono (kall.keepX fun _ h=>h)) (by lia) (by lia) (by lia) hq'
  ·rw [b3_neg]
   exact hq s' k'
 ·intro p s3 D acc hp k3 hD hacc hl
  have e1:p.toList=Xi (Qd9 rows) 16:=Qfr (Xo rows) hp (Jd (Xo rows) (by decide)) fun _ _ q=>q
  rw [e1] at hl
  have c3:=c₂.step k3
  have nW:¬ W D:=c₂.excl.fresh hD
  have rep:Rep G s3.heap W (.ref D) (Xa ((Xi (Qd9 rows) 16).map fun k=>((k:Nat):Int))):=
   RepD.list nW (Heap.PlainList.isList hl) (Qeb hacc _ fun i hi=>Qb0 (Xo rows) (by decide) hi)
  refine Qt c3 ow.sub ow.base (ow.store (.inr rfl) dk) rep fun s4 k4 c4=>h s4 (((kk2.trans k3).mono fun _=>.inl).trans (k4.mono fun _=>.inr)) c4
end
noncomputable def Qdj(rows:List (List Str)):List Nat:=Xi (Qd9 rows) 16
noncomputable abbrev ordD(rows:List (List Str)):D:=Xa ((Qdj rows).map fun k=>((k:Nat):Int))
noncomputable def Qbn(rows:List (List Str))(k:Nat):Bool:=!decide (rows.getD ((Qdj rows).getD k 0) []=rows.getD ((Qdj rows).getD (k + 1) 0) [])
noncomputable def changesN(rows:List (List Str)):Nat:=((List.range 15).filter (Qbn rows)).length
theorem Qjo(rows:List (List Str)):(Qdj rows).length=16:=Qd6 (Xo rows) (by decide)
theorem ord_lt(rows:List (List Str)){k:Nat}(h:k < 16):(Qdj rows).getD k 0 < 16:=by
 have hl:=Qjo rows
 rw [List.getD_eq_getElem?_getD,List.getElem?_eq_getElem (by lia)]
 exact Qb0 (Xo rows) (by decide) (List.getElem_mem _)
theorem ord_at(rows:List (List Str)){k:Nat}(h:k < 16):Qb5 (ordD rows) (.data (.int (k:Nat)))=some (.data (.int (((Qdj rows).getD k 0:Nat):Int))):=by
 have hl:=Qjo rows
 rw [idxD_l]
 have h1:(0:Int) <= (k:Nat)∧((k:Nat):Int) < 2 ^ 62:=⟨Int.natCast_nonneg _,by lia⟩
 have h2:k < (Qdj rows).length:=by lia
 simp only [h1,and_self,if_true,Int.toNat_natCast,List.getElem?_map,List.getD_eq_getElem?_getD,List.getElem?_eq_getElem h2,Option.map_some,Option.getD_some]
theorem b3_zero(a b:List Str):(b3 a b=0)↔a=b:=by
 unfold b3
 constructor
 ·intro h
  cases h1:ltL a b with
  | true=>rw [Qat a b h1,h1] at h;exact absurd h (by decide)
  | false=>
   cases h2:ltL b a with
   | true=>rw [h1,h2] at h;exact absurd h (by decide)
   | false=>exact Jt a b h1 h2
 ·rintro rfl
  lia
theorem ne_b3(a b:List Str):((neD (.data (.int (b3 a b))) (.data (.int 0))).bind trD)=some (!decide (a=b)):=by
 rw [Qjs]
 simp only [Qh5,Bool.and_self,if_true,Option.bind_some,Jz,PyData.eqv]
 congr 2
 by_cases h:a=b
 ·rw [decide_eq_true h,(b3_zero a b).mpr h];rfl
 ·rw [decide_eq_false h]
  have:=mt (b3_zero a b).mp h
  simpa using this
theorem Qbo{x y:Option D}{a b:D}{f:D->D->Option D}(hx:x=some a)(hy:y=some b):(x.bind fun a=>y.bind fun b=>f a b)=f a b:=by
 subst hx hy
 rfl
theorem cg_sub(k:Nat):Qi9 (.data (.int (1 + (k:Nat)))) (.data (.int 1))=some (.data (.int (k:Nat))):=by
 have e1:(1:Int) + (k:Nat) - 1=(k:Nat):=by lia
 rw [subD_i]
 simp only [e1]
theorem cg_succ(k:Nat):(some (D.data (.int (1 + (k:Nat)))))=some (D.data (.int ((k + 1:Nat):Int))):=by
 have e2:(1:Int) + (k:Nat)=((k + 1:Nat):Int):=by lia
 rw [e2]
theorem cg_fin{x y:Option D}{a b c:D}{F:List D->Option D}{z:Bool}(hx:x=some a)(hy:y=some b)(hF:F [a,b]=some c)(hn:((neD c (.data (.int 0))).bind trD)=some z):
  (((x.bind fun a=>Option.map (fun x=>a :: x) (y.bind fun a=>some [a])).bind F).bind fun a=>(neD a (D.data (PyData.int 0))).bind trD)=some z:=by
 subst hx hy
 show (F [a,b]).bind _=_
 rw [hF]
 exact hn
theorem cg_test{F:List D->Option D}{rows:List (List Str)}{ρ:Qf}{k:Nat}(hE:∀ a b:List Str,F [Qz a,Qz b]=some (.data (.int (b3 a b))))(hz:rows.length=16)(hk:k < 15)(l1:ρ (Str.ofString "rows")=some (Zy rows))(l2:ρ (Str.ofString "order")=some (ordD rows))(l3:ρ (Str.ofString "k")=some (.data (.int (1 + (k:Nat))))):
  (((((ρ (Str.ofString "rows")).bind fun a=>((ρ (Str.ofString "order")).bind fun a=>((ρ (Str.ofString "k")).bind fun a=>Qi9 a (D.data (PyData.int 1))).bind fun b=>Qb5 a b).bind fun b=>Qb5 a b).bind fun a=>
   Option.map (fun x=>a :: x) (((ρ (Str.ofString "rows")).bind fun a=>((ρ (Str.ofString "order")).bind fun a=>(ρ (Str.ofString "k")).bind fun b=>Qb5 a b).bind fun b=>Qb5 a b).bind fun a=>some [a])).bind F).bind fun a=>(neD a (D.data (PyData.int 0))).bind trD)=some (Qbn rows k):=by
 have s1:((ρ (Str.ofString "k")).bind fun a=>Qi9 a (D.data (PyData.int 1)))=some (.data (.int (k:Nat))):=by
  rw [l3,Option.bind_some]
  exact cg_sub k
 have i1:=(Qbo (f:=Qb5) l2 s1).trans (ord_at rows (k:=k) (by lia))
 have i2:=(Qbo (f:=Qb5) l2 (l3.trans (cg_succ k))).trans (ord_at rows (k:=k + 1) (by lia))
 have j1:=(Qbo (f:=Qb5) l1 i1).trans (Qc8 (by rw [hz];exact ord_lt rows (by lia)) (by lia))
 have j2:=(Qbo (f:=Qb5) l1 i2).trans (Qc8 (by rw [hz];exact ord_lt rows (by lia)) (by lia))
 exact cg_fin j1 j2 (hE _ _) (ne_b3 _ _)
section
variable {G:Amb}[Qab G] {V:Addr->Prop}
theorem cg_tail(AG:Qv G)(FO:Zp G)(h_3:∃ F,FnOk G 1 V "three_way_cmp" F∧∀ a b:List Str,F [Qz a,Qz b]=some (.data (.int (b3 a b))))
  (h_o:∃ F,FnOk G 1 V "_law_order" F∧∀ rows:List (List Str),rows.length=16->(∀ r ∈ rows,texty r)->F [Zy rows]=some (Xa ((Xi (ltP (Xd rows)) 16).map fun k=>((k:Nat):Int)))):
  ∃ g,ExOk G 4 V (Qe 22).names (Jl 22).tail g∧∀ (rows:List (List Str)) (ρ:Qf),rows.length=16->(∀ r ∈ rows,texty r)->ρ (Str.ofString "rows")=some (Zy rows)->ρ (Str.ofString "order")=some (ordD rows)->g ρ=some (.ret (.data (.int (changesN rows:Nat)))):=by
 refine ob1_2 h_3 fun F3 h_three_way_cmp e3=>?_
 refine ob1_2 h_o fun Fo h__law_order eo=>?_
 refine ⟨_,(Qk (Qgl (Ql Qfa Qq (Qb _ _ dk dk) (Zw AG h__law_order rfl (by lia) (fun _ h=>h) dk (Qc (fun _=>rfl) (Qb _ _ dk dk) evs_nil)) rfl) (Qk (Qu (ev_un Qkk (Qj _ _ _)))
  Zh) Zh)
  (Qk (Qu (Qip AG FO rfl (Qc (fun _=>rfl) (Jg dk (Xk AG rfl (FO _ dk) (Qc (fun _=>rfl) (Qj _ _ _) (Qc (fun _=>rfl) (Qj _ _ _) evs_nil))) (fun _ _=>rfl) (Qah (Ql Qfa Qq (Zw AG h_three_way_cmp rfl (by lia) (fun _ h=>h) dk (Qc (fun _=>rfl) (Zu (fun _ _ _=>rfl) (Qb _ _ dk dk) (Zu (fun _ _ _=>rfl) (Qb _ _ dk dk) (Zc Qef (Qb _ _ dk dk) (Qj _ _ _)))) (Qc (fun _=>rfl) (Zu (fun _ _ _=>rfl) (Qb _ _ dk dk) (Zu (fun _ _ _=>rfl) (Qb _ _ dk dk) (Qb _ _ dk dk))) evs_nil))) (Qj _ _ _) rfl)) (Qb _ _ dk dk)) evs_nil)))
  Zh)),?_⟩
 intro rows ρ hz ht l1 l2
 have eo':=eo rows hz ht
 rw [Ql6] at eo'
 have er:Zi [.data (.int 1),.data (.int 16)]=some ((List.range 15).map fun k=>D.data (.int (1 + (k:Nat)))):=by
  rw [Qfq ⟨by decide,by decide,by decide,by decide⟩];rfl
 have hl:((List.range 15).map fun k=>D.data (.int (1 + (k:Nat)))).length <= 1000:=by simp
 simp only [l1,l2,Option.bind_some,eo',Qdj,Qjr,Jz,decide_true,Bool.not_true,Bool.false_eq_true,if_false,Option.map_some,er,hl,if_true]
 rw [Xp (p:=Qbn rows) (q:=fun k=>D.data (.int (1 + (k:Nat)))) (fun k hk=>cg_test e3 hz (List.mem_range.mp hk) (by simp [upd,ofString_inj,l1]) (by simp [upd,ofString_inj,l2]) (Qd _ _ _)) (fun k _ _=>Qd _ _ _)]
 have hlen:((List.range 15).filter (Qbn rows)).length <= 15:=Nat.le_trans (List.length_filter_le _ _) (by simp)
 rw [Option.bind_some,pack_map]
 have h1000:((List.range 15).filter (Qbn rows)).length <= 1000:=by lia
 simp only [Option.bind_some,one_1,Qk2,lenD_e,List.length_map,h1000,if_true,Option.map_some,changesN]
end
structure FnAt (G:Amb) (n:Nat) (V:Addr->Prop) (P:Heap->Prop) (name:Str) (ds:List D) (d:D):Prop where
 ex:∃ fa o fd,G.mg name=some (.ref fa)∧G.h₀.get? fa=some o∧o.data=.func fd∧
  ∀ (A:Around) (s:Shared) (W:Addr->Prop) (vs:List Value) (Q:Value->Shared->Prop) (E:Value->Shared->Prop),P s.heap->Good G n A s.heap->Excl s.heap V W->RepL G s.heap W vs ds->
   (∀ v s',Step G V s s'->Rep G s'.heap W v d->Q v s')->wpAny (model G.prog G.w) A (call (.ref fa) vs) Q E s
section
variable {G:Amb}[Qab G] {V:Addr->Prop}
theorem Qmk{P P5 fc:Addr}{rows:List (List Str)}(AG:Qv G)(FO:Zp G)(h10:Xf G 10)(h23:Xf G 23)(K:KOk G P5)(L:Qe6 G 22 P)(hV:V P)(hV5:V P5)(ne:P5≠P)(hfc:G.mg "cmp_to_key"=some (.ref fc))(hz:rows.length=16)(ht:∀ r ∈ rows,texty r):
  FnAt G 5 V (fun h=>h.get? P=some (tabObj #[])∧h.get? P5=some (tabObj #[])) "_law_changes" [Zy rows] (.data (.int (changesN rows:Nat))):=by
 refine ob1_2 (Qha (V:=V) AG h10) fun F hF hE=>?_
 refine ob1_2 (cg_tail (V:=V) AG FO (Qha AG h10) (fn_order AG FO h23)) fun g hg eg=>?_
 refine ob5_5 L.dt.ex fun fa o pm cd doc ho hdat hcr hcd hm=>?_
 refine ⟨fa,o,_,hm,ho,hdat,fun A s W vs Q E hPs good ex r h=>?_⟩
 refine ob1_2 (Xr r) ?_;rintro v0 rfl rv
 refine wpAny_call (Qb7 (n:=4) (V:=V) (W:=W) (xs:=["rows"]) (ds:=[Zy rows]) AG good ex (good.base _ _ ho) hdat (hcr.keeps good.base) rfl r dk dk dk rfl rfl rfl dk ?_)
 intro s₁ env O E' k1 kk c1 ow hO hcode hqual hcells;refine Zf ?_;intro Q0 E0
 have cc1:∃ cc rv,env.cells.lookup ("rows":Str)=some cc∧O cc∧s₁.heap.IsCell cc (some rv)∧Rep G s₁.heap (fun a=>W a∨O a) rv (Zy rows):=by
  refine ob1_2 (c1.vars "rows" (Zy rows) dk rfl) fun v hs hv=>?_
  rcases hs with ⟨hk,_⟩ | ⟨hk,nd,cc,hcc,hcell⟩
  ·exact absurd hk (by unfold Env.kindOf;rw [c1.ok.names];decide +kernel)
  ·exact in2_4 cc v hcc (ow.cells "rows" cc rfl hcc) hcell hv
 refine ob2_4 cc1 fun cc rv' hcc hOcc hcell hrv=>?_
 have nV:¬ V cc:=fun q=>by refine ob1_1 (ex.live cc (ex.sub cc q)) fun o e=>?_;rw [hO cc hOcc] at e;exact nSo e
 rw [body22]
 refine wpAny_execs_cons (cg_sort AG FO hF hE K L c1 ow hV hV5 ne (kk _ _ hPs.1) (kk _ _ hPs.2) hfc hcode hcd hcc hcell nV (hrv.weak fun a ha=>.inl (ex.sub a ha)) hz fun s2 k2 c₂=>?_)
 refine hg _ _ _ _ _ _ _ _ _ c₂ ow (eg rows _ hz ht (by simp [upd,ofString_inj,Qp]) (by simp [upd,Qdj])) fun fl s3 k3 r₃=>?_
 refine ob1_2 r₃ ?_;rintro v rfl rr
 have k13:Step G V s s3:=k1.later (k2.trans k3) fun a ha=>ha.elim .inr fun q=>.inl (hO a q)
 exact h v s3 k13 (rr.weak fun a ha=>.inl ha)
end
noncomputable def fsOf(l:List Env):List Addr:=l.filterMap (·.frame)
noncomputable abbrev Qam(s0:Shared)(l0:List Env)(e:Addr):Heap:=hideAll s0.heap (e :: fsOf l0)
noncomputable def Frames(G:Amb)(h:Heap)(l:List Env):Prop:=∀ env ∈ l,env.scope.kind=.function∧∃ L,env.frame=some L∧FrmAt h L∧G.h₀.get? L=none
theorem Frames.tail{G:Amb}{h:Heap}{env:Env}{l:List Env}(x:Frames G h (env :: l)):Frames G h l:=fun e he=>x e (.tail _ he)
theorem Frames.step{G:Amb}{W:Addr->Prop}{s s':Shared}{l:List Env}(x:Frames G s.heap l)(k:Step G W s s'):Frames G s'.heap l:=fun env he=>by
 refine Qx (x env he) ?_;intro a z0;refine ob1_3 z0 fun L b c f=>?_
 exact ⟨a,L,b,k.frm L c,f⟩
theorem Frames.mem{G:Amb}{h:Heap}{l:List Env}(x:Frames G h l){b:Addr}(hb:b ∈ fsOf l):FrmAt h b∧G.h₀.get? b=none:=by
 refine ob1_2 (List.mem_filterMap.mp hb) fun env he hf=>?_
 obtain ⟨_,L,hL,f,g⟩:=x env he
 rw [hL] at hf
 obtain rfl:=Qo hf
 exact ⟨f,g⟩
theorem Frames.fun{G:Amb}{h base:Heap}:∀ {l:List Env},Frames G h l->(∀ b ∈ fsOf l,base.get? b=none)->h.FunFrames base l
 | [],_,_=>trivial
 | env :: r,x,k=>by
  refine Qx (x env (.head _)) ?_;intro hk z0;refine ob1_3 z0 ?_;rintro L hf ⟨o,e,c,es,m,d⟩ _
  refine Jw (by rw [hk];decide) ⟨L,o,hf,k L (by simp [fsOf,hf]),e,fun vs q=>by rw [d] at q;cases q⟩ (Frames.fun (fun e he=>x e (.tail _ he)) fun b hb=>k b ?_)
  refine ob1_2 (List.mem_filterMap.mp hb) fun e' he' hf'=>?_
  exact List.mem_filterMap.mpr ⟨e',.tail _ he',hf'⟩
structure Fly (G:Amb) (s0:Shared) (l0 l:List Env) (e:Addr) (X:String) (s:Shared):Prop where
 form:∃ h tk,s={ s0 with heap:=h,toks:=tk }
 fly:∃ a0,Heap.FlyingW (Qam s0 l0 e) l e (.type X) a0 s.heap
 up:s0.heap.UpToSlots s.heap
structure Held (G:Amb) (s0:Shared) (l0 l:List Env) (e:Addr) (X:String) (L:Addr) (s:Shared):Prop where
 form:∃ h tk,s={ s0 with heap:=h,toks:=tk }
 fly:∃ a0,Heap.HeldW (Qam s0 l0 e) l e (.type X) a0 L s.heap
 up:s0.heap.UpToSlots s.heap
structure Qbx (G:Amb) (l0:List Env) (e:Addr) (X:String) (s:Shared):Prop where
 ob:∃ oe vs,s.heap.get? e=some oe∧oe.cls=.type X∧oe.data=.fields vs∧vs[1]?=some .none
 fr:Frames G s.heap l0
 e0:G.h₀.get? e=none
section
variable {G:Amb}{s0 s:Shared}{l0 l:List Env}{e L:Addr}{X:String}
theorem Qeq(t:Qbx G l0 e X s0)(form:∃ h tk,s={ s0 with heap:=h,toks:=tk })(st:(Qam s0 l0 e).StaysIn s.heap)(he:∃ o,s.heap.get? e=some o)(up:s0.heap.UpToSlots s.heap):Step G (fun a=>a=e) s0 s:=by
 refine ob2_4 t.ob fun oe vs heo hec hed _=>?_
 have frm:∀ b,FrmAt s0.heap b->FrmAt s.heap b:=fun b ⟨o,ho,hc,es,m,hd⟩=>by
  obtain ⟨sl,hs⟩:=up b o ho fun vs q=>by rw [hd] at q;cases q
  exact in1_3 _ hs hc ⟨es,m,hd⟩
 have tab:∀ b,Qdq s0.heap b->Qdq s.heap b:=fun b z0=>ob1_1 z0 fun ps ho=>by
  refine ⟨ps,st b _ (hideAll_get _ ho fun q=>?_)⟩
  rcases List.mem_cons.mp q with q | q
  ·rw [q,heo] at ho
   obtain rfl:=Qo ho
   cases hec
  ·obtain ⟨⟨o',ho',hc,es,m,hd⟩,_⟩:=t.fr.mem q
   rw [ho] at ho'
   obtain rfl:=Qo ho'
   cases hd
 refine ⟨form,fun b o ho=>?_,fun b o h0 ho=>?_,frm,tab⟩
 ·by_cases hb:b=e
  ·subst hb
   obtain ⟨o',ho'⟩:=he
   refine in1_2 o' ho' (fun q=>(q.elim (fun n=>n rfl) fun t=>?_).elim)
   rw [heo] at ho
   obtain rfl:=Qo ho
   refine Qx t ?_;intro _ z0;refine ob2_1 z0 fun xs n hx=>?_
   rw [hed] at hx;replace hx:=hx
   cases hx
  ·by_cases hm:b ∈ fsOf l0
   ·obtain ⟨⟨o',ho',hc,es,m,hd⟩,_⟩:=t.fr.mem hm
    rw [ho] at ho';replace ho':=ho'
    cases ho'
    obtain ⟨sl,hs⟩:=up b o ho fun vs q=>by rw [hd] at q;cases q
    exact in1_2 _ hs (fun _=>⟨rfl,rfl,fun q=>absurd hc q⟩)
   ·refine in1_2 o (st b o (hideAll_get _ ho fun q=>?_)) (Same.refl _ _ _)
    rcases List.mem_cons.mp q with q | q
    ·exact hb q
    ·exact hm q
 ·refine st b o (hideAll_get _ ho fun q=>?_)
  rcases List.mem_cons.mp q with q | q
  ·rw [q,t.e0] at h0;exact nSo h0
  ·rw [(t.fr.mem q).2] at h0;exact nSo h0
theorem Fly.step(x:Fly G s0 l0 l e X s)(t:Qbx G l0 e X s0):Step G (fun a=>a=e) s0 s:=by
 refine ob1_1 x.fly fun a0 f=>?_
 refine ob1_2 f.there fun ob h1 _=>?_
 exact Qeq t x.form f.1 ⟨ob,h1⟩ x.up
theorem Held.step(x:Held G s0 l0 l e X L s)(t:Qbx G l0 e X s0):Step G (fun a=>a=e) s0 s:=by
 refine ob1_1 x.fly fun a0 f=>?_
 refine ob1_2 f.there fun ob h1 _=>?_
 exact Qeq t x.form f.1 ⟨ob,h1⟩ x.up
end
section
variable {M:Model}{A:Around}{E:Value->Shared->Prop}{G:Amb}{s0 s:Shared}{l0 outer:List Env}{env:Env}{e L:Addr}{X:String}{Q:Unit->Shared->Prop}
theorem Qda:∀ b ∈ fsOf l0,(Qam s0 l0 e).get? b=none:=fun b hb=>hideAll_none _ (List.mem_cons_of_mem _ hb)
theorem ground_e:(Qam s0 l0 e).get? e=none:=hideAll_none _ List.mem_cons_self
theorem Qc9:(Qam s0 l0 e).StaysIn s0.heap:=fun _ _ h=>of_hideAll _ h
theorem Fly.frame(f:Fly G s0 l0 (env :: outer) e X s):∃ L,env.frame=some L:=by
 refine ob1_4 f.fly ?_;intro a0 _ _ z0;refine Jo z0 ?_;rintro _ ⟨L,_,hf,_⟩ _;rintro _
 exact ⟨L,hf⟩
theorem note_on(hfr:A.frames=some (env :: outer))(hf:env.frame=some L)(f:Fly G s0 l0 (env :: outer) e X s)(h:∀ s',Held G s0 l0 (env :: outer) e X L s'->Q () s'):wpAny M A (noteFrame (.ref e) env) Q E s:=by
 obtain ⟨⟨h0,tk,rfl⟩,⟨a0,fl⟩,up⟩:=f
 exact wpAny_looks_onW hfr hf fl fun h' hh hu=>h _ ⟨⟨_,_,rfl⟩,⟨_,hh⟩,up.trans hu⟩
theorem land{l:List Env}(f:Held G s0 l0 l e X L s)(h:∀ s',Fly G s0 l0 l e X s'->Q () s'):wpAny M A (setFlight (.ref e) none) Q E s:=by
 obtain ⟨⟨h0,tk,rfl⟩,⟨a0,fl⟩,up⟩:=f
 exact wpAny_landsW fl fun h' hh hu=>h _ ⟨⟨_,_,rfl⟩,⟨_,hh⟩,up.trans hu⟩
theorem Qmc{l:List Env}(f:Fly G s0 l0 l e X s)(h:∀ s',Fly G s0 l0 l e X s'->Q () s'):wpAny M A (setFlight (.ref e) none) Q E s:=by
 obtain ⟨⟨h0,tk,rfl⟩,⟨a0,fl⟩,up⟩:=f
 exact lands_againW fl fun h' hh hu=>h _ ⟨⟨_,_,rfl⟩,⟨_,hh⟩,up.trans hu⟩
theorem Qmb(hf:env.frame=some L)(f:Held G s0 l0 (env :: outer) e X L s)(h:∀ s',Fly G s0 l0 outer e X s'->Q () s'):wpAny M A (leaving env (.ref e)) Q E s:=by
 unfold leaving
 obtain ⟨_,⟨a0,fl⟩,_⟩:=id f
 refine Qg (fun K k=>wpAny_noteFrame_againW hf fl.2.2.2 k) ?_
 refine land f fun s' f'=>h s' ⟨f'.form,?_,f'.up⟩
 refine ob1_4 f'.fly ?_;intro a0 k1 k2 z0;refine Jo z0 fun _ _ k3=>?_;rintro k4
 exact in1_4 a0 k1 k2 k3 k4
end
noncomputable def Ctx0(h:Heap)(e:Addr):Prop:=∃ oe vs,h.get? e=some oe∧oe.data=.fields vs∧vs[2]?=some Value.none
section
variable {M:Model}{A:Around}{E:Value->Shared->Prop}{G:Amb}{s0 s:Shared}{l0 outer:List Env}{env:Env}{e L:Addr}{X:String}{Q:Unit->Shared->Prop}
theorem Qei(hfr:A.frames=some (env :: outer))(t:Qbx G (env :: outer) e X s)(c:Ctx0 s.heap e)(hf:env.frame=some L)(h:∀ s',Held G s (env :: outer) (env :: outer) e X L s'->Ctx0 s'.heap e->Q () s'):
  wpAny M A (noteFrame (.ref e) env) Q E s:=by
 refine ob2_4 t.ob fun oe vs he hec hd h1=>?_
 have h2:vs[2]?=some Value.none:=by
  refine ob2_3 c fun oe' vs' e' d' h2=>?_
  rw [he] at e';obtain rfl:=Qo e'
  rw [hd] at d';cases d'
  exact h2
 have hsz:1 < vs.size:=(Array.getElem?_eq_some_iff.mp h1).1
 have hl:s.heap.FunFrames (Qam s (env :: outer) e) (env :: outer):=t.fr.fun Qda
 have hene:e ∉ (env :: outer).filterMap (·.frame):=fun hm=>by
  refine Qx (hl.mem hm) ?_;intro _ z0;refine ob1_2 z0 fun o ho hnf=>?_
  rw [he] at ho;obtain rfl:=Qo ho;exact hnf vs hd
 unfold noteFrame
 simp only [hf]
 refine wpAny_bind (wpAny_field he hd h1 ?_)
 rw [if_neg (by decide)]
 refine wpAny_bind (wpAny_frameOf_fun hfr hl hf fun h₁ hs1=>?_)
 refine wpAny_bind (wpAny_entryPlaceOf fun pl hpl=>?_)
 unfold EntryCells.newEntry newFields
 refine wpAny_bind (wpAny_newObj_type ?_ (hpl.sizeOk5 _ _ _ _ _))
 have he1:h₁.get? e=some oe:=(hs1.2.1 e hene).trans he
 have kb1:(Qam s (env :: outer) e).StaysIn h₁:=fun b o hbo=>(hs1.2.1 b fun hm=>by rw [(hl.mem hm).1] at hbo;exact nSo hbo).trans (Qc9 b o hbo)
 have he2:=Heap.get?_push_of_some (h:=h₁) { cls:=.type "traceback",dict:=none,data:=.fields ([Value.none,.ref L,.none,rawInt L,.none] ++ (if pl.isEmpty then List.replicate 6 Value.none else pl)).toArray } he1
 refine wpAny_setField he2 hd hsz (h _ ?_ ?_)
 all_goals
  have hTe:h₁.objs.size≠e:=Nat.ne_of_gt (Heap.lt_size he1)
  have hd3:=Obj.data_mapFields hd (·.setIfInBounds 1 (Value.ref h₁.objs.size))
  have he3:=Heap.get?_update_self (Obj.mapFields (·.setIfInBounds 1 (Value.ref h₁.objs.size))) he2 (Obj.isFreed_of_fields hd3)
 ·have hT3:=(Heap.get?_update_other (h₁.push { cls:=.type "traceback",dict:=none,data:=.fields ([Value.none,.ref L,.none,rawInt L,.none] ++ (if pl.isEmpty then List.replicate 6 Value.none else pl)).toArray })
   (Obj.mapFields (·.setIfInBounds 1 (Value.ref h₁.objs.size))) (Ne.symm hTe)).trans (Heap.get?_push_size h₁ rfl)
  have keep:∀ b o,b≠e->h₁.get? b=some o->
    ((h₁.push { cls:=.type "traceback",dict:=none,data:=.fields ([Value.none,.ref L,.none,rawInt L,.none] ++ (if pl.isEmpty then List.replicate 6 Value.none else pl)).toArray }).update e (Obj.mapFields (·.setIfInBounds 1 (Value.ref h₁.objs.size)))).get? b=some o:=
   fun b o hbe hb=>by
    rw [Heap.get?_update_other _ _ (Ne.symm hbe)]
    exact Heap.get?_push_of_some _ hb
  have noRecord:∀ b o,s.heap.get? b=some o->(∀ vs,o.data≠.fields vs)->b≠e:=fun b o hb hnf q=>by
   rw [q,he] at hb;cases hb;exact hnf vs hd
  refine ⟨⟨_,_,rfl⟩,⟨vs[0],fun b o hbo=>keep b o (fun q=>by rw [q,ground_e] at hbo;exact nSo hbo) (kb1 b o hbo),ground_e,hl.of_keeps fun b o hb hnf=>?_,?_⟩,fun b o hb hnf=>?_⟩
  ·refine ob1_1 (hs1.2.2 b o hb) fun sl hs=>?_
   exact in1_2 _ (keep b _ (noRecord b o hb hnf) hs) rfl
  ·exact in5_9 _ _ h₁.objs.size _ _ he3 ⟨(Obj.cls_mapFields _ _).trans hec,by rw [Array.getElem?_setIfInBounds_ne (by decide)];simp⟩ hd3 (by simp [hsz]) kb1.fresh hTe hT3 rfl (by first | (simp;done) | (rcases hpl with rfl | ⟨_,_,_,_,_,_,_,rfl⟩ <;> simp))
  ·refine ob1_1 (hs1.2.2 b o hb) fun sl hs=>?_
   exact ⟨sl,keep b _ (noRecord b o hb hnf) hs⟩
 ·exact in2_3 _ _ he3 hd3 (by rw [Array.getElem?_setIfInBounds_ne (by decide)];exact h2)
theorem landC{l:List Env}{fl:Value}(hf:∃ a0,(Qam s0 l0 e).StaysIn s.heap∧s.heap.FunFrames (Qam s0 l0 e) l∧s.heap.TracedAtW (Qam s0 l0 e) e (.type X) a0 fl)(form:∃ h tk,s={ s0 with heap:=h,toks:=tk })(up:s0.heap.UpToSlots s.heap)(c:Ctx0 s.heap e)
  (h:∀ s',Fly G s0 l0 l e X s'->Ctx0 s'.heap e->Q () s'):wpAny M A (setFlight (.ref e) none) Q E s:=by
 refine ob1_3 hf ?_;intro a0 hkb hl z0;refine ob5_9 z0 fun oe vs T oT ts he hcls hd h1 hnT hTe hT hdT h3=>?_
 obtain ⟨h0,tk,rfl⟩:=form
 dsimp only at he hT hkb hl up c ⊢
 have hsz3:3 < ts.size:=(Array.getElem?_eq_some_iff.mp h3).1
 have other:∀ b,b≠T->(h0.update T (Obj.mapFields (·.setIfInBounds 3 ((none:Option Addr).elim Value.none fun f=>rawInt f)))).get? b=h0.get? b:=
  fun b hb=>Heap.get?_update_other _ _ (Ne.symm hb)
 have noRecord:∀ b o,h0.get? b=some o->(∀ vs,o.data≠.fields vs)->b≠T:=fun b o hb hnf q=>by
  rw [q,hT] at hb;obtain rfl:=Qo hb;exact hnf ts hdT
 have he':=(other e (Ne.symm hTe)).trans he
 unfold setFlight
 refine Qg (fun K k=>wpAny_field he hd h1 k) ?_
 rw [if_pos (show (Value.ref T != Value.none)=true from by simp)]
 refine wpAny_setField hT hdT hsz3 (h _ ⟨⟨_,_,rfl⟩,⟨a0,fun b o hbo=>(other b fun q=>by rw [q,hnT] at hbo;exact nSo hbo).trans (hkb b o hbo),ground_e,hl.of_keeps fun b o hb hnf=>⟨o,(other b (noRecord b o hb hnf)).trans hb,rfl⟩,
  ⟨oe,vs,T,_,_,he',hcls,hd,h1,hnT,hTe,Heap.get?_update_self _ hT (Obj.isFreed_of_fields (Obj.data_mapFields hdT _)),Obj.data_mapFields hdT _,by simp [hsz3]⟩⟩,
  up.trans fun b o hb hn=>⟨o.slots,(other b (noRecord b o hb hn)).trans hb⟩⟩ ?_)
 refine ob2_3 c fun oe' vs' e' d' h2=>?_
 rw [he] at e';obtain rfl:=Qo e'
 rw [hd] at d';cases d'
 exact in2_3 _ _ he' hd h2
theorem land_C{l:List Env}(f:Held G s0 l0 l e X L s)(c:Ctx0 s.heap e)(h:∀ s',Fly G s0 l0 l e X s'->Ctx0 s'.heap e->Q () s'):wpAny M A (setFlight (.ref e) none) Q E s:=by
 refine ob1_4 f.fly fun a0 k1 k2 k3 k4=>?_
 exact landC ⟨a0,k1,k3,k4⟩ f.form f.up c h
theorem Qjx{l:List Env}(f:Fly G s0 l0 l e X s)(c:Ctx0 s.heap e)(h:∀ s',Fly G s0 l0 l e X s'->Ctx0 s'.heap e->Q () s'):wpAny M A (setFlight (.ref e) none) Q E s:=by
 refine ob1_4 f.fly fun a0 k1 k2 k3 k4=>?_
 exact landC ⟨a0,k1,k3,k4.at⟩ f.form f.up c h
end
theorem Qhc:entryFor table "proto.unchain"=some Builtin.«proto.unchain»:=entryFor_of_fast (by kernel_rfl)
section
variable {prog:Program}{w:World}{A:Around}{E:Value->Shared->Prop}{s:Shared}
theorem Qhx{α:Type}{e1 e2:Addr}{o2:Obj}{vs:Array Value}{Q:α->Shared->Prop}(hA:A.handled=some (.ref e1))(ne:e1≠e2)(c:Ctx0 s.heap e1)(h2:s.heap.get? e2=some o2)(hd:o2.data=.fields vs)(hsz:2 < vs.size)
  (h:E (.ref e2) { s with heap:=s.heap.update e2 (Obj.mapFields (·.setIfInBounds 2 (.ref e1))) }):wpAny (model prog w) A (raiseNew (.ref e2):Sem α) Q E s:=by
 refine ob2_3 c fun o1 ws h1 hd1 hc=>?_
 unfold raiseNew
 refine Qg (fun K k=>wpAny_handled k) ?_
 rw [hA]
 dsimp only
 rw [if_pos (show (Value.ref e1 != Value.ref e2)=true from by simp [ne])]
 refine wpAny_bind (wpAny_holding (wpAny_runValue (codeAny_builtin Qhc ?_)))
 show wpAny _ _ (field (.ref e1) 2 >>= _) _ _ _
 refine Qg (fun K k=>wpAny_field h1 hd1 hc k) ?_
 rw [if_pos (by decide)]
 refine wpAny_bind (wpAny_pure (wpAny_pure ?_))
 show wpAny _ _ (do updateField e2 2 (.ref e1);throw (.ref e2)) _ _ _
 refine wpAny_bind ?_
 unfold updateField
 refine Qg (fun K k=>wpAny_load h2 k) ?_
 rw [hd]
 dsimp only
 rw [if_pos hsz]
 exact wpAny_update h2 (wpAny_throw h)
theorem Ql5{X N I:String}{e1:Addr}{env:Env}{ex:Expr}{cp pos:Pos}{Q:Flow->Shared->Prop}{s₀:Shared}(hc:ExcClass X N I)(hA:A.handled=some (.ref e1))
  (h:wpAny (model prog w) A (eval ex env) (fun v s=>∃ e2 o2 vs,v=.ref e2∧e1≠e2∧Ctx0 s.heap e1∧s.heap.get? e2=some o2∧o2.cls=.type X∧o2.data=.fields vs∧vs[1]?=some .none∧4 < vs.size∧
   E (.ref e2) { s with heap:=((s.heap.update e2 (Obj.mapFields (·.setIfInBounds 3 .none))).update e2 (Obj.mapFields (·.setIfInBounds 4 (.bool true)))).update e2 (Obj.mapFields (·.setIfInBounds 2 (.ref e1))) }) E s₀):
  wpAny (model prog w) A (exec (.Raise (some ex) (some (.Constant .none 0 cp)) pos) env) Q E s₀:=by
 rw [arm_exec_Raise]
 refine Qg (fun K k=>wpAny_standAt k) ?_
 show wpAny _ _ (raiseStmt env (some (do let v ← eval ex env;standAt pos;pure v)) (some (do let v ← eval (.Constant .none 0 cp) env;standAt pos;pure v))) _ _ _
 unfold raiseStmt
 refine wpAny_bind (wpAny_bind (wpAny_mono h (fun v s₁ h₁=>wpAny_bind (wpAny_standAt (wpAny_pure ?_))) fun _ _ x=>x))
 refine ob3_9 h₁ ?_;rintro e2 o2 vs rfl ne c h2 hcls hd h1 hsz hE
 have hT:s₁.TypeIs (.ref e2) X:=⟨o2,h2,hcls⟩
 have hnt:∀ {Q':Bool->Shared->Prop},Q' false s₁->wpAny (model prog w) A (isType (.ref e2)) Q' E s₁:=by
  intro Q' hq
  simp only [isType,loadHead]
  refine wpAny_bind (wpAny_loadPart h2 ?_)
  rw [hd];exact wpAny_pure hq
 refine Qg (fun K k=>wpAny_holding (wpAny_bind (wpAny_Constant_none (wpAny_bind (wpAny_standAt (wpAny_pure k)))))) ?_
 refine wpAny_bind (wpAny_pure ?_)
 refine wpAny_bind (wpAny_holding ?_)
 unfold excFromValue isExcClass
 refine wpAny_bind (wpAny_bind (hnt ?_))
 simp only [Bool.false_eq_true,if_false]
 refine wpAny_pure ?_
 simp only [Bool.false_eq_true,if_false]
 refine wpAny_bind (wpAny_isInstance hT hc.base ?_)
 simp only [if_true]
 refine wpAny_pure ?_
 rw [if_pos (show (Value.none == Value.none)=true from rfl)]
 refine Qg (fun K k=>wpAny_pure k) ?_
 refine wpAny_bind (wpAny_setField h2 hd (by omega) ?_)
 have hd3:=Obj.data_mapFields hd (·.setIfInBounds 3 Value.none)
 have h3:=Heap.get?_update_self (Obj.mapFields (·.setIfInBounds 3 Value.none)) h2 (Obj.isFreed_of_fields hd3)
 refine wpAny_bind (wpAny_setField h3 hd3 (by rw [Array.size_setIfInBounds];omega) ?_)
 have hd4:=Obj.data_mapFields hd3 (·.setIfInBounds 4 (Value.bool true))
 have h4:=Heap.get?_update_self (Obj.mapFields (·.setIfInBounds 4 (Value.bool true))) h3 (Obj.isFreed_of_fields hd4)
 have hcls4:((o2.mapFields (·.setIfInBounds 3 Value.none)).mapFields (·.setIfInBounds 4 (Value.bool true))).cls=.type X:=(Obj.cls_mapFields _ _).trans ((Obj.cls_mapFields _ _).trans hcls)
 have h14:((vs.setIfInBounds 3 Value.none).setIfInBounds 4 (Value.bool true))[1]?=some Value.none:=by
  rw [Array.getElem?_setIfInBounds_ne (by decide),Array.getElem?_setIfInBounds_ne (by decide)];exact h1
 have c4:Ctx0 ((s₁.heap.update e2 (Obj.mapFields (·.setIfInBounds 3 .none))).update e2 (Obj.mapFields (·.setIfInBounds 4 (.bool true)))) e1:=by
  refine ob2_3 c fun o1 ws k1 k2 k3=>?_
  exact in2_3 o1 ws ((Heap.get?_update_other _ _ (Ne.symm ne)).trans ((Heap.get?_update_other _ _ (Ne.symm ne)).trans k1)) k2 k3
 generalize hs2:(⟨(s₁.heap.update e2 (Obj.mapFields (·.setIfInBounds 3 .none))).update e2 (Obj.mapFields (·.setIfInBounds 4 (.bool true))),s₁.gens,s₁.drawn,s₁.toks,s₁.os⟩:Shared)=s2
 have h4':s2.heap.get? e2=some ((o2.mapFields (·.setIfInBounds 3 Value.none)).mapFields (·.setIfInBounds 4 (Value.bool true))):=by rw [← hs2];exact h4
 have c4':Ctx0 s2.heap e1:=by rw [← hs2];exact c4
 have hE':E (.ref e2) { s2 with heap:=s2.heap.update e2 (Obj.mapFields (·.setIfInBounds 2 (.ref e1))) }:=by rw [← hs2];exact hE
 clear hs2
 have hT2:s2.TypeIs (.ref e2) X:=⟨_,h4',hcls4⟩
 have hnt2:∀ {Q':Bool->Shared->Prop},Q' false s2->wpAny (model prog w) A (isType (.ref e2)) Q' E s2:=by
  intro Q' hq
  simp only [isType,loadHead]
  refine wpAny_bind (wpAny_loadPart h4' ?_)
  rw [hd4];exact wpAny_pure hq
 refine Qg (fun K k=>hnt2 k) ?_
 simp only [Bool.false_eq_true,if_false]
 unfold raisedInstance
 refine wpAny_bind (wpAny_bind (wpAny_typeOf hT2 (wpAny_bind (m:=typeOf (.type X)) (wpAny_pure ?_))))
 rw [if_pos hc.metaType]
 refine wpAny_pure ?_
 unfold setFlight
 refine wpAny_bind (wpAny_bind (wpAny_field h4' hd4 h14 ?_))
 rw [if_neg (by decide)]
 refine wpAny_pure ?_
 exact Qhx hA ne c4' h4' hd4 (by rw [Array.size_setIfInBounds,Array.size_setIfInBounds];omega) hE'
end
section
variable {M:Model}{A:Around}{E:Value->Shared->Prop}{G:Amb}{s0 s:Shared}{l0 outer:List Env}{env:Env}{e L:Addr}{X:String}{Q:Unit->Shared->Prop}
theorem Qeh(hfr:A.frames=some (env :: outer))(t:Qbx G (env :: outer) e X s)(hf:env.frame=some L)(h:∀ s',Held G s (env :: outer) (env :: outer) e X L s'->Q () s'):wpAny M A (noteFrame (.ref e) env) Q E s:=by
 refine ob2_4 t.ob fun oe vs heo hec hed h1=>?_
 have hsz:1 < vs.size:=(Array.getElem?_eq_some_iff.mp h1).1
 unfold noteFrame
 simp only [hf]
 refine wpAny_bind (wpAny_field heo hed h1 ?_)
 rw [if_neg (by decide)]
 refine wpAny_entryW (base:=Qam s (env :: outer) e) (a0:=vs[0]) hfr (t.fr.fun Qda) hf heo Qc9 ground_e hed hsz (by simp) fun h' hL=>?_
 refine Qdk hL fun k1 k2 k3 k4=>?_
 rw [hec] at k3
 exact h _ ⟨⟨_,_,rfl⟩,⟨_,k1,ground_e,k2,k3⟩,k4⟩
theorem Qmf{l:List Env}(f:Held G s0 l0 l e X L s)(h:∀ s',Held G s0 l0 l e X L s'->Q () s'):wpAny M A (setFlight (.ref e) (some L)) Q E s:=by
 obtain ⟨⟨h0,tk,rfl⟩,⟨a0,hkb,_,hl,oe,vs,T,oT,ts,he,hcls,hd,h1,hnT,hTe,hT,hdT,h3⟩,up⟩:=f
 dsimp only at he hT hkb hl up ⊢
 have hsz3:3 < ts.size:=(Array.getElem?_eq_some_iff.mp h3).1
 have other:∀ b,b≠T->(h0.update T (Obj.mapFields (·.setIfInBounds 3 ((some L:Option Addr).elim Value.none fun f=>rawInt f)))).get? b=h0.get? b:=
  fun b hb=>Heap.get?_update_other _ _ (Ne.symm hb)
 have noRecord:∀ b o,h0.get? b=some o->(∀ vs,o.data≠.fields vs)->b≠T:=fun b o hb hnf q=>by
  rw [q,hT] at hb;obtain rfl:=Qo hb;exact hnf ts hdT
 have he':=(other e (Ne.symm hTe)).trans he
 unfold setFlight
 refine Qg (fun K k=>wpAny_field he hd h1 k) ?_
 rw [if_pos (show (Value.ref T != Value.none)=true from by simp)]
 refine wpAny_setField hT hdT hsz3 (h _ ⟨⟨_,_,rfl⟩,⟨a0,fun b o hbo=>(other b fun q=>by rw [q,hnT] at hbo;exact nSo hbo).trans (hkb b o hbo),ground_e,hl.of_keeps fun b o hb hnf=>⟨o,(other b (noRecord b o hb hnf)).trans hb,rfl⟩,
  ⟨oe,vs,T,_,_,he',hcls,hd,h1,hnT,hTe,Heap.get?_update_self _ hT (Obj.isFreed_of_fields (Obj.data_mapFields hdT _)),Obj.data_mapFields hdT _,by simp [hsz3]⟩⟩,
  up.trans fun b o hb hn=>⟨o.slots,(other b (noRecord b o hb hn)).trans hb⟩⟩)
theorem came_back{A':Around}(hfr:A'.frames=some (env :: outer))(t:Qbx G (env :: outer) e X s)(hf:env.frame=some L)(h:∀ s',Held G s (env :: outer) (env :: outer) e X L s'->E (.ref e) s'):notedBy M A' env (cameBackBy M A env E) (.ref e) s:=by
 refine Qeh hfr t hf fun s' x=>?_
 show wpAny M A _ _ _ _
 refine ob1_4 x.fly ?_;intro a0 hkb _ hl z0;refine ob5_5 z0 fun oe vs T oT ts he hcls hd h1 _=>?_
 refine Qg (fun K k=>wpAny_field he hd h1 k) ?_
 rw [if_neg (show ¬ ((Value.ref T == Value.none)=true) from by simp)]
 rw [hf]
 exact Qmf x fun s'' y=>h s'' y
end
section
variable {prog:Program}{w:World}{A:Around}{E:Value->Shared->Prop}{s:Shared}
theorem Qfb{it l:Addr}{i:Nat}{items:Array Value}{Q:Option Value->Shared->Prop}(hh:A.handled=none)(hit:s.heap.IsListIter it l i)(hl:s.heap.IsList l items)(hx:items[i]?=none)
  (hE:∀ h' e,Heap.ExtBut it s.heap h'->s.heap.get? e=none->(∃ ob vs,h'.get? e=some ob∧ob.cls=.type "StopIteration"∧ob.data=.fields vs∧vs[1]?=some .none∧vs[2]?=some .none)->E (.ref e) { s with heap:=h' }):wpAny (model prog w) A (callSpecial? (.ref it) "__next__") Q E s:=by
 refine ob1_3 (id hit) fun o ho hc hd=>?_
 refine ob1_3 hl ?_;rintro ol hol _ ⟨nl,hdl⟩
 refine wpAny_callSpecial?_slot (name:=Str.ofString "__next__") hit.typeIs slot_listiter_next (wpAny_call_entry slot_listiter_next hit.typeIs entry_listiter_next ?_ (args_listiter_next _))
 show wpAny _ _ (field (.ref it) 0 >>= _) _ _ s
 refine wpAny_bind (wpAny_field ho hd (x:=.ref l) rfl ?_)
 show wpAny _ _ (if (Value.ref l == Value.none)=true then _ else _) _ _ s
 rw [if_neg (show ¬ ((Value.ref l == Value.none)=true) from Bool.false_ne_true)]
 show wpAny _ _ (field (.ref it) 1 >>= _) _ _ s
 refine wpAny_bind (wpAny_field ho hd (x:=.int i 0) rfl ?_)
 show wpAny _ _ (seqItems? (.ref l) >>= _) _ _ s
 refine Qg (fun K k=>wpAny_seqItems hol hdl k) ?_
 simp only [Int.toNat_natCast,hx]
 refine wpAny_bind (wpAny_rule (wpAny_bind (wpAny_setField ho hd (by simp) ?_)))
 show wpAny _ _ (newExc (.type "StopIteration") [] >>= _) _ _ _
 refine wpAny_bind ?_
 simp only [newExc,newTuple]
 refine wpAny_bind (wpAny_newObj_type ?_ (by size_fits))
 refine wpAny_bind (m:=firstArgMember _ _) (wpAny_of_eq (a:=Value.none) (by first | rfl | (simp only [firstArgMember];rfl)) ?_)
 refine wpAny_newObj_type ?_ (by size_fits)
 simp only [raiseNew]
 refine Qg (fun K k=>wpAny_handled k) ?_
 rw [show A.in1.handled=none from hh]
 refine wpAny_bind (wpAny_pure (wpAny_throw ?_))
 refine hE _ _ (((Heap.SameBut.update ..).extBut.push _).push _) (Heap.get?_none_of_le ?_) ⟨_,_,Heap.get?_push_size _ rfl,rfl,rfl,?_,?_⟩
 ·rw [Heap.size_push,Heap.size_update];exact Nat.le_succ _
 ·rfl
 ·rfl
theorem Qfj{it l:Addr}{i:Nat}{items:Array Value}{Q:Value->Shared->Prop}(hh:A.handled=none)(hit:s.heap.IsListIter it l i)(hl:s.heap.IsList l items)(hx:items[i]?=none)
  (hE:∀ h' e,Heap.ExtBut it s.heap h'->s.heap.get? e=none->(∃ ob vs,h'.get? e=some ob∧ob.cls=.type "StopIteration"∧ob.data=.fields vs∧vs[1]?=some .none∧vs[2]?=some .none)->E (.ref e) { s with heap:=h' }):wpAny (model prog w) A (call (.builtin "next") [.ref it]) Q E s:=by
 refine Calls.call_function_entry dk dk kdk_entry_next (kdk_args_next _) ?_
 unfold Builtin.«next»
 refine wpAny_bind (m:=someArgs "next" 1 2 _) (wpAny_of_eq (a:=[Value.ref it]) (by first | rfl | kernel_rfl!) ?_)
 dsimp only
 refine Qg (fun K k=>wpAny_specialOf (name:=Str.ofString "__next__") hit.typeIs slot_listiter_next.lookup k) ?_
 refine wpAny_ite_split (fun hab=>absurd hab (by decide)) (fun _=>?_)
 exact wpAny_bind (Qfb (by simpa using hh) hit hl hx fun h' e he hn ht=>hE h' e he hn ht)
end
section
variable {G:Amb}{n:Nat}{V:Addr->Prop}
theorem code_rawE{A:Around}{s:Shared}{W:Addr->Prop}{fd:FuncData}{fa:Addr}{o:Obj}{body:List Stmt}{xs:List Str}{vs us:List Value}{ds:List D}{ρc:Qf}{R:Result->Shared->Prop}(AG:Qv G)
  (good:Good G (n + 1) A s.heap)(ex:Excl s.heap V W)(ho:s.heap.get? fa=some o)(hdat:o.data=.func fd)(hcr:s.heap.CodeRec fd.code fd.qualname)(hbody:fd.body=.stmts body)(hk:fd.scope.kind=.function)(hco:fd.scope.isCoroutine=false)(hgen:fd.scope.isGenerator=false)
  (hgl:fd.globals=mainGlobals)(hbi:fd.builtins=builtinsNs)(hN:Xs fd.scope.names xs)(hbind:BindsTo s fd ⟨vs,[]⟩ (xs.zip us))(r:RepL G s.heap W us ds)(hC:Qfl G V s.heap W fd.scope.names fd.closure ρc)
  (h:∀ s₁ env,Step G V s s₁->Cx G n V fd.scope.names (A.deeper env) env s₁ (fun a=>W a∨a=s.heap.objs.size) (Zl fd.scope.names xs ds ρc)->Own G fd.scope.names env (fun a=>W a∨a=s.heap.objs.size) (fun a=>a=s.heap.objs.size)->env.locals=s.heap.objs.size->env.frame=some s.heap.objs.size->
   env.code=fd.code->env.qual=fd.qualname ++ ".<locals>."->
   wpAny (model G.prog G.w) (A.deeper env) (execs body env) (fun f s'=>R (.ok (.ret (match f with | .ret v=>v | _=>.none))) s')
    (fun e s'=>wpAny (model G.prog G.w) (A.deeper env) (leaving env e) (fun _ s''=>R (.error e) s'') (fun e' s''=>R (.error e') s'') s') s₁):
  codeAny (model G.prog G.w) A (.call (.ref fa) ⟨vs,[]⟩) R s:=by
 refine codeAny_call_function (by have:=good.depth;show A.depth < 1000;omega) ho hdat hco hgen hbody hcr (hbind _ _ _ _ ?_)
 refine Zs hN.noCell (fun x hx=>hN.loc x.1 (List.of_mem_zip (a:=x.1) (b:=x.2) hx).1) (fun h' hns hsb hfr=>?_) hk
 refine Jo (Qhf (fa:=fa) (tk:=s.toks + (xs.zip us).length) good ex hk hgl hbi hN r hC hns hsb hfr) fun k c ow=>?_
 exact ⟨AG.nolimit.keeps (c.good.base),codeAny_func (h _ _ k c ow rfl rfl rfl rfl)⟩
end
theorem stop_exc:isSubtype (.type "StopIteration") (.type "BaseException")=pure true:=by rw [isSubtype_type];kernel_rfl
theorem stop_nt:isSubtype (.type ((Manifest.find? "StopIteration").elim "type" fun x=>x.metatype)) (.type "tuple")=pure false:=by rw [isSubtype_type];kernel_rfl
theorem boot_te:bootBuiltins (Str.ofString "TypeError")=some (.type "TypeError"):=excClass_TypeError.boot
theorem frames_of{G:Amb}{A:Around}{env:Env}{outer:List Env}{h:Heap}(x:Stk G (A.deeper env) h)(hA:A.frames=some outer):Frames G h (env :: outer):=by
 refine ob1_2 x fun envs e p=>?_
 have:(A.deeper env).frames=some (env :: outer):=by show A.frames.map (env :: ·)=_;rw [hA];rfl
 rw [this] at e;replace e:=e
 cases e
 exact p
section
variable {G:Amb}[Qab G] {n:Nat}{V:Addr->Prop}
theorem Qdp{A:Around}{s:Shared}{W:Addr->Prop}{fl l:Addr}{fr:Addr}{outer:List Env}{Q:Value->Shared->Prop}{E:Value->Shared->Prop}(AG:Qv G)(FO:Zp G)(RA:Qi1 G)
  (good:Good G (n + 1) A s.heap)(ex:Excl s.heap V W)(hfr:G.mg "reduce"=some (.ref fr))(ll0:s.heap.IsList l #[])(nVl:¬ V l)(hA:A.frames=some outer)
  (h:∀ env s0 e s',Step G V s s0->s.heap.get? e=none->Qbx G (env :: outer) e "TypeError" s0->Fly G s0 (env :: outer) outer e "TypeError" s'->E (.ref e) s'):wpAny (model G.prog G.w) A (call (.ref fr) [.ref fl,.ref l]) Q E s:=by
 refine ob4_8 RA.ex ?_;intro fa o fd im hm ho hdat hcr hbody hsc hgl z0;refine Qdk z0 fun hbi hcl him hbind=>?_
 rw [hm] at hfr;replace hfr:=hfr
 cases hfr
 have hN:Xs fd.scope.names ["function","sequence","initial"]:=by rw [hsc];exact Xm dk
 refine wpAny_call (code_rawE (n:=n) (V:=V) (W:=W) (fd:=fd) (body:=Jl 7) (xs:=["function","sequence","initial"]) (us:=[.ref fl,.ref l,.ref im]) (ds:=[.raw (.ref fl),.raw (.ref l),.raw (.ref im)]) (ρc:=fun _=>none) AG good ex (good.base _ _ ho) hdat (hcr.keeps good.base) hbody
  (by rw [hsc];rfl) (by rw [hsc];rfl) (by rw [hsc];rfl) hgl hbi hN (hbind s good.base _ _) ⟨rfl,rfl,rfl,trivial⟩ (by rw [hcl,hsc];exact Qaw dk) ?_)
 rw [hsc]
 intro s₁ env k1 c1 ow hloc hframe _ _
 refine Zf ?_;intro Q0 E0
 revert c1;refine Qdb (Zl (Qe 7).names ["function","sequence","initial"] [.raw (.ref fl),.raw (.ref l),.raw (.ref im)] (fun _=>none)) fun ρ hρ=>?_;intro c1
 have l2:ρ "sequence"=some (.raw (.ref l)):=by rw [← hρ];rfl
 have l3:ρ "initial"=some (.raw (.ref im)):=by rw [← hρ];rfl
 have newL:s.heap.get? s.heap.objs.size=none:=Heap.get?_none_of_le (Nat.le_refl _)
 have hAd:=PySem.Around.frames_deeper (env:=env) hA
 have ev:∀ {x:Str}{p:Pos},Vis (Qe 7).names x=true->(x == ("__debug__":Str))=false->Zo G n V (Qe 7).names (.Name x p) (fun ρ=>ρ x):=fun hv hd=>Qb _ _ hv hd
 refine wpAny_execs_cons (wpAny_Assign_Name ?_ rfl)
 refine wpAny_Call_NameR (Qh AG c1.good.base c1.ok rfl (FO _ dk) PyProof.Rows.Boot.«iter» dk dk ?_)
 refine Zf ?_;intro Q0 E0
 refine PySem.callWith_builtin1 (ev (x:="sequence") dk dk _ env s₁ _ ρ _ _ _ c1 l2 fun v₂ s2 k2 r₂=>?_)
 cases r₂
 have ll2:s2.heap.IsList l #[]:=by
  refine ob1_3 ll0 fun ob eb cb db=>?_
  exact in1_3 ob ((k1.trans k2).exact eb (.inl nVl) (by rw [cb];decide)) cb db
 refine Qbw ll2 ?_
 refine Qdb (({ s2 with heap:=s2.heap.push { cls:=.type "list_iterator",data:=.fields #[.ref l,.int 0 0] } }:Shared)) fun s₃ hs3=>?_
 have h3:s₃.heap=s2.heap.push { cls:=.type "list_iterator",data:=.fields #[.ref l,.int 0 0] }:=by rw [← hs3]
 have k3:Step G V s2 s₃:=by rw [← hs3];exact .push s2 _
 refine Qdb (s2.heap.objs.size) fun I hI=>?_
 have eI:s₃.heap.IsListIter I l 0:=by rw [h3,← hI];exact in1_3 _ (Heap.get?_push_size _ rfl) rfl rfl
 have newI2:s2.heap.get? I=none:=by rw [← hI];exact Heap.get?_none_of_le (Nat.le_refl _)
 have newI1:s₁.heap.get? I=none:=k2.get_none newI2
 have newI:s.heap.get? I=none:=k1.get_none newI1
 refine Qaa (Jb c1 newI1) fun neL neC nVI nWI bI=>?_
 have c3:=c1.step (k2.trans k3)
 have nlL:l≠s.heap.objs.size:=fun q=>by refine ob1_2 ll0 fun ob eb _=>?_;rw [q,newL] at eb;exact nSo eb
 refine Qt c3 ow.sub ow.base (ow.store (.inl rfl) dk) (d:=.raw (.ref I)) rfl fun s₄ k4 c4=>?_
 have neIL:I≠s.heap.objs.size:=fun q=>neL (hloc.trans q.symm)
 have ll3:s₃.heap.IsList l #[]:=by
  refine ob1_3 ll2 fun ob eb cb db=>?_
  exact in1_3 ob (k3.exact eb (.inl nVl) (by rw [cb];decide)) cb db
 have eI4:s₄.heap.IsListIter I l 0:=by
  refine ob1_3 eI fun ob eb cb db=>?_
  exact in1_3 ob (k4.exact eb (.inl neIL) (by rw [cb];decide)) cb db
 have ll4:s₄.heap.IsList l #[]:=by
  refine ob1_3 ll3 fun ob eb cb db=>?_
  exact in1_3 ob (k4.exact eb (.inl nlL) (by rw [cb];decide)) cb db
 refine wpAny_execs_cons (wpAny_If ((Ql Qh3 Qq (ev (x:="initial") dk dk) (Qlg AG rfl him dk) rfl) _ env s₄ _ _ true _ _ c4 (by simp [upd,ofString_inj,l3,Qk5,Jz]) fun s₅ k5=>?_))
 refine Zf ?_;intro Q0 E0
 have c₅:=c4.step k5
 refine wpAny_execs_cons (wpAny_Try_except ?_)
 refine Zf ?_;intro Q0 E0
 refine wpAny_execs_cons (wpAny_Assign_Name ?_ rfl)
 refine wpAny_Call_NameR (Qh AG c₅.good.base c₅.ok rfl (FO _ dk) PyProof.Rows.Boot.«next» dk dk ?_)
 refine Zf ?_;intro Q0 E0
 refine PySem.callWith_builtin1 (ev (x:="it") dk dk _ env s₅ _ _ (.raw (.ref I)) _ _ c₅ (Qd _ _ _) fun v₆ s6 k6 r6=>?_)
 cases r6
 have c6:=c₅.step k6
 have k56:=k5.trans k6
 have eI6:s6.heap.IsListIter I l 0:=by
  refine ob1_3 eI4 fun ob eb cb db=>?_
  exact in1_3 ob (k56.exact eb (.inl nVI) (by rw [cb];decide)) cb db
 have ll6:s6.heap.IsList l #[]:=by
  refine ob1_3 ll4 fun ob eb cb db=>?_
  exact in1_3 ob (k56.exact eb (.inl nVl) (by rw [cb];decide)) cb db
 have kAll:Step G V s s6:=(((k1.trans k2).trans k3).later k4 fun a ha=>.inl (ha ▸ newL)).trans k56
 refine Qfj c6.good.cold eI6 ll6 (by rfl) fun h7 e1 hx7 new1 z0=>ob2_5 z0 fun ob1 vs1 hob1 hc1 hd1 h11 h12=>?_
 have k7:Step G V s { s6 with heap:=h7 }:=kAll.ext hx7 newI (Zd good _ newI)
 refine ob1_3 (id eI6) fun oI6 hoI6 hcI6 _=>?_
 have notI:FrmAt s6.heap I->FrmAt h7 I:=Jr hoI6 (by rw [hcI6];decide)
 have fr6:Frames G s6.heap (env :: outer):=frames_of c6.good.stk hA
 have fr7:Frames G h7 (env :: outer):=fun en he=>by
  refine Qx (fr6 en he) ?_;intro a z0;refine ob1_3 z0 ?_;rintro L b ⟨of',ef,ff⟩ f0
  refine ⟨a,L,b,⟨of',hx7 L of' (fun q=>?_) ef,ff⟩,f0⟩
  rw [q,hoI6] at ef
  obtain rfl:=Qo ef
  exact absurd ff.1 (by rw [hcI6];decide)
 have new1s:s.heap.get? e1=none:=kAll.get_none new1
 have t1:Qbx G (env :: outer) e1 "StopIteration" { s6 with heap:=h7 }:=⟨⟨ob1,vs1,hob1,hc1,hd1,h11⟩,fr7,Zd good _ new1s⟩
 revert k7 t1;refine Qdb (({ s6 with heap:=h7 }:Shared)) fun s7 hs7=>?_;intro k7 t1
 have ctx7:Ctx0 s7.heap e1:=by rw [← hs7];exact in2_3 ob1 vs1 hob1 hd1 h12
 clear hs7
 refine Qei hAd t1 ctx7 hframe fun s8 x₈ ctx8=>land_C x₈ ctx8 fun s9 x₉ ctx9=>?_
 refine Zf ?_;intro Q0 E0
 have k9:=x₉.step t1
 have base9:G.h₀.StaysIn s9.heap:=k9.baseIn (k7.baseIn good.base)
 refine wpAny_handleBy_builtin (X:="StopIteration") (T:="StopIteration") (b:=true) stop_exc stop_nt PySem.isSubtype_stop ?_
 refine Qh AG base9 c6.ok rfl (FO _ dk) PyProof.Rows.Boot.StopIteration dk dk ⟨rfl,?_,?_⟩
 ·refine ob1_1 x₉.fly fun a0 f=>?_
  refine ob1_2 f.there fun ob h1 h2=>?_
  exact in1_2 ob h1 h2
 show wpAny _ _ _ _ _ _
 refine Qjx x₉ ctx9 fun s10 x10 ctx10=>?_
 refine Zf ?_;intro Q0 E0
 have k10:=x10.step t1
 have base10:G.h₀.StaysIn s10.heap:=k10.baseIn (k7.baseIn good.base)
 refine wpAny_execs_cons (Ql5 excClass_TypeError (e1:=e1) rfl ?_)
 refine Zf ?_;intro Q0 E0
 refine wpAny_Call_NameR (Qh AG base10 c6.ok rfl (FO _ dk) boot_te dk dk ?_)
 refine PyProof.Rows.callWith_type1 (spliced_more (e:=.Constant (.str "reduce() of empty iterable with no initial value") 0 ⟨75,28,75,78⟩) (rest:=[]) (wpAny_Constant_str (Calls.spliced_nil ?_)))
 refine call_exc excClass_TypeError fun h11 e2 hx=>?_
 refine ob2_3 hx.there fun ob2 t2 hob2 hc2 hd2=>?_
 refine ob2_3 ctx10 fun oe1 we1 hoe1 hde1 hw2=>?_
 have ne:e1≠e2:=fun q=>by have:=hx.new;rw [← q] at this;rw [this] at hoe1;cases hoe1
 refine in3_9 e2 ob2 _ rfl ne ⟨oe1,we1,hx.keeps _ _ hoe1,hde1,hw2⟩ hob2 hc2 hd2 rfl (by simp) ?_
 have s3:=Heap.SameBut.update h11 e2 (Obj.mapFields (·.setIfInBounds 3 Value.none))
 have s4:=Heap.SameBut.update (h11.update e2 (Obj.mapFields (·.setIfInBounds 3 Value.none))) e2 (Obj.mapFields (·.setIfInBounds 4 (Value.bool true)))
 have s5:=Heap.SameBut.update ((h11.update e2 (Obj.mapFields (·.setIfInBounds 3 Value.none))).update e2 (Obj.mapFields (·.setIfInBounds 4 (Value.bool true)))) e2 (Obj.mapFields (·.setIfInBounds 2 (Value.ref e1)))
 have d3:=Obj.data_mapFields hd2 (·.setIfInBounds 3 Value.none)
 have g3:=Heap.get?_update_self (Obj.mapFields (·.setIfInBounds 3 Value.none)) hob2 (Obj.isFreed_of_fields d3)
 have d4:=Obj.data_mapFields d3 (·.setIfInBounds 4 (Value.bool true))
 have g4:=Heap.get?_update_self (Obj.mapFields (·.setIfInBounds 4 (Value.bool true))) g3 (Obj.isFreed_of_fields d4)
 have d5:=Obj.data_mapFields d4 (·.setIfInBounds 2 (Value.ref e1))
 have g5:=Heap.get?_update_self (Obj.mapFields (·.setIfInBounds 2 (Value.ref e1))) g4 (Obj.isFreed_of_fields d5)
 have ss:=(s3.trans s4).trans s5
 have k11:Step G (fun a=>a=e2) s10 { s10 with heap:=h11,toks:=s10.toks + 1 }:=.of_heap hx.keeps
 have new27:s7.heap.get? e2=none:=k10.get_none hx.new
 have new2s:s.heap.get? e2=none:=k7.get_none new27
 have k12:Step G (fun a=>a=e2) { s10 with heap:=h11,toks:=s10.toks + 1 } { s10 with heap:=((h11.update e2 (Obj.mapFields (·.setIfInBounds 3 Value.none))).update e2 (Obj.mapFields (·.setIfInBounds 4 (Value.bool true)))).update e2 (Obj.mapFields (·.setIfInBounds 2 (Value.ref e1))),toks:=s10.toks + 1 }:=
  Qn (s:={ s10 with heap:=h11,toks:=s10.toks + 1 }) ss rfl (Zd good _ new2s) ⟨_,g5⟩ (fun o' e' t=>by rw [hob2] at e';cases e';refine Qx t ?_;intro _ z0;refine ob2_1 z0 fun xs m q=>?_;rw [hd2] at q;cases q) (Jr hob2 (by rw [hc2];decide)) (Qay hob2 (by rw [hc2];decide))
 have kT:=(k7.later k10 fun a ha=>.inl (ha ▸ new1s)).later (k11.trans k12) fun a ha=>.inl (ha ▸ new2s)
 have fr12:=((t1.fr.step k10).step k11).step k12
 have t12:Qbx G (env :: outer) e2 "TypeError" { s10 with heap:=((h11.update e2 (Obj.mapFields (·.setIfInBounds 3 Value.none))).update e2 (Obj.mapFields (·.setIfInBounds 4 (Value.bool true)))).update e2 (Obj.mapFields (·.setIfInBounds 2 (Value.ref e1))),toks:=s10.toks + 1 }:=
  ⟨⟨_,_,g5,(Obj.cls_mapFields _ _).trans ((Obj.cls_mapFields _ _).trans ((Obj.cls_mapFields _ _).trans hc2)),d5,rfl⟩,fr12,Zd good _ new2s⟩
 exact came_back (A':=(A.deeper env).mark (some (.ref e1))) hAd t12 hframe fun s' x=>Qmb hframe x fun s'' y=>h env _ e2 s'' kT new2s t12 y
end
noncomputable def Qk0:Arguments:={ posonlyargs:=[],args:=[{ arg:="one",annotation:=none,pos:=⟨159,22,159,25⟩ },{ arg:="other",annotation:=none,pos:=⟨159,27,159,32⟩ }],vararg:=none,kwonlyargs:=[],kw_defaults:=[],kwarg:=none,defaults:=[] }
noncomputable def nrBody:Expr:=.Call (.Name "merge_entries" ⟨159,34,159,47⟩) [.Name "one" ⟨159,48,159,51⟩,.Name "other" ⟨159,53,159,58⟩] [] ⟨159,34,159,59⟩
noncomputable def mgScope:Scope:={ kind:=.function,names:=[("one",.local),("other",.local),("merge_entries",.globalImplicit)],isGenerator:=false,isCoroutine:=false,more:=[] }
noncomputable def nrCall:Expr:=.Call (.Name "reduce" ⟨159,8,159,14⟩) [.Lambda Qk0 nrBody mgScope ⟨159,15,159,59⟩,.List [] ⟨159,61,159,63⟩] [] ⟨159,8,159,64⟩
theorem body19:Jl 19=[.Try [.Expr nrCall ⟨159,8,159,64⟩] [.ExceptHandler (some (.Name "TypeError" ⟨160,11,160,20⟩)) none [.Return (some (.Constant (.bool true) 0 ⟨161,15,161,19⟩)) ⟨161,8,161,19⟩] ⟨160,4,161,19⟩] [] [] ⟨158,4,161,19⟩,.Return (some (.Constant (.bool false) 0 ⟨162,11,162,16⟩)) ⟨162,4,162,16⟩]:=by rfl
theorem Qcx{env:Env}:closureFor mgScope env=pure []:=by
 unfold closureFor mgScope
 simp only [List.forIn_cons,List.forIn_nil,pure_bind,show (NameKind.local == NameKind.free)=false from rfl,show (NameKind.globalImplicit == NameKind.free)=false from rfl,Bool.false_eq_true,if_false]
section
variable {G:Amb}[Qab G] {V:Addr->Prop}
theorem Qmi{P:Addr}(AG:Qv G)(FO:Zp G)(RA:Qi1 G)(L:Qe6 G 19 P)(hV:V P):
  FnAt G 3 V (fun h=>h.get? P=some (tabObj #[])) "_law_nothing_is_refused" [] (.data (.bool true)):=by
 refine ob5_5 L.dt.ex fun fa o pm cd doc ho hdat hcr hcd hm=>?_
 refine ob4_4 RA.ex fun fr of fd im hmr hor hdr _=>?_
 refine ⟨fa,o,_,hm,ho,hdat,fun A s W vs Q E hP good ex r h=>?_⟩
 have hvs:vs=[]:=List.eq_nil_of_length_eq_zero (by rw [r.length];rfl)
 subst hvs
 refine ob1_2 good.stk fun outer hA _=>?_
 refine wpAny_call (Qb7 (n:=2) (V:=V) (W:=W) (xs:=[]) (ds:=[]) AG good ex (good.base _ _ ho) hdat (hcr.keeps good.base) rfl r dk dk dk rfl rfl rfl dk ?_)
 intro s₁ env O E' k1 kk c1 ow hO hcode hqual hcells;refine Zf ?_;intro Q0 E0
 have hAd:=PySem.Around.frames_deeper (env:=env) hA
 rw [body19]
 refine wpAny_execs_cons (wpAny_Try_except ?_);refine Zf ?_;intro Q0 E0
 refine wpAny_execs_cons (wpAny_Expr (hi:=by unfold interactive;rw [c1.ok.kind];rfl) ?_);refine Zf ?_;intro Q0 E0
 unfold nrCall
 refine wpAny_Call_NameR (Xc AG c1.good.base c1.ok rfl hmr dk ?_)
 refine callWith_of (P:=fun h=>G.h₀.StaysIn h) (by rfl) (fun h hb=>⟨.frame,.inl rfl,(Looks.ld (part:=none) (hb _ _ hor)).andThen (by rw [hdr];exact .now)⟩) (Zm (by rfl) ?_);refine Zf ?_;intro Q0 E0
 refine spliced_more (e:=.Lambda Qk0 nrBody mgScope ⟨159,15,159,59⟩) (rest:=[.List [] ⟨159,61,159,63⟩]) ?_
 refine Qg3 AG L.bm L.p0 c1 hV hcode hcd (kk _ _ hP) rfl Qcx fun f c' ctv pm s2 k2 nf nc hf hr ht hx=>?_
 have c₂:=c1.step k2
 refine spliced_more (e:=.List [] ⟨159,61,159,63⟩) (rest:=[]) ?_;refine Zf ?_;intro Q0 E0
 refine Qau (G:=G) (n:=2) (V:=V) (ks:=(Qe 19).names) evs_nil _ env s2 _ _ (.data (.list [])) _ _ c₂ rfl fun v s3 k3 r₃=>?_
 refine ob2_4 (RepD.list_iff r₃) ?_;rintro l us rfl wl ll rl
 have:=rl.inv_nil
 subst this
 have c3:=c₂.step k3
 refine Calls.spliced_nil ⟨c3.good.base,?_⟩
 refine Qdp (n:=1) AG FO RA c3.good c3.excl hmr ll (fun q=>wl (c3.excl.sub _ q)) hAd fun env2 s0 e s' k4 ne t y=>?_
 have kA:Step G V s s0:=((k1.trans k2).trans k3).trans k4
 have newe:s.heap.get? e=none:=((k1.trans k2).trans k3).get_none ne
 obtain ⟨L',hL'⟩:=y.frame
 refine note_on hAd hL' y fun s5 x₅=>land x₅ fun s6 x₆=>?_;refine Zf ?_;intro Q0 E0
 have k6:=x₆.step t
 have base6:G.h₀.StaysIn s6.heap:=k6.baseIn (kA.baseIn good.base)
 refine wpAny_handleBy_builtin (X:="TypeError") (T:="TypeError") (b:=true) PySem.F.isExc_TypeError PySem.F.notTuple_TypeError PySem.F.self_TypeError ?_
 refine Qh AG base6 c1.ok rfl (FO _ dk) boot_te dk dk ⟨rfl,?_,?_⟩
 ·refine ob1_1 x₆.fly fun a0 f=>?_
  refine ob1_2 f.there fun ob h1 h2=>?_
  exact in1_2 ob h1 h2
 show wpAny _ _ _ _ _ _
 refine Qmc x₆ fun s7 x₇=>?_
 refine wpAny_execs_cons (wpAny_Return_some (wpAny_Constant_bool ?_))
 exact h _ s7 (kA.later (x₇.step t) fun a ha=>.inl (ha ▸ newe)) (RepD.bool _)
end
noncomputable abbrev nowt:Addr->Prop:=fun _=>False
section
variable {G:Amb}{n:Nat}{V V':Addr->Prop}{ks:Qi}
theorem EnvOk.less{env:Env}(x:EnvOk G V ks env)(k:∀ a,V' a->V a):EnvOk G V' ks env:=
 ⟨x.kind,x.names,x.globals,x.builtins,x.cells,⟨fun q=>x.apart.1 (k _ q),fun y c e q=>x.apart.2 y c e (k _ q)⟩,x.inj⟩
theorem Cx.less{A:Around}{env:Env}{s:Shared}{W:Addr->Prop}{ρ:Qf}(c:Cx G n V ks A env s W ρ)(k:∀ a,V' a->V a):Cx G n V' ks A env s W ρ:=
 ⟨c.good,c.ok.less k,c.excl.sub' k,c.vars,c.ns,c.cellsAt⟩
theorem Cx.back{A:Around}{env:Env}{s:Shared}{W:Addr->Prop}{ρ:Qf}(c:Cx G n V' ks A env s W ρ)(ok:EnvOk G V ks env)(sub:∀ a,V a->W a):Cx G n V ks A env s W ρ:=
 ⟨c.good,ok,⟨sub,c.excl.live⟩,c.vars,c.ns,c.cellsAt⟩
theorem Step.nowt{s s':Shared}{O:Addr->Prop}(k:Step G (Or2 nowt O) s s'):Step G O s s':=k.mono fun a ha=>ha.elim False.elim id
theorem Qw{s s':Shared}{O:Addr->Prop}(k:Step G nowt s s'):Step G O s s':=k.mono fun a ha=>ha.elim
theorem Qaf{A:Around}{env:Env}{s:Shared}{W O:Addr->Prop}{ρ:Qf}{st:Stmt}{g:Qf->Option Out}{out:Out}{Q:Flow->Shared->Prop}{E:Value->Shared->Prop}(hst:Qm1 G n nowt ks st g)(c:Cx G n V ks A env s W ρ)(ow:Own G ks env W O)(hg:g ρ=some out)
  (h:∀ fl s',Step G O s s'->OutAt G n V ks A env W out fl s'->Q fl s'):wpAny (model G.prog G.w) A (exec st env) Q E s:=by
 refine hst _ _ _ _ _ _ _ _ _ (c.less fun _ q=>q.elim) ow hg fun fl s' k r=>h fl s' k.nowt ?_
 cases out with
 | next ρ'=>exact ⟨r.1,r.2.back c.ok c.excl.sub⟩
 | ret d=>exact r
theorem Qa5{A:Around}{env:Env}{s:Shared}{W:Addr->Prop}{ρ:Qf}{x:Str}{xp apos cpos pos:Pos}{arg:Expr}{f:Qf->Option D}{d:D}{l:Addr}{its:Array Value}{Q:Flow->Shared->Prop}{E:Value->Shared->Prop}
  (ha:Zo G n nowt ks arg f)(hs:∀ env,starEach [arg] env=[(false,eval arg env)])(hline:(apos.endLine == cpos.line)=true)(hv:Vis ks x=true)(hd:(x == ("__debug__":Str))=false)
  (hbase:∀ env,attributeBase (.Name x xp) "append" env (eval (.Name x xp) env)=eval (.Name x xp) env)
  (hfew:∀ env,((backTo cpos (starEach [arg] env)).all (fun x=>!x.1) && (backToKw cpos (keywordEach [] env)).all (fun x=>x.1.isSome) && decide ([arg].length + ([]:List Keyword).length + (if ([]:List Keyword).isEmpty then 0 else 1) < 30))=true)
  (hsw:∀ env,swapsWith (.Call (.Attribute (.Name x xp) "append" apos) [arg] [] cpos) none pos.line env=pure false)
  (c:Cx G n V ks A env s W ρ)(hx:ρ x=some (.raw (.ref l)))(hl:s.heap.PlainList l its)(hf:f ρ=some d)(hz:its.size <= 1000)
  (hW:W l)(h0:G.h₀.get? l=none)(hL:env.locals≠l)(hC:∀ y a,env.cells.lookup y=some a->a≠l)
  (h:∀ v s',Step G (fun a=>a=l) s s'->s'.heap.PlainList l (its.push v)->Rep G s'.heap W v d->Cx G n V ks A env s' W ρ->Q .next s'):
  wpAny (model G.prog G.w) A (exec (.Expr (.Call (.Attribute (.Name x xp) "append" apos) [arg] [] cpos) pos) env) Q E s:=by
 refine wpAny_Expr (hi:=by unfold interactive;rw [c.ok.kind];rfl) (hs:=hsw env) ?_
 have c0:=c.less (V':=nowt) fun _ q=>q.elim
 refine wpAny_Call_method (T:="list") (id:="list.append") (hbase env) (hfew env) hline PySem.F.plainAttrs_list PySem.F.slot_list_append PySem.F.type_list_append (Qb (G:=G) (n:=n) (V:=nowt) (ks:=ks) x xp hv hd A env s W ρ _ _ E c0 hx fun v s₁ k1 r₁=>?_)
 cases r₁
 have hl1:s₁.heap.PlainList l its:=by
  refine ob1_1 hl fun m e=>?_
  exact ⟨m,k1.exact e (.inl id) (by show Value.type "list"≠_;decide)⟩
 refine ob1_1 (id hl1) fun m el=>?_
 refine Jw ⟨_,el,rfl⟩ (fun a e=>by cases e;exact ⟨_,el,rfl⟩) ?_
 rw [hs]
 refine Calls.callWith_builtin (by rfl) (Calls.evalArgs_plain (Calls.spliced_cons (ha A env s₁ W ρ _ _ E (c0.step k1) hf fun u s2 k2 r₂=>Calls.spliced_nil ?_)))
 have el2:=k2.exact el (.inl id) (by show Value.type "list"≠_;decide)
 refine append_at (hsz:=by rw [sizeLine_eq];lia) el2 fun h' hs' ho'=>?_
 have k3:Step G (fun a=>a=l) s2 { s2 with heap:=h' }:=Qn (tk:=s2.toks) hs' rfl h0 ⟨_,ho'⟩ (fun o e t=>by rw [el2] at e;obtain rfl:=Qo e;exact absurd t.1 (by show Value.type "list"≠_;decide)) (Jr el2 (by show Value.type "list"≠_;decide)) (Qay el2 (by show Value.type "list"≠_;decide))
 have kk:Step G (fun a=>a=l) s { s2 with heap:=h' }:=(Qw (k1.trans k2)).trans k3
 have c₂:Cx G n V ks A env s2 W ρ:=(c.step (Qw (k1.trans k2)))
 refine h u _ kk ⟨_,ho'⟩ (r₂.mono (k3.keepX fun a ha=>ha ▸ hW)) (c₂.stepU k3 (fun a ha=>ha ▸ hW) hL fun y a e=>hC y a e)
end
noncomputable def Qbg:Arguments:={ posonlyargs:=[],args:=[{ arg:="one",annotation:=none,pos:=⟨152,31,152,34⟩ },{ arg:="other",annotation:=none,pos:=⟨152,36,152,41⟩ }],vararg:=none,kwonlyargs:=[],kw_defaults:=[],kwarg:=none,defaults:=[] }
noncomputable def Qd8:Expr:=.Call (.Name "merge_entries" ⟨152,43,152,56⟩) [.Name "one" ⟨152,57,152,60⟩,.Name "other" ⟨152,62,152,67⟩] [] ⟨152,43,152,68⟩
noncomputable def rwPos:Pos:=⟨152,24,152,68⟩
noncomputable def rwCall:Expr:=.Call (.Name "reduce" ⟨152,17,152,23⟩) [.Lambda Qbg Qd8 mgScope rwPos,.Name "chosen" ⟨152,70,152,76⟩] [] ⟨152,17,152,77⟩
noncomputable def mgF(F:List D->Option D):Qf->Option D:=fun ρ=>((ρ (Str.ofString "one")).bind fun a=>((ρ (Str.ofString "other")).bind fun a=>some [a]).map fun x=>a :: x).bind F
section
variable {G:Amb}[Qab G] {V:Addr->Prop}
theorem mg_free:mgScope.names.all (fun p=>!(p.2 == .free))=true:=by decide +kernel
theorem mg_names:Xs mgScope.names ["one","other"]:=Xm dk
theorem mg_body{F:List D->Option D}(AG:Qv G)(hF:FnOk G 3 V "merge_entries" F):Zo G 3 V mgScope.names Qd8 (mgF F):=
 Zw AG hF rfl (by lia) (fun _ h=>h) dk (Qc (fun _=>rfl) (Qb _ _ dk dk) (Qc (fun _=>rfl) (Qb _ _ dk dk) evs_nil))
theorem mg_vars(a b:D):Zl mgScope.names ["one","other"] [a,b] (fun _=>none) (Str.ofString "one")=some a∧Zl mgScope.names ["one","other"] [a,b] (fun _=>none) (Str.ofString "other")=some b:=⟨rfl,rfl⟩
theorem lam_merge{f c':Addr}{q:Str}{pm ctv:Value}(AG:Qv G)(hF:FnOk G 3 V "merge_entries" mergeF):FunAt G 4 V (Qaq f c' (kla_obj "<lambda>" q Qbg Qd8 mgScope [] pm c' ctv) q) (.ref f) mergeF:=by
 intro A s W vs ds d Q E hp good ex r hd h
 obtain ⟨a,b,rfl⟩:∃ a b,ds=[a,b]:=ob2_3 (Qfx hd) fun a b e _ _=>⟨_,_,e⟩
 refine ob2_3 (Qdt r) ?_;rintro v u rfl rv ru
 obtain ⟨l1,l2⟩:=mg_vars a b
 refine Qiy (n:=3) (V:=V) (W:=W) (fd:=kla_fn "<lambda>" q Qbg Qd8 mgScope [] pm (.ref c') ctv) (xs:=["one","other"]) (us:=[v,u]) (ds:=[a,b]) (ρc:=fun _=>none) AG good ex hp.1 rfl hp.2 rfl rfl rfl rfl rfl rfl mg_names (.of_eq rfl) r (Qaw mg_free) (mg_body AG hF) ?_ h
 unfold mgF
 rw [l1,l2]
 exact hd
end
structure TabOne (P lr:Addr) (O:Addr->Prop) (q:Str) (h:Heap) (c':Addr):Prop where
 tab:h.get? P=some (tabObj #[rawInt rwPos.line,rawInt rwPos.col,.ref c'])
 code:h.CodeRec (.ref c') q
 nP:c'≠P
 nl:c'≠lr
 nO:¬ O c'
noncomputable def TabSt(P lr:Addr)(O:Addr->Prop)(q:Str)(h:Heap):Prop:=h.get? P=some (tabObj #[])∨∃ c',TabOne P lr O q h c'
noncomputable abbrev mgObj(q:Str)(c':Addr)(pm ctv:Value):Obj:=kla_obj "<lambda>" q Qbg Qd8 mgScope [] pm c' ctv
section
variable {G:Amb}{n:Nat}
theorem tab_cls{ps:Array Value}:(tabObj ps).cls≠.type "frame":=by intro q;cases q
theorem TabOne.step{P lr c':Addr}{O U:Addr->Prop}{q:Str}{s s':Shared}(x:TabOne P lr O q s.heap c')(k:Step G U s s')(hP:¬ U P)(hc:¬ U c'):TabOne P lr O q s'.heap c':=
 ⟨k.exact x.tab (.inl hP) tab_cls,Xv k x.code hc,x.nP,x.nl,x.nO⟩
theorem TabSt.step{P lr:Addr}{O U:Addr->Prop}{q:Str}{s s':Shared}(x:TabSt P lr O q s.heap)(k:Step G U s s')(hU:∀ a,U a->O a∨a=lr)(nP:¬ O P)(nl:P≠lr):TabSt P lr O q s'.heap:=by
 have hP:¬ U P:=fun u=>(hU _ u).elim nP nl
 rcases x with x | ⟨c',x⟩
 ·exact .inl (k.exact x (.inl hP) tab_cls)
 ·exact .inr ⟨c',x.step k hP fun u=>(hU _ u).elim x.nO x.nl⟩
theorem lam_turn{A:Around}{env:Env}{s:Shared}{W O:Addr->Prop}{ρ:Qf}{P lr cd:Addr}{Q:Value->Shared->Prop}{E:Value->Shared->Prop}(AG:Qv G)(bm:G.h₀.BuiltinsAt G.mg P)(p0:G.h₀.get? P=none)
  (c:Cx G n nowt (Qe 18).names A env s W ρ)(okP:EnvOk G (fun a=>a=P) (Qe 18).names env)(hWP:W P)(hWl:W lr)(hWO:∀ a,O a->W a)(hcode:env.code=.ref cd)(C:CodeHd G.h₀ cd P)(t:TabSt P lr O (env.qual ++ "<lambda>") s.heap)
  (h:∀ f c' pm ctv s',Step G (fun a=>a=P) s s'->s.heap.get? f=none->Qaq f c' (mgObj (env.qual ++ "<lambda>") c' pm ctv) (env.qual ++ "<lambda>") s'.heap->TabOne P lr O (env.qual ++ "<lambda>") s'.heap c'->Q (.ref f) s'):
  wpAny (model G.prog G.w) A (eval (.Lambda Qbg Qd8 mgScope rwPos) env) Q E s:=by
 have cP:Cx G n (fun a=>a=P) (Qe 18).names A env s W ρ:=c.back okP fun a ha=>ha ▸ hWP
 rcases t with t | ⟨c',t⟩
 ·refine Qg3 AG bm p0 cP rfl hcode C t rfl Qcx fun f c' ctv pm s' k nf nc hf hr ht hx=>?_
  have ne:∀ a,W a->c'≠a:=fun a ha q=>by refine ob1_1 (c.excl.live a ha) fun o e=>?_;rw [← q,nc] at e;exact nSo e
  exact h f c' pm ctv s' k nf ⟨hf,hr⟩ ⟨ht,hr,ne _ hWP,ne _ hWl,fun q=>ne _ (hWO _ q) rfl⟩
 ·refine lam_hit AG bm cP hcode C t.tab rfl Qcx fun f ctv pm s' k nf hf kk=>?_
  have hr:s'.heap.CodeRec (.ref c') (env.qual ++ "<lambda>"):=Heap.CodeRec.at t.code fun o e=>kk _ o e
  exact h f c' pm ctv s' k nf ⟨hf,hr⟩ ⟨kk _ _ t.tab,hr,t.nP,t.nl,t.nO⟩
end
noncomputable def Jj(es:List Ent)(w:Nat):List Ent:=(Qad (w:Nat)).map fun k=>es.getD k.toNat ⟨[],[],none,none⟩
noncomputable def Qdw(es:List Ent)(w:Nat):Ent:=match Jj es w with
 | []=>⟨[],[],none,none⟩
 | e :: r=>Qm e r
noncomputable def Qjh(es:List Ent)(w:Nat):List Str:=texts.filter fun t=>decide (t ∈ (Qdw es w).u)
noncomputable def Qc7(es:List Ent)(k:Nat):List (List Str):=texts :: (List.range k).map fun i=>Qjh es (i + 1)
noncomputable def Qac(es:List Ent):List (List Str):=Qc7 es 15
noncomputable def rwS1:Stmt:=.Assign [.Name "rows" ⟨149,4,149,8⟩] (.List [.Call (.Name "_law_texts" ⟨149,12,149,22⟩) [] [] ⟨149,12,149,24⟩] ⟨149,11,149,25⟩) ⟨149,4,149,25⟩
noncomputable def rwIter:Expr:=.Call (.Name "range" ⟨150,17,150,22⟩) [.Constant (.int 1) 0 ⟨150,23,150,24⟩,.Constant (.int 16) 0 ⟨150,26,150,28⟩] [] ⟨150,17,150,29⟩
noncomputable def rwB1:Stmt:=.Assign [.Name "chosen" ⟨151,8,151,14⟩] (.ListComp (.Subscript (.Name "records" ⟨151,18,151,25⟩) (.Name "k" ⟨151,26,151,27⟩) ⟨151,18,151,28⟩) [⟨.Name "k" ⟨151,33,151,34⟩,.Call (.Name "_law_members" ⟨151,38,151,50⟩) [.Name "which" ⟨151,51,151,56⟩] [] ⟨151,38,151,57⟩,[],0⟩]
 { kind:=.function,names:=[(".0",.local),("k",.local),("records",.free)],isGenerator:=false,isCoroutine:=false,more:=[] } ⟨151,17,151,58⟩) ⟨151,8,151,58⟩
noncomputable def rwB2:Stmt:=.Assign [.Name "merged" ⟨152,8,152,14⟩] rwCall ⟨152,8,152,77⟩
noncomputable def rwB3:Stmt:=.If (.UnaryOp .Not (.Call (.Name "_law_merge_is_right" ⟨153,15,153,34⟩) [.Name "merged" ⟨153,35,153,41⟩,.Name "chosen" ⟨153,43,153,49⟩] [] ⟨153,15,153,50⟩) ⟨153,11,153,50⟩) [.Return (some (.Constant .none 0 ⟨154,19,154,23⟩)) ⟨154,12,154,23⟩] [] ⟨153,8,154,23⟩
noncomputable def rwB4:Stmt:=.Expr (.Call (.Attribute (.Name "rows" ⟨155,8,155,12⟩) "append" ⟨155,8,155,19⟩) [.Call (.Name "_law_row" ⟨155,20,155,28⟩) [.Name "merged" ⟨155,29,155,35⟩] [] ⟨155,20,155,36⟩] [] ⟨155,8,155,37⟩) ⟨155,8,155,37⟩
theorem body18:Jl 18=[rwS1,.For (.Name "which" ⟨150,8,150,13⟩) rwIter [rwB1,rwB2,rwB3,rwB4] [] ⟨150,4,155,37⟩,.Return (some (.Name "rows" ⟨156,11,156,15⟩)) ⟨156,4,156,15⟩]:=by rfl
theorem Qjt:∀ w < 16,1 <= w->Qad (w:Nat)≠[]:=by decide +kernel
theorem memb_lt:∀ w < 16,∀ k ∈ Qad (w:Nat),0 <= k∧k < 4:=by decide +kernel
theorem Qg0:∀ w < 16,(Qad (w:Nat)).length <= 4:=by decide +kernel
theorem Qgb:∀ l:List Ent,Qgc (l.map D.ent)=some l
 | []=>rfl
 | a :: l=>by simp [Qln,Qgb l]
theorem pack_ents(a:Ent)(l:List Ent):Qcs ((a :: l).map D.ent)=some (.ents (a :: l)):=by
 have e2:Xz ((a :: l).map D.ent)=none:=rfl
 unfold Qcs
 rw [e2,Qgb]
 rfl
section
variable {G:Amb}[Qab G]
theorem rw_chosen(AG:Qv G)(h_m:∃ F,FnOk G 1 nowt "_law_members" F∧∀ w:Int,0 <= w->w < 16->F [.data (.int w)]=some (Xa (Qad w))):
  ∃ g,Qm1 G 5 nowt (Qe 18).names rwB1 g∧∀ (es:List Ent) (ρ:Qf) (w:Nat),es.length=4->1 <= w->w < 16->ρ (Str.ofString "records")=some (.ents es)->ρ (Str.ofString "which")=some (.data (.int (w:Nat)))->g ρ=some (.next (upd ρ (Str.ofString "chosen") (.ents (Jj es w)))):=by
 obtain ⟨Fm,h__law_members,eM⟩:=h_m
 refine in1_2 _ (Qd5 dk (Zj (Zw AG h__law_members rfl (by lia) (fun _ h=>h) dk (Qc (fun _=>rfl) (Qb _ _ dk dk) evs_nil))) (fun _ _=>rfl) Qai (Zu (fun _ _ _=>rfl) (Qb _ _ dk dk) (Qb _ _ dk dk)) rfl dk rfl rfl) ?_
 intro es ρ w h4 h1 h16 l1 l2
 have hlen:((Qad (w:Nat)).map fun k=>D.data (.int k)).length <= 1000:=by rw [List.length_map];have:=Qg0 w h16;lia
 have c1:Xl (Str.ofString "k") (fun _=>some true) (fun ρ=>(ρ (Str.ofString "records")).bind fun a=>(ρ (Str.ofString "k")).bind fun b=>Qb5 a b) ρ ((Qad (w:Nat)).map fun k=>D.data (.int k))=some ((Qad (w:Nat)).map fun k=>D.ent (es.getD k.toNat ⟨[],[],none,none⟩)):=by
  refine Xq fun k hk=>?_
  obtain ⟨k0,k4⟩:=memb_lt w h16 k hk
  have e1:(upd ρ (Str.ofString "k") (D.data (.int k))) (Str.ofString "records")=some (.ents es):=by simp [upd,ofString_inj,l1]
  rw [e1,Qd,Option.bind_some,Option.bind_some]
  have hlt:k.toNat < es.length:=by lia
  show (if 0 <= k∧k < 2 ^ 62 then (es[k.toNat]?).map D.ent else none)=_
  rw [if_pos ⟨k0,by lia⟩,List.getD_eq_getElem?_getD,List.getElem?_eq_getElem hlt]
  rfl
 obtain ⟨a,r,har⟩:∃ a r,Qad (w:Nat)=a :: r:=by
  cases hm:Qad (w:Nat) with
  | nil=>exact absurd hm (Qjt w h16 h1)
  | cons a r=>exact in2_1 a r rfl
 have hp:Qcs ((Qad (w:Nat)).map fun k=>D.ent (es.getD k.toNat ⟨[],[],none,none⟩))=some (.ents (Jj es w)):=by
  have e:((Qad (w:Nat)).map fun k=>D.ent (es.getD k.toNat ⟨[],[],none,none⟩))=(Jj es w).map D.ent:=by
   unfold Jj
   rw [List.map_map];rfl
  rw [e]
  unfold Jj
  rw [har,List.map_cons,pack_ents]
 simp only [l2,Option.bind_some,Option.map_some,eM _ (Int.natCast_nonneg w) (by lia),Jh,Ji,List.map_map,Function.comp_def,List.length_map]
 have hlen':(Qad (w:Nat)).length <= 1000:=by have:=Qg0 w h16;lia
 rw [if_pos hlen',c1,Option.bind_some,hp,Option.map_some]
theorem rw_right(AG:Qv G)(h_r:∃ F,FnOk G 2 nowt "_law_merge_is_right" F∧∀ (e:Ent) (es:List Ent),(∀ x ∈ e :: es,Qa1 x)->es.length <= 10->F [.ent (Qm e es),.ents (e :: es)]=some (.data (.bool true))):
  ∃ g,Qm1 G 5 nowt (Qe 18).names rwB3 g∧∀ (e:Ent) (es:List Ent) (ρ:Qf),(∀ x ∈ e :: es,Qa1 x)->es.length <= 10->ρ (Str.ofString "merged")=some (.ent (Qm e es))->ρ (Str.ofString "chosen")=some (.ents (e :: es))->g ρ=some (.next ρ):=by
 refine ob1_2 h_r fun Fr h__law_merge_is_right eR=>?_
 refine in1_2 _ (Qgl (test_not (test_val Qq (Zw AG h__law_merge_is_right rfl (by lia) (fun _ h=>h) dk (Qc (fun _=>rfl) (Qb _ _ dk dk) (Qc (fun _=>rfl) (Qb _ _ dk dk) evs_nil))) (fun _ _=>rfl))) (Qk (Qu (Qaj _ _)) Zh) Zh) ?_
 intro e es ρ he hl l1 l2
 simp only [l1,l2,Option.bind_some,Option.map_some,eR e es he hl,Jz,Bool.not_true,Bool.false_eq_true,if_false]
end
section
variable {G:Amb}[Qab G]
theorem rw_reduce{A:Around}{env:Env}{s:Shared}{W O X:Addr->Prop}{ρ:Qf}{P lr cd:Addr}{e:Ent}{es:List Ent}{Q:Flow->Shared->Prop}{E:Value->Shared->Prop}(AG:Qv G)(FO:Zp G)(RA:Qi1 G)(hF:FnOk G 3 nowt "merge_entries" mergeF)(bm:G.h₀.BuiltinsAt G.mg P)(p0:G.h₀.get? P=none)
  (c:Cx G 5 nowt (Qe 18).names A env s W ρ)(ow:Own G (Qe 18).names env W O)(okP:EnvOk G (fun a=>a=P) (Qe 18).names env)(hWP:W P)(hWl:W lr)(hcode:env.code=.ref cd)(C:CodeHd G.h₀ cd P)(t:TabSt P lr X (env.qual ++ "<lambda>") s.heap)(hOX:∀ a,O a->X a)(hXW:∀ a,X a->W a)(nXP:¬ X P)
  (hc:ρ "chosen"=some (.ents (e :: es)))(hok:∀ x ∈ e :: es,Qa1 x)(hlen:es.length <= 10)
  (h:∀ s',Step G (fun a=>a=P∨O a) s s'->Cx G 5 nowt (Qe 18).names A env s' W (upd ρ "merged" (.ent (Qm e es)))->TabSt P lr X (env.qual ++ "<lambda>") s'.heap->Q .next s'):
  wpAny (model G.prog G.w) A (exec rwB2 env) Q E s:=by
 refine ob4_4 RA.ex fun fr of fd im hmr hor hdr _=>?_
 unfold rwB2
 refine wpAny_Assign_Name ?_ (by rfl)
 unfold rwCall
 refine wpAny_Call_NameR (Xc AG c.good.base c.ok rfl hmr dk ?_)
 refine callWith_of (P:=fun h=>G.h₀.StaysIn h) (by rfl) (fun h hb=>⟨.frame,.inl rfl,(Looks.ld (part:=none) (hb _ _ hor)).andThen (by rw [hdr];exact .now)⟩) (Zm (by rfl) ?_)
 refine spliced_more (e:=.Lambda Qbg Qd8 mgScope rwPos) (rest:=[.Name "chosen" ⟨152,70,152,76⟩]) ?_
 refine lam_turn AG bm p0 c okP hWP hWl hXW hcode C t fun f c' pm ctv s₁ k1 nf lam tab=>?_
 have c1:Cx G 5 nowt (Qe 18).names A env s₁ W ρ:=((c.back okP fun a ha=>ha ▸ hWP).stepU k1 (fun a ha=>ha ▸ hWP) okP.apart.1 okP.apart.2).less fun _ q=>q.elim
 have nfW:∀ a,W a->f≠a:=fun a ha q=>by refine ob1_1 (c.excl.live a ha) fun o e=>?_;rw [← q,nf] at e;exact nSo e
 refine spliced_more (e:=.Name "chosen" ⟨152,70,152,76⟩) (rest:=[]) ?_
 refine Qb (G:=G) (n:=5) (V:=nowt) (ks:=(Qe 18).names) "chosen" ⟨152,70,152,76⟩ dk dk _ env s₁ _ _ _ _ _ c1 hc fun v s2 k2 r₂=>Calls.spliced_nil ?_
 have c₂:=c1.step k2
 refine ob2_2 (id r₂) ?_;rintro l vs rfl _
 refine ⟨c₂.good.base,?_⟩
 have lam2:Qaq f c' (mgObj (env.qual ++ "<lambda>") c' pm ctv) (env.qual ++ "<lambda>") s2.heap:=⟨k2.exact lam.1 (.inl id) (by show Value.type "function"≠_;decide),Xv k2 lam.2 id⟩
 refine Qj9 (n:=4) (V:=nowt) AG FO RA c₂.good c₂.excl lam2 rfl (by show Value.type "function"≠_;decide) id id (lam_merge AG hF) hmr r₂ hok hlen fun v s3 k3 r₃=>?_
 have c3:=c₂.step k3
 have tab3:=(tab.step (k2.trans k3) id id)
 refine Qt c3 ow.sub ow.base (ow.store (.inl rfl) dk) r₃ fun s4 k4 c4=>?_
 refine h s4 (((k1.mono fun a ha=>.inl ha).trans (Qw (k2.trans k3))).trans (k4.mono fun a ha=>.inr ha)) c4 (.inr ⟨c',tab3.step k4 (fun q=>nXP (hOX _ q)) fun q=>tab.nO (hOX _ q)⟩)
end
noncomputable abbrev rowDs(rs:List (List Str)):List PyData:=rs.map fun r=>.list (r.map .str)
theorem Qjg(es:List Ent)(k:Nat):Qc7 es (k + 1)=Qc7 es k ++ [Qjh es (k + 1)]:=by
 unfold Qc7
 rw [List.range_succ,List.map_append]
 rfl
theorem Qfc:∀ {r:List Ent}{e:Ent},(∀ x ∈ e :: r,Qa1 x)->texty (Qm e r).u
 | [],e,h=>(h e (.head _)).u
 | b :: r,e,h=>by
  have key:∀ (r:List Ent) (a:Ent),texty a.u->texty (Qm a r).u:=fun r=>by
   induction r with
   | nil=>exact fun a ha=>ha
   | cons b r ih=>exact fun a ha=>ih (Xg a b) fun x hx=>ha x (List.mem_filter.mp hx).1
  exact key (b :: r) e (h e (.head _)).u
section
variable {G:Amb}[Qab G]
structure RwInv (G:Amb) (es:List Ent) (P lr:Addr) (X W:Addr->Prop) (q:Str) (k:Nat) (ρ:Qf) (s:Shared):Prop where
 recs:ρ "records"=some (.ents es)
 rows:ρ "rows"=some (.raw (.ref lr))
 list:∃ vs,s.heap.PlainList lr (List.toArray vs)∧RepDs s.heap W vs (rowDs (Qc7 es k))
 tab:TabSt P lr X q s.heap
theorem rw_turn{A:Around}{env:Env}{s:Shared}{W O X:Addr->Prop}{ρ:Qf}{P lr cd:Addr}{es:List Ent}{k:Nat}{Q:Flow->Shared->Prop}{E:Value->Shared->Prop}(AG:Qv G)(FO:Zp G)(RA:Qi1 G)(hF:FnOk G 3 nowt "merge_entries" mergeF)(bm:G.h₀.BuiltinsAt G.mg P)(p0:G.h₀.get? P=none)
  (h_m:∃ F,FnOk G 1 nowt "_law_members" F∧∀ w:Int,0 <= w->w < 16->F [.data (.int w)]=some (Xa (Qad w)))
  (h_r:∃ F,FnOk G 2 nowt "_law_merge_is_right" F∧∀ (e:Ent) (es:List Ent),(∀ x ∈ e :: es,Qa1 x)->es.length <= 10->F [.ent (Qm e es),.ents (e :: es)]=some (.data (.bool true)))
  (h_w:∃ F,FnOk G 2 nowt "_law_row" F∧∀ e:Ent,texty e.u->F [.ent e]=some (Qz (texts.filter fun t=>decide (t ∈ e.u))))
  (c:Cx G 5 nowt (Qe 18).names A env s W ρ)(ow:Own G (Qe 18).names env W O)(okP:EnvOk G (fun a=>a=P) (Qe 18).names env)(hWP:W P)(hWl:W lr)(hcode:env.code=.ref cd)(C:CodeHd G.h₀ cd P)(hOX:∀ a,O a->X a)(hXW:∀ a,X a->W a)(nXP:¬ X P)(nPl:P≠lr)(nOl:¬ O lr)(l0:G.h₀.get? lr=none)
  (hL:env.locals≠lr)(hC:∀ y a,env.cells.lookup y=some a->a≠lr)(h4:es.length=4)(hok:∀ x ∈ es,Qa1 x)(hk:k < 15)(hw:ρ "which"=some (.data (.int ((k + 1:Nat):Int))))(inv:RwInv G es P lr X W (env.qual ++ "<lambda>") k ρ s)
  (h:∀ s' ρ',Step G (fun a=>a=P∨O a∨a=lr) s s'->Cx G 5 nowt (Qe 18).names A env s' W ρ'->RwInv G es P lr X W (env.qual ++ "<lambda>") (k + 1) ρ' s'->Q .next s'):
  wpAny (model G.prog G.w) A (execs [rwB1,rwB2,rwB3,rwB4] env) Q E s:=by
 refine ob1_2 (rw_chosen AG h_m) fun g1 hg1 eg1=>?_
 refine ob1_2 (rw_right AG h_r) fun g3 hg3 eg3=>?_
 refine ob1_2 h_w fun Fw h__law_row eW=>?_
 refine ob1_2 inv.list fun vs hl hr=>?_
 have nOP:¬ O P:=fun q=>nXP (hOX _ q)
 refine wpAny_execs_cons (Qaf hg1 c ow (eg1 es ρ (k + 1) h4 (by lia) (by lia) inv.recs hw) fun fl s₁ k1 r₁=>?_)
 obtain ⟨rfl,c1⟩:=r₁
 obtain ⟨e,r,her⟩:∃ e r,Jj es (k + 1)=e :: r:=by
  cases hm:Jj es (k + 1) with
  | nil=>exact absurd (List.map_eq_nil_iff.mp hm) (Qjt (k + 1) (by lia) (by lia))
  | cons a r=>exact in2_1 a r rfl
 have hmem:∀ x ∈ e :: r,Qa1 x:=fun x hx=>by
  rw [← her] at hx;replace hx:=hx
  refine ob1_2 (List.mem_map.mp hx) ?_;rintro j hj rfl
  refine Qx (memb_lt (k + 1) (by lia) j hj) fun j0 j4=>?_
  have hlt:j.toNat < es.length:=by lia
  rw [List.getD_eq_getElem?_getD,List.getElem?_eq_getElem hlt]
  exact hok _ (List.getElem_mem _)
 have hrl:r.length <= 10:=by
  have:(e :: r).length <= 4:=by rw [← her];unfold Jj;rw [List.length_map];exact Qg0 (k + 1) (by lia)
  simp at this;lia
 have t₁:=inv.tab.step k1 (fun a ha=>.inl (hOX _ ha)) nXP nPl
 refine wpAny_execs_cons (rw_reduce AG FO RA hF bm p0 c1 ow okP hWP hWl hcode C t₁ hOX hXW nXP (by rw [Qd,her]) hmem hrl fun s2 k2 c₂ t₂=>?_)
 refine wpAny_execs_cons (Qaf hg3 c₂ ow (eg3 e r _ hmem hrl (Qd _ _ _) (by simp [upd,ofString_inj,her])) fun fl s3 k3 r₃=>?_)
 obtain ⟨rfl,c3⟩:=r₃
 have kl:Step G (fun a=>a=P∨O a) s s3:=((k1.mono fun a ha=>.inr ha).trans k2).trans (k3.mono fun a ha=>.inr ha)
 have nlU:¬ (lr=P∨O lr):=fun q=>q.elim (fun q=>nPl q.symm) nOl
 have hl3:s3.heap.PlainList lr (List.toArray vs):=by
  refine ob1_1 hl fun m em=>?_
  exact ⟨m,kl.exact em (.inl nlU) (by show Value.type "list"≠_;decide)⟩
 have kx:=kl.keepX (W:=W) fun a ha=>ha.elim (fun q=>q ▸ hWP) (ow.sub a)
 have hr3:=hr.mono kx
 have t₃:=t₂.step k3 (fun a ha=>.inl (hOX _ ha)) nXP nPl
 have hmrg:Qdw es (k + 1)=Qm e r:=by unfold Qdw;rw [her]
 have hut:texty (Qm e r).u:=Qfc hmem
 have hvl:vs.length=k + 1:=by rw [hr.length];simp [Qc7]
 unfold rwB4
 refine wpAny_execs_cons (Qa5 (f:=fun ρ=>((ρ (Str.ofString "merged")).bind fun a=>some [a]).bind Fw) (d:=Qz (Qjh es (k + 1))) (Zw AG h__law_row rfl (by lia) (fun _ h=>h) dk (Qc (fun _=>rfl) (Qb _ _ dk dk) evs_nil))
  (fun _=>rfl) rfl dk dk (fun _=>rfl) (fun _=>rfl) (fun _=>rfl) c3 (by simp [upd,ofString_inj,inv.rows]) hl3 (by rw [Qd];show Fw [.ent (Qm e r)]=_;rw [eW _ hut];unfold Qjh;rw [hmrg]) (by rw [List.size_toArray];lia) hWl l0 hL hC fun v s4 k4 hl4 hv4 c4=>?_)
 have kx4:=k4.keepX (W:=W) fun a ha=>ha ▸ hWl
 refine wpAny_execs_nil (h s4 _ ((kl.mono fun a ha=>ha.elim .inl fun q=>.inr (.inl q)).trans (k4.mono fun a ha=>.inr (.inr ha))) c4 ⟨by simp [upd,ofString_inj,inv.recs],by simp [upd,ofString_inj,inv.rows],⟨vs ++ [v],by simpa using hl4,?_⟩,t₃.step k4 (fun a ha=>.inr ha) nXP nPl⟩)
 rw [Qjg]
 unfold rowDs
 rw [List.map_append]
 exact (hr3.mono kx4).snoc hv4
end
noncomputable def Qd7(k:Nat):List D:=(List.range' k (15 - k)).map fun i=>D.data (.int (1 + (i:Nat)))
theorem Qje{k:Nat}{d:D}{rest:List D}(h:d :: rest=Qd7 k):k < 15∧d=.data (.int ((k + 1:Nat):Int))∧rest=Qd7 (k + 1):=by
 unfold Qd7 at h
 by_cases hk:k < 15
 ·have e:15 - k=(15 - (k + 1)) + 1:=by lia
  rw [e,List.range'_succ,List.map_cons] at h
  refine Qx (List.cons.inj h) fun h1 h2=>?_
  refine Jw hk ?_ h2
  have e2:(1:Int) + (k:Nat)=((k + 1:Nat):Int):=by lia
  rw [h1,e2]
 ·have e:15 - k=0:=by lia
  rw [e] at h;replace h:=h
  cases h
theorem Ql2{k:Nat}(hk:k <= 15)(h:[]=Qd7 k):k=15:=by
 unfold Qd7 at h
 have:=congrArg List.length h
 simp at this
 lia
theorem Qko{h h':Heap}{W:Addr->Prop}:∀ {us:List Value}{xs:List Str},RepDs h W us (xs.map .str)->RepDs h' W us (xs.map .str)
 | us,[],r=>by
  have:=r.inv_nil
  subst this
  exact .nil
 | us,x :: xs,r=>by
  refine ob2_3 r.inv ?_;rintro v vs' rfl a b
  obtain ⟨t,rfl⟩:=RepD.str_inv a
  exact .cons (RepD.str _ _) (Qko b)
theorem Qku{h h':Heap}{W:Addr->Prop}{I:Addr}(he:Heap.ExtBut I h h')(hI:W I):∀ {vs:List Value}{rs:List (List Str)},RepDs h W vs (rowDs rs)->RepDs h' W vs (rowDs rs)
 | vs,[],r=>by
  have:=r.inv_nil
  subst this
  exact .nil
 | vs,x :: rs,r=>by
  refine ob2_3 r.inv ?_;rintro v vs' rfl a b
  refine ob2_4 (RepD.list_iff a) ?_;rintro ad us rfl wn z0;refine ob1_3 z0 fun o e c d=>?_;rintro rr
  exact .cons (RepD.list wn ⟨o,he ad o (fun q=>wn (q ▸ hI)) e,c,d⟩ (Qko rr)) (Qku he hI b)
section
variable {G:Amb}[Qab G] {V:Addr->Prop}
theorem fn_rows{P:Addr}{es:List Ent}(AG:Qv G)(FO:Zp G)(RA:Qi1 G)(L:Qe6 G 18 P)(hV:V P)(hF:FnOk G 3 nowt "merge_entries" mergeF)
  (h_t:∃ F,FnOk G 1 nowt "_law_texts" F∧F []=some (Qz texts))
  (h_m:∃ F,FnOk G 1 nowt "_law_members" F∧∀ w:Int,0 <= w->w < 16->F [.data (.int w)]=some (Xa (Qad w)))
  (h_r:∃ F,FnOk G 2 nowt "_law_merge_is_right" F∧∀ (e:Ent) (es:List Ent),(∀ x ∈ e :: es,Qa1 x)->es.length <= 10->F [.ent (Qm e es),.ents (e :: es)]=some (.data (.bool true)))
  (h_w:∃ F,FnOk G 2 nowt "_law_row" F∧∀ e:Ent,texty e.u->F [.ent e]=some (Qz (texts.filter fun t=>decide (t ∈ e.u))))(h4:es.length=4)(hok:∀ x ∈ es,Qa1 x):
  FnAt G 6 V (fun h=>h.get? P=some (tabObj #[])) "_law_rows" [.ents es] (Zy (Qac es)):=by
 refine ob5_5 L.dt.ex fun fa o pm cd doc ho hdat hcr hcd hm=>?_
 refine ob1_2 h_t fun Ft h__law_texts eT=>?_
 refine ⟨fa,o,_,hm,ho,hdat,fun A s W vs Q E hP good ex r h=>?_⟩
 refine ob1_2 (Xr r) ?_;rintro v0 rfl rv
 refine wpAny_call (Qb7 (n:=5) (V:=V) (W:=W) (xs:=["records"]) (ds:=[.ents es]) AG good ex (good.base _ _ ho) hdat (hcr.keeps good.base) rfl r dk dk dk rfl rfl rfl dk ?_)
 intro s₁ env O E' k1 kk c₁ ow hO hcode hqual hcells
 have c1:=c₁.less (V':=nowt) fun _ q=>q.elim
 have okP:EnvOk G (fun a=>a=P) (Qe 18).names env:=c₁.ok.less fun a ha=>ha ▸ hV
 have hWP:W P:=ex.sub _ hV
 have nOP:¬ O P:=fun q=>by have:=hO _ q;rw [hP] at this;exact noS this
 rw [body18]
 unfold rwS1
 refine wpAny_execs_cons (wpAny_Assign_Name ?_ (by rfl))
 refine List_ ((Qc (fun _=>rfl) (Zw (n:=5) (V:=nowt) (ks:=(Qe 18).names) (np:=⟨149,12,149,22⟩) (pos:=⟨149,12,149,24⟩) AG h__law_texts rfl (by lia) (fun _ h=>h) dk evs_nil) evs_nil).2 _ env s₁ _ _ [Qz texts] _ _ _ c1 (by simp [eT]) fun vs s2 k2 r₂=>?_);refine Zf ?_;intro Q0 E0
 refine ob1_2 (Xr r₂) ?_;rintro v rfl rt
 refine wpAny_newList ?_ (by rw [sizeLine_eq];simp)
 refine Qdb (s2.heap.objs.size) fun lr hlr=>?_
 refine Qdb (({ s2 with heap:=s2.heap.push (seqObj "list" (List.toArray [v]) 0) }:Shared)) fun s3 hs3=>?_
 have h3:s3.heap=s2.heap.push (seqObj "list" (List.toArray [v]) 0):=by rw [← hs3]
 have k3:Step G nowt s2 s3:=by rw [← hs3];exact .push s2 _
 have hl3:s3.heap.PlainList lr (List.toArray [v]):=by rw [h3,← hlr];exact ⟨0,Heap.get?_push_size _ rfl⟩
 have newl2:s2.heap.get? lr=none:=by rw [← hlr];exact Heap.get?_none_of_le (Nat.le_refl _)
 have newl1:s₁.heap.get? lr=none:=k2.get_none newl2
 have newl:s.heap.get? lr=none:=k1.get_none newl1
 refine Qaa (Jb c1 newl1) fun neL neC nVl nWl l0=>?_
 have nOl:¬ O lr:=fun q=>nWl (.inr q)
 have nPl:P≠lr:=fun q=>by rw [q,newl] at hP;exact nSo hP
 have k23:=k2.trans k3
 have nx:Qd0 s₁.heap (fun a=>W a∨O a) (fun a=>(W a∨O a)∨a=lr):=fun a ob ea hw=>hw.elim id fun q=>by rw [q,newl1] at ea;exact nSo ea
 have nx2:Qd0 s2.heap (fun a=>W a∨O a) (fun a=>(W a∨O a)∨a=lr):=fun a ob ea hw=>hw.elim id fun q=>by rw [q,newl2] at ea;exact nSo ea
 have liveW3:∀ a,((W a∨O a)∨a=lr)->∃ o,s3.heap.get? a=some o:=fun a ha=>ha.elim (fun q=>(c1.step k23).excl.live a q) fun q=>by refine ob1_1 hl3 fun m e=>?_;exact ⟨_,q ▸ e⟩
 have c3:Cx G 5 nowt (Qe 18).names (A.deeper env) env s3 (fun a=>(W a∨O a)∨a=lr) (Xt ["records"] [.ents es]):=c1.widen k23 (fun a ha=>.inl ha) nx liveW3
 have ow3:Own G (Qe 18).names env (fun a=>(W a∨O a)∨a=lr) O:=ow.wide fun a ha=>.inl ha
 have rt3:Rep G s3.heap (fun a=>(W a∨O a)∨a=lr) v (Qz texts):=(rt.strong nx2).mono (k3.keepX fun _ q=>q.elim)
 refine Qt c3 ow3.sub ow3.base (ow3.store (.inl rfl) dk) (d:=.raw (.ref lr)) rfl fun s4 k4 c4=>?_;refine Zf ?_;intro Q0 E0
 have hl4:s4.heap.PlainList lr (List.toArray [v]):=by
  refine ob1_1 hl3 fun m e=>?_
  exact ⟨m,k4.exact e (.inl nOl) (by show Value.type "list"≠_;decide)⟩
 have rt4:=rt3.mono (k4.keepX ow3.sub)
 have hP4:s4.heap.get? P=some (tabObj #[]):=k4.exact (k23.exact (kk _ _ hP) (.inl id) tab_cls) (.inl nOP) tab_cls
 refine wpAny_execs_cons ?_;refine Zf ?_;intro Q0 E0
 unfold rwIter
 refine wpAny_For (Xk (G:=G) (n:=5) (V:=nowt) (ks:=(Qe 18).names) AG rfl (FO _ dk) (Qc (fun _=>rfl) (Qj _ _ _) (Qc (fun _=>rfl) (Qj _ _ _) evs_nil)) _ env s4 _ _ (Qd7 0) _ _ c4 ?_ fun I s5 k5 hI it5=>?_) (fun _=>rfl)
 ·simp only [Option.bind_some,Option.map_some]
  rw [Qfq ⟨by decide,by decide,by decide,by decide⟩]
  rfl
 refine Qaa (Jb c4 hI) fun neIL neIC _ nWI bI=>?_
 refine ob1_2 it5.cls fun oI eI _=>?_
 have nxI:Qd0 s4.heap (fun a=>(W a∨O a)∨a=lr) (fun a=>((W a∨O a)∨a=lr)∨a=I):=fun a ob ea hw=>hw.elim id fun q=>by rw [q,hI] at ea;exact nSo ea
 have c5:Cx G 5 nowt (Qe 18).names (A.deeper env) env s5 (fun a=>((W a∨O a)∨a=lr)∨a=I) _:=c4.widen k5 (fun a ha=>.inl ha) nxI (fun a ha=>ha.elim (fun q=>(c4.step k5).excl.live a q) fun q=>⟨oI,q ▸ eI⟩)
 have nIP:P≠I:=fun q=>by rw [q,hI] at hP4;exact nSo hP4
 have nIl:lr≠I:=fun q=>by refine ob1_1 hl4 fun m e=>?_;rw [q,hI] at e;exact nSo e
 have nIO:¬ O I:=fun q=>nWI (.inl (.inr q))
 have hl5:s5.heap.PlainList lr (List.toArray [v]):=by
  refine ob1_1 hl4 fun m e=>?_
  exact ⟨m,k5.exact e (.inl id) (by show Value.type "list"≠_;decide)⟩
 have rt5:Rep G s5.heap (fun a=>((W a∨O a)∨a=lr)∨a=I) v (Qz texts):=(rt4.strong nxI).mono (k5.keepX fun _ q=>q.elim)
 let U:Addr->Prop:=fun a=>a=P∨O a∨a=lr
 have hUW:∀ a,U a->(W a∨O a)∨a=lr:=fun a ha=>ha.elim (fun q=>.inl (.inl (q ▸ hWP))) fun q=>q.elim (fun q=>.inl (.inr q)) .inr
 have inv0:RwInv G es P lr (fun a=>O a∨a=I) (fun a=>((W a∨O a)∨a=lr)∨a=I) (env.qual ++ "<lambda>") 0 (upd (Xt ["records"] [.ents es]) "rows" (.raw (.ref lr))) s5:=
  ⟨by simp [upd,ofString_inj,Qp],by simp [upd],⟨[v],hl5,.cons rt5 .nil⟩,.inl (k5.exact hP4 (.inl id) tab_cls)⟩
 have hq:env.qual=Jn 18 ++ ".<locals>.":=hqual
 refine Qdx (n:=5) (V:=nowt) (ks:=(Qe 18).names) (s:=s4) (W:=fun a=>(W a∨O a)∨a=lr) (O:=O) (U:=U) c4.good (.inl rfl) dk ow3 hI nWI neIL (fun y a e=>neIC y a e) (fun a ha=>.inr (.inl ha)) hUW (fun _ q=>q.elim) (Qw k5) c5 it5
  (fun rest ρ' s'=>∃ k,k <= 15∧rest=Qd7 k∧RwInv G es P lr (fun a=>O a∨a=I) (fun a=>((W a∨O a)∨a=lr)∨a=I) (env.qual ++ "<lambda>") k ρ' s') ⟨0,by lia,rfl,inv0⟩ ?_ ?_
 ·intro d rest ρ₁ t₁ t₂ z0;refine ob1_3 z0 fun k hk hrest inv=>?_;rintro _ k12 _ ct
  refine Jo (Qje hrest) ?_;rintro hk15 rfl rfl
  have nU12:¬ (lr=I∨O lr):=fun q=>q.elim nIl nOl
  have nXP:¬ (O P∨P=I):=fun q=>q.elim nOP nIP
  have nP12:¬ (P=I∨O P):=fun q=>q.elim nIP nOP
  have inv2:RwInv G es P lr (fun a=>O a∨a=I) (fun a=>((W a∨O a)∨a=lr)∨a=I) (env.qual ++ "<lambda>") k (upd ρ₁ "which" (.data (.int ((k + 1:Nat):Int)))) t₂:=by
   refine ob1_2 inv.list fun vs hl hr=>?_
   refine ⟨by simp [upd,ofString_inj,inv.recs],by simp [upd,ofString_inj,inv.rows],⟨vs,?_,hr.mono (k12.keepX fun a ha=>ha.elim .inr fun q=>.inl (.inl (.inr q)))⟩,?_⟩
   ·refine ob1_1 hl fun m e=>?_
    exact ⟨m,k12.exact e (.inl nU12) (by show Value.type "list"≠_;decide)⟩
   ·rcases inv.tab with x | ⟨c',x⟩
    ·exact .inl (k12.exact x (.inl nP12) tab_cls)
    ·exact .inr ⟨c',x.step k12 nP12 fun u=>x.nO (u.elim .inr .inl)⟩
  have ow5:Own G (Qe 18).names env (fun a=>((W a∨O a)∨a=lr)∨a=I) O:=ow3.wide fun a ha=>.inl ha
  refine rw_turn (X:=fun a=>O a∨a=I) AG FO RA hF L.bm L.p0 h_m h_r h_w ct ow5 okP (.inl (.inl (.inl hWP))) (.inl (.inr rfl)) hcode hcd (fun a ha=>.inl ha) (fun a ha=>ha.elim (fun q=>.inl (.inl (.inr q))) .inr) nXP nPl nOl l0 neL neC h4 hok hk15 (Qd _ _ _) inv2 fun s' ρ' kt ct' inv'=>⟨kt,ρ',ct',k + 1,by lia,rfl,inv'⟩
 ·intro ρ₁ t₁ h' z0;refine ob1_3 z0 fun k hk hrest inv=>?_;rintro kU he kE cE
  have hk15:=Ql2 hk hrest
  subst hk15
  refine ob1_2 inv.list fun vs hl hr=>?_
  refine wpAny_execs_cons (wpAny_Return_some (Qb (G:=G) (n:=5) (V:=nowt) (ks:=(Qe 18).names) "rows" ⟨156,11,156,15⟩ dk dk _ env _ _ _ (.raw (.ref lr)) _ _ cE inv.rows fun u s6 k6 r6=>?_))
  cases r6
  have hl':(Shared.heap { t₁ with heap:=h' }).PlainList lr (List.toArray vs):=by
   refine ob1_1 hl fun m e=>?_
   exact ⟨m,he lr _ nIl e⟩
  have hl6:s6.heap.PlainList lr (List.toArray vs):=by
   refine ob1_1 hl' fun m e=>?_
   exact ⟨m,k6.exact e (.inl id) (by show Value.type "list"≠_;decide)⟩
  have hr6:RepDs s6.heap (fun a=>((W a∨O a)∨a=lr)∨a=I) vs (rowDs (Qc7 es 15)):=(Qku he (.inr rfl) hr).mono (k6.keepX fun _ q=>q.elim)
  have kU':Step G U s₁ s6:=((Qw k23).trans (k4.mono fun a ha=>.inr (.inl ha))).trans (kE.trans (Qw k6))
  have kT:Step G V s s6:=k1.later kU' fun a ha=>ha.elim (fun q=>.inr (q ▸ hV)) fun q=>q.elim (fun q=>.inl (hO a q)) fun q=>.inl (q ▸ newl)
  exact h _ s6 kT (RepD.list (fun q=>nWl (.inl q)) (Heap.PlainList.isList hl6) (hr6.weak fun a ha=>.inl (.inl (.inl ha))))
end
section
variable {M:Model}{A:Around}{E:Value->Shared->Prop}{s:Shared}
theorem Qjl{α:Type}{cls msg:String}{Q:α->Shared->Prop}(hp:PlainExc cls)(h:∀ h' tk e args,Heap.MadeExc s.heap h' e cls args->wpAny M A (raiseNew (.ref e):Sem α) Q E { s with heap:=h',toks:=tk }):wpAny M A (raiseErrorWords cls msg:Sem α) Q E s:=by
 unfold raiseErrorWords
 exact wpAny_bind (wpAny_mkText (wpAny_bind (wpAny_newExc_plain hp fun h' e hx=>h _ _ _ _ hx)))
end
section
variable {prog:Program}{w:World}{A:Around}{E:Value->Shared->Prop}{s:Shared}
theorem Xx{α:Type}{cls msg:String}{e1:Addr}{Q:α->Shared->Prop}(hp:PlainExc cls)(hA:A.handled=some (.ref e1))(c:Ctx0 s.heap e1)
  (hE:∀ h' tk e args,Heap.MadeExc s.heap h' e cls args->E (.ref e) { s with heap:=h'.update e (Obj.mapFields (·.setIfInBounds 2 (.ref e1))),toks:=tk }):wpAny (model prog w) A (raiseErrorWords cls msg:Sem α) Q E s:=by
 refine Qjl hp fun h' tk e args hm=>?_
 refine ob1_2 hm.there fun t ht _=>?_
 refine ob2_3 c fun o1 ws k1 k2 k3=>?_
 have ne:e1≠e:=fun q=>by have:=hm.new;rw [← q,k1] at this;exact noS this
 exact Qhx hA ne ⟨o1,ws,hm.keeps _ _ k1,k2,k3⟩ ht rfl (by simp) (hE h' tk e args hm)
theorem Qid{l e1:Addr}{items:Array Value}{k:Int}{t:Tok}{Q:Value->Shared->Prop}(hA:A.handled=some (.ref e1))(c:Ctx0 s.heap e1)(hl:s.heap.IsList l items)(hout:(items.size:Int) <= k)(hhi:k < 2 ^ 63)
  (hE:∀ h' tk e args,Heap.MadeExc s.heap h' e "IndexError" args->E (.ref e) { s with heap:=h'.update e (Obj.mapFields (·.setIfInBounds 2 (.ref e1))),toks:=tk }):
  wpAny (model prog w) A (getItem (.ref l) (.int k t)) Q E s:=by
 refine ob1_3 (id hl) ?_;rintro o ho hc ⟨ne,hd⟩
 unfold getItem
 try with_reducible refine wpAny_holding ?_
 first | refine wpAny_bind (wpAny_pure ?_) | skip
 refine wpAny_bind (wpAny_sequenceKey hl.typeIs (by decide) ?_)
 refine wpAny_bind (wpAny_callSpecial?_slot (name:=Str.ofString "__getitem__") hl.typeIs slot_list_getitem
  (wpAny_call_entry slot_list_getitem hl.typeIs entry_list_getitem ?_ (args_list_getitem _ _)))
 show wpAny _ _ (Builtin.List.listSubscript? (.int k t) >>= _) _ _ s
 refine wpAny_bind (wpAny_listSubscript_int (fitsIndex_both (by lia) hhi) ?_)
 clear hhi
 cases k with
 | negSucc j=>exact absurd hout (by have:=Int.negSucc_lt_zero j;lia)
 | ofNat j=>
 have hx:items[j]?=none:=Array.getElem?_eq_none (by have:(items.size:Int) <= (j:Int):=hout;lia)
 show wpAny _ _ ((seqItemAt l j >>= fun r=>pure (r.map (j,·))) >>= _) _ _ s
 refine Qg (fun K k=>wpAny_bind (wpAny_seqItemAt ho hd (wpAny_pure k))) ?_
 rw [hx]
 first
  | exact wpAny_bind (wpAny_rule (Xx plainExc_IndexError hA c hE))
  | exact wpAny_bind (wpAny_rule (wpAny_bind (Xx plainExc_IndexError hA c hE)))
  | exact wpAny_bind (wpAny_bind (wpAny_rule (Xx plainExc_IndexError hA c hE)))
  | exact wpAny_rule (Xx plainExc_IndexError hA c hE)
end
section
variable {M:Model}{A:Around}{E:Value->Shared->Prop}{G:Amb}{s0 s:Shared}{l0 outer:List Env}{env:Env}{e L:Addr}{X:String}{Q:Unit->Shared->Prop}
end
structure Tb (h:Heap) (e T:Addr):Prop where
 ex:∃ oe vs,h.get? e=some oe∧oe.cls=.type "IndexError"∧oe.data=.fields vs∧vs[1]?=some (.ref T)
 tx:∃ oT ts,h.get? T=some oT∧oT.data=.fields ts∧3 < ts.size
 ne:T≠e
noncomputable def InFl(h:Heap)(T L:Addr):Prop:=∃ oT ts,h.get? T=some oT∧oT.data=.fields ts∧ts[3]?=some (rawInt L)
structure AirT (G:Amb) (U:Addr->Prop) (sb s:Shared) (e T:Addr) (cold:Prop):Prop where
 k:Step G U sb s
 ne:sb.heap.get? e=none
 nT:sb.heap.get? T=none
 T0:G.h₀.get? T=none
 t:Tb s.heap e T
 ctx:cold->Ctx0 s.heap e
structure ArrT (G:Amb) (U:Addr->Prop) (sb s:Shared) (e T L:Addr) (cold:Prop):Prop extends AirT G U sb s e T cold where
 fl:InFl s.heap T L
structure Thr (G:Amb) (U:Addr->Prop) (sb s:Shared) (l:List Env) (e:Addr) (cold:Prop):Prop where
 k:Step G U sb s
 ne:sb.heap.get? e=none
 t:Qbx G l e "IndexError" s
 ctx:cold->Ctx0 s.heap e
theorem Qim{h h':Heap}{a:Addr}{o:Obj}{ts:Array Value}(e:h.get? a=some o)(d:o.data=.fields ts):FrmAt h a->FrmAt h' a:=by
 intro z0;refine ob1_3 z0 ?_;rintro o' e' _ ⟨es,m,d'⟩
 rw [e] at e';obtain rfl:=Qo e'
 rw [d] at d';cases d'
theorem Qb8{G:Amb}{U:Addr->Prop}{s s':Shared}(k:Step G U s s'){a:Addr}{o:Obj}{ts:Array Value}(e:s.heap.get? a=some o)(d:o.data=.fields ts)(hU:¬ U a):∃ o',s'.heap.get? a=some o'∧o'.data=.fields ts∧o'.cls=o.cls:=by
 refine ob1_2 (k.keep a o e) fun o' e' sm=>?_
 refine Jo (sm (.inl hU)) fun c q _=>?_
 exact in1_3 o' e' (q.trans d) c
theorem Ctx0.step{G:Amb}{U:Addr->Prop}{s s':Shared}{e:Addr}(x:Ctx0 s.heap e)(k:Step G U s s')(hU:¬ U e):Ctx0 s'.heap e:=by
 refine ob2_3 x fun oe vs h1 h2 h3=>?_
 refine ob1_3 (Qb8 k h1 h2 hU) fun o' q1 q2 _=>?_
 exact in2_3 o' vs q1 q2 h3
theorem Tb.step{G:Amb}{U:Addr->Prop}{s s':Shared}{e T:Addr}(x:Tb s.heap e T)(k:Step G U s s')(he:¬ U e)(hT:¬ U T):Tb s'.heap e T:=by
 refine ob2_4 x.ex fun oe vs h1 hc h2 h3=>?_
 refine ob2_3 x.tx fun oT ts g1 g2 g3=>?_
 refine ob1_3 (Qb8 k h1 h2 he) fun o' q1 q2 q3=>?_
 refine ob1_3 (Qb8 k g1 g2 hT) fun o2 r1 r2 _=>?_
 exact ⟨⟨o',vs,q1,q3.trans hc,q2,h3⟩,⟨o2,ts,r1,r2,g3⟩,x.ne⟩
section
variable {M:Model}{A:Around}{E:Value->Shared->Prop}{G:Amb}{U:Addr->Prop}{sb s:Shared}{outer:List Env}{env:Env}{e T L:Addr}{cold:Prop}{Q:Unit->Shared->Prop}
theorem air_fl{fl:Option Addr}(x:AirT G U sb s e T cold)(h:∀ s',Step G (fun a=>a=T) s s'->AirT G U sb s' e T cold->(∀ L,fl=some L->InFl s'.heap T L)->Q () s'):wpAny M A (setFlight (.ref e) fl) Q E s:=by
 refine ob2_4 x.t.ex fun oe vs he hcls hd h1=>?_
 refine ob2_3 x.t.tx fun oT ts hT hdT hsz=>?_
 unfold setFlight
 refine Qg (fun K k=>wpAny_field he hd h1 k) ?_
 rw [if_pos (show (Value.ref T != Value.none)=true from by simp)]
 have hs:=Heap.SameBut.update s.heap T (Obj.mapFields (·.setIfInBounds 3 (fl.elim Value.none fun f=>rawInt f)))
 have hd':=Obj.data_mapFields hdT (·.setIfInBounds 3 (fl.elim Value.none fun f=>rawInt f))
 have hT':=Heap.get?_update_self (Obj.mapFields (·.setIfInBounds 3 (fl.elim Value.none fun f=>rawInt f))) hT (Obj.isFreed_of_fields hd')
 have k:Step G (fun a=>a=T) s { s with heap:=s.heap.update T (Obj.mapFields (·.setIfInBounds 3 (fl.elim Value.none fun f=>rawInt f))) }:=Qn (tk:=s.toks) hs rfl x.T0 ⟨_,hT'⟩ (fun o q t=>by
  rw [hT] at q;obtain rfl:=Qo q;refine Qx t ?_;intro _ z0;refine ob2_1 z0 fun xs m q=>?_;rw [hdT] at q;cases q) (Qim hT hdT) (fun z0=>ob1_1 z0 fun ps q=>by rw [hT] at q;obtain rfl:=Qo q;exact ⟨_,hT'⟩)
 have he':=(hs.2 e (Ne.symm x.t.ne)).trans he
 refine wpAny_setField hT hdT hsz (h _ k ⟨x.k.later k fun a ha=>.inl (ha ▸ x.nT),x.ne,x.nT,x.T0,⟨⟨oe,vs,he',hcls,hd,h1⟩,⟨_,_,hT',hd',by simp [hsz]⟩,x.t.ne⟩,fun c=>?_⟩ fun L q=>?_)
 ·refine ob2_3 (x.ctx c) fun oe' vs' q1 q2 q3=>?_
  exact in2_3 oe' vs' ((hs.2 e (Ne.symm x.t.ne)).trans q1) q2 q3
 ·subst q
  exact in2_3 _ _ hT' hd' (by simp [hsz])
theorem Qbp(hf:env.frame=some L)(x:ArrT G U sb s e T L cold)(h:Q () s):wpAny M A (noteFrame (.ref e) env) Q E s:=by
 refine ob2_4 x.t.ex fun oe vs he hcls hd h1=>?_
 refine ob2_3 x.fl fun oT ts hT hdT h3=>?_
 unfold noteFrame
 simp only [hf]
 refine wpAny_bind (wpAny_field he hd h1 ?_)
 rw [if_pos (show (Value.ref T != Value.none)=true from by simp)]
 refine Qg (fun K k=>wpAny_field hT hdT h3 k) ?_
 rw [if_pos (show (rawInt L == rawInt L)=true from by simp)]
 exact wpAny_pure h
theorem Qlo{A':Around}(hf:env.frame=some L)(x:ArrT G U sb s e T L cold)(h:∀ s',ArrT G U sb s' e T L cold->E (.ref e) s'):notedBy M A' env (cameBackBy M A env E) (.ref e) s:=by
 refine Qbp hf x ?_
 show wpAny M A _ _ _ _
 refine ob2_4 x.t.ex fun oe vs he hcls hd h1=>?_
 refine Qg (fun K k=>wpAny_field he hd h1 k) ?_
 rw [if_neg (show ¬ ((Value.ref T == Value.none)=true) from by simp)]
 rw [hf]
 exact air_fl x.toAirT fun s' _ y hl=>h s' ⟨y,hl L rfl⟩
theorem Qgj(hfr:A.frames=some (env :: outer))(hf:env.frame=some L)(x:Thr G U sb s (env :: outer) e cold)(hb:∀ a,sb.heap.get? a=none->G.h₀.get? a=none)(h:∀ T s',ArrT G U sb s' e T L cold->Q () s'):wpAny M A (noteFrame (.ref e) env) Q E s:=by
 have key:∀ s',Held G s (env :: outer) (env :: outer) e "IndexError" L s'->(cold->Ctx0 s'.heap e)->Q () s':=by
  intro s' y c
  refine ob1_4 y.fly ?_;intro a0 _ _ _ z0;refine ob5_9 z0 fun oe vs T oT ts he hcls hd h1 hnT hTe hT hdT h3=>?_
  have k:=y.step x.t
  have nT:s.heap.get? T=none:=by
   cases q:s.heap.get? T with
   | none=>rfl
   | some o=>
    by_cases hm:T ∈ fsOf (env :: outer)
    ·refine ob1_3 (k.frm T (x.t.fr.mem hm).1) ?_;intro o' e' _ z0;refine ob2_1 z0 fun es m d'=>?_
     rw [hT] at e';obtain rfl:=Qo e'
     rw [hdT] at d';cases d'
    ·have:(Qam s (env :: outer) e).get? T=some o:=hideAll_get _ q fun r=>by
      rcases List.mem_cons.mp r with r | r
      ·exact hTe r
      ·exact hm r
     rw [hnT] at this;exact nSo this
  have nT':=x.k.get_none nT
  exact h T s' ⟨⟨x.k.later k fun a ha=>.inl (ha ▸ x.ne),x.ne,nT',hb T nT',⟨⟨oe,vs,he,hcls.1,hd,h1⟩,⟨oT,ts,hT,hdT,(Array.getElem?_eq_some_iff.mp h3).1⟩,hTe⟩,c⟩,⟨oT,ts,hT,hdT,h3⟩⟩
 by_cases hc:cold
 ·exact Qei hfr x.t (x.ctx hc) hf fun s' y c=>key s' y fun _=>c
 ·exact Qeh hfr x.t hf fun s' y=>key s' y fun q=>absurd q hc
theorem thr_back{A':Around}(hfr:A'.frames=some (env :: outer))(hf:env.frame=some L)(x:Thr G U sb s (env :: outer) e cold)(hb:∀ a,sb.heap.get? a=none->G.h₀.get? a=none)(h:∀ T s',ArrT G U sb s' e T L cold->E (.ref e) s'):notedBy M A' env (cameBackBy M A env E) (.ref e) s:=by
 refine Qgj hfr hf x hb fun T s' y=>?_
 show wpAny M A _ _ _ _
 refine ob2_4 y.t.ex fun oe vs he hcls hd h1=>?_
 refine Qg (fun K k=>wpAny_field he hd h1 k) ?_
 rw [if_neg (show ¬ ((Value.ref T == Value.none)=true) from by simp)]
 rw [hf]
 exact air_fl y.toAirT fun s' _ z hl=>h T s' ⟨z,hl L rfl⟩
end
noncomputable def Hand(A:Around)(h:Heap):Prop:=A.handled=none∨∃ e1,A.handled=some (.ref e1)∧Ctx0 h e1
theorem Hand.step{G:Amb}{U:Addr->Prop}{A:Around}{s s':Shared}(x:Hand A s.heap)(k:Step G U s s')(h:∀ e1,A.handled=some (.ref e1)->¬ U e1):Hand A s'.heap:=
 x.imp id fun z0=>ob1_2 z0 fun e1 a c=>⟨e1,a,c.step k (h e1 a)⟩
section
variable {G:Amb}{n:Nat}{ks:Qi}{A:Around}{env:Env}{outer:List Env}{s:Shared}{W:Addr->Prop}{ρ:Qf}
theorem frames_at(c:Cx G n nowt ks A env s W ρ)(hfr:A.frames=some (env :: outer)):Frames G s.heap (env :: outer):=by
 refine ob1_2 c.good.stk fun envs e p=>?_
 rw [hfr] at e;obtain rfl:=Qo e
 exact p
theorem Frames.keeps{h h':Heap}{l:List Env}(x:Frames G h l)(k:∀ b o,h.get? b=some o->h'.get? b=some o):Frames G h' l:=fun en he=>by
 refine Qx (x en he) ?_;intro a z0;refine ob1_3 z0 fun L b f f0=>?_
 exact ⟨a,L,b,f.keeps k,f0⟩
theorem Qk4{x y:Str}{px py pos:Pos}{xs:List Str}{k:Nat}{Q:Value->Shared->Prop}{E:Value->Shared->Prop}(c:Cx G n nowt ks A env s W ρ)(hH:Hand A s.heap)(hfr:A.frames=some (env :: outer))
  (vx:Vis ks x=true)(dx:(x == ("__debug__":Str))=false)(vy:Vis ks y=true)(dy:(y == ("__debug__":Str))=false)
  (h1:ρ x=some (Qz xs))(h2:ρ y=some (.data (.int (k:Nat))))(hk:k <= 1000)
  (hin:∀ t v s',xs[k]?=some t->Step G nowt s s'->Rep G s'.heap W v (.data (.str t))->Q v s')
  (hout:xs[k]?=none->∀ e s',Thr G nowt s s' (env :: outer) e (A.handled=none)->E (.ref e) s'):
  wpAny (model G.prog G.w) A (eval (.Subscript (.Name x px) (.Name y py) pos) env) Q E s:=by
 refine Subscript_ (Qb x px vx dx A env s W ρ _ _ E c h1 fun v s₁ k1 r₁=>Qb y py vy dy A env s₁ W ρ _ _ E (c.step k1) h2 fun u s2 k2 r₂=>?_)
 refine ob1_1 (RepD.int_inv r₂) ?_;rintro t rfl
 refine ob2_4 (RepD.list_iff ((c.step k1).mono k2 r₁)) ?_;rintro l vs rfl wx lx rx
 have k12:=k1.trans k2
 have hl:=rx.length
 rw [List.length_map] at hl
 cases hx:xs[k]? with
 | some z=>
  refine ob1_2 (Qak rx (i:=k) (d:=.str z) (by rw [List.getElem?_map,hx];rfl)) fun w hw rw'=>?_
  exact subscriptTail_builtinR lx.typeIs slot_list_getitem.lookup (wpAny_getItem_list lx (by lia) (by lia) (x:=w) (by simpa using hw) ⟨rfl,hin z w s2 hx k12 rw'⟩) rfl
 | none=>
  have hsz:((List.toArray vs).size:Int) <= (k:Nat):=by
   rw [List.size_toArray,hl]
   have:=List.getElem?_eq_none_iff.mp hx
   lia
  have c₂:=(c.step k1).step k2
  have fr:=frames_at c₂ hfr
  rcases hH.step k12 (fun _ _ q=>q) with hA | ⟨e1,hA,ctx⟩
  ·refine subscriptTail_builtin lx.typeIs slot_list_getitem.lookup (wpAny_getItem_list_out hA lx (.inr hsz) (by lia) (by lia) fun h' tk e N=>?_) rfl
   refine ob2_3 N.there fun ob t' he hcls hd=>?_
   have ne:=k12.get_none N.new
   exact hout hx e _ ⟨k12.trans (.of_heap N.keeps),ne,⟨⟨ob,_,he,hcls,hd,rfl⟩,fr.keeps N.keeps,Zd c.good _ ne⟩,fun _=>⟨ob,_,he,hd,rfl⟩⟩
  ·refine subscriptTail_builtin lx.typeIs slot_list_getitem.lookup (Qid hA ctx lx hsz (by lia) fun h' tk e args N=>?_) rfl
   refine ob1_2 N.there fun t' he _=>?_
   have ne:=k12.get_none N.new
   have kp:∀ b o,s2.heap.get? b=some o->(h'.update e (Obj.mapFields (·.setIfInBounds 2 (.ref e1)))).get? b=some o:=fun b o q=>(Heap.get?_update_other _ _ (fun r=>by rw [← r,N.new] at q;exact nSo q)).trans (N.keeps b o q)
   have hd':=Obj.data_mapFields (o:={ cls:=.type "IndexError",data:=.fields #[.ref t',.none,.none,.none,.bool false,.none] }) rfl (·.setIfInBounds 2 (Value.ref e1))
   have he':=Heap.get?_update_self (Obj.mapFields (·.setIfInBounds 2 (.ref e1))) he (Obj.isFreed_of_fields hd')
   exact hout hx e _ ⟨k12.trans (.of_heap kp),ne,⟨⟨_,_,he',Obj.cls_mapFields _ _,hd',rfl⟩,fr.keeps kp,Zd c.good _ ne⟩,fun q=>by rw [hA] at q;exact noS q⟩
end
noncomputable def Qj1(G:Amb):Amb:={ G with hot:=True }
section
variable {G:Amb}{n:Nat}{V W:Addr->Prop}{ks:Qi}{A:Around}{env:Env}{s s':Shared}{ρ:Qf}
theorem Step.hot(k:Step G W s s'):Step (Qj1 G) W s s':=⟨k.form,k.keep,k.base,k.frm,k.tab⟩
theorem Step.cool(k:Step (Qj1 G) W s s'):Step G W s s':=⟨k.form,k.keep,k.base,k.frm,k.tab⟩
theorem ent_hot{h:Heap}{v:Value}{e:Ent}(x:EntAt G h W v e):EntAt (Qj1 G) h W v e:=x
theorem Qlj{h:Heap}{v:Value}{e:Ent}(x:EntAt (Qj1 G) h W v e):EntAt G h W v e:=x
theorem Qli{h:Heap}:∀ {vs:List Value}{es:List Ent},EntsAt G h W vs es->EntsAt (Qj1 G) h W vs es
 | [],[],_=>trivial
 | _ :: _,_ :: _,x=>⟨ent_hot x.1,Qli x.2⟩
 | [],_ :: _,x=>x.elim
 | _ :: _,[],x=>x.elim
theorem Qiq{h:Heap}:∀ {vs:List Value}{es:List Ent},EntsAt (Qj1 G) h W vs es->EntsAt G h W vs es
 | [],[],_=>trivial
 | _ :: _,_ :: _,x=>⟨Qlj x.1,Qiq x.2⟩
 | [],_ :: _,x=>x.elim
 | _ :: _,[],x=>x.elim
theorem Rep.hot{h:Heap}{v:Value}{d:D}(x:Rep G h W v d):Rep (Qj1 G) h W v d:=by
 cases d with
 | data _=>exact x
 | ent _=>exact ent_hot x
 | ents _=>exact ob2_4 x fun a vs e hw hl r=>in2_4 a vs e hw hl (Qli r)
 | raw _=>exact x
 | plain _=>exact x
theorem Rep.cool{h:Heap}{v:Value}{d:D}(x:Rep (Qj1 G) h W v d):Rep G h W v d:=by
 cases d with
 | data _=>exact x
 | ent _=>exact Qlj x
 | ents _=>exact ob2_4 x fun a vs e hw hl r=>in2_4 a vs e hw hl (Qiq r)
 | raw _=>exact x
 | plain _=>exact x
theorem Cx.hot{x:Option Value}(c:Cx G n V ks A env s W ρ):Cx (Qj1 G) n V ks (A.mark x) env s W ρ:=
 ⟨⟨c.good.base,.inl trivial,c.good.depth,c.good.units,c.good.stk⟩,⟨c.ok.kind,c.ok.names,c.ok.globals,c.ok.builtins,c.ok.cells,c.ok.apart,c.ok.inj⟩,c.excl,fun y d hv hd=>ob1_2 (c.vars y d hv hd) fun v a b=>⟨v,a,b.hot⟩,c.ns,c.cellsAt⟩
theorem Cx.cool{x:Option Value}(c:Cx (Qj1 G) n V ks (A.mark x) env s W ρ)(hh:A.handled=none):Cx G n V ks A env s W ρ:=
 ⟨⟨c.good.base,.inr hh,c.good.depth,c.good.units,c.good.stk⟩,⟨c.ok.kind,c.ok.names,c.ok.globals,c.ok.builtins,c.ok.cells,c.ok.apart,c.ok.inj⟩,c.excl,fun y d hv hd=>ob1_2 (c.vars y d hv hd) fun v a b=>⟨v,a,b.cool⟩,c.ns,c.cellsAt⟩
theorem Own.hot{O:Addr->Prop}(o:Own G ks env W O):Own (Qj1 G) ks env W O:=⟨o.sub,o.base,o.loc,o.cells⟩
end
noncomputable def iaddD(a b:D):Option D:=(aI a).bind fun a=>(aI b).bind fun b=>some (.data (.int (a + b)))
section
variable {G:Amb}{n:Nat}{V:Addr->Prop}{ks:Qi}
theorem st_aug{x:Str}{px pos:Pos}{e:Expr}{f:Qf->Option D}(he:Zo G n V ks e f)(hv:Vis ks x=true)(hk:ks.lookup x=some .local∨ks.lookup x=some .cell)(hd:(x == ("__classdict__":Str))=false):
  Qm1 G n V ks (.AugAssign (.Name x px) .Add e pos) (fun ρ=>(ρ x).bind fun a=>(f ρ).bind fun b=>(iaddD a b).map fun d=>.next (upd ρ x d)):=by
 intro A env s W O ρ out Q E c o hg h
 simp only [Option.bind_eq_some_iff,Option.map_eq_some_iff] at hg;replace hg:=hg
 refine ob1_2 hg ?_;rintro a ha ⟨b,hb,d,hd',rfl⟩
 refine ob1_2 (c.vars x a hv ha) fun v sv rv=>?_
 refine wpAny_AugAssign_Name (wp_sees c.ok sv (he A env s W ρ b _ E c hb fun u s₁ k1 r₁=>?_))
 unfold iaddD at hd'
 refine ob2_3 (ivI2 hd') ?_;rintro x1 x2 rfl rfl hd'
 obtain rfl:=Qo hd'
 obtain ⟨t,rfl⟩:=RepD.int_inv rv
 obtain ⟨t',rfl⟩:=RepD.int_inv r₁
 refine PyProof.Rows.iadd_int ?_
 have k2:Step G V s₁ { s₁ with toks:=s₁.toks + 1 }:=.toks s₁ _
 refine Qt ((c.step k1).step k2) o.sub o.base (o.store hk hd) (d:=.data (.int _)) (RepD.int _ _) fun s2 k3 c3=>?_
 exact h _ s2 (((k1.trans k2).mono fun _=>.inl).trans (k3.mono fun _=>.inr)) ⟨rfl,c3⟩
noncomputable def Qgm(lo hi:Option Int)(d:D):Option D:=(aL d).bind fun l=>if l.length <= 1000 then some (.plain (Je l lo hi none)) else none
theorem Qio{value:Expr}{lower upper:Option Expr}{p pos:Pos}{f:Qf->Option D}{fl fu:Qf->Option (Option Int)}(ht:∀ o r,letTemporaryGo value o r=pure ())
  (hv:Zo G n V ks value f)(hl:Qcq G n V ks lower fl)(hu:Qcq G n V ks upper fu):Zo G n V ks (.Subscript value (.Slice lower upper none p) pos) (fun ρ=>(f ρ).bind fun a=>(fl ρ).bind fun lo=>(fu ρ).bind fun hi=>Qgm lo hi a):=by
 intro A env s W ρ d Q E c hf h
 simp only [Option.bind_eq_some_iff] at hf;replace hf:=hf
 refine ob1_2 hf ?_;rintro a ha ⟨lo,hlo,hi,hhi,hd⟩
 refine wpAny_Subscript_list_slice (hv A env s W ρ a _ E c ha fun v s₁ k1 r₁=>hl A env s₁ W ρ lo _ E (c.step k1) hlo fun vl s2 k2 pl=>hu A env s2 W ρ hi _ E ((c.step k1).step k2) hhi fun vu s3 k3 pu=>?_) ht
 have c3:=((c.step k1).step k2).step k3
 have r₃:=((c.step k1).step k2).mono k3 ((c.step k1).mono k2 r₁)
 unfold Qgm at hd
 refine ob1_2 (ivL hd) ?_;rintro l0 rfl hd
 refine Qx (ifS hd) fun hz hd=>?_
 obtain rfl:=Qo hd
 refine ob2_4 (RepD.list_iff r₃) ?_;rintro l vs rfl wl ll rl
 refine in4_6 l _ lo hi rfl ll (by rw [List.size_toArray,rl.length,sizeLine_eq];lia) pl pu (h _ _ (((k1.trans k2).trans k3).trans ?_) ?_)
 ·exact .of_heap (s:=s3) (tk:=s3.toks) fun b o e=>Heap.get?_push_of_some _ (Heap.get?_push_of_some _ e)
 ·rw [Qa7]
  have e1:(s3.heap.push { cls:=.type "slice",data:=.fields #[vl,vu,.none] }).objs.size=s3.heap.objs.size + 1:=Heap.size_push ..
  exact in2_4 _ _ rfl (c3.excl.new (Nat.le_succ _)) ⟨0,by rw [← e1];exact Heap.get?_push_size _ rfl⟩ ((Qfp rl lo hi none).mono fun b o e _ _=>Heap.get?_push_of_some _ (Heap.get?_push_of_some _ e))
theorem Qhu{A:Around}{env:Env}{s:Shared}{W:Addr->Prop}{ρ:Qf}{x:Str}{xp apos cpos pos:Pos}{arg:Expr}{f:Qf->Option D}{ds:List PyData}{l:Addr}{its:List Value}{Q:Flow->Shared->Prop}{E:Value->Shared->Prop}
  (ha:Zo G n nowt ks arg f)(hs:∀ env,starEach [arg] env=[(false,eval arg env)])(hline:(apos.endLine == cpos.line)=true)(hv:Vis ks x=true)(hd:(x == ("__debug__":Str))=false)
  (hbase:∀ env,attributeBase (.Name x xp) "extend" env (eval (.Name x xp) env)=eval (.Name x xp) env)
  (hfew:∀ env,((backTo cpos (starEach [arg] env)).all (fun x=>!x.1) && (backToKw cpos (keywordEach [] env)).all (fun x=>x.1.isSome) && decide ([arg].length + ([]:List Keyword).length + (if ([]:List Keyword).isEmpty then 0 else 1) < 30))=true)
  (hsw:∀ env,swapsWith (.Call (.Attribute (.Name x xp) "extend" apos) [arg] [] cpos) none pos.line env=pure false)
  (c:Cx G n V ks A env s W ρ)(hx:ρ x=some (.raw (.ref l)))(hl:s.heap.PlainList l (List.toArray its))(hf:f ρ=some (.plain ds))(hz:its.length + ds.length <= 1000)
  (hW:W l)(h0:G.h₀.get? l=none)(hL:env.locals≠l)(hC:∀ y a,env.cells.lookup y=some a->a≠l)
  (h:∀ vs s',Step G (fun a=>a=l) s s'->s'.heap.PlainList l (List.toArray (its ++ vs))->RepDs s'.heap W vs ds->Cx G n V ks A env s' W ρ->Q .next s'):
  wpAny (model G.prog G.w) A (exec (.Expr (.Call (.Attribute (.Name x xp) "extend" apos) [arg] [] cpos) pos) env) Q E s:=by
 refine wpAny_Expr (hi:=by unfold interactive;rw [c.ok.kind];rfl) (hs:=hsw env) ?_
 have c0:=c.less (V':=nowt) fun _ q=>q.elim
 refine wpAny_Call_method (T:="list") (id:="list.extend") (hbase env) (hfew env) hline PySem.F.plainAttrs_list PySem.F.slot_list_extend PySem.F.type_list_extend (Qb (G:=G) (n:=n) (V:=nowt) (ks:=ks) x xp hv hd A env s W ρ _ _ E c0 hx fun v s₁ k1 r₁=>?_)
 cases r₁
 have hl1:s₁.heap.PlainList l (List.toArray its):=by
  refine ob1_1 hl fun m e=>?_
  exact ⟨m,k1.exact e (.inl id) (by show Value.type "list"≠_;decide)⟩
 refine ob1_1 (id hl1) fun m el=>?_
 refine Jw ⟨_,el,rfl⟩ (fun a e=>by cases e;exact ⟨_,el,rfl⟩) ?_
 rw [hs]
 refine Calls.callWith_builtin (by rfl) (Calls.evalArgs_plain (Calls.spliced_cons (ha A env s₁ W ρ _ _ E (c0.step k1) hf fun u s2 k2 r₂=>Calls.spliced_nil ?_)))
 have el2:=k2.exact el (.inl id) (by show Value.type "list"≠_;decide)
 refine ob2_4 r₂ ?_;rintro b vs rfl wb ⟨m2,eb⟩ rb
 have hsz:=rb.length
 have hsz':(List.toArray its).size + (List.toArray vs).size <= sizeLine:=by rw [List.size_toArray,List.size_toArray,hsz,sizeLine_eq];lia
 have bl:b≠l:=fun q=>wb (q ▸ hW)
 refine call_meets PySem.F.slot_list_extend ⟨_,el2,rfl⟩ PySem.F.entry_list_extend (PySem.F.args_list_extend_2 _ _) (AutoSeq1.list_extend_list_list_0 l (List.toArray its) m b (List.toArray vs) m2 (extend_door hsz') (Nat.le_trans (Nat.le_add_right _ _) hsz') (by lia)) ⟨el2,eb,?_⟩
 have hs':=Heap.SameBut.update s2.heap l (Obj.mapSeq fun x=>x ++ List.toArray vs)
 have ho':(s2.heap.update l (Obj.mapSeq fun x=>x ++ List.toArray vs)).get? l=some { cls:=.type "list",data:=.seq (List.toArray (its ++ vs)) (if (List.toArray its ++ List.toArray vs).size == (List.toArray its).size then m else m + 1) }:=by
  rw [Heap.get?_update_self _ el2 (by rw [mapSeq_app];rfl),mapSeq_app]
  simp
 have k3:Step G (fun a=>a=l) s2 { s2 with heap:=s2.heap.update l (Obj.mapSeq fun x=>x ++ List.toArray vs) }:=Qn (tk:=s2.toks) hs' rfl h0 ⟨_,ho'⟩ (fun o e t=>by rw [el2] at e;obtain rfl:=Qo e;exact absurd t.1 (by show Value.type "list"≠_;decide)) (Jr el2 (by show Value.type "list"≠_;decide)) (Qay el2 (by show Value.type "list"≠_;decide))
 have kk:Step G (fun a=>a=l) s { s2 with heap:=s2.heap.update l (Obj.mapSeq fun x=>x ++ List.toArray vs) }:=(Qw (k1.trans k2)).trans k3
 have c₂:Cx G n V ks A env s2 W ρ:=(c.step (Qw (k1.trans k2)))
 exact h vs _ kk ⟨_,ho'⟩ (rb.mono (k3.keepX fun a ha=>ha ▸ hW)) (c₂.stepU k3 (fun a ha=>ha ▸ hW) hL fun y a e=>hC y a e)
end
theorem Qdr{vs us:List Value}{xs ys:List Str}(h:Zv vs xs)(h':Zv us ys):Zv (vs ++ us) (xs ++ ys):=by
 refine ⟨by rw [List.length_append,List.length_append,h.1,h'.1],fun j z hz=>?_⟩
 by_cases hj:j < xs.length
 ·rw [List.getElem?_append_left hj] at hz
  rw [List.getElem?_append_left (by rw [h.1];exact hj)]
  exact h.2 j z hz
 ·rw [List.getElem?_append_right (by lia)] at hz
  rw [List.getElem?_append_right (by rw [h.1];lia),h.1]
  exact h'.2 _ z hz
theorem Qkn(x:Str)(t:Tok):Zv [.str x t] [x]:=⟨rfl,fun j z hz=>by
 cases j with
 | zero=>obtain rfl:=Qo hz;exact ⟨t,rfl⟩
 | succ j=>simp at hz⟩
theorem eq_str{a b:Str}(ha:a ∈ texts)(hb:b ∈ texts):eqD (.data (.str a)) (.data (.str b))=some (.data (.bool (decide (a=b)))):=by
 rw [eqD_d]
 simp only [Qkz ha,Qkz hb,Bool.and_self,if_true,PyData.eqv]
 congr 3
section
variable {G:Amb}{n:Nat}{ks:Qi}{A:Around}{env:Env}{outer:List Env}{s:Shared}{W O:Addr->Prop}{ρ:Qf}{x y z:Str}{l:List Str}{k:Nat}{zt:Str}{L:Addr}{p1 p2 p3 p4 p5 p6 p7 p8 p9:Pos}{body:List Stmt}{Q:Flow->Shared->Prop}{E:Value->Shared->Prop}
theorem while9(c:Cx G n nowt ks A env s W ρ)(hH:Hand A s.heap)(hfr:A.frames=some (env :: outer))(hf:env.frame=some L)
  (vx:Vis ks x=true∧(x == ("__debug__":Str))=false)(vy:Vis ks y=true∧(y == ("__debug__":Str))=false)(vz:Vis ks z=true∧(z == ("__debug__":Str))=false)
  (h1:ρ x=some (Qz l))(h2:ρ y=some (.data (.int (k:Nat))))(h3:ρ z=some (.data (.str zt)))(hk:k <= 1000)(tl:texty l)(tz:zt ∈ texts)(hne:∀ t,l[k]?=some t->t≠zt)
  (hin:∀ s',k < l.length->Step G nowt s s'->Q .next s')(hout:l.length <= k->∀ e T s',ArrT G nowt s s' e T L (A.handled=none)->E (.ref e) s'):
  wpAny (model G.prog G.w) A (exec (.While (.Compare (.Subscript (.Name x p1) (.Name y p2) p3) [.Eq] [.Name z p4] p5) body [] p6) env) Q E s:=by
 refine wpAny_While (codeAny_whileLoop (fun _ s'=>s'=s) (fun m s' hs=>?_) 0 rfl)
 subst hs
 refine wpAny_isTrue_Compare1 (Qk4 c hH hfr vx.1 vx.2 vy.1 vy.2 h1 h2 hk (fun t v s₁ ht k1 r₁=>?_) fun hx e s₁ x=>?_) rfl
 ·have hlt:=(List.getElem?_eq_some_iff.mp ht).1
  have hm:t ∈ l:=List.mem_of_getElem? ht
  refine Qb z p4 vz.1 vz.2 A env s₁ W ρ _ _ _ (c.step k1) h3 fun u s2 k2 r₂=>?_
  have c₂:=(c.step k1).step k2
  refine Qh4 A s2 W v u _ _ _ _ _ c₂.good c₂.excl ((c.step k1).mono k2 r₁) r₂ (eq_str (tl t hm) tz) fun w s3 k3 r₃=>?_
  rw [decide_eq_false (hne t ht)] at r₃
  rw [RepD.bool_inv r₃]
  refine wpAny_truthy_bool ?_
  exact wpAny_execs_nil (hin s3 hlt ((k1.trans k2).trans k3))
 ·have hle:l.length <= k:=by simpa using hx
  exact thr_back hfr hf x (Zd c.good) fun T s2 y=>hout hle e T s2 y
theorem incw(c:Cx G n nowt ks A env s W ρ)(ow:Own G ks env W O)(hH:Hand A s.heap)(hHO:∀ e1,A.handled=some (.ref e1)->¬ O e1)(hfr:A.frames=some (env :: outer))(hf:env.frame=some L)
  (vx:Vis ks x=true∧(x == ("__debug__":Str))=false)(vy:Vis ks y=true∧(y == ("__debug__":Str))=false)(vz:Vis ks z=true∧(z == ("__debug__":Str))=false)(hy:ks.lookup y=some .local)(hyc:(y == ("__classdict__":Str))=false)(hxy:x≠y)(hzy:z≠y)
  (h1:ρ x=some (Qz l))(h2:ρ y=some (.data (.int (k:Nat))))(h3:ρ z=some (.data (.str zt)))(hl:l[k]?=some zt)(r:Row l)
  (hin:∀ s',Step G O s s'->Cx G n nowt ks A env s' W (upd ρ y (.data (.int ((k + 1:Nat):Int))))->k + 1 < l.length->Q .next s')
  (hout:∀ sb e T s',Step G O s sb->Cx G n nowt ks A env sb W (upd ρ y (.data (.int ((k + 1:Nat):Int))))->k + 1=l.length->ArrT G nowt sb s' e T L (A.handled=none)->E (.ref e) s'):
  wpAny (model G.prog G.w) A (execs [.AugAssign (.Name y p7) .Add (.Constant (.int 1) 0 p8) p9,.While (.Compare (.Subscript (.Name x p1) (.Name y p2) p3) [.Eq] [.Name z p4] p5) body [] p6] env) Q E s:=by
 have hlt:=(List.getElem?_eq_some_iff.mp hl).1
 have hfew:=r.few
 have e1:(k:Int) + 1=((k + 1:Nat):Int):=by lia
 refine wpAny_execs_cons (st_aug (Qj 1 0 p8) vy.1 (.inl hy) hyc A env s W O ρ (.next (upd ρ y (.data (.int ((k + 1:Nat):Int))))) _ _ c ow ?_ fun fl s₁ k1 r₁=>?_)
 ·show ((ρ y).bind _)=_
  rw [h2,bS,bS]
  show (some (D.data (.int ((k:Int) + 1)))).map _=_
  rw [e1];rfl
 obtain ⟨rfl,c1⟩:=r₁
 have k1':=k1.nowt
 refine wpAny_execs_cons (while9 (l:=l) (k:=k + 1) (zt:=zt) c1 (hH.step k1' hHO) hfr hf vx vy vz (by rw [Zb _ _ hxy];exact h1) (Qd _ _ _) (by rw [Zb _ _ hzy];exact h3) (by lia) r.texty (r.texty zt (List.mem_of_getElem? hl)) (fun t ht=>next_ne r.rise hl ht) (fun s2 hk k2=>?_) fun hk e T s2 x=>?_)
 ·exact wpAny_execs_nil (hin s2 (k1'.trans (Qw k2)) (c1.step k2) hk)
 ·exact hout s₁ e T s2 k1' c1 (by lia) x
theorem item9(c:Cx G n nowt ks A env s W ρ)(ow:Own G ks env W O)(hH:Hand A s.heap)(hfr:A.frames=some (env :: outer))
  (vx:Vis ks x=true∧(x == ("__debug__":Str))=false)(vy:Vis ks y=true∧(y == ("__debug__":Str))=false)(hz:ks.lookup z=some .local)(hzc:(z == ("__classdict__":Str))=false)
  (h1:ρ x=some (Qz l))(h2:ρ y=some (.data (.int (k:Nat))))(hk:k <= 1000)
  (hin:∀ t s',l[k]?=some t->Step G O s s'->Cx G n nowt ks A env s' W (upd ρ z (.data (.str t)))->Q .next s')
  (hout:l.length <= k->∀ e s',Thr G nowt s s' (env :: outer) e (A.handled=none)->E (.ref e) s'):
  wpAny (model G.prog G.w) A (exec (.Assign [.Name z p4] (.Subscript (.Name x p1) (.Name y p2) p3) p5) env) Q E s:=by
 refine wpAny_Assign_Name (Qk4 c hH hfr vx.1 vx.2 vy.1 vy.2 h1 h2 hk (fun t v s₁ ht k1 r₁=>?_) fun hx e s₁ q=>hout (by simpa using hx) e s₁ q) rfl
 exact Qt (c.step k1) ow.sub ow.base (ow.store (.inl hz) hzc) r₁ fun s2 k2 c₂=>hin t s2 ht ((Qw k1).trans k2) c₂
end
noncomputable abbrev ks9:Qi:=(Qe 9).names
structure Dv (s:Shared) (ρ:Qf) (xs ys:List Str) (lm lu:Addr) (i j:Nat) (ms us:List Str):Prop where
 rx:ρ "expected"=some (Qz xs)
 ry:ρ "actual"=some (Qz ys)
 ri:ρ "i"=some (.data (.int (i:Nat)))
 rj:ρ "j"=some (.data (.int (j:Nat)))
 rm:ρ "missing"=some (.raw (.ref lm))
 ru:ρ "unexpected"=some (.raw (.ref lu))
 hm:∃ vs,s.heap.PlainList lm (List.toArray vs)∧Zv vs ms
 hu:∃ vs,s.heap.PlainList lu (List.toArray vs)∧Zv vs us
structure Fix9 (G:Amb) (A:Around) (env:Env) (outer:List Env) (W O:Addr->Prop) (L lm lu:Addr) (xs ys:List Str):Prop where
 cold:A.handled=none
 fr:A.frames=some (env :: outer)
 hf:env.frame=some L
 own:Own G ks9 env W O
 cells:∀ y a,env.cells.lookup y=some a->False
 lmW:W lm
 luW:W lu
 lm0:G.h₀.get? lm=none
 lu0:G.h₀.get? lu=none
 mu:lm≠lu
 Om:¬ O lm
 Ou:¬ O lu
 rx:Row xs
 ry:Row ys
theorem Zg{G:Amb}{U:Addr->Prop}{s s':Shared}(k:Step G U s s'){a:Addr}{vs:Array Value}(hU:¬ U a)(h:s.heap.PlainList a vs):s'.heap.PlainList a vs:=by
 refine ob1_1 h fun m e=>?_
 exact ⟨m,k.exact e (.inl hU) (by show Value.type "list"≠_;decide)⟩
section
variable {G:Amb}{s s':Shared}{ρ:Qf}{xs ys:List Str}{lm lu:Addr}{i j:Nat}{ms us:List Str}{U:Addr->Prop}
theorem Dv.step(d:Dv s ρ xs ys lm lu i j ms us)(k:Step G U s s')(h1:¬ U lm)(h2:¬ U lu):Dv s' ρ xs ys lm lu i j ms us:=
 ⟨d.rx,d.ry,d.ri,d.rj,d.rm,d.ru,let ⟨vs,a,b⟩:=d.hm;⟨vs,Zg k h1 a,b⟩,let ⟨vs,a,b⟩:=d.hu;⟨vs,Zg k h2 a,b⟩⟩
theorem Dv.upd_i(d:Dv s ρ xs ys lm lu i j ms us)(k:Nat):Dv s (upd ρ "i" (.data (.int (k:Nat)))) xs ys lm lu k j ms us:=
 ⟨by simp [upd,ofString_inj,d.rx],by simp [upd,ofString_inj,d.ry],Qd _ _ _,by simp [upd,ofString_inj,d.rj],by simp [upd,ofString_inj,d.rm],by simp [upd,ofString_inj,d.ru],d.hm,d.hu⟩
theorem Dv.upd_j(d:Dv s ρ xs ys lm lu i j ms us)(k:Nat):Dv s (upd ρ "j" (.data (.int (k:Nat)))) xs ys lm lu i k ms us:=
 ⟨by simp [upd,ofString_inj,d.rx],by simp [upd,ofString_inj,d.ry],by simp [upd,ofString_inj,d.ri],Qd _ _ _,by simp [upd,ofString_inj,d.rm],by simp [upd,ofString_inj,d.ru],d.hm,d.hu⟩
theorem Dv.upd_e(d:Dv s ρ xs ys lm lu i j ms us)(x:D):Dv s (upd ρ "e" x) xs ys lm lu i j ms us:=
 ⟨by simp [upd,ofString_inj,d.rx],by simp [upd,ofString_inj,d.ry],by simp [upd,ofString_inj,d.ri],by simp [upd,ofString_inj,d.rj],by simp [upd,ofString_inj,d.rm],by simp [upd,ofString_inj,d.ru],d.hm,d.hu⟩
theorem Dv.upd_a(d:Dv s ρ xs ys lm lu i j ms us)(x:D):Dv s (upd ρ "a" x) xs ys lm lu i j ms us:=
 ⟨by simp [upd,ofString_inj,d.rx],by simp [upd,ofString_inj,d.ry],by simp [upd,ofString_inj,d.ri],by simp [upd,ofString_inj,d.rj],by simp [upd,ofString_inj,d.rm],by simp [upd,ofString_inj,d.ru],d.hm,d.hu⟩
end
structure AA (G:Amb) (n:Nat) (A:Around) (env:Env) (W U:Addr->Prop) (s₀:Shared) (xs ys:List Str) (lm lu:Addr) (s:Shared) (e T:Addr) (ρ:Qf) (i j:Nat) (ms us:List Str) (cold:Prop):Prop where
 a:AirT G U s₀ s e T cold
 c:Cx G n nowt ks9 A env s (fun a=>W a∨a=e∨a=T) ρ
 d:Dv s ρ xs ys lm lu i j ms us
section
variable {G:Amb}{n:Nat}{A A':Around}{env:Env}{outer:List Env}{W O U:Addr->Prop}{L lm lu:Addr}{xs ys:List Str}{s₀ sb s:Shared}{ρ:Qf}{i j:Nat}{ms us:List Str}{e T:Addr}{cold:Prop}{E:Value->Shared->Prop}
theorem Qkh(x:ArrT G nowt sb s e T L cold)(c:Cx G n nowt ks9 A env sb W ρ)(d:Dv sb ρ xs ys lm lu i j ms us)(k:Step G U s₀ sb):AA G n A env W U s₀ xs ys lm lu s e T ρ i j ms us cold:=by
 refine ⟨⟨k.trans (Qw x.k),k.get_none x.ne,k.get_none x.nT,x.T0,x.t,x.ctx⟩,c.widen x.k (fun a=>.inl) (fun a ob ea hw=>?_) (fun a ha=>?_),d.step x.k (fun q=>q) (fun q=>q)⟩
 ·rcases hw with hw | hw | hw
  ·exact hw
  ·rw [hw,x.ne] at ea;exact nSo ea
  ·rw [hw,x.nT] at ea;exact nSo ea
 ·rcases ha with ha | ha | ha
  ·exact (c.step x.k).excl.live a ha
  ·refine ob2_2 x.t.ex fun oe vs q _=>?_
   exact ⟨oe,ha ▸ q⟩
  ·refine ob2_2 x.t.tx fun oe vs q _=>?_
   exact ⟨oe,ha ▸ q⟩
theorem Fix9.ne(F:Fix9 G A env outer W O L lm lu xs ys)(live:∀ a,W a->∃ o,s₀.heap.get? a=some o){a:Addr}(h:s₀.heap.get? a=none):¬ O a∧env.locals≠a∧lm≠a∧lu≠a∧¬ W a:=by
 have nW:¬ W a:=fun q=>by refine ob1_1 (live a q) fun o e=>?_;rw [h] at e;exact nSo e
 exact Qg9 (fun q=>nW (F.own.sub a q)) (fun q=>nW (q ▸ F.own.sub _ F.own.loc)) (fun q=>nW (q ▸ F.lmW)) (fun q=>nW (q ▸ F.luW)) nW
theorem aa_fl{M:Model}{fl:Option Addr}{Q:Unit->Shared->Prop}(F:Fix9 G A env outer W O L lm lu xs ys)(live:∀ a,W a->∃ o,s₀.heap.get? a=some o)(x:AA G n A env W U s₀ xs ys lm lu s e T ρ i j ms us cold)
  (h:∀ s',AA G n A env W U s₀ xs ys lm lu s' e T ρ i j ms us cold->(∀ L,fl=some L->InFl s'.heap T L)->Q () s'):wpAny M A' (setFlight (.ref e) fl) Q E s:=by
 refine Qaa (F.ne live x.a.nT) fun nO nL nm nu nW=>?_
 exact air_fl x.a fun s' k y hl=>h s' ⟨y,x.c.stepU k (fun a ha=>.inr (.inr ha)) nL (fun y a q=>(F.cells y a q).elim),x.d.step k nm nu⟩ hl
theorem AA.run(F:Fix9 G A env outer W O L lm lu xs ys)(live:∀ a,W a->∃ o,s₀.heap.get? a=some o){s':Shared}{ρ':Qf}{i' j':Nat}(x:AA G n A env W U s₀ xs ys lm lu s e T ρ i j ms us cold)(k:Step G O s s')(hU:∀ a,O a->U a)
  (c:Cx G n nowt ks9 A env s' (fun a=>W a∨a=e∨a=T) ρ')(d:Dv s' ρ' xs ys lm lu i' j' ms us):AA G n A env W U s₀ xs ys lm lu s' e T ρ' i' j' ms us cold:=by
 refine Qx (F.ne live x.a.nT) fun nOT _=>?_
 refine Qx (F.ne live x.a.ne) fun nOe _=>?_
 exact ⟨⟨x.a.k.trans (k.mono hU),x.a.ne,x.a.nT,x.a.T0,x.a.t.step k nOe nOT,fun q=>(x.a.ctx q).step k nOe⟩,c,d⟩
end
theorem ArrT.cool{G:Amb}{U:Addr->Prop}{sb s:Shared}{e T L:Addr}{cold:Prop}(x:ArrT (Qj1 G) U sb s e T L cold):ArrT G U sb s e T L cold:=⟨⟨x.k.cool,x.ne,x.nT,x.T0,x.t,x.ctx⟩,x.fl⟩
theorem v9(x:Str)(h:x ∈ (["expected","actual","i","j","e","a","missing","unexpected"]:List Str)):Vis ks9 x=true∧(x == ("__debug__":Str))=false:=by
 have:∀ x ∈ (["expected","actual","i","j","e","a","missing","unexpected"]:List Str),Vis ks9 x=true∧(x == ("__debug__":Str))=false:=by decide +kernel
 exact this x h
theorem pass_on{M:Model}{A:Around}{env:Env}{s:Shared}{e T L:Addr}{α:Type}{Q:α->Shared->Prop}{E:Value->Shared->Prop}(t:Tb s.heap e T)(hf:env.frame=some L)(h:wpAny M A (setFlight (.ref e) (some L)) (fun _ s'=>E (.ref e) s') E s):wpAny M A (PySem.passOn "try.finally" (.ref e) env) Q E s:=by
 refine ob2_4 t.ex fun oe vs he hcls hd h1=>?_
 unfold PySem.passOn
 refine Qg (fun K k=>wpAny_field he hd h1 k) ?_
 rw [if_neg (show ¬ ((Value.ref T == Value.none)=true) from by simp)]
 rw [hf]
 exact wpAny_bind (wpAny_mono h (fun _ _ q=>wpAny_throw q) fun _ _ q=>q)
section
variable {G:Amb}[Qab G] {n:Nat}{A:Around}{env:Env}{outer:List Env}{W O U:Addr->Prop}{L lm lu:Addr}{xs ys:List Str}{s₀ s:Shared}{ρ:Qf}{i j:Nat}{ms us:List Str}{x:Str}{Q:Flow->Shared->Prop}{E:Value->Shared->Prop}
 {p1 p2 p3 p4 p5 p6 p7 p8 p9 q1 q2 q3 q4 q5 q6 q7 q8 q9 r1 r2 r3 r4:Pos}{b1 b2:List Stmt}
theorem else9(F:Fix9 G A env outer W O L lm lu xs ys)(live:∀ a,W a->∃ o,s₀.heap.get? a=some o)(hU:∀ a,O a->U a)(c:Cx G n nowt ks9 A env s W ρ)(d:Dv s ρ xs ys lm lu i j ms us)(k0:Step G U s₀ s)
  (he:ρ "e"=some (.data (.str x)))(ha:ρ "a"=some (.data (.str x)))(hx:xs[i]?=some x)(hy:ys[j]?=some x)
  (hin:∀ s' ρ',Step G U s₀ s'->Cx G n nowt ks9 A env s' W ρ'->Dv s' ρ' xs ys lm lu (i + 1) (j + 1) ms us->Q .next s')
  (hout:∀ e T s' ρ' cold,AA G n A env W U s₀ xs ys lm lu s' e T ρ' (i + 1) (j + 1) ms us cold->InFl s'.heap T L->(i + 1=xs.length∨j + 1=ys.length)->E (.ref e) s'):
  wpAny (model G.prog G.w) A (execs [.AugAssign (.Name "i" r1) .Add (.Constant (.int 1) 0 r2) r3,.Try [.While (.Compare (.Subscript (.Name "expected" p1) (.Name "i" p2) p3) [.Eq] [.Name "e" p4] p5) b1 [] p6] [] []
   [.AugAssign (.Name "j" q7) .Add (.Constant (.int 1) 0 q8) q9,.While (.Compare (.Subscript (.Name "actual" q1) (.Name "j" q2) q3) [.Eq] [.Name "a" q4] q5) b2 [] q6] r4] env) Q E s:=by
 have hlt:=(List.getElem?_eq_some_iff.mp hx).1
 have hfew:=F.rx.few
 have e1:(i:Int) + 1=((i + 1:Nat):Int):=by lia
 refine wpAny_execs_cons (st_aug (Qj 1 0 r2) (v9 "i" (by simp)).1 (.inl rfl) dk A env s W O ρ (.next (upd ρ "i" (.data (.int ((i + 1:Nat):Int))))) _ _ c F.own ?_ fun fl s₁ k1 r₁=>?_)
 ·show ((ρ "i").bind _)=_
  rw [d.ri,bS,bS]
  show (some (D.data (.int ((i:Int) + 1)))).map _=_
  rw [e1];rfl
 obtain ⟨rfl,c1⟩:=r₁
 have k1':=k1.nowt
 have d1:=(d.step k1' F.Om F.Ou).upd_i (i + 1)
 have he1:(upd ρ "i" (.data (.int ((i + 1:Nat):Int)))) "e"=some (.data (.str x)):=by simp [upd,ofString_inj,he]
 have ha1:(upd ρ "i" (.data (.int ((i + 1:Nat):Int)))) "a"=some (.data (.str x)):=by simp [upd,ofString_inj,ha]
 generalize upd ρ "i" (.data (.int ((i + 1:Nat):Int)))=ρ₁ at c1 d1 he1 ha1
 have k01:Step G U s₀ s₁:=k0.trans (k1'.mono hU)
 refine wpAny_execs_cons (wpAny_Try_finally ?_)
 refine wpAny_execs_cons (while9 (l:=xs) (k:=i + 1) (zt:=x) c1 (.inl F.cold) F.fr F.hf (v9 "expected" (by simp)) (v9 "i" (by simp)) (v9 "e" (by simp)) d1.rx d1.ri he1 (by lia) F.rx.texty (F.rx.texty x (List.mem_of_getElem? hx)) (fun t ht=>next_ne F.rx.rise hx ht) (fun s2 hk k2=>?_) fun hle e T s2 y=>?_)
 ·refine wpAny_execs_nil (wpAny_execs_nil ?_)
  refine incw (x:="actual") (y:="j") (z:="a") (l:=ys) (k:=j) (zt:=x) (L:=L) (c1.step k2) F.own (.inl F.cold) (fun e1 q=>by rw [F.cold] at q;exact nSo q) F.fr F.hf (v9 "actual" (by simp)) (v9 "j" (by simp)) (v9 "a" (by simp)) rfl dk (by simp [ofString_inj]) (by simp [ofString_inj]) d1.ry d1.rj ha1 hy F.ry (fun s3 k3 c3 hk3=>?_) fun sb e T s3 k3 c3 hk3 y=>?_
  ·exact wpAny_execs_nil (hin s3 _ ((k01.trans (Qw k2)).trans (k3.mono hU)) c3 (((d1.step k2 (fun q=>q) fun q=>q).step k3 F.Om F.Ou).upd_j (j + 1)))
  ·refine Qlo F.hf y fun s4 y'=>?_
   exact hout e T s4 _ _ (Qkh y' c3 (((d1.step k2 (fun q=>q) fun q=>q).step k3 F.Om F.Ou).upd_j (j + 1)) ((k01.trans (Qw k2)).trans (k3.mono hU))) y'.fl (.inr hk3)
 ·refine Qbp F.hf y ⟨(by intro q;cases q),Qbp F.hf y ?_⟩
  refine aa_fl F live (Qkh y c1 d1 k01) fun s3 X3 _=>?_
  have X3c:=X3.a.ctx F.cold
  refine incw (G:=Qj1 G) (A:=A.mark (some (.ref e))) (x:="actual") (y:="j") (z:="a") (l:=ys) (k:=j) (zt:=x) (L:=L) X3.c.hot (F.own.wide (W':=fun a=>W a∨a=e∨a=T) fun a=>.inl).hot (.inr ⟨e,rfl,X3c⟩) (fun e1 q=>?_) F.fr F.hf (v9 "actual" (by simp)) (v9 "j" (by simp)) (v9 "a" (by simp)) rfl dk (by simp [ofString_inj]) (by simp [ofString_inj]) d1.ry d1.rj ha1 hy F.ry (fun s4 k4 c4 hk4=>?_) fun sb e2 T2 s4 k4 c4 hk4 y2=>?_
  ·cases q
   exact (F.ne live X3.a.ne).1
  ·have X4:=X3.run F live k4.cool hU (c4.cool F.cold) ((X3.d.step k4.cool F.Om F.Ou).upd_j (j + 1))
   refine pass_on X4.a.t F.hf (aa_fl F live X4 fun s5 X5 hl=>?_)
   exact hout e T s5 _ _ X5 (hl L rfl) (.inl (by lia))
  ·refine Qlo F.hf y2.cool fun s5 y'=>?_
   exact hout e2 T2 s5 _ _ (Qkh y' ((c4.cool F.cold).narrow (fun a=>.inl) fun _ q=>q.elim) ((X3.d.step k4.cool F.Om F.Ou).upd_j (j + 1)) (X3.a.k.trans (k4.cool.mono hU))) y'.fl (.inr hk4)
end
noncomputable def sltD(a b:D):Option D:=(aS a).bind fun a=>(aS b).bind fun b=>some (.data (.bool (decide (slt a b))))
noncomputable def sgtD(a b:D):Option D:=(aS a).bind fun a=>(aS b).bind fun b=>some (.data (.bool (decide (slt b a))))
section
variable {G:Amb}{n:Nat}{V:Addr->Prop}
theorem op_slt:Qe7 G n V (compareOp .Lt) sltD:=by
 intro A s W v u a b d Q E g x rv ru e h
 unfold sltD at e
 refine ob1_2 (ivS e) ?_;rintro x rfl e
 refine ob1_2 (ivS e) ?_;rintro y rfl e
 obtain rfl:=Qo e
 obtain ⟨t,rfl⟩:=RepD.str_inv rv
 obtain ⟨t',rfl⟩:=RepD.str_inv ru
 refine PyProof.Rows.lt_str (h _ s .refl ?_)
 exact RepD.bool _
theorem op_sgt:Qe7 G n V (compareOp .Gt) sgtD:=by
 intro A s W v u a b d Q E g x rv ru e h
 unfold sgtD at e
 refine ob1_2 (ivS e) ?_;rintro x rfl e
 refine ob1_2 (ivS e) ?_;rintro y rfl e
 obtain rfl:=Qo e
 obtain ⟨t,rfl⟩:=RepD.str_inv rv
 obtain ⟨t',rfl⟩:=RepD.str_inv ru
 refine PySem.P.gt_str (h _ s .refl ?_)
 exact RepD.bool _
end
section
variable {G:Amb}[Qab G] {n:Nat}{A:Around}{env:Env}{outer:List Env}{W O U:Addr->Prop}{L lm lu:Addr}{xs ys:List Str}{s₀ s:Shared}{ρ:Qf}{i j:Nat}{ms us:List Str}{Q:Flow->Shared->Prop}{E':Value->Shared->Prop}{K:Value->Shared->Prop}
 {p1 p2 p3 p4 p5 p6 p7 p8 p9 q1 q2 q3 q4 q5 q6 q7 q8 q9 r1 r2 r3 r4 t1 t2 t3 t4 t5 t6 t7 t8 t9 u1 u2 u3 u4 u5 u6 u7 u8 u9 v1 v2 v3 v4 v5 v6 v7 v8 v9' w1 w2 w3 w4 w5 w6 w7 w8 w9 x1 x2 x3 x4 x5 x6 x7 x8 x9:Pos}{b1 b2 b3 b4:List Stmt}
theorem body9(F:Fix9 G A env outer W O L lm lu xs ys)(live:∀ a,W a->∃ o,s₀.heap.get? a=some o)(hU:∀ a,O a->U a)(lmU:U lm)(luU:U lu)(c:Cx G n nowt ks9 A env s W ρ)(d:Dv s ρ xs ys lm lu i j ms us)(k0:Step G U s₀ s)(inv:Qlq xs ys i j ms us)
  (hl1:(w4.endLine == w6.line)=true)(hl2:(x4.endLine == x6.line)=true)
  (hin:∀ s' ρ' i' j' ms' us',Step G U s₀ s'->Cx G n nowt ks9 A env s' W ρ'->Dv s' ρ' xs ys lm lu i' j' ms' us'->Qlq xs ys i' j' ms' us'->i + j < i' + j'->Q .next s')
  (hK:∀ e T s' ρ' i' j' ms' us' cold,AA G n A env W U s₀ xs ys lm lu s' e T ρ' i' j' ms' us' cold->InFl s'.heap T L->Qlq xs ys i' j' ms' us'->(i'=xs.length∨j'=ys.length)->K (.ref e) s'):
  wpAny (model G.prog G.w) A (execs [.Assign [.Name "e" t1] (.Subscript (.Name "expected" t2) (.Name "i" t3) t4) t5,.Assign [.Name "a" u1] (.Subscript (.Name "actual" u2) (.Name "j" u3) u4) u5,
   .If (.Compare (.Name "e" v1) [.Lt] [.Name "a" v2] v3)
    [.Expr (.Call (.Attribute (.Name "missing" w3) "append" w4) [.Name "e" w5] [] w6) w7,.AugAssign (.Name "i" t6) .Add (.Constant (.int 1) 0 t7) t8,.While (.Compare (.Subscript (.Name "expected" t9) (.Name "i" u6) u7) [.Eq] [.Name "e" u8] u9) b3 [] w1]
    [.If (.Compare (.Name "e" v4) [.Gt] [.Name "a" v5] v6)
     [.Expr (.Call (.Attribute (.Name "unexpected" x3) "append" x4) [.Name "a" x5] [] x6) x7,.AugAssign (.Name "j" x8) .Add (.Constant (.int 1) 0 x9) w8,.While (.Compare (.Subscript (.Name "actual" w9) (.Name "j" v7) v8) [.Eq] [.Name "a" v9'] w2) b4 [] x1]
     [.AugAssign (.Name "i" r1) .Add (.Constant (.int 1) 0 r2) r3,.Try [.While (.Compare (.Subscript (.Name "expected" p1) (.Name "i" p2) p3) [.Eq] [.Name "e" p4] p5) b1 [] p6] [] []
      [.AugAssign (.Name "j" q7) .Add (.Constant (.int 1) 0 q8) q9,.While (.Compare (.Subscript (.Name "actual" q1) (.Name "j" q2) q3) [.Eq] [.Name "a" q4] q5) b2 [] q6] r4] p7] p8] env) Q
   (fun e s₁=>wpAny (model G.prog G.w) A (noteFrame e env) (fun _ s2=>K e s2) E' s₁) s:=by
 refine Qdk (Qk6 inv F.rx F.ry) fun hi5 hj5 hm5 hu5=>?_
 have Hc:∀ e1,A.handled=some (.ref e1)->¬ O e1:=fun e1 q=>by rw [F.cold] at q;exact nSo q
 refine wpAny_execs_cons (item9 (l:=xs) (k:=i) c F.own (.inl F.cold) F.fr (v9 "expected" (by simp)) (v9 "i" (by simp)) rfl dk d.rx d.ri (by lia) (fun x s₁ hx k1 c1=>?_) fun hle e s₁ y=>?_)
 case refine_2=>
  refine Qgj F.fr F.hf y (Zd c.good) fun T s2 y=>hK e T s2 _ i j ms us _ (Qkh y c d k0) y.fl inv (.inl (by have:=inv.hi;lia))
 have d1:=(d.step k1 F.Om F.Ou).upd_e (.data (.str x))
 have he1:=Qd ρ "e" (.data (.str x))
 revert c1 d1 he1;refine Qm2 (upd ρ "e" (.data (.str x))) fun ρ₁=>?_;intro c1 d1 he1
 have k01:=k0.trans (k1.mono hU)
 refine wpAny_execs_cons (item9 (l:=ys) (k:=j) c1 F.own (.inl F.cold) F.fr (v9 "actual" (by simp)) (v9 "j" (by simp)) rfl dk d1.ry d1.rj (by lia) (fun y s2 hy k2 c₂=>?_) fun hle e s2 y=>?_)
 case refine_2=>
  refine Qgj F.fr F.hf y (Zd c1.good) fun T s3 y=>hK e T s3 _ i j ms us _ (Qkh y c1 d1 k01) y.fl inv (.inr (by have:=inv.hj;lia))
 have d2:=(d1.step k2 F.Om F.Ou).upd_a (.data (.str y))
 have he2:upd ρ₁ "a" (.data (.str y)) "e"=some (.data (.str x)):=by simp [upd,ofString_inj,he1]
 have ha2:=Qd ρ₁ "a" (.data (.str y))
 revert c₂ d2 he2 ha2;refine Qm2 (upd ρ₁ "a" (.data (.str y))) fun ρ2=>?_;intro c₂ d2 he2 ha2
 have k02:=k01.trans (k2.mono hU)
 clear d d1 c c1 k0 k01 he1
 refine wpAny_execs_cons (wpAny_If (Ql op_slt Qq (Qb "e" v1 (v9 "e" (by simp)).1 (v9 "e" (by simp)).2) (Qb "a" v2 (v9 "a" (by simp)).1 (v9 "a" (by simp)).2) rfl A env s2 W ρ2 (decide (slt x y)) _ _ c₂ (by dsimp only;rw [he2,ha2,bS,bS];rfl) fun s3 k3=>?_))
 have c3:=c₂.step k3
 have d3:=d2.step k3 (fun q=>q) (fun q=>q)
 have k03:=k02.trans (Qw k3)
 by_cases hlt:slt x y
 ·rw [decide_eq_true hlt,if_pos rfl]
  refine ob1_2 d3.hm fun vs hl hv=>?_
  have hvl:=hv.1
  refine wpAny_execs_cons (Qa5 (f:=fun ρ=>ρ "e") (d:=.data (.str x)) (Qb "e" w5 (v9 "e" (by simp)).1 (v9 "e" (by simp)).2) (fun _=>rfl) hl1 (v9 "missing" (by simp)).1 (v9 "missing" (by simp)).2 (fun _=>rfl) (fun _=>rfl) (fun _=>rfl) c3 d3.rm hl he2 (by rw [List.size_toArray];lia) F.lmW F.lm0
   (fun q=>F.Om (q ▸ F.own.loc)) (fun y a q=>(F.cells y a q).elim) fun v s4 k4 hl4 hv4 c4=>?_)
  refine ob1_1 (RepD.str_inv hv4) ?_;rintro t rfl
  have d4:Dv s4 ρ2 xs ys lm lu i j (ms ++ [x]) us:=⟨d3.rx,d3.ry,d3.ri,d3.rj,d3.rm,d3.ru,⟨vs ++ [.str x t],by simpa using hl4,Qdr hv (Qkn x t)⟩,ob1_2 d3.hu fun vs a b=>⟨vs,Zg k4 (fun q=>F.mu q.symm) a,b⟩⟩
  have k04:Step G U s₀ s4:=k03.trans (k4.mono fun a ha=>ha ▸ lmU)
  have inv':=inv9_lt inv F.ry hx hy hlt
  refine incw (x:="expected") (y:="i") (z:="e") (l:=xs) (k:=i) (zt:=x) (L:=L) c4 F.own (.inl F.cold) Hc F.fr F.hf (v9 "expected" (by simp)) (v9 "i" (by simp)) (v9 "e" (by simp)) rfl dk (by simp [ofString_inj]) (by simp [ofString_inj]) d4.rx d4.ri he2 hx F.rx (fun s5 k5 c₅ hk5=>?_) fun sb e T s5 k5 c₅ hk5 y5=>?_
  ·exact wpAny_execs_nil (hin s5 _ (i + 1) j _ _ (k04.trans (k5.mono hU)) c₅ ((d4.step k5 F.Om F.Ou).upd_i (i + 1)) inv' (by lia))
  ·exact Qbp F.hf y5 (hK e T s5 _ (i + 1) j _ _ _ (Qkh y5 c₅ ((d4.step k5 F.Om F.Ou).upd_i (i + 1)) (k04.trans (k5.mono hU))) y5.fl inv' (.inl hk5))
 ·rw [decide_eq_false hlt,if_neg (by decide)]
  refine wpAny_execs_cons (wpAny_If (Ql op_sgt Qq (Qb "e" v4 (v9 "e" (by simp)).1 (v9 "e" (by simp)).2) (Qb "a" v5 (v9 "a" (by simp)).1 (v9 "a" (by simp)).2) rfl A env s3 W ρ2 (decide (slt y x)) _ _ c3 (by dsimp only;rw [he2,ha2,bS,bS];rfl) fun s4 k4=>?_))
  have c4:=c3.step k4
  have d4:=d3.step k4 (fun q=>q) (fun q=>q)
  have k04:=k03.trans (Qw k4)
  by_cases hgt:slt y x
  ·rw [decide_eq_true hgt,if_pos rfl]
   refine ob1_2 d4.hu fun vs hl hv=>?_
   have hvl:=hv.1
   refine wpAny_execs_cons (Qa5 (f:=fun ρ=>ρ "a") (d:=.data (.str y)) (Qb "a" x5 (v9 "a" (by simp)).1 (v9 "a" (by simp)).2) (fun _=>rfl) hl2 (v9 "unexpected" (by simp)).1 (v9 "unexpected" (by simp)).2 (fun _=>rfl) (fun _=>rfl) (fun _=>rfl) c4 d4.ru hl ha2 (by rw [List.size_toArray];lia) F.luW F.lu0
    (fun q=>F.Ou (q ▸ F.own.loc)) (fun y a q=>(F.cells y a q).elim) fun v s5 k5 hl5 hv5 c₅=>?_)
   refine ob1_1 (RepD.str_inv hv5) ?_;rintro t rfl
   have d5:Dv s5 ρ2 xs ys lm lu i j ms (us ++ [y]):=⟨d4.rx,d4.ry,d4.ri,d4.rj,d4.rm,d4.ru,ob1_2 d4.hm fun vs a b=>⟨vs,Zg k5 F.mu a,b⟩,⟨vs ++ [.str y t],by simpa using hl5,Qdr hv (Qkn y t)⟩⟩
   have k05:Step G U s₀ s5:=k04.trans (k5.mono fun a ha=>ha ▸ luU)
   have inv':=inv9_gt inv F.rx hx hy hgt
   refine incw (x:="actual") (y:="j") (z:="a") (l:=ys) (k:=j) (zt:=y) (L:=L) c₅ F.own (.inl F.cold) Hc F.fr F.hf (v9 "actual" (by simp)) (v9 "j" (by simp)) (v9 "a" (by simp)) rfl dk (by simp [ofString_inj]) (by simp [ofString_inj]) d5.ry d5.rj ha2 hy F.ry (fun s6 k6 c6 hk6=>?_) fun sb e T s6 k6 c6 hk6 y6=>?_
   ·exact wpAny_execs_nil (wpAny_execs_nil (hin s6 _ i (j + 1) _ _ (k05.trans (k6.mono hU)) c6 ((d5.step k6 F.Om F.Ou).upd_j (j + 1)) inv' (by lia)))
   ·exact Qbp F.hf y6 (hK e T s6 _ i (j + 1) _ _ _ (Qkh y6 c6 ((d5.step k6 F.Om F.Ou).upd_j (j + 1)) (k05.trans (k6.mono hU))) y6.fl inv' (.inr hk6))
  ·rw [decide_eq_false hgt,if_neg (by decide)]
   have exy:x=y:=Qkt hlt hgt
   subst exy
   have inv':=inv9_eq inv F.rx F.ry hx hy
   refine else9 (x:=x) F live hU c4 d4 k04 he2 ha2 hx hy (fun s5 ρ5 k5 c₅ d5=>?_) fun e T s5 ρ5 cold a5 f5 he5=>?_
   ·exact wpAny_execs_nil (wpAny_execs_nil (hin s5 ρ5 (i + 1) (j + 1) _ _ k5 c₅ d5 inv' (by lia)))
   ·refine Qbp F.hf (⟨a5.a,f5⟩:ArrT G U s₀ s5 e T L cold) (hK e T s5 ρ5 (i + 1) (j + 1) _ _ cold a5 f5 inv' he5)
end
theorem boot_ie:bootBuiltins (Str.ofString "IndexError")=some (.type "IndexError"):=by kernel_rfl
theorem Qf7{l:List Str}{k:Nat}(h:l.length <= 1000):Qgm (some ((k:Nat):Int)) none (Qz l)=some (.plain ((l.drop k).map .str)):=by
 unfold Qgm
 rw [show aL (Qz l)=some (l.map .str) from rfl,Option.bind_some]
 rw [if_pos (by rw [List.length_map];exact h),Qhz,List.map_drop]
section
variable {G:Amb}[Qab G] {n:Nat}{A:Around}{env:Env}{outer:List Env}{W O U:Addr->Prop}{L lm lu:Addr}{xs ys:List Str}{s₀ s:Shared}{ρ:Qf}{i j:Nat}{ms us:List Str}{Q:Flow->Shared->Prop}{E:Value->Shared->Prop}{e T:Addr}{cold:Prop}
 {p1 p2 p3 p4 p5 p6 p7 p8 p9 q1 q2 q3 q4 q5 q6 q7 q8 q9 r1:Pos}
theorem handler9(AG:Qv G)(FO:Zp G)(F:Fix9 G A env outer W O L lm lu xs ys)(live:∀ a,W a->∃ o,s₀.heap.get? a=some o)(lmU:U lm)(luU:U lu)(X:AA G n A env W U s₀ xs ys lm lu s e T ρ i j ms us cold)(inv:Qlq xs ys i j ms us)(hend:i=xs.length∨j=ys.length)
  (hl1:(p4.endLine == p9.line)=true)(hl2:(q4.endLine == q9.line)=true)
  (hbrk:∀ s',Step G U s₀ s'->Cx G n nowt ks9 A env s' W ρ->Dv s' ρ xs ys lm lu i j (xs.filter fun t=>decide (t ∉ ys)) (ys.filter fun t=>decide (t ∉ xs))->Q .brk s'):
  wpAny (model G.prog G.w) A (setFlight (.ref e) none) (fun _ s3=>wpAny (model G.prog G.w) A (handleBy (.ref e) env [.ExceptHandler (some (.Name "IndexError" p1)) none
   [.Expr (.Call (.Attribute (.Name "missing" p3) "extend" p4) [.Subscript (.Name "expected" p5) (.Slice (some (.Name "i" p6)) none none p7) p8] [] p9) q1,
    .Expr (.Call (.Attribute (.Name "unexpected" q3) "extend" q4) [.Subscript (.Name "actual" q5) (.Slice (some (.Name "j" q6)) none none q7) q8] [] q9) q2,.Break r1] p2]) Q E s3) E s:=by
 refine Qdk (Qk6 inv F.rx F.ry) fun hi5 hj5 hm5 hu5=>?_
 refine Qx (inv9_fin inv hend) fun f1 f2=>?_
 have few1:=F.rx.few
 have few2:=F.ry.few
 refine aa_fl F live X fun s₁ X1 _=>?_
 refine ob2_4 X1.a.t.ex fun oe vs he hcls hd _=>?_
 refine wpAny_handleBy_builtin (X:="IndexError") (T:="IndexError") (b:=true) PySem.F.isExc_IndexError PySem.F.notTuple_IndexError PySem.F.self_IndexError ?_
 refine Qh AG X1.c.good.base X1.c.ok rfl (FO _ dk) boot_ie dk dk ⟨rfl,⟨oe,he,hcls⟩,?_⟩
 show wpAny _ _ _ _ _ _
 refine aa_fl F live X1 fun s2 X2 _=>?_
 refine Qaa (F.ne live X.a.nT) fun nO nL nm nu nW=>?_
 refine ob1_2 X2.d.hm fun vs hl hv=>?_
 have hvl:=hv.1
 refine wpAny_execs_cons (Qhu (G:=Qj1 G) (its:=vs) (Qio (fun _ _=>rfl) (Qb "expected" p5 (v9 "expected" (by simp)).1 (v9 "expected" (by simp)).2) (Qal (Qb "i" p6 (v9 "i" (by simp)).1 (v9 "i" (by simp)).2)) Qba) (fun _=>rfl) hl1 (v9 "missing" (by simp)).1 (v9 "missing" (by simp)).2 (fun _=>rfl) (fun _=>rfl) (fun _=>rfl)
  X2.c.hot X2.d.rm hl (ds:=(xs.drop i).map .str) (by rw [X2.d.rx,X2.d.ri,bS,bS];show ((some (some ((i:Nat):Int))).bind _)=_;rw [bS,bS,Qf7 (by lia)]) (by rw [List.length_map,List.length_drop];lia) (.inl F.lmW) F.lm0 (fun q=>F.Om (q ▸ F.own.loc)) (fun y a q=>(F.cells y a q).elim) fun us1 s3 k3 hl3 r₃ c3=>?_)
 have k3':=k3.cool
 have d3:Dv s3 ρ xs ys lm lu i j (xs.filter fun t=>decide (t ∉ ys)) us:=⟨X2.d.rx,X2.d.ry,X2.d.ri,X2.d.rj,X2.d.rm,X2.d.ru,⟨_,hl3,f1 ▸ Qdr hv (Qy r₃)⟩,ob1_2 X2.d.hu fun vs a b=>⟨vs,Zg k3' (fun q=>F.mu q.symm) a,b⟩⟩
 refine ob1_2 d3.hu fun vs hl hv=>?_
 have hvl:=hv.1
 refine wpAny_execs_cons (Qhu (G:=Qj1 G) (its:=vs) (Qio (fun _ _=>rfl) (Qb "actual" q5 (v9 "actual" (by simp)).1 (v9 "actual" (by simp)).2) (Qal (Qb "j" q6 (v9 "j" (by simp)).1 (v9 "j" (by simp)).2)) Qba) (fun _=>rfl) hl2 (v9 "unexpected" (by simp)).1 (v9 "unexpected" (by simp)).2 (fun _=>rfl) (fun _=>rfl) (fun _=>rfl)
  c3 d3.ru hl (ds:=(ys.drop j).map .str) (by rw [d3.ry,d3.rj,bS,bS];show ((some (some ((j:Nat):Int))).bind _)=_;rw [bS,bS,Qf7 (by lia)]) (by rw [List.length_map,List.length_drop];lia) (.inl F.luW) F.lu0 (fun q=>F.Ou (q ▸ F.own.loc)) (fun y a q=>(F.cells y a q).elim) fun us2 s4 k4 hl4 r₄ c4=>?_)
 have k4':=k4.cool
 have d4:Dv s4 ρ xs ys lm lu i j (xs.filter fun t=>decide (t ∉ ys)) (ys.filter fun t=>decide (t ∉ xs)):=⟨d3.rx,d3.ry,d3.ri,d3.rj,d3.rm,d3.ru,ob1_2 d3.hm fun vs a b=>⟨vs,Zg k4' F.mu a,b⟩,⟨_,hl4,f2 ▸ Qdr hv (Qy r₄)⟩⟩
 refine wpAny_execs_cons (wpAny_Break (hbrk s4 ((X2.a.k.trans (k3'.mono fun a ha=>ha ▸ lmU)).trans (k4'.mono fun a ha=>ha ▸ luU)) ((c4.cool F.cold).narrow (fun a=>.inl) fun _ q=>q.elim) d4))
end
section
section
variable {G:Amb}{n:Nat}{V:Addr->Prop}
theorem code_rawC{A:Around}{s:Shared}{W:Addr->Prop}{fd:FuncData}{fa:Addr}{o:Obj}{body:List Stmt}{xs:List Str}{vs us:List Value}{ds:List D}{ρc:Qf}{R:Result->Shared->Prop}(AG:Qv G)
  (good:Good G (n + 1) A s.heap)(ex:Excl s.heap V W)(ho:s.heap.get? fa=some o)(hdat:o.data=.func fd)(hcr:s.heap.CodeRec fd.code fd.qualname)(hbody:fd.body=.stmts body)(hk:fd.scope.kind=.function)(hco:fd.scope.isCoroutine=false)(hgen:fd.scope.isGenerator=false)
  (hgl:fd.globals=mainGlobals)(hbi:fd.builtins=builtinsNs)(hN:Xs fd.scope.names xs)(hbind:BindsTo s fd ⟨vs,[]⟩ (xs.zip us))(r:RepL G s.heap W us ds)(hC:Qfl G V s.heap W fd.scope.names fd.closure ρc)
  (h:∀ s₁ env,Step G V s s₁->Cx G n V fd.scope.names (A.deeper env) env s₁ (fun a=>W a∨a=s.heap.objs.size) (Zl fd.scope.names xs ds ρc)->Own G fd.scope.names env (fun a=>W a∨a=s.heap.objs.size) (fun a=>a=s.heap.objs.size)->env.frame=some s.heap.objs.size->env.cells=fd.closure->
   wpAny (model G.prog G.w) (A.deeper env) (execs body env) (fun f s'=>R (.ok (.ret (match f with | .ret v=>v | _=>.none))) s')
    (fun e s'=>wpAny (model G.prog G.w) (A.deeper env) (leaving env e) (fun _ s''=>R (.error e) s'') (fun e' s''=>R (.error e') s'') s') s₁):
  codeAny (model G.prog G.w) A (.call (.ref fa) ⟨vs,[]⟩) R s:=by
 refine codeAny_call_function (by have:=good.depth;show A.depth < 1000;omega) ho hdat hco hgen hbody hcr (hbind _ _ _ _ ?_)
 refine Zs hN.noCell (fun x hx=>hN.loc x.1 (List.of_mem_zip (a:=x.1) (b:=x.2) hx).1) (fun h' hns hsb hfr=>?_) hk
 refine Jo (Qhf (fa:=fa) (tk:=s.toks + (xs.zip us).length) good ex hk hgl hbi hN r hC hns hsb hfr) fun k c ow=>?_
 exact ⟨AG.nolimit.keeps (c.good.base),codeAny_func (h _ _ k c ow rfl rfl)⟩
theorem Qct{A:Around}{env:Env}{s:Shared}{W O:Addr->Prop}{ρ:Qf}{ks:Qi}{y:Str}{py p p2:Pos}{Q:Flow->Shared->Prop}{E:Value->Shared->Prop}(c:Cx G n V ks A env s W ρ)(ow:Own G ks env W O)(hy:ks.lookup y=some .local∨ks.lookup y=some .cell)(hyd:(y == ("__classdict__":Str))=false)
  (h:∀ l s',s.heap.get? l=none->Step G (Or2 V O) s s'->s'.heap.PlainList l (List.toArray [])->Cx G n V ks A env s' (fun a=>W a∨a=l) (upd ρ y (.raw (.ref l)))->Q .next s'):
  wpAny (model G.prog G.w) A (exec (.Assign [.Name y py] (.List [] p) p2) env) Q E s:=by
 refine wpAny_Assign_Name ?_ (by rfl)
 refine List_ (evs_nil.2 A env s W ρ [] _ _ _ c rfl fun vs s₁ k1 r₁=>?_)
 have hvs:vs=[]:=List.eq_nil_of_length_eq_zero (by rw [r₁.length];rfl)
 subst hvs
 refine wpAny_newList ?_ (by rw [sizeLine_eq];simp)
 generalize hl:s₁.heap.objs.size=l
 refine Qdb (({ s₁ with heap:=s₁.heap.push (seqObj "list" (List.toArray []) 0) }:Shared)) fun s2 hs2=>?_
 have h2:s2.heap=s₁.heap.push (seqObj "list" (List.toArray []) 0):=by rw [← hs2]
 have k2:Step G V s₁ s2:=by rw [← hs2];exact .push s₁ _
 have hl2:s2.heap.PlainList l (List.toArray []):=by rw [h2,← hl];exact ⟨0,Heap.get?_push_size _ rfl⟩
 have new1:s₁.heap.get? l=none:=by rw [← hl];exact Heap.get?_none_of_le (Nat.le_refl _)
 have new:s.heap.get? l=none:=k1.get_none new1
 refine Qaa (Jb c new) fun neL neC nVl nWl l0=>?_
 have k12:=k1.trans k2
 have c₂:Cx G n V ks A env s2 (fun a=>W a∨a=l) ρ:=c.widen k12 (fun a ha=>.inl ha) (fun a ob ea hw=>hw.elim id fun q=>by rw [q,new] at ea;exact nSo ea)
  (fun a ha=>ha.elim (fun q=>(c.step k12).excl.live a q) fun q=>by refine ob1_1 hl2 fun m e=>?_;exact ⟨_,q ▸ e⟩)
 refine Qt c₂ (fun a ha=>.inl (ow.sub a ha)) ow.base (ow.store hy hyd) (d:=.raw (.ref l)) rfl fun s3 k3 c3=>?_
 refine h l s3 new ((k12.mono fun _=>.inl).trans (k3.mono fun _=>.inr)) ?_ c3
 refine ob1_1 hl2 fun m e=>?_
 exact ⟨m,k3.exact e (.inl fun q=>nWl (ow.sub _ q)) (by show Value.type "list"≠_;decide)⟩
theorem Cx.reveal{A:Around}{env:Env}{s:Shared}{W:Addr->Prop}{ρ:Qf}{ks:Qi}{x:Str}{v:Value}{d:D}(c:Cx G n V ks A env s W ρ)(hv:Vis ks x=true)(hx:ρ x=some (.raw v))(r:Rep G s.heap W v d):Cx G n V ks A env s W (upd ρ x d):=by
 refine ⟨c.good,c.ok,c.excl,fun y d' hv' hd'=>?_,c.ns,c.cellsAt⟩
 by_cases hy:y=x
 ·subst hy
  rw [Qd] at hd';obtain rfl:=Qo hd'
  refine ob1_2 (c.vars y _ hv' hx) fun u a b=>?_
  cases b
  exact in1_2 v a r
 ·rw [Zb _ _ hy] at hd'
  exact c.vars y d' hv' hd'
end
open Classical in
noncomputable def Qmp(ds:List D):Option D:=if h:∃ a b,ds=[Qz a,Qz b]∧Row a∧Row b then some (.data (Qdo h.choose h.choose_spec.choose)) else none
theorem Qel{a b:List Str}(h:Qz a=Qz b):a=b:=by
 have h1:a.map PyData.str=b.map PyData.str:=PyData.list.inj (D.data.inj h)
 exact (List.map_inj_right fun x y q=>by cases q;rfl).mp h1
theorem diffF_at{a b:List Str}(ha:Row a)(hb:Row b):Qmp [Qz a,Qz b]=some (.data (Qdo a b)):=by
 have h:∃ a' b',[Qz a,Qz b]=[Qz a',Qz b']∧Row a'∧Row b':=⟨a,b,rfl,ha,hb⟩
 unfold Qmp
 rw [dif_pos h]
 refine Jo h.choose_spec.choose_spec fun q _ _=>?_
 have q1:=Qel (List.cons.inj q).1
 have q2:=Qel (List.cons.inj (List.cons.inj q).2).1
 have key:∀ {a' b':List Str},a=a'->b=b'->some (D.data (Qdo a' b'))=some (D.data (Qdo a b)):=by rintro _ _ rfl rfl;rfl
 exact key q1 q2
theorem diffF_inv{ds:List D}{d:D}(h:Qmp ds=some d):∃ a b,ds=[Qz a,Qz b]∧Row a∧Row b∧d=.data (Qdo a b):=by
 unfold Qmp at h
 split at h
 ·rename_i q
  refine Jo q.choose_spec.choose_spec fun e h1 h2=>?_
  exact in2_4 _ _ e h1 h2 ((Option.some.inj h).symm)
 ·exact nSo h
end
section
variable {G:Amb}[Qab G]
theorem ret_diff{n:Nat}{p1 p2 p3 p4:Pos}{k:Nat}:∃ g,Qm1 G n nowt ks9 (.Return (some (.Tuple [.Name "missing" p1,.Name "unexpected" p2] k p3)) p4) g∧∀ (a b:List PyData) (ρ:Qf),ρ "missing"=some (.data (.list a))->ρ "unexpected"=some (.data (.list b))->g ρ=some (.ret (.data (.tuple [.list a,.list b]))):=by
 refine in1_2 _ (Qu (Qdy (Qc (fun _=>rfl) (Qb _ _ dk dk) (Qc (fun _=>rfl) (Qb _ _ dk dk) evs_nil)))) (fun a b ρ h1 h2=>?_)
 have e0:(0 + 1 + 1:Nat) <= 1000:=by decide
 rw [h1,h2]
 simp only [bS,mS,List.length_cons,List.length_nil,e0,if_true]
 rfl
inductive DiffInv (G:Amb) (A:Around) (env:Env) (W:Addr->Prop) (xs ys:List Str) (lm lu:Addr) (U:Addr->Prop) (s₅:Shared) (m:Nat) (s':Shared):Prop
 | mk (ρ:Qf) (i j:Nat) (ms us:List Str) (h1:Cx G 1 nowt ks9 A env s' W ρ) (h2:Dv s' ρ xs ys lm lu i j ms us) (h3:Qlq xs ys i j ms us) (h4:Step G U s₅ s') (h5:m=(xs.length - i) + (ys.length - j)):DiffInv G A env W xs ys lm lu U s₅ m s'
theorem fn_diff(AG:Qv G)(FO:Zp G)(hd:Xf G 9):FnOk G 2 nowt "sorted_list_difference" Qmp:=by
 refine ob1_2 hd.ex fun fa hd hm=>?_
 refine ob4_3 hd.ex fun o pm code doc ho hdat hcr=>?_
 refine ⟨fa,o,_,hm,ho,hdat,?_⟩
 intro A s W vs ds d Q E good ex r e h
 refine ob2_4 (diffF_inv e) ?_;rintro xs ys rfl rx ry rfl
 refine ob2_3 (Qdt r) ?_;rintro v u rfl rv ru
 refine ob1_2 good.stk fun outer hA _=>?_
 refine wpAny_call (code_rawC (n:=1) (V:=nowt) (W:=W) (xs:=["expected","actual"]) (us:=[v,u]) (ds:=[Qz xs,Qz ys]) (ρc:=fun _=>none) AG good ex (good.base _ _ ho) hdat (hcr.keeps good.base) rfl rfl rfl rfl rfl rfl (show Xs (Qe 9).names _ from Xm dk) (.of_eq rfl) r (show Qfl G nowt s.heap W (Qe 9).names [] _ from Qaw dk) ?_)
 intro s₁ env k1 c1 ow hframe hcells
 refine Qk9 fun Q0 E0 hQ hE=>?_
 change Cx G 1 nowt ks9 _ _ _ _ (Zl ks9 _ _ _) at c1
 change Own G ks9 _ _ _ at ow
 have l1:(Zl ks9 ["expected","actual"] [Qz xs,Qz ys] (fun _=>none)) "expected"=some (Qz xs):=rfl
 have l2:(Zl ks9 ["expected","actual"] [Qz xs,Qz ys] (fun _=>none)) "actual"=some (Qz ys):=rfl
 revert c1 l1 l2;refine Qm2 (Zl ks9 ["expected","actual"] [Qz xs,Qz ys] (fun _=>none)) fun ρ₁=>?_;intro c1 l1 l2
 have hAd:=PySem.Around.frames_deeper (env:=env) hA
 have cells:∀ y a,env.cells.lookup y=some a->False:=fun y a q=>by rw [hcells] at q;exact nSo q
 generalize hLn:s.heap.objs.size=L at c1 ow hframe
 have newL:s.heap.get? L=none:=Heap.get?_none_of_le (by lia)
 have hin:=ow.loc
 refine wpAny_execs_cons (wpAny_Assign_two (wpAny_Constant_int ?_))
 have kt:Step G nowt s₁ { s₁ with toks:=s₁.toks + 1 }:=.toks s₁ _
 refine wpAny_assign_Name (Qt (x:="i") (c1.step kt) ow.sub ow.base (ow.store (.inl rfl) dk) (d:=.data (.int ((0:Nat):Int))) (RepD.int _ _) fun s2 k2 c₂=>?_)
 refine wpAny_assign_Name (Qt (x:="j") c₂ ow.sub ow.base (ow.store (.inl rfl) dk) (d:=.data (.int ((0:Nat):Int))) (RepD.int _ _) fun s3 k3 c3=>?_)
 have k13:Step G nowt s s3:=(k1.trans kt).later (k2.trans k3) fun a ha=>.inl (ha ▸ newL)
 refine wpAny_execs_cons (Qct (y:="missing") c3 ow (.inl rfl) dk fun lm s4 nm k4 hl4 c4=>?_)
 have ow4:=ow.wide (W':=fun a=>(W a∨a=L)∨a=lm) fun a=>.inl
 refine wpAny_execs_cons (Qct (y:="unexpected") c4 ow4 (.inl rfl) dk fun lu s5 nu k5 hl5 c₅=>?_)
 have ow5:=ow4.wide (W':=fun a=>((W a∨a=L)∨a=lm)∨a=lu) fun a=>.inl
 refine Qaa (Jb c3 nm) fun _ _ _ nWm m0=>?_
 refine Qaa (Jb c4 nu) fun _ _ _ nWu u0=>?_
 have k4':=k4.nowt
 have k5':=k5.nowt
 have nmL:¬ lm=L:=fun q=>nWm (.inr q)
 have nuL:¬ lu=L:=fun q=>nWu (.inl (.inr q))
 have mu:lm≠lu:=fun q=>nWu (.inr q.symm)
 have newm:s.heap.get? lm=none:=k13.get_none nm
 have k14:Step G nowt s s4:=k13.later k4' fun a ha=>.inl (ha ▸ newL)
 have newu:s.heap.get? lu=none:=k14.get_none nu
 have k15:Step G nowt s s5:=k14.later k5' fun a ha=>.inl (ha ▸ newL)
 have F:Fix9 G (A.deeper env) env outer (fun a=>((W a∨a=L)∨a=lm)∨a=lu) (fun a=>a=L) L lm lu xs ys:=
  ⟨c₅.good.cold,hAd,hframe,ow5,cells,.inl (.inr rfl),.inr rfl,m0,u0,mu,nmL,nuL,rx,ry⟩
 generalize hρ:upd (upd (upd (upd ρ₁ "i" (.data (.int ((0:Nat):Int)))) "j" (.data (.int ((0:Nat):Int)))) "missing" (.raw (.ref lm))) "unexpected" (.raw (.ref lu))=ρ5 at c₅
 have d5:Dv s5 ρ5 xs ys lm lu 0 0 [] []:=by
  subst hρ
  exact ⟨by simp [upd,ofString_inj,l1],by simp [upd,ofString_inj,l2],by simp [upd,ofString_inj],by simp [upd,ofString_inj],by simp [upd,ofString_inj],Qd _ _ _,⟨[],Zg k5' nmL hl4,rfl,fun _ _ q=>by exact nSo q⟩,⟨[],hl5,rfl,fun _ _ q=>by exact nSo q⟩⟩
 let U:Addr->Prop:=fun a=>a=L∨a=lm∨a=lu
 have newU:∀ a,U a->s.heap.get? a=none:=fun a ha=>by
  rcases ha with ha | ha | ha
  ·exact ha ▸ newL
  ·exact ha ▸ newm
  ·exact ha ▸ newu
 refine wpAny_execs_cons (wpAny_While (codeAny_whileLoop (DiffInv G (A.deeper env) env (fun a=>((W a∨a=L)∨a=lm)∨a=lu) xs ys lm lu U s5) (fun m s' I=>?_) (xs.length + ys.length) ⟨ρ5,0,0,[],[],c₅,d5,inv9_zero,.refl,rfl⟩))
 obtain ⟨ρ,i,j,ms,us,c,d,inv,kI,rfl⟩:=I
 refine wpAny_isTrue_value (wpAny_Constant_bool (wpAny_truthy_bool ?_))
 refine wpAny_execs_cons (wpAny_Try_except ?_)
 refine body9 (U:=U) (s₀:=s') F (fun a ha=>c.excl.live a ha) (fun a=>.inl) (.inr (.inl rfl)) (.inr (.inr rfl)) c d .refl inv rfl rfl (fun s'' ρ' i' j' ms' us' k' c' d' inv' hij=>?_) fun e T s'' ρ' i' j' ms' us' cold X hfl inv' hend=>?_
 ·refine wpAny_execs_nil (wpAny_execs_nil ?_)
  have h1:=inv'.hi
  have h2:=inv'.hj
  have h3:=inv.hi
  have h4:=inv.hj
  exact in1_2 _ (by lia) ⟨ρ',i',j',ms',us',c',d',inv',kI.trans k',rfl⟩
 ·refine handler9 AG FO F (fun a ha=>c.excl.live a ha) (.inr (.inl rfl)) (.inr (.inr rfl)) X inv' hend rfl rfl fun s6 k6 c6 d6=>?_
  have kT:Step G nowt s s6:=k15.later (kI.trans k6) fun a ha=>.inl (newU a ha)
  refine ob1_2 d6.hm fun vm hlm hvm=>?_
  refine ob1_2 d6.hu fun vu hlu hvu=>?_
  have c7:Cx G 1 nowt ks9 (A.deeper env) env s6 (fun a=>W a∨a=L) ρ':=c6.narrow (fun a ha=>.inl (.inl ha)) fun _ q=>q.elim
  have c8:=c7.reveal dk d6.rm (d:=Qz (xs.filter fun t=>decide (t ∉ ys))) (RepD.list nWm (Heap.PlainList.isList hlm) (Qbh hvm))
  have c9:=c8.reveal (x:="unexpected") dk (by simp [upd,ofString_inj,d6.ru]) (d:=Qz (ys.filter fun t=>decide (t ∉ xs))) (RepD.list (fun q=>nWu (.inl q)) (Heap.PlainList.isList hlu) (Qbh hvu))
  refine ob1_2 (ret_diff (G:=G) (n:=1) (p1:=⟨113,12,113,19⟩) (p2:=⟨113,21,113,31⟩) (p3:=⟨113,11,113,32⟩) (p4:=⟨113,4,113,32⟩) (k:=0)) fun g hg eg=>?_
  refine wpAny_execs_cons (hg _ _ _ _ _ _ _ _ _ c9 ow (eg ((xs.filter fun t=>decide (t ∉ ys)).map .str) ((ys.filter fun t=>decide (t ∉ xs)).map .str) _ (by rw [Zb _ _ (by simp [ofString_inj]),Qd]) (Qd _ _ _)) fun fl s7 k7 r7=>?_)
  refine ob1_2 r7 ?_;rintro v' rfl r'
  exact hQ _ _ (h v' s7 (kT.later k7.nowt fun a ha=>.inl (ha ▸ newL)) (r'.weak fun a ha=>.inl ha))
end
section
variable {G:Amb}[Qab G] {n:Nat}{V:Addr->Prop}{ks:Qi}
theorem Qmn{h h':Heap}{e it:Addr}{i:Int}{old:Value}(x:IsEnum h e it i old):FrmAt h e->FrmAt h' e:=Jr x (by show Value.type "enumerate"≠_;decide)
theorem Qjv{h h':Heap}{it l:Addr}{i:Nat}(x:h.IsListIter it l i):FrmAt h it->FrmAt h' it:=by
 refine ob1_3 x fun o e c _=>?_
 exact Jr e (by rw [c];decide)
noncomputable abbrev W3(W:Addr->Prop)(e it:Addr):Addr->Prop:=fun a=>W a∨a=e∨a=it
inductive EnumInv (G:Amb) (n:Nat) (V:Addr->Prop) (ks:Qi) (A:Around) (env:Env) (s:Shared) (U W:Addr->Prop) (e it l:Addr) (vs:List Value) (z:Nat) (J:Nat->Qf->Shared->Prop) (k:Nat) (s':Shared):Prop
 | mk (i:Nat) (ρ':Qf) (old:Value) (h1:Step G U s s') (h2:Cx G n V ks A env s' W ρ') (h3:IsEnum s'.heap e it (i:Nat) old) (h4:s'.heap.IsListIter it l i) (h5:s'.heap.IsList l (List.toArray vs)) (h6:J i ρ' s') (h7:i <= z) (h8:k=z - i):EnumInv G n V ks A env s U W e it l vs z J k s'
theorem enum_code{A:Around}{env:Env}{s s₁:Shared}{W O U:Addr->Prop}{ρ0 ρ:Qf}{x y:Str}{px py pt:Pos}{kk:Nat}{body:List Stmt}{e it l:Addr}{ns:List Int}{vs:List Value}{R:Result->Shared->Prop}
  (c0:Cx G n V ks A env s W ρ0)(hkx:ks.lookup x=some .local∨ks.lookup x=some .cell)(hky:ks.lookup y=some .local∨ks.lookup y=some .cell)(hdx:(x == ("__classdict__":Str))=false)(hdy:(y == ("__classdict__":Str))=false)(o:Own G ks env W O)
  (he:s.heap.get? e=none)(hit:s.heap.get? it=none)(ne:e≠it)(le:l≠e)(li:l≠it)(lW:¬ W l)(hOU:∀ a,O a->U a)(hUW:∀ a,U a->W a)
  (k1:Step G U s s₁)(c1:Cx G n V ks A env s₁ (W3 W e it) ρ)(he1:IsEnum s₁.heap e it 0 .none)(hi1:s₁.heap.IsListIter it l 0)(hl1:s₁.heap.IsList l (List.toArray vs))(hn:vs.length=ns.length∧∀ (i:Nat) (m:Int),ns[i]?=some m->∃ t:Tok,vs[i]?=some (Value.int m t))
  (J:Nat->Qf->Shared->Prop)(h0:J 0 ρ s₁)
  (item:∀ (i:Nat) (m:Int) ρ₁ s₁ s2,ns[i]?=some m->J i ρ₁ s₁->Step G U s s₁->Step G (fun a=>(a=e∨a=it)∨O a) s₁ s2->Step G U s s2->Cx G n V ks A env s2 (W3 W e it) (upd (upd ρ₁ x (.data (.int (i:Nat)))) y (.data (.int m)))->
   wpAny (model G.prog G.w) A (execs body env) (fun fl s3=>fl=.next∧Step G U s2 s3∧∃ ρ2,Cx G n V ks A env s3 (W3 W e it) ρ2∧J (i + 1) ρ2 s3) (notedBy (model G.prog G.w) A env fun e s'=>R (.error e) s') s2)
  (fin:∀ ρ₁ s₁ h',J ns.length ρ₁ s₁->(∀ ob,s₁.heap.get? it=some ob->¬ Tup ob)->Step G U s s₁->Heap.ExtBut it s₁.heap h'->Step G U s { s₁ with heap:=h' }->Cx G n V ks A env { s₁ with heap:=h' } W ρ₁->R (.ok .next) { s₁ with heap:=h' }):
  codeAny (model G.prog G.w) A (.forLoop (.Tuple [.Name x px,.Name y py] kk pt) (.ref e) body [] env) R s₁:=by
 refine Qaa (Jb c0 he) fun eL eC eV eW e0=>?_
 refine Qaa (Jb c0 hit) fun iL iC iV iW i0=>?_
 have eU:¬ U e:=fun q=>eW (hUW _ q)
 have iU:¬ U it:=fun q=>iW (hUW _ q)
 have lU:¬ U l:=fun q=>lW (hUW _ q)
 refine codeAny_forLoop_any (EnumInv G n V ks A env s U (W3 W e it) e it l vs ns.length J) ?_ ns.length
  ⟨0,ρ,.none,k1,c1,he1,hi1,hl1,h0,Nat.zero_le _,rfl⟩
 rintro k s2 ⟨i,ρ',old,k2,c₂,he2,hi2,hl2,j2,hle,rfl⟩
 cases hv:ns[i]? with
 | none=>
  have hlen:ns.length <= i:=by simpa using hv
  have hx:(List.toArray vs)[i]?=none:=by simp;lia
  have ei:i=ns.length:=by lia
  refine ob1_3 (id hi2) fun oi eoi ci _=>?_
  refine wpAny_pyNext_enum_end c₂.good.cold he2 hi2 hl2 hx fun h' hx'=>wpAny_execs_nil ?_
  have kE:=k2.ext hx' hit i0
  have tI:∀ ob,s2.heap.get? it=some ob->¬ Tup ob:=fun ob eo t=>by rw [eoi] at eo;obtain rfl:=Qo eo;exact absurd t.1 (by rw [ci];decide)
  exact fin ρ' s2 h' (ei ▸ j2) tI k2 hx' kE (c₂.ext hx' (c0.good.step kE) (.inr (.inr rfl)) tI iW (fun a ha=>.inl ha) c0.excl.sub iL iC)
 | some m=>
  refine ob1_1 (hn.2 i m hv) fun t ht=>?_
  have hlt:i < ns.length:=(List.getElem?_eq_some_iff.mp hv).1
  refine ob1_3 (id hi2) fun oi eoi ci _=>?_
  refine ob1_3 (id hl2) fun ol eol cl _=>?_
  refine wpAny_pyNext_enum_item he2 hi2 hl2 (x:=.int m t) (by simpa using ht) ne fun h₁ heo hi3 ht3 hz3 hk3=>?_
  refine wpAny_letOwnedTupleGo_enum heo fun h₂ he4 hs4=>?_
  have newT:s2.heap.get? s2.heap.objs.size=none:=Heap.get?_none_of_le (Nat.le_refl _)
  have keep:∀ b ob,b≠e->b≠it->s2.heap.get? b=some ob->h₂.get? b=some ob:=fun b ob h1 h2 q=>(hs4.2 b h1).trans (hk3 b ob h1 h2 q)
  have itKeep:∃ ob,h₂.get? it=some ob:=by
   refine ob1_2 hi3 fun ob q _=>?_
   exact ⟨ob,(hs4.2 it (Ne.symm ne)).trans q⟩
  have kI:Step G (fun a=>a=e∨a=it) s2 { s2 with heap:=h₂,toks:=s2.toks + 1 }:=by
   refine ⟨⟨_,_,rfl⟩,fun b ob q=>?_,fun b ob q0 q=>keep b ob (fun r=>by rw [r,e0] at q0;exact nSo q0) (fun r=>by rw [r,i0] at q0;exact nSo q0) q,fun b f=>?_,fun b f=>?_⟩
   ·by_cases hb:b=e
    ·subst hb
     exact ⟨_,he4,fun hw=>by
      rcases hw with hw | hw
      ·exact absurd (.inl rfl) hw
      ·rw [he2] at q;obtain rfl:=Qo q;exact absurd hw.1 (by show Value.type "enumerate"≠_;decide)⟩
    ·by_cases hb2:b=it
     ·subst hb2
      obtain ⟨ob',q'⟩:=itKeep
      exact ⟨ob',q',fun hw=>by
       rcases hw with hw | hw
       ·exact absurd (.inr rfl) hw
       ·rw [eoi] at q;obtain rfl:=Qo q;exact absurd hw.1 (by rw [ci];decide)⟩
     ·exact in1_2 ob (keep b ob hb hb2 q) (Same.refl _ _ _)
   ·by_cases hb:b=e
    ·subst hb;exact Qmn he2 f
    ·by_cases hb2:b=it
     ·subst hb2;exact Qjv hi2 f
     ·refine ob1_2 f fun ob q f=>?_
      exact in1_2 ob (keep b ob hb hb2 q) f
   ·by_cases hb:b=e
    ·subst hb;exact Qay he2 (by show Value.type "enumerate"≠_;decide) f
    ·by_cases hb2:b=it
     ·subst hb2;exact Qay eoi (by rw [ci];decide) f
     ·refine ob1_1 f fun ps q=>?_
      exact ⟨ps,keep b _ hb hb2 q⟩
  have c3:=c₂.stepU kI (fun a ha=>.inr ha) (fun q=>q.elim eL iL) (fun y a ha q=>q.elim (eC y a ha) (iC y a ha))
  have htup:h₂.IsTuple s2.heap.objs.size #[.int i s2.toks,.int m t]:=⟨_,(hs4.2 _ (Nat.ne_of_gt (Heap.lt_size he2))).trans ht3,rfl,_,rfl⟩
  refine Qe1 (k:=kk) (a:=.data (.int ((i:Nat):Int))) (b:=.data (.int m)) c3 (o.wide fun a ha=>.inl ha) hkx hky hdx hdy htup (RepD.int _ _) (RepD.int _ _) fun s4 k4 c4=>?_;refine Zf ?_;intro Q0 E0
  have kk':Step G (fun a=>(a=e∨a=it)∨O a) s2 s4:=(kI.mono fun a ha=>.inl ha).trans (k4.mono fun a ha=>.inr ha)
  have k24:Step G U s s4:=k2.later kk' (fun a ha=>ha.elim (fun q=>.inl (q.elim (fun r=>r ▸ he) fun r=>r ▸ hit)) fun q=>.inr (hOU a q))
  refine wpAny_mono (item i m ρ' s2 s4 hv j2 k2 kk' k24 c4) (fun fl s5 hq=>?_) (fun _ _ e=>e)
  refine Jo hq ?_;rintro rfl k5 z0;refine ob1_2 z0 fun ρ2 c₅ j5=>?_
  have nOe:¬ O e:=fun q=>eU (hOU _ q)
  have nOi:¬ O it:=fun q=>iU (hOU _ q)
  have nOl:¬ O l:=fun q=>lU (hOU _ q)
  have he5:IsEnum s5.heap e it (((i + 1:Nat)):Int) (.int m t):=by
   have e1:(((i + 1:Nat)):Int)=(i:Int) + 1:=Int.natCast_succ i
   rw [e1]
   exact k5.exact (k4.exact he4 (.inl nOe) (by show Value.type "enumerate"≠_;decide)) (.inl eU) (by show Value.type "enumerate"≠_;decide)
  have hi5:s5.heap.IsListIter it l (i + 1):=by
   refine ob1_3 hi3 fun ob q cq dq=>?_
   exact in1_3 ob (k5.exact (k4.exact ((hs4.2 it (Ne.symm ne)).trans q) (.inl nOi) (by rw [cq];decide)) (.inl iU) (by rw [cq];decide)) cq dq
  have hl5:s5.heap.IsList l (List.toArray vs):=by
   refine ob1_3 hl2 fun ob q cq dq=>?_
   exact in1_3 ob (k5.exact (k4.exact (keep l ob le li q) (.inl nOl) (by rw [cq];decide)) (.inl lU) (by rw [cq];decide)) cq dq
  exact in1_2 _ (Nat.sub_lt_sub_left hlt (Nat.lt_succ_self i)) ⟨i + 1,ρ2,_,k24.trans k5,c₅,he5,hi5,hl5,j5,hlt,rfl⟩
end
theorem Qh0{α β:Type}(g:α->β)(l:List α)(lo hi st:Option Int):Je (l.map g) lo hi st=(Je l lo hi st).map g:=by
 unfold Je
 rw [List.length_map,List.map_filterMap]
 congr 1
 funext j
 rw [List.getElem?_map]
theorem pick_63{α:Type}(l:List α):(Je l none (some 63) none).length <= 63:=by
 have e:sliceBounds none (some 63) none l.length=(((0:Nat):Int),((min 63 l.length:Nat):Int),1):=by
  unfold sliceBounds
  have h1:¬ ((63:Int) < 0):=by lia
  have h2:((1:Int) > 0):=by lia
  simp only [Option.getD_none,h1,if_false,h2,if_true]
  exact congrArg (fun x=>(((0:Nat):Int),x,1)) (mxm 63 l.length)
 unfold Je
 rw [e,sliceRange_one]
 refine Nat.le_trans (List.length_filterMap_le _ _) ?_
 rw [List.length_map,List.length_range]
 lia
theorem Qf2:∀ ns:List Int,Jv (ns.map .int)=some ns
 | []=>rfl
 | a :: ns=>by rw [List.map_cons,Jv,Qf2 ns];rfl
noncomputable def numsOf(script:List Int):List Int:=(Je script none (some 63) none).map (· % 1000000)
noncomputable def starts:List Int:=[125222,305,264142,25036]
noncomputable def fives:List Str:=["fig","Fig","*","","figs"]
noncomputable def Qe8(ns:List Int)(k:Nat)(start:Int):Int:=start + (Je ns (some (k:Nat)) none (some 4)).sum
noncomputable def Qbr(k:Nat)(v:Int):Ent where
 u:=(List.range (2 + v % 4).toNat).map fun p=>fives.getD (v / 4 / 5 ^ p % 5).toNat ""
 r:=(List.range (v / 12500 / 9 % 3).toNat).map fun p=>10 * (k:Int) + (p:Nat)
 d:=if v / 12500 % 3=0 then none else some (v / 12500 % 3 - 1)
 q:=if v / 12500 / 3 % 3=0 then none else some (v / 12500 / 3 % 3 - 1)
noncomputable def Qed(ns:List Int)(i:Nat):List Ent:=(List.range i).map fun k=>Qbr k (Qe8 ns k (starts.getD k 0))
noncomputable def Zn(script:List Int):List Ent:=Qed (numsOf script) 4
theorem nums_len(script:List Int):(numsOf script).length <= 63:=by
 unfold numsOf
 rw [List.length_map]
 exact pick_63 script
theorem fives_at{x:Int}:fives.getD (x % 5).toNat "" ∈ texts:=by
 have h:∀ k < 5,fives.getD k "" ∈ texts:=by decide +kernel
 exact h _ (by lia)
theorem recOf_ok(k:Nat)(v:Int):Qa1 (Qbr k v):=by
 refine ⟨fun x hx=>?_,?_,?_⟩
 ·refine ob1_2 (List.mem_map.mp hx) ?_;rintro p _ rfl
  exact fives_at
 ·show ((List.range (2 + v % 4).toNat).map _).length <= 20
  rw [List.length_map,List.length_range]
  lia
 ·show ((List.range (v / 12500 / 9 % 3).toNat).map _).length <= 20
  rw [List.length_map,List.length_range]
  lia
theorem Qbt(script:List Int):(Zn script).length=4:=by simp [Zn,Qed]
theorem Qgo(script:List Int):∀ e ∈ Zn script,Qa1 e:=fun e he=>by
 refine ob1_2 (List.mem_map.mp he) ?_;rintro k _ rfl
 exact recOf_ok _ _
theorem Qjj(ns:List Int)(i:Nat):Qed ns (i + 1)=Qed ns i ++ [Qbr i (Qe8 ns i (starts.getD i 0))]:=by
 unfold Qed
 rw [List.range_succ,List.map_append]
 rfl
theorem Qhb{a b:Int}(h:0 < b∧b < 1073741824):Qff (.data (.int a)) (.data (.int b))=some (.data (.int (a / b))):=by
 rw [fdivD_i]
 rw [if_pos h]
theorem Qer{a b:Int}(h:0 < b):Qdn (.data (.int a)) (.data (.int b))=some (.data (.int (a % b))):=by
 rw [fmodD_i]
 rw [if_pos h]
theorem add_at(a b:Int):addD (.data (.int a)) (.data (.int b))=some (.data (.int (a + b))):=rfl
theorem sub_at(a b:Int):Qi9 (.data (.int a)) (.data (.int b))=some (.data (.int (a - b))):=rfl
theorem pow_at{p:Nat}(h:p <= 4):powD (.data (.int 5)) (.data (.int (0 + (p:Nat))))=some (.data (.int (5 ^ p))):=by
 rw [powD_i]
 have e:((0:Int) + (p:Nat)).toNat=p:=by lia
 rw [if_pos ⟨by lia,by lia,by decide⟩,e]
theorem mul_at{b:Int}:mulD (.data (.int 10)) (.data (.int b))=some (.data (.int (10 * b))):=by
 rw [mulD_i]
 rw [if_pos ⟨by decide,by decide⟩]
theorem Qgt{b:Int}(h:0 <= b∧b <= 1000):Zi [.data (.int b)]=some ((List.range b.toNat).map fun k=>D.data (.int (0 + (k:Nat)))):=by
 rw [Qb2]
 rw [if_pos ⟨by lia,by lia⟩]
 unfold Qa9
 rw [Int.sub_zero]
noncomputable def uF:Qf->Option D:=fun ρ=>
 (((some (D.data (PyData.str "fig"))).bind fun a=>Option.map (fun x=>a :: x) ((some (D.data (PyData.str "Fig"))).bind fun a=>Option.map (fun x=>a :: x) ((some (D.data (PyData.str "*"))).bind fun a=>Option.map (fun x=>a :: x)
  ((some (D.data (PyData.str ""))).bind fun a=>Option.map (fun x=>a :: x) ((some (D.data (PyData.str "figs"))).bind fun a=>Option.map (fun x=>a :: x) (some [])))))).bind fun ds=>if ds.length <= 1000 then Qcs ds else none).bind fun a=>
 ((((ρ "v").bind fun a=>(some (D.data (PyData.int 4))).bind fun b=>Qff a b).bind fun a=>((some (D.data (PyData.int 5))).bind fun a=>(ρ "place").bind fun b=>powD a b).bind fun b=>Qff a b).bind fun a=>(some (D.data (PyData.int 5))).bind fun b=>Qdn a b).bind fun b=>Qb5 a b
theorem five_pow{p:Nat}(h:p <= 4):0 < (5:Int) ^ p∧(5:Int) ^ p < 1073741824:=by
 have:p=0∨p=1∨p=2∨p=3∨p=4:=by lia
 rcases this with rfl | rfl | rfl | rfl | rfl <;> decide
theorem fives_idx{x:Int}(h:0 <= x∧x < 5):Qb5 (Qz fives) (.data (.int x))=some (.data (.str (fives.getD x.toNat ""))):=by
 have e:x=0∨x=1∨x=2∨x=3∨x=4:=by lia
 rcases e with rfl | rfl | rfl | rfl | rfl <;> rfl
theorem uF_at{ρ:Qf}{v:Int}{p:Nat}(hp:p <= 4)(h1:ρ "v"=some (.data (.int v)))(h2:ρ "place"=some (.data (.int (0 + (p:Nat))))):uF ρ=some (.data (.str (fives.getD (v / 4 / 5 ^ p % 5).toNat ""))):=by
 have e5:(((some (D.data (PyData.str "fig"))).bind fun a=>Option.map (fun x=>a :: x) ((some (D.data (PyData.str "Fig"))).bind fun a=>Option.map (fun x=>a :: x) ((some (D.data (PyData.str "*"))).bind fun a=>Option.map (fun x=>a :: x)
  ((some (D.data (PyData.str ""))).bind fun a=>Option.map (fun x=>a :: x) ((some (D.data (PyData.str "figs"))).bind fun a=>Option.map (fun x=>a :: x) (some [])))))).bind fun ds=>if ds.length <= 1000 then Qcs ds else none)=some (Qz fives):=by rfl
 unfold uF
 rw [e5,bS,h1,bS,bS,Qhb (by decide),bS,bS,h2,bS,pow_at hp,bS,Qhb (five_pow hp),bS,bS,Qer (by decide),bS]
 exact fives_idx (by lia)
theorem u_eval{ρ:Qf}{v:Int}{i:Nat}(h1:ρ "v"=some (.data (.int v))):
  ((((((some (D.data (PyData.int 2))).bind fun a=>((ρ "v").bind fun a=>(some (D.data (PyData.int 4))).bind fun b=>Qdn a b).bind fun b=>addD a b).bind fun a=>Option.map (fun x=>a :: x) (some [])).bind Zi).bind fun ds=>if ds.length <= 1000 then (Xl "place" (fun _=>some true) uF ρ ds).bind Qcs else none))=some (Qz (Qbr i v).u):=by
 have hz:(2 + v % 4).toNat <= 5:=by lia
 rw [bS,h1,bS,bS,Qer (by decide),bS,add_at,bS,mS,bS,Qgt (by lia),bS,List.length_map,List.length_range,if_pos (by lia),Xq (q:=fun p:Nat=>.data (.str (fives.getD (v / 4 / 5 ^ p % 5).toNat ""))) fun p hp=>?_,bS,pack_map]
 ·show _=some (D.data (.list (((List.range (2 + v % 4).toNat).map fun p=>fives.getD (v / 4 / 5 ^ p % 5).toNat "").map .str)))
  rw [List.map_map];rfl
 ·have:=List.mem_range.mp hp
  exact uF_at (by lia) (by rw [Zb _ _ (by simp [ofString_inj])];exact h1) (Qd _ _ _)
theorem r_eval{ρ:Qf}{v:Int}{i:Nat}(h1:ρ "rest"=some (.data (.int (v / 12500))))(h2:ρ "k"=some (.data (.int (i:Nat)))):
  ((((((ρ "rest").bind fun a=>(some (D.data (PyData.int 9))).bind fun b=>Qff a b).bind fun a=>(some (D.data (PyData.int 3))).bind fun b=>Qdn a b).bind fun a=>Option.map (fun x=>a :: x) (some [])).bind Zi).bind fun ds=>
   if ds.length <= 1000 then (Xl "place" (fun _=>some true) (fun ρ=>((some (D.data (PyData.int 10))).bind fun a=>(ρ "k").bind fun b=>mulD a b).bind fun a=>(ρ "place").bind fun b=>addD a b) ρ ds).bind Qcs else none)=some (Xa (Qbr i v).r):=by
 have hz:(v / 12500 / 9 % 3).toNat <= 2:=by lia
 rw [h1,bS,bS,Qhb (by decide),bS,bS,Qer (by decide),bS,mS,bS,Qgt (by lia),bS,List.length_map,List.length_range,if_pos (by lia),Xq (q:=fun p:Nat=>.data (.int (10 * (i:Int) + (p:Nat)))) fun p hp=>?_,bS,pack_map]
 ·show _=some (D.data (.list (((List.range (v / 12500 / 9 % 3).toNat).map fun p=>10 * (i:Int) + (p:Nat)).map .int)))
  rw [List.map_map];rfl
 ·rw [Zb _ _ (by simp [ofString_inj]),h2,Qd,bS,bS,mul_at,bS,bS,add_at]
  rw [Int.zero_add]
theorem d_eval{ρ:Qf}{v:Int}{i:Nat}(h1:ρ "rest"=some (.data (.int (v / 12500)))):
  (((((ρ "rest").bind fun a=>(some (D.data (PyData.int 3))).bind fun b=>Qdn a b).bind fun a=>(some (D.data (PyData.int 0))).bind fun b=>(eqD a b).bind trD).bind fun c=>if c then some (D.data PyData.none) else ((ρ "rest").bind fun a=>(some (D.data (PyData.int 3))).bind fun b=>Qdn a b).bind fun a=>(some (D.data (PyData.int 1))).bind fun b=>Qi9 a b))=some (D.data (optD (Qbr i v).d)):=by
 have e:(Qbr i v).d=if v / 12500 % 3=0 then none else some (v / 12500 % 3 - 1):=rfl
 rw [h1,bS,bS,Qer (by decide),bS,bS,Qlh,bS,e]
 show ((some (decide (v / 12500 % 3=0))).bind _)=_
 rw [bS]
 by_cases h:v / 12500 % 3=0
 ·rw [decide_eq_true h,if_pos rfl,if_pos h];rfl
 ·rw [decide_eq_false h,if_neg (by decide),if_neg h,bS,bS,sub_at];rfl
theorem q_eval{ρ:Qf}{v:Int}{i:Nat}(h1:ρ "rest"=some (.data (.int (v / 12500)))):
  ((((((ρ "rest").bind fun a=>(some (D.data (PyData.int 3))).bind fun b=>Qff a b).bind fun a=>(some (D.data (PyData.int 3))).bind fun b=>Qdn a b).bind fun a=>(some (D.data (PyData.int 0))).bind fun b=>(eqD a b).bind trD).bind fun c=>if c then some (D.data PyData.none) else (((ρ "rest").bind fun a=>(some (D.data (PyData.int 3))).bind fun b=>Qff a b).bind fun a=>(some (D.data (PyData.int 3))).bind fun b=>Qdn a b).bind fun a=>(some (D.data (PyData.int 1))).bind fun b=>Qi9 a b))=some (D.data (optD (Qbr i v).q)):=by
 have e:(Qbr i v).q=if v / 12500 / 3 % 3=0 then none else some (v / 12500 / 3 % 3 - 1):=rfl
 rw [h1,bS,bS,Qhb (by decide),bS,bS,Qer (by decide),bS,bS,Qlh,bS,e]
 show ((some (decide (v / 12500 / 3 % 3=0))).bind _)=_
 rw [bS]
 by_cases h:v / 12500 / 3 % 3=0
 ·rw [decide_eq_true h,if_pos rfl,if_pos h];rfl
 ·rw [decide_eq_false h,if_neg (by decide),if_neg h,bS,bS,sub_at];rfl
noncomputable abbrev ks13:Qi:=(Qe 13).names
theorem nums_eval{script:List Int}{ρ₁:Qf}(l1:ρ₁ "script"=some (Xa script))(hs:script.length <= 1000):
  Option.map (fun d=>Out.next (upd ρ₁ "numbers" d)) ((((ρ₁ "script").bind fun a=>(some none).bind fun lo=>((some (D.data (.int 63))).bind intD).bind fun hi=>Qa8 lo hi none a).bind Ju).bind fun ds=>
   if ds.length <= 1000 then (Xl "x" (fun _=>some true) (fun ρ=>(ρ "x").bind fun a=>(some (D.data (.int 1000000))).bind fun b=>Qdn a b) ρ₁ ds).bind Qcs else none)=some (Out.next (upd ρ₁ "numbers" (Xa (numsOf script)))):=by
 have e1:Qa8 none (some 63) none (Xa script)=some (Xa (Je script none (some 63) none)):=by
  rw [Qkr]
  rw [if_pos ⟨by simp,by rw [List.length_map];exact hs⟩,Qh0]
 have e2:∀ l:List Int,Ju (Xa l)=some (l.map fun i=>D.data (.int i)):=fun l=>by
  show some _=_
  rw [List.map_map];rfl
 have e3:intD (.data (.int 63))=some (some 63):=rfl
 have e4:=pick_63 script
 rw [l1,bS,bS,bS,e3,bS,e1,bS,e2,bS,List.length_map,if_pos (by lia),Xq (q:=fun i:Int=>.data (.int (i % 1000000))) fun a _=>?_,bS,pack_map,mS]
 ·unfold numsOf Xa
  rw [List.map_map]
  rfl
 ·rw [Qd,bS,bS]
  rw [fmodD_i]
  rw [if_pos (by decide)]
theorem Ql0{ns:List Int}{k:Nat}(h:ns.length <= 1000):Qa8 (some ((k:Nat):Int)) none (some 4) (Xa ns)=some (Xa (Je ns (some ((k:Nat):Int)) none (some 4))):=by
 rw [Qkr]
 rw [if_pos ⟨by decide,by rw [List.length_map];exact h⟩,Qh0]
theorem v_eval{ρ:Qf}{ns:List Int}{i:Nat}{m:Int}(h:ns.length <= 1000)(kv:ρ "k"=some (.data (.int (i:Nat))))(nv:ρ "numbers"=some (Xa ns))(sv:ρ "start"=some (.data (.int m))):
  Option.map (fun d=>Out.next (upd ρ "v" d)) ((ρ "start").bind fun a=>((((ρ "numbers").bind fun a=>((ρ "k").bind intD).bind fun lo=>(some none).bind fun hi=>((some (D.data (.int 4))).bind intD).bind fun st=>Qa8 lo hi st a).bind fun a=>Option.map (fun x=>a :: x) (some [])).bind (one sumD)).bind fun b=>addD a b)=some (Out.next (upd ρ "v" (.data (.int (Qe8 ns i m))))):=by
 have e1:intD (.data (.int (i:Nat)))=some (some ((i:Nat):Int)):=rfl
 have e2:intD (.data (.int 4))=some (some 4):=rfl
 have e3:one sumD [Xa (Je ns (some ((i:Nat):Int)) none (some 4))]=some (.data (.int (Je ns (some ((i:Nat):Int)) none (some 4)).sum)):=by
  show (Jv _).map _=_
  rw [Qf2,mS]
 have e4:∀ a b:Int,addD (.data (.int a)) (.data (.int b))=some (.data (.int (a + b))):=fun _ _=>rfl
 rw [sv,bS,nv,bS,kv,bS,e1,bS,bS,bS,e2,bS,Ql0 h,bS,mS,bS,e3,bS,e4,mS]
 rfl
theorem rest_eval{ρ:Qf}{v:Int}(h:ρ "v"=some (.data (.int v))):Option.map (fun d=>Out.next (upd ρ "rest" d)) ((ρ "v").bind fun a=>(some (D.data (.int 12500))).bind fun b=>Qff a b)=some (Out.next (upd ρ "rest" (.data (.int (v / 12500))))):=by
 rw [h,bS,bS]
 rw [fdivD_i]
 rw [if_pos ⟨by decide,by decide⟩,mS]
section
variable {G:Amb}[Qab G]
theorem Qmh{script:List Int}(AG:Qv G)(FO:Zp G)(EC:Qcr G)(hkeep:keepIn G.K (.ref G.C)=true)(hd:Xf G 13)(hs:script.length <= 1000):FnAt G 3 nowt (fun _=>True) "_law_records" [Xa script] (.ents (Zn script)):=by
 refine ob1_2 hd.ex fun fa hd hm=>?_
 refine ob4_3 hd.ex fun o pm code doc ho hdat hcr=>?_
 refine ⟨fa,o,_,hm,ho,hdat,fun A s W vs Q E _ good ex r h=>?_⟩
 refine ob1_2 (Xr r) ?_;rintro v0 rfl rv
 refine wpAny_call (Qb7 (n:=2) (V:=nowt) (W:=W) (xs:=["script"]) (ds:=[Xa script]) AG good ex (good.base _ _ ho) hdat (hcr.keeps good.base) rfl r dk dk dk rfl rfl rfl dk ?_)
 intro s₁ env O E' k1 kk c1 ow hO hcode hqual hcells
 refine Zf ?_;intro Q0 E0
 change Cx G 2 nowt ks13 _ _ _ _ _ at c1
 change Own G ks13 _ _ _ at ow
 have l1:Xt ["script"] [Xa script] "script"=some (Xa script):=by simp [Qp]
 revert c1 l1;refine Qm2 (Xt ["script"] [Xa script]) fun ρ₁=>?_;intro c1 l1
 refine wpAny_execs_cons (Qaf (G:=G) (n:=2) (V:=nowt) (ks:=ks13) (out:=.next (upd ρ₁ "numbers" (Xa (numsOf script))))
  (Qd5 dk (Zj (Qlf (fun _ _=>rfl) (Qb _ _ dk dk) Qba (Qal (Qj _ _ _)))) (fun _ _=>rfl) Qai (Zc Qas (Qb _ _ dk dk) (Qj _ _ _)) rfl dk rfl rfl) c1 ow ?_ fun fl s2 k2 r₂=>?_)
 ·exact nums_eval l1 hs
 obtain ⟨rfl,c₂⟩:=r₂
 have n2:upd ρ₁ "numbers" (Xa (numsOf script)) "numbers"=some (Xa (numsOf script)):=Qd _ _ _
 generalize upd ρ₁ "numbers" (Xa (numsOf script))=ρ2 at c₂ n2
 generalize hns:numsOf script=ns at n2
 have hnl:ns.length <= 63:=by rw [← hns];exact nums_len script
 have kk12:Step G nowt s s2:=k1.later k2 fun a ha=>.inl (hO a ha)
 refine wpAny_execs_cons (Qct (y:="records") c₂ ow (.inl rfl) dk fun lr s3 nl k3 hl3 c3=>?_)
 refine Qaa (Jb c₂ nl) fun _ neCl _ nWl l0=>?_
 have k3':=k3.nowt
 have newl:s.heap.get? lr=none:=kk12.get_none nl
 have k13:Step G nowt s s3:=kk12.later k3' fun a ha=>.inl (hO a ha)
 have ow3:=ow.wide (W':=fun a=>(W a∨O a)∨a=lr) fun a=>.inl
 have n3:upd ρ2 "records" (.raw (.ref lr)) "numbers"=some (Xa ns):=by simp [upd,ofString_inj,n2]
 have r3:=Qd ρ2 "records" (.raw (.ref lr))
 generalize upd ρ2 "records" (.raw (.ref lr))=ρ3 at c3 n3 r3
 refine wpAny_execs_cons (wpAny_For (wpAny_Call_NameR (Qh AG c3.good.base c3.ok rfl (FO _ dk) boot_enumerate dk dk ?_)) (fun _=>rfl))
 refine PySem.callWith_type1 (Qau (G:=G) (n:=2) (V:=nowt) (ks:=ks13) (Qc (fun _=>rfl) (Qj _ _ _) (Qc (fun _=>rfl) (Qj _ _ _) (Qc (fun _=>rfl) (Qj _ _ _) (Qc (fun _=>rfl) (Qj _ _ _) evs_nil)))) _ env s3 _ _ (Xa starts) _ _ c3 (by rfl) fun v₄ s4 k4 r₄=>?_)
 refine Zf ?_;intro Q0 E0
 refine ob2_4 (RepD.list_iff r₄) ?_;rintro l vs4 rfl wl ll rl
 refine ob1_3 (id ll) ?_;rintro ol eol col ⟨mol,dol⟩
 have hll:=Heap.lt_size eol
 refine call_enumerate_list ll fun h5 he5 hi5 hz5 hk5=>?_
 generalize hit:s4.heap.objs.size=it at he5 hi5 hz5 hll
 have he:s4.heap.get? (it + 1)=none:=Heap.get?_none_of_le (by lia)
 have hi:s4.heap.get? it=none:=Heap.get?_none_of_le (by lia)
 have he3:=k4.get_none he
 have hi3:=k4.get_none hi
 refine Qdb (({ s4 with heap:=h5 }:Shared)) fun s5 hs5=>?_
 have hh5:s5.heap=h5:=by rw [← hs5]
 have k5:Step G nowt s4 s5:=by rw [← hs5];exact .of_heap (s:=s4) hk5
 rw [← hh5] at he5 hi5 hk5
 have k45:=k4.trans k5
 have c₅:Cx G 2 nowt ks13 (A.deeper env) env s5 (W3 (fun a=>(W a∨O a)∨a=lr) (it + 1) it) ρ3:=c3.widen k45 (fun a=>.inl) (fun a ob ea hw=>by
   rcases hw with hw | hw | hw
   ·exact hw
   ·rw [hw,he3] at ea;exact nSo ea
   ·rw [hw,hi3] at ea;exact nSo ea)
  (fun a ha=>by
   rcases ha with ha | ha | ha
   ·exact (c3.step k45).excl.live a ha
   ·exact ⟨_,ha ▸ he5⟩
   ·refine ob1_2 hi5 fun ob q _=>?_
    exact ⟨ob,ha ▸ q⟩)
 have nlO:¬ O lr:=fun q=>nWl (.inr q)
 have hl5:s5.heap.PlainList lr (List.toArray []):=Zg k45 (fun q=>q) hl3
 have lle:l≠it + 1:=Nat.ne_of_lt (Nat.lt_succ_of_lt hll)
 have lli:l≠it:=Nat.ne_of_lt hll
 refine wpAny_pyIter_enum he5 (enum_code (G:=G) (n:=2) (V:=nowt) (ks:=ks13) (s:=s3) (W:=fun a=>(W a∨O a)∨a=lr) (O:=O) (U:=fun a=>O a∨a=lr) (l:=l) (vs:=vs4) (ns:=starts) c3 (.inr rfl) (.inl rfl) dk dk ow3 he3 hi3 (Nat.succ_ne_self _) lle lli wl (fun a=>.inl) (fun a ha=>ha.elim (fun q=>.inl (.inr q)) .inr)
  (Qw k45) c₅ he5 hi5 ⟨ol,hk5 _ _ eol,col,mol,dol⟩ ⟨by simpa using rl.length,fun i m q=>?_⟩
  (fun i ρ s=>ρ "numbers"=some (Xa ns)∧ρ "records"=some (.raw (.ref lr))∧i <= 4∧∃ vs,s.heap.PlainList lr (List.toArray vs)∧EntsAt G s.heap (W3 (fun a=>(W a∨O a)∨a=lr) (it + 1) it) vs (Qed ns i)) ⟨n3,r3,by lia,[],hl5,trivial⟩ ?_ ?_)
 ·refine ob1_2 (Qak rl (i:=i) (d:=.int m) (by rw [List.getElem?_map,q];rfl)) fun v hv rv=>?_
  obtain ⟨t,rfl⟩:=RepD.int_inv rv
  exact ⟨t,hv⟩
 ·intro i m ρ s6 s7 hm z0;refine Qdk z0 ?_;rintro nn rr hi4 ⟨vs,hl6,es6⟩;rintro k06 k67 k07 c7
  have hi3':i < 4:=by have:=(List.getElem?_eq_some_iff.mp hm).1;exact this
  have hl7:s7.heap.PlainList lr (List.toArray vs):=Zg k67 (fun q=>q.elim (fun q=>q.elim (fun q=>by obtain ⟨_,e⟩:=hl3;rw [q,he3] at e;exact nSo e) fun q=>by obtain ⟨_,e⟩:=hl3;rw [q,hi3] at e;exact nSo e) nlO) hl6
  have es7:=es6.mono (k67.keepX (W:=W3 (fun a=>(W a∨O a)∨a=lr) (it + 1) it) fun a ha=>ha.elim .inr fun q=>.inl (.inl (.inr q)))
  have ow7:=ow3.wide (W':=W3 (fun a=>(W a∨O a)∨a=lr) (it + 1) it) fun a=>.inl
  have kv:(upd (upd ρ "k" (.data (.int (i:Nat)))) "start" (.data (.int m))) "k"=some (.data (.int (i:Nat))):=by simp [upd,ofString_inj]
  have nv:(upd (upd ρ "k" (.data (.int (i:Nat)))) "start" (.data (.int m))) "numbers"=some (Xa ns):=by simp [upd,ofString_inj,nn]
  have rv:(upd (upd ρ "k" (.data (.int (i:Nat)))) "start" (.data (.int m))) "records"=some (.raw (.ref lr)):=by simp [upd,ofString_inj,rr]
  have sv:=Qd (upd ρ "k" (.data (.int (i:Nat)))) "start" (.data (.int m))
  revert c7 kv nv rv sv;refine Qm2 (upd (upd ρ "k" (.data (.int (i:Nat)))) "start" (.data (.int m))) fun ρ7=>?_;intro c7 kv nv rv sv
  refine wpAny_execs_cons (Qaf (G:=G) (n:=2) (V:=nowt) (ks:=ks13) (out:=.next (upd ρ7 "v" (.data (.int (Qe8 ns i m)))))
   (Zx (Zc Qeg (Qb _ _ dk dk) (ev_sum AG FO rfl (Qc (fun _=>rfl) (ev_slice3 (fun _ _=>rfl) (Qb _ _ dk dk) (Qal (Qb _ _ dk dk)) Qba (Qal (Qj _ _ _))) evs_nil))) (.inr rfl) dk (fun _ _=>rfl)) c7 ow7 ?_ fun fl s8 k8 r8=>?_)
  ·exact v_eval (by lia) kv nv sv
  obtain ⟨rfl,c8⟩:=r8
  have v8:=Qd ρ7 "v" (.data (.int (Qe8 ns i m)))
  have kv8:upd ρ7 "v" (.data (.int (Qe8 ns i m))) "k"=some (.data (.int (i:Nat))):=by simp [upd,ofString_inj,kv]
  have nv8:upd ρ7 "v" (.data (.int (Qe8 ns i m))) "numbers"=some (Xa ns):=by simp [upd,ofString_inj,nv]
  have rv8:upd ρ7 "v" (.data (.int (Qe8 ns i m))) "records"=some (.raw (.ref lr)):=by simp [upd,ofString_inj,rv]
  generalize upd ρ7 "v" (.data (.int (Qe8 ns i m)))=ρ8 at c8 v8 kv8 nv8 rv8
  generalize hv:Qe8 ns i m=v at v8
  refine wpAny_execs_cons (Qaf (G:=G) (n:=2) (V:=nowt) (ks:=ks13) (out:=.next (upd ρ8 "rest" (.data (.int (v / 12500)))))
   (Zx (Zc Qbb (Qb _ _ dk dk) (Qj _ _ _)) (.inl rfl) dk (fun _ _=>rfl)) c8 ow7 (rest_eval v8) fun fl s9 k9 r9=>?_)
  obtain ⟨rfl,c9⟩:=r9
  have t9:=Qd ρ8 "rest" (.data (.int (v / 12500)))
  have v9:upd ρ8 "rest" (.data (.int (v / 12500))) "v"=some (.data (.int v)):=by simp [upd,ofString_inj,v8]
  have kv9:upd ρ8 "rest" (.data (.int (v / 12500))) "k"=some (.data (.int (i:Nat))):=by simp [upd,ofString_inj,kv8]
  have nv9:upd ρ8 "rest" (.data (.int (v / 12500))) "numbers"=some (Xa ns):=by simp [upd,ofString_inj,nv8]
  have rv9:upd ρ8 "rest" (.data (.int (v / 12500))) "records"=some (.raw (.ref lr)):=by simp [upd,ofString_inj,rv8]
  generalize upd ρ8 "rest" (.data (.int (v / 12500)))=ρ9 at c9 t9 v9 kv9 nv9 rv9
  refine Qkq (n:=0) (e:=Qbr i v) (y:="record") (rest:=_) AG EC c9 ow7 rfl (.inl rfl) dk hkeep rfl
   (Jg dk (Xk AG rfl (FO _ dk) (Qc (fun _=>rfl) (Zc Qeg (Qj _ _ _) (Zc Qas (Qb _ _ dk dk) (Qj _ _ _))) evs_nil)) (fun _ _=>rfl) Qai
    (Zu (fun _ _ _=>rfl) (Qau (Qc (fun _=>rfl) (Qbv _ _ _) (Qc (fun _=>rfl) (Qbv _ _ _) (Qc (fun _=>rfl) (Qbv _ _ _) (Qc (fun _=>rfl) (Qbv _ _ _) (Qc (fun _=>rfl) (Qbv _ _ _) evs_nil)))))) (Zc Qas (Zc Qbb (Zc Qbb (Qb _ _ dk dk) (Qj _ _ _)) (Zc op_pow (Qj _ _ _) (Qb _ _ dk dk))) (Qj _ _ _))))
   (Jg dk (Xk AG rfl (FO _ dk) (Qc (fun _=>rfl) (Zc Qas (Zc Qbb (Qb _ _ dk dk) (Qj _ _ _)) (Qj _ _ _)) evs_nil)) (fun _ _=>rfl) Qai
    (Zc Qeg (Zc Qky (Qj _ _ _) (Qb _ _ dk dk)) (Qb _ _ dk dk)))
   (Qmm (Ql Qh4 Qq (Zc Qas (Qb _ _ dk dk) (Qj _ _ _)) (Qj _ _ _) rfl) (Qaj _ _) (Zc Qef (Zc Qas (Qb _ _ dk dk) (Qj _ _ _)) (Qj _ _ _)))
   (Qmm (Ql Qh4 Qq (Zc Qas (Zc Qbb (Qb _ _ dk dk) (Qj _ _ _)) (Qj _ _ _)) (Qj _ _ _) rfl) (Qaj _ _) (Zc Qef (Zc Qas (Zc Qbb (Qb _ _ dk dk) (Qj _ _ _)) (Qj _ _ _)) (Qj _ _ _)))
   (Qb _ _ dk dk) (Qb _ _ dk dk) (Qb _ _ dk dk) (Qb _ _ dk dk)
   ?_ ?_ ?_ ?_ (fun x=>Qd _ _ _) (fun x=>Qd _ _ _) (fun x=>Qd _ _ _) (fun x=>Qd _ _ _) (fun _ _=>rfl) (fun _ _=>rfl) (fun _ _=>rfl) (fun _ _=>rfl) ?_
  ·intro x
   exact u_eval (by simp [upd,ofString_inj,v9])
  ·intro x
   exact r_eval (by simp [upd,ofString_inj,t9]) (by simp [upd,ofString_inj,kv9])
  ·intro x
   exact d_eval (by simp [upd,ofString_inj,t9])
  ·intro x
   exact q_eval (by simp [upd,ofString_inj,t9])
  intro x s10 k10 c10 e10 _ newx
  refine Zf ?_;intro Q0 E0
  have r10:upd ρ9 "record" (.raw (.ref x)) "records"=some (.raw (.ref lr)):=by simp [upd,ofString_inj,rv9]
  have n10:upd ρ9 "record" (.raw (.ref x)) "numbers"=some (Xa ns):=by simp [upd,ofString_inj,nv9]
  have c11:=c10.reveal (x:="record") dk (Qd _ _ _) (d:=.ent (Qbr i v)) e10
  have r11:upd (upd ρ9 "record" (.raw (.ref x))) "record" (.ent (Qbr i v)) "records"=some (.raw (.ref lr)):=by simp [upd,ofString_inj,rv9]
  have n11:upd (upd ρ9 "record" (.raw (.ref x))) "record" (.ent (Qbr i v)) "numbers"=some (Xa ns):=by simp [upd,ofString_inj,nv9]
  have e11:=Qd (upd ρ9 "record" (.raw (.ref x))) "record" (.ent (Qbr i v))
  generalize upd (upd ρ9 "record" (.raw (.ref x))) "record" (.ent (Qbr i v))=ρ11 at c11 r11 n11 e11
  have k7:Step G O s7 s10:=(k8.trans k9).trans k10.nowt
  have hl10:s10.heap.PlainList lr (List.toArray vs):=Zg k7 nlO hl7
  have es10:=es7.mono (k7.keepX (W:=W3 (fun a=>(W a∨O a)∨a=lr) (it + 1) it) fun a ha=>.inl (.inl (.inr ha)))
  have hvl:vs.length=i:=by rw [es6.length];simp [Qed]
  refine wpAny_execs_cons (Qa5 (f:=fun ρ=>ρ "record") (d:=.ent (Qbr i v)) (Qb _ _ dk dk) (fun _=>rfl) rfl dk dk (fun _=>rfl) (fun _=>rfl) (fun _=>rfl) c11 r11 hl10 e11 (by rw [List.size_toArray];lia) (.inl (.inr rfl)) l0 (fun q=>nlO (q ▸ ow.loc))
neCl fun w s12 k12 hl12 hw12 c12=>?_)
  have es12:=(es10.mono (k12.keepX (W:=W3 (fun a=>(W a∨O a)∨a=lr) (it + 1) it) fun a ha=>.inl (.inr ha))).snoc hw12
  have hst:starts.getD i 0=m:=by rw [List.getD_eq_getElem?_getD,hm];rfl
  refine wpAny_execs_nil ⟨rfl,(k7.mono fun a=>.inl).trans (k12.mono fun a=>.inr),ρ11,c12,n11,r11,by lia,vs ++ [w],by simpa using hl12,?_⟩
  rw [Qjj,hst,hv]
  exact es12
 ·intro ρ s6 h' z0;refine Qdk z0 ?_;rintro nn rr _ ⟨vs,hl6,es6⟩;rintro tI k06 hx k06' c6
  have hlne:lr≠it:=fun q=>by refine ob1_1 hl3 fun _ e=>?_;rw [q,hi3] at e;exact nSo e
  have hl7:h'.PlainList lr (List.toArray vs):=by
   refine ob1_1 hl6 fun mm e=>?_
   exact ⟨mm,hx lr _ hlne e⟩
  have kT:Step G nowt s { s6 with heap:=h' }:=k13.later k06' fun a ha=>.inl (ha.elim (hO a) fun q=>q ▸ newl)
  have es7:EntsAt G h' (fun a=>W a∨O a) vs (Zn script):=by
   have kx:Jm (W3 (fun a=>(W a∨O a)∨a=lr) (it + 1) it) s6.heap h':=fun b ob q hw _=>hx b ob (fun r=>by
    rcases hw with hw | hw
    ·exact hw (.inr (.inr r))
    ·exact tI ob (r ▸ q) hw) q
   have:=(es6.mono kx).weak (W':=fun a=>W a∨O a) fun a ha=>.inl (.inl ha)
   rw [← hns] at this
   exact this
  have c7:Cx G 2 nowt ks13 (A.deeper env) env { s6 with heap:=h' } (fun a=>W a∨O a) ρ:=c6.narrow (fun a=>.inl) fun _ q=>q.elim
  have c8:=c7.reveal (x:="records") dk rr (d:=.ents (Zn script)) ⟨lr,vs,rfl,nWl,Heap.PlainList.isList hl7,es7⟩
  refine wpAny_execs_cons (Qaf (G:=G) (n:=2) (V:=nowt) (ks:=ks13) (out:=.ret (.ents (Zn script))) (Qu (Qb _ _ dk dk)) c8 ow (by rw [Qd,mS]) fun fl s9 k9 r9=>?_)
  refine ob1_2 r9 ?_;rintro v' rfl r'
  exact h v' s9 (kT.later k9 fun a ha=>.inl (hO a ha)) (r'.weak fun a=>.inl)
end
noncomputable def Qi7:Ent:=⟨[],[],none,none⟩
noncomputable def Xy(es:List Ent)(t:Str):List Int:=([0,1,2,3]:List Int).filter fun k=>decide (t ∈ (es.getD k.toNat Qi7).u)
noncomputable def Qi0(gs:List (List Int))(g:List Int):List (List Int):=if g ∈ gs then gs else gs ++ [g]
noncomputable def Qbs(es:List Ent)(gs:List (List Int))(t:Str):List (List Int):=gs.map fun g=>g.filter fun k=>decide (k ∈ Xy es t)
noncomputable def Jx(es:List Ent)(gs:List (List Int))(t:Str):List (List Int):=(Qbs es gs t).foldl Qi0 gs
noncomputable def grp0:List (List Int):=[[0,1,2,3]]
noncomputable def Zt(es:List Ent):List (List Int):=texts.foldl (Jx es) grp0
noncomputable abbrev Qla(gs:List (List Int)):List PyData:=gs.map fun g=>.list (g.map .int)
noncomputable abbrev Qi6(gs:List (List Int)):D:=.data (.list (Qla gs))
structure GOk (gs:List (List Int)) (b:Nat):Prop where
 few:gs.length <= b
 some':gs≠[]
 len:∀ g ∈ gs,g.length <= 4
theorem addG_ok{gs:List (List Int)}{b:Nat}{g:List Int}(h:GOk gs b)(hg:g.length <= 4):GOk (Qi0 gs g) (b + 1):=by
 unfold Qi0
 split
 ·exact ⟨Nat.le_succ_of_le h.few,h.some',h.len⟩
 ·refine ⟨by rw [List.length_append];exact Nat.add_le_add h.few (Nat.le_refl 1),by simp,fun x hx=>?_⟩
  rcases List.mem_append.mp hx with q | q
  ·exact h.len x q
  ·rw [List.mem_singleton.mp q];exact hg
theorem Qkg:∀ {fs gs:List (List Int)}{b:Nat},GOk gs b->(∀ g ∈ fs,g.length <= 4)->GOk (fs.foldl Qi0 gs) (b + fs.length)
 | [],_,_,h,_=>h
 | f :: fs,gs,b,h,hf=>by
  have:=Qkg (fs:=fs) (addG_ok h (hf f (.head _))) fun g hg=>hf g (.tail _ hg)
  rw [List.foldl_cons,List.length_cons]
  have e:b + (fs.length + 1)=b + 1 + fs.length:=by lia
  rw [e];exact this
theorem fur_len{es:List Ent}{gs:List (List Int)}{t:Str}{b:Nat}(h:GOk gs b):(Qbs es gs t).length <= b∧∀ g ∈ Qbs es gs t,g.length <= 4:=by
 refine ⟨by unfold Qbs;rw [List.length_map];exact h.few,fun g hg=>?_⟩
 refine ob1_2 (List.mem_map.mp hg) ?_;rintro g' hg' rfl
 exact Nat.le_trans (List.length_filter_le _ _) (h.len g' hg')
theorem step_ok{es:List Ent}{gs:List (List Int)}{t:Str}{b:Nat}(h:GOk gs b):GOk (Jx es gs t) (b + b):=by
 refine Qx (fur_len (es:=es) (t:=t) h) fun h1 h2=>?_
 have:=Qkg h h2
 exact ⟨Nat.le_trans this.few (by lia),this.some',this.len⟩
theorem grp0_ok:GOk grp0 1:=⟨by decide,by decide,by decide⟩
theorem ints_ok(g:List Int)(k:Nat):Qlt (k + 1) (.list (g.map .int))=true:=by
 simp [Qcd,Qkl,List.all_map,List.all_eq_true]
theorem eqv_ints(a b:List Int):PyData.eqv (.list (a.map .int)) (.list (b.map .int))=decide (a=b):=by
 rw [PyData.eqv,ked_eqvAll]
theorem any_grp(gs:List (List Int))(g:List Int):((Qla gs).any fun y=>PyData.eqv y (.list (g.map .int)))=decide (g ∈ gs):=by
 induction gs with
 | nil=>simp
 | cons a r ih=>
  show (PyData.eqv (.list (a.map .int)) (.list (g.map .int)) || (Qla r).any _)=_
  rw [eqv_ints,ih]
  by_cases h:a=g
  ·simp [h]
  ·by_cases h':g ∈ r <;> simp [h,h',Ne.symm h]
theorem notIn_grp(g:List Int)(gs:List (List Int)):Qej (.data (.list (g.map .int))) (Qi6 gs)=some (.data (.bool (!decide (g ∈ gs)))):=by
 have o1:okD (.list (g.map .int))=true:=Qjq g
 have o2:okD (.list (Qla gs))=true:=Qbz (by
  show ((Qla gs).all (Qlt 8))=true
  rw [List.all_map,List.all_eq_true]
  intro x _
  exact ints_ok x 7)
 rw [Qk1]
 rw [o1,o2,any_grp]
 rfl
theorem Qic(gs:List (List Int)):Ju (Qi6 gs)=some (gs.map fun g=>Xa g):=by
 show some ((Qla gs).map D.data)=_
 rw [List.map_map];rfl
theorem Ql7{es:List Ent}{t:Str}{ρ:Qf}(h1:ρ "text"=some (.data (.str t)))(h2:ρ "records"=some (.ents es))(ht:t ∈ texts)(h4:es.length=4)(hok:∀ e ∈ es,Qa1 e):
  (((some [D.data (.int 4)]).bind Zi).bind fun ds=>if ds.length <= 1000 then (Xl "k" (fun ρ=>(ρ "text").bind fun a=>(((ρ "records").bind fun a=>(ρ "k").bind fun b=>Qb5 a b).bind (attrD fun e=>.list (e.u.map .str))).bind fun b=>(inD a b).bind trD) (fun ρ=>ρ "k") ρ ds).bind Qcs else none)=some (Xa (Xy es t)):=by
 have e1:Zi [D.data (.int 4)]=some (([0,1,2,3]:List Int).map fun k=>D.data (.int k)):=by
  rw [Qgt (by lia)];rfl
 rw [bS,e1,bS,if_pos (by decide),Xp (p:=fun k:Int=>decide (t ∈ (es.getD k.toNat Qi7).u)) (q:=fun k=>.data (.int k)) (fun k hk=>?_) fun k _ _=>Qd _ _ _,bS,pack_map]
 ·rfl
 ·have hk4:0 <= k∧k < 4:=by simp at hk;lia
  have hlt:k.toNat < es.length:=by lia
  have e2:Qb5 (.ents es) (.data (.int k))=some (.ent (es.getD k.toNat Qi7)):=by
   rw [idxD_e]
   rw [if_pos ⟨hk4.1,by lia⟩,List.getD_eq_getElem?_getD,List.getElem?_eq_getElem hlt,mS]
   rfl
  have hu:texty (es.getD k.toNat Qi7).u:=by
   have:es.getD k.toNat Qi7=es[k.toNat]:=by rw [List.getD_eq_getElem?_getD,List.getElem?_eq_getElem hlt];rfl
   rw [this];exact (hok _ (List.getElem_mem _)).u
  have e3:attrD (fun e=>.list (e.u.map .str)) (.ent (es.getD k.toNat Qi7))=some (Qz (es.getD k.toNat Qi7).u):=rfl
  rw [Zb _ _ (by simp [ofString_inj]),Zb _ _ (by simp [ofString_inj]),Qd,h1,h2,bS,bS,bS,e2,bS,e3,bS,Qk8 ht hu,bS]
  rfl
theorem fur_eval{es:List Ent}{gs:List (List Int)}{t:Str}{ρ:Qf}(h1:ρ "named"=some (Xa (Xy es t)))(hl:∀ g ∈ gs,g.length <= 4):
  Xl "group" (fun _=>some true) (fun ρ=>((ρ "group").bind Ju).bind fun ds=>if ds.length <= 1000 then (Xl "k" (fun ρ=>(ρ "k").bind fun a=>(ρ "named").bind fun b=>(inD a b).bind trD) (fun ρ=>ρ "k") ρ ds).bind Qcs else none) ρ (gs.map fun g=>Xa g)=some ((Qbs es gs t).map fun g=>Xa g):=by
 rw [Xq (q:=fun g=>Xa (g.filter fun k=>decide (k ∈ Xy es t))) fun g hg=>?_]
 ·unfold Qbs
  rw [List.map_map];rfl
 ·have e1:Ju (Xa g)=some (g.map fun k=>D.data (.int k)):=by
   show some ((g.map PyData.int).map D.data)=_
   rw [List.map_map];rfl
  have:=hl g hg
  rw [Qd,bS,e1,bS,List.length_map,if_pos (by lia),Xp (p:=fun k=>decide (k ∈ Xy es t)) (q:=fun k=>.data (.int k)) (fun k _=>?_) fun k _ _=>Qd _ _ _,bS,pack_map]
  rw [Qd,Zb _ _ (by simp [ofString_inj]),Zb _ _ (by simp [ofString_inj]),h1,bS,bS,in_int,bS]
  rfl
section
variable {G:Amb}[Qab G] {n:Nat}{V:Addr->Prop}{ks:Qi}
theorem st_compN{elt iter:Expr}{ifs:List Expr}{scope:Scope}{pos xp px spos:Pos}{x y:Str}{fs:Qf->Option (List D)}{fc:Qf->Option Bool}{fe:Qf->Option D}
  (hst:Qbm ks scope x=true)(hsrc:Qc3 G n V ks iter fs)(hfold:∀ env v,foldedSetIterable iter env v=pure v)(hifs:Qi3 G n V (Qdu ks scope.names) ifs fc)(helt:Zo G n V (Qdu ks scope.names) elt fe)
  (hk:ks.lookup y=some .local)(hd:(y == ("__classdict__":Str))=false)(hl:px.line=pos.line)(hn:(scope.names.any fun q=>q.1 == y && (q.2 == .local || q.2 == .cell))=false)
  {A:Around}{env:Env}{s:Shared}{W W₁ O:Addr->Prop}{ρ ρ₁:Qf}{ds rs:List D}{d:D}{Q:Flow->Shared->Prop}{E:Value->Shared->Prop}(c:Cx G n V ks A env s W ρ)(c1:Cx G n V ks A env s W₁ ρ₁)(o:Own G ks env W O)
  (hds:fs ρ₁=some ds)(hz:ds.length <= 1000)(hrs:Xl x fc fe ρ₁ ds=some rs)
  (hrep:∀ (X:Addr->Prop) (L:Addr) (vs:List Value) (s':Shared),s.heap.get? L=none->Step G V s s'->s'.heap.PlainList L (List.toArray vs)->RepL G s'.heap (fun a=>W₁ a∨X a) vs rs->¬ X L->Rep G s'.heap (fun a=>W a∨X a) (.ref L) d)
  (h:∀ s',Step G (Or2 V O) s s'->Cx G n V ks A env s' W (upd ρ y d)->Q .next s'):
  wpAny (model G.prog G.w) A (exec (.Assign [.Name y px] (.ListComp elt [⟨.Name x xp,iter,ifs,0⟩] scope pos) spos) env) Q E s:=by
 rw [exec_Assign_Name_used _ _ _ _ (by rw [Qbe c.ok,hk,hl,hn];simp)]
 refine wpAny_bind (wpAny_standAt (wpAny_bind ?_))
 show wpAny _ A (do let _ ← comprehension (.ListComp elt [⟨.Name x xp,iter,ifs,0⟩] scope pos) scope env _ (newList []) false (eval iter env) (some (assign (.Name y px) env))) _ _ s
 refine wpAny_bind (wpAny_mono (Qck (use:=some (assign (.Name y px) env)) (Q:=fun _ s'=>Q .next s') c1 (Qav hst) hsrc (hfold env) hifs helt hds hz hrs ?_) (fun _ s' hq=>wpAny_pure (wpAny_pure hq)) fun _ _ e=>e)
 intro L C s' vs k nL nC hLC hn' bC hl' r
 have hL:¬ W L:=c.excl.fresh nL
 have hC:¬ W C:=c.excl.fresh nC
 have rd:Rep G s'.heap (fun a=>W a∨a=C) (.ref L) d:=hrep (fun a=>a=C) L vs s' nL k hl' r hLC
 have c₂:Cx G n V ks A env s' (fun a=>W a∨a=C) ρ:=c.widen k (fun a ha=>.inl ha) (fun a ob e hw=>hw.elim id fun q=>by rw [q,nC] at e;exact nSo e)
  (fun a ha=>ha.elim (fun q=>(c.step k).excl.live a q) fun q=>by refine ob4_2 hn' fun m ob es ep e _=>?_;exact ⟨ob,q ▸ e⟩)
 have liveL:env.locals≠C:=fun e=>by refine ob4_2 c.ns fun m ob es ep e' _=>?_;rw [e,nC] at e';exact nSo e'
 have liveC:∀ y a,env.cells.lookup y=some a->a≠C:=fun y a e q=>by refine ob2_2 (c.cellsAt y a e) fun v ob e' _=>?_;rw [q,nC] at e';exact nSo e'
 have nO:¬ O C:=fun q=>hC (o.sub _ q)
 refine wpAny_assign_Name (Qt c₂ (fun a ha=>.inl (o.sub a ha)) o.base (o.store (.inl hk) hd) rd fun s2 k2 c3=>?_)
 obtain ⟨m,hm⟩:=hn'
 have hmC:=Qb4 k2 hm nO
 refine in1_2 m hmC (fun h' hs=>?_)
 have k3:Step G (Or2 V O) s s2:=(k.mono fun _=>.inl).trans (k2.mono fun _=>.inr)
 have kE:=k3.ext hs.extBut nC bC
 have tC:∀ ob,s2.heap.get? C=some ob->¬ Tup ob:=fun ob e t=>by refine ob3_3 hmC fun ob' es ep e' d' _=>?_;rw [e] at e';obtain rfl:=Qo e';refine Qx t ?_;intro _ z0;refine ob2_1 z0 fun xs q hq=>?_;rw [hq] at d';cases d'
 exact h _ kE (c3.ext hs.extBut (c.good.step kE) (.inr rfl) tC hC (fun a ha=>.inl ha) c.excl.sub liveL liveC)
end
structure Gr (G:Amb) (h:Heap) (W:Addr->Prop) (lg:Addr) (gs:List (List Int)):Prop where
 ex:∃ vs,h.PlainList lg (List.toArray vs)∧RepDs h W vs (Qla gs)
section
variable {G:Amb}{W U:Addr->Prop}{lg:Addr}{gs:List (List Int)}{s s':Shared}
theorem Gr.step(x:Gr G s.heap W lg gs)(k:Step G U s s')(hU:∀ a,U a->W a)(nU:¬ U lg):Gr G s'.heap W lg gs:=by
 refine ob1_2 x.ex fun vs h1 h2=>?_
 exact ⟨vs,Zg k nU h1,h2.mono (k.keepX hU)⟩
theorem Gr.weak{W':Addr->Prop}(x:Gr G s.heap W lg gs)(h:∀ a,W' a->W a):Gr G s.heap W' lg gs:=ob1_2 x.ex fun vs a b=>⟨vs,a,b.weak h⟩
theorem Gr.data(x:Gr G s.heap W lg gs){W':Addr->Prop}(h:∀ a,W' a->W a)(hl:¬ W' lg):Rep G s.heap W' (.ref lg) (Qi6 gs):=by
 refine ob1_2 x.ex fun vs a b=>?_
 exact RepD.list hl (Heap.PlainList.isList a) (b.weak h)
theorem ints_ne{h:Heap}{g:List Int}{a:Addr}{us vs:List Value}(hg:gs≠[])(hl:h.PlainList lg (List.toArray vs))(hr:RepDs h W vs (Qla gs))(e:h.IsList a (List.toArray us))(ru:RepDs h U us (g.map .int)):a≠lg:=by
 rintro rfl
 obtain ⟨m,e1⟩:=hl
 refine ob1_3 e ?_;rintro o e2 _ ⟨m2,d2⟩
 rw [e1] at e2
 obtain rfl:=Qo e2
 have ev:vs=us:=by injection d2 with q _;simpa using q
 subst ev
 cases gs with
 | nil=>exact hg rfl
 | cons g1 gs=>
  refine ob2_3 hr.inv ?_;rintro v vs' rfl r1 _
  refine ob2_2 (RepD.list_iff r1) ?_;rintro b _ rfl _
  cases g with
  | nil=>have:=ru.inv_nil;cases this
  | cons i g=>
   refine ob2_3 ru.inv fun v' _ e3 r2 _=>?_
   refine ob1_1 (RepD.int_inv r2) ?_;rintro t rfl
   cases e3
end
noncomputable abbrev Qk3:Qi:=(Qe 21).names
theorem RepDs.strong{h:Heap}{W W':Addr->Prop}{vs:List Value}{ds:List PyData}(x:RepDs h W vs ds)(k:Qd0 h W W'):RepDs h W' vs ds:=
 ob1_2 x fun as r p=>⟨as,r,fun a ha q=>ob1_1 (PyProof.On.readsAll_mem_get r a ha) fun o e=>p a ha (k a o e q)⟩
theorem Qg8{h h':Heap}{W W':Addr->Prop}:∀ {us:List Value}{xs:List Int},RepDs h W us (xs.map .int)->RepDs h' W' us (xs.map .int)
 | us,[],r=>by rw [r.inv_nil];exact .nil
 | us,x :: xs,r=>by
  refine ob2_3 r.inv ?_;rintro v vs' rfl a b
  refine ob1_1 (RepD.int_inv a) ?_;rintro t rfl
  exact .cons (RepD.int _ _) (Qg8 b)
theorem grp_ext{h h':Heap}{W:Addr->Prop}{I:Addr}(he:Heap.ExtBut I h h')(hI:W I):∀ {vs:List Value}{gs:List (List Int)},RepDs h W vs (Qla gs)->RepDs h' W vs (Qla gs)
 | vs,[],r=>by rw [r.inv_nil];exact .nil
 | vs,x :: rs,r=>by
  refine ob2_3 r.inv ?_;rintro v vs' rfl a b
  refine ob2_4 (RepD.list_iff a) ?_;rintro ad us rfl wn z0;refine ob1_3 z0 fun o e c d=>?_;rintro rr
  exact .cons (RepD.list wn ⟨o,he ad o (fun q=>wn (q ▸ hI)) e,c,d⟩ (Qg8 rr)) (grp_ext he hI b)
theorem Gr.ext{G:Amb}{W:Addr->Prop}{lg I:Addr}{gs:List (List Int)}{h h':Heap}(x:Gr G h W lg gs)(he:Heap.ExtBut I h h')(hI:W I)(ne:lg≠I):Gr G h' W lg gs:=by
 refine ob1_2 x.ex ?_;intro vs z0;refine ob1_1 z0 fun m e=>?_;rintro b
 exact ⟨vs,⟨m,he lg _ ne e⟩,grp_ext he hI b⟩
theorem rep_fur{G:Amb}{h:Heap}{W W':Addr->Prop}{lg:Addr}{gs:List (List Int)}{ws:List Value}(hg:gs≠[])(hl:h.PlainList lg (List.toArray ws)){W2:Addr->Prop}(hr:RepDs h W2 ws (Qla gs))(hw:∀ a,W' a->W a∨a=lg):
  ∀ {vs:List Value}{fs:List (List Int)},RepL G h W vs (fs.map fun g=>Xa g)->RepDs h W' vs (Qla fs)
 | [],[],_=>.nil
 | v :: vs,f :: fs,r=>by
  refine ob2_4 (RepD.list_iff r.1) ?_;rintro a us rfl wn hi ru
  have ne:=ints_ne hg hl hr hi ru
  exact .cons (RepD.list (fun q=>(hw a q).elim wn ne) hi (Qg8 ru)) (rep_fur hg hl hr hw r.2)
 | [],_ :: _,r=>r.elim
 | _ :: _,[],r=>r.elim
theorem Qkp{es:List Ent}:∀ {ts:List Str}{gs:List (List Int)}{b:Nat},GOk gs b->GOk (ts.foldl (Jx es) gs) (b * 2 ^ ts.length)
 | [],_,_,h=>by simpa using h
 | t :: ts,gs,b,h=>by
  have:=Qkp (es:=es) (ts:=ts) (step_ok (es:=es) (t:=t) h)
  have e:(b + b) * 2 ^ ts.length=b * 2 ^ (t :: ts).length:=by rw [List.length_cons,Nat.pow_succ,← Nat.two_mul,Nat.mul_comm 2 b,Nat.mul_assoc,Nat.mul_comm 2]
  rw [← e];exact this
section
variable {G:Amb}[Qab G]
theorem Qjb{n:Nat}{V:Addr->Prop}{A:Around}{env:Env}{s:Shared}{W O:Addr->Prop}{ρ:Qf}{ks:Qi}{y:Str}{py p p2:Pos}{e:Expr}{f:Qf->Option D}{d:D}{Q:Flow->Shared->Prop}{E:Value->Shared->Prop}(hs:∀ env,starEach [e] env=(false,eval e env) :: starEach [] env)(he:Zo G n V ks e f)(hf:f ρ=some d)(c:Cx G n V ks A env s W ρ)(ow:Own G ks env W O)(hy:ks.lookup y=some .local∨ks.lookup y=some .cell)(hyd:(y == ("__classdict__":Str))=false)
  (h:∀ l v s',s.heap.get? l=none->Step G (Or2 V O) s s'->s'.heap.PlainList l (List.toArray [v])->Rep G s'.heap (fun a=>W a∨a=l) v d->Cx G n V ks A env s' (fun a=>W a∨a=l) (upd ρ y (.raw (.ref l)))->Q .next s'):
  wpAny (model G.prog G.w) A (exec (.Assign [.Name y py] (.List [e] p) p2) env) Q E s:=by
 refine wpAny_Assign_Name ?_ (by rfl)
 refine List_ ((Qc hs he evs_nil).2 A env s W ρ [d] _ _ _ c (by dsimp only;rw [hf];rfl) fun vs s₁ k1 r₁=>?_)
 refine ob1_2 (Xr r₁) ?_;rintro v rfl rv
 refine wpAny_newList ?_ (by rw [sizeLine_eq];simp)
 generalize hl:s₁.heap.objs.size=l
 refine Qdb (({ s₁ with heap:=s₁.heap.push (seqObj "list" (List.toArray [v]) 0) }:Shared)) fun s2 hs2=>?_
 have h2:s2.heap=s₁.heap.push (seqObj "list" (List.toArray [v]) 0):=by rw [← hs2]
 have k2:Step G V s₁ s2:=by rw [← hs2];exact .push s₁ _
 have hl2:s2.heap.PlainList l (List.toArray [v]):=by rw [h2,← hl];exact ⟨0,Heap.get?_push_size _ rfl⟩
 have new1:s₁.heap.get? l=none:=by rw [← hl];exact Heap.get?_none_of_le (Nat.le_refl _)
 have new:s.heap.get? l=none:=k1.get_none new1
 refine Qaa (Jb c new) fun neL neC nVl nWl l0=>?_
 have k12:=k1.trans k2
 have nx1:Qd0 s₁.heap W (fun a=>W a∨a=l):=fun a ob ea hw=>hw.elim id fun q=>by rw [q,new1] at ea;exact nSo ea
 have c₂:Cx G n V ks A env s2 (fun a=>W a∨a=l) ρ:=c.widen k12 (fun a ha=>.inl ha) (fun a ob ea hw=>hw.elim id fun q=>by rw [q,new] at ea;exact nSo ea)
  (fun a ha=>ha.elim (fun q=>(c.step k12).excl.live a q) fun q=>by refine ob1_1 hl2 fun m e=>?_;exact ⟨_,q ▸ e⟩)
 have rv2:Rep G s2.heap (fun a=>W a∨a=l) v d:=(rv.strong nx1).mono (k2.keepX fun a ha=>.inl (c.excl.sub a ha))
 refine Qt c₂ (fun a ha=>.inl (ow.sub a ha)) ow.base (ow.store hy hyd) (d:=.raw (.ref l)) rfl fun s3 k3 c3=>?_
 refine h l v s3 new ((k12.mono fun _=>.inl).trans (k3.mono fun _=>.inr)) ?_ (rv2.mono (k3.keepX fun a ha=>.inl (ow.sub a ha))) c3
 refine ob1_1 hl2 fun m e=>?_
 exact ⟨m,k3.exact e (.inl fun q=>nWl (ow.sub _ q)) (by show Value.type "list"≠_;decide)⟩
end
section
variable {G:Amb}[Qab G]
inductive GrpInv (G:Amb) (es:List Ent) (lg:Addr) (W:Addr->Prop) (rest:List D) (ρ:Qf) (s:Shared):Prop
 | mk (done todo:List Str) (h1:texts=done ++ todo) (h2:rest=todo.map (fun t=>D.data (.str t))) (h3:ρ "records"=some (.ents es)) (h4:ρ "groups"=some (.raw (.ref lg))) (h5:Gr G s.heap W lg (done.foldl (Jx es) grp0)):GrpInv G es lg W rest ρ s
inductive GrpIn (G:Amb) (es:List Ent) (gs:List (List Int)) (t:Str) (lg:Addr) (W:Addr->Prop) (rest:List D) (ρ:Qf) (s:Shared):Prop
 | mk (dn td:List (List Int)) (h1:Qbs es gs t=dn ++ td) (h2:rest=td.map (fun g=>Xa g)) (h3:ρ "records"=some (.ents es)) (h4:ρ "groups"=some (.raw (.ref lg))) (h5:Gr G s.heap W lg (dn.foldl Qi0 gs)):GrpIn G es gs t lg W rest ρ s
theorem fn_groups{es:List Ent}(AG:Qv G)(FO:Zp G)(hd:Xf G 21)(h_t:∃ F,FnOk G 1 nowt "_law_texts" F∧F []=some (Qz texts))(h4:es.length=4)(hok:∀ e ∈ es,Qa1 e):FnAt G 2 nowt (fun _=>True) "_law_groups" [.ents es] (Qi6 (Zt es)):=by
 refine ob1_2 h_t fun Ft h__law_texts eT=>?_
 refine ob1_2 hd.ex fun fa hd hm=>?_
 refine ob4_3 hd.ex fun o pm code doc ho hdat hcr=>?_
 refine ⟨fa,o,_,hm,ho,hdat,fun A s W vs Q E _ good ex r h=>?_⟩
 refine ob1_2 (Xr r) ?_;rintro v0 rfl rv
 refine wpAny_call (Qb7 (n:=1) (V:=nowt) (W:=W) (xs:=["records"]) (ds:=[.ents es]) AG good ex (good.base _ _ ho) hdat (hcr.keeps good.base) rfl r dk dk dk rfl rfl rfl dk ?_)
 intro s₁ env O E' k₁ kk c1 ow hO hcode hqual hcells
 change Cx G 1 nowt Qk3 _ _ _ _ _ at c1
 change Own G Qk3 _ _ _ at ow
 refine Qk9 fun Q0 E0 hQ hE=>?_
 have l1:Xt ["records"] [.ents es] "records"=some (.ents es):=by simp [Qp]
 generalize Xt ["records"] [.ents es]=ρ₁ at c1 l1
 refine wpAny_execs_cons (Qjb (y:="groups") (d:=Xa [0,1,2,3]) (fun _=>rfl) (Qau (Qc (fun _=>rfl) (Qj _ _ _) (Qc (fun _=>rfl) (Qj _ _ _) (Qc (fun _=>rfl) (Qj _ _ _) (Qc (fun _=>rfl) (Qj _ _ _) evs_nil))))) (by rfl) c1 ow (.inl rfl) dk fun lg v s2 ng k₂ hl2 rv2 c₂=>?_)
 refine Qaa (Jb c1 ng) fun neL neC _ nWg g0=>?_
 have k2':=k₂.nowt
 have newg:s.heap.get? lg=none:=k₁.get_none ng
 have k12:Step G nowt s s2:=k₁.later k2' fun a ha=>.inl (hO a ha)
 have nOg:¬ O lg:=fun q=>nWg (.inr q)
 have ow2:=ow.wide (W':=fun a=>(W a∨O a)∨a=lg) fun a=>.inl
 have g2:Gr G s2.heap (fun a=>(W a∨O a)∨a=lg) lg grp0:=⟨[v],hl2,.cons rv2 .nil⟩
 have l2:upd ρ₁ "groups" (.raw (.ref lg)) "records"=some (.ents es):=by simp [upd,ofString_inj,l1]
 have m2:=Qd ρ₁ "groups" (.raw (.ref lg))
 generalize upd ρ₁ "groups" (.raw (.ref lg))=ρ2 at c₂ l2 m2
 refine wpAny_execs_cons (wpAny_For (Zj (Zw AG h__law_texts rfl (by omega) (fun _ h=>h) dk evs_nil) _ env s2 _ ρ2 (texts.map fun t=>.data (.str t)) _ _ c₂ (by dsimp only;rw [bS,eT,bS];rfl) fun I s5 k5 hI it5=>?_) (fun _=>rfl))
 refine Qaa (Jb c₂ hI) fun neIL neIC _ nWI bI=>?_
 refine ob1_2 it5.cls fun oI eI _=>?_
 have nxI:Qd0 s2.heap (fun a=>(W a∨O a)∨a=lg) (fun a=>((W a∨O a)∨a=lg)∨a=I):=fun a ob ea hw=>hw.elim id fun q=>by rw [q,hI] at ea;exact nSo ea
 have c₅:Cx G 1 nowt Qk3 (A.deeper env) env s5 (fun a=>((W a∨O a)∨a=lg)∨a=I) ρ2:=c₂.widen k5 (fun a ha=>.inl ha) nxI (fun a ha=>ha.elim (fun q=>(c₂.step k5).excl.live a q) fun q=>⟨oI,q ▸ eI⟩)
 have nIg:lg≠I:=fun q=>nWI (.inr q.symm)
 have nIO:¬ O I:=fun q=>nWI (.inl (.inr q))
 have g5:Gr G s5.heap (fun a=>((W a∨O a)∨a=lg)∨a=I) lg grp0:=by
  refine ob1_2 g2.ex fun vs a b=>?_
  exact ⟨vs,Zg k5 (fun q=>q) a,(b.strong nxI).mono (k5.keepX fun _ q=>q.elim)⟩
 have ow5:Own G Qk3 env (fun a=>((W a∨O a)∨a=lg)∨a=I) O:=ow2.wide fun a=>.inl
 have hUW:∀ a,(O a∨a=lg)->(W a∨O a)∨a=lg:=fun a ha=>ha.elim (fun q=>.inl (.inr q)) .inr
 refine Qdx (n:=1) (V:=nowt) (ks:=Qk3) (s:=s2) (W:=fun a=>(W a∨O a)∨a=lg) (O:=O) (U:=fun a=>O a∨a=lg) c₂.good (.inr rfl) dk ow2 hI nWI neIL (fun y a e=>neIC y a e) (fun a=>.inl) hUW (fun _ q=>q.elim) (Qw k5) c₅ it5
  (GrpInv G es lg (fun a=>((W a∨O a)∨a=lg)∨a=I)) ⟨[],texts,rfl,rfl,l2,m2,g5⟩ ?_ ?_
 ·rintro d rest ρ3 t₁ t₂ ⟨done,todo,ht,hr,hrec,hgr,g⟩ k1 k12' k2 c
  obtain ⟨t,todo,rfl⟩:∃ t td,todo=t :: td:=by cases todo with
   | nil=>cases hr
   | cons a b=>exact in2_1 a b rfl
  obtain ⟨rfl,rfl⟩:=List.cons.inj hr
  refine Qk9 fun Q1 E1 hQ1 hE1=>?_
  have htx:t ∈ texts:=by rw [ht];simp
  have hdl:done.length <= 4:=by
   have:=congrArg List.length ht
   simp [texts] at this
   omega
  have gok:=Qkp (es:=es) (ts:=done) grp0_ok
  have hb:1 * 2 ^ done.length <= 16:=by
   rw [Nat.one_mul]
   exact Nat.pow_le_pow_right (by decide) hdl
  revert g gok;refine Qdb (done.foldl (Jx es) grp0) fun gs hgs=>?_;intro g gok
  have gok:GOk gs 16:=⟨Nat.le_trans gok.few hb,gok.some',gok.len⟩
  have g2:=g.step k12' (fun a ha=>ha.elim .inr fun q=>.inl (.inl (.inr q))) (fun q=>q.elim nIg nOg)
  have tx:upd ρ3 "text" (.data (.str t)) "text"=some (.data (.str t)):=Qd _ _ _
  have hrec2:upd ρ3 "text" (.data (.str t)) "records"=some (.ents es):=by simp [upd,ofString_inj,hrec]
  have hgr2:upd ρ3 "text" (.data (.str t)) "groups"=some (.raw (.ref lg)):=by simp [upd,ofString_inj,hgr]
  revert c tx hrec2 hgr2;refine Qm2 (upd ρ3 "text" (.data (.str t))) fun ρ4=>?_;intro c tx hrec2 hgr2
  refine wpAny_execs_cons (Qaf (G:=G) (n:=1) (V:=nowt) (ks:=Qk3) (out:=.next (upd ρ4 "named" (Xa (Xy es t))))
   (Zx (Jg dk (Xk AG rfl (FO _ dk) (Qc (fun _=>rfl) (Qj _ _ _) evs_nil)) (fun _ _=>rfl) (Qah (Ql op_in Qq (Qb _ _ dk dk) (Zr AG .u (fun _=>rfl) (Zu (fun _ _ _=>rfl) (Qb _ _ dk dk) (Qb _ _ dk dk))) rfl)) (Qb _ _ dk dk))
    (.inr rfl) dk (fun env he=>Qlu he rfl)) c ow5 ?_ fun fl t₃ k3 r₃=>?_)
  ·have:=Ql7 tx hrec2 htx h4 hok
   exact congrArg (Option.map fun d=>Out.next (upd ρ4 "named" d)) this
  obtain ⟨rfl,c3⟩:=r₃
  have g3:=g2.step k3 (fun a ha=>.inl (.inl (.inr ha))) nOg
  have nm:upd ρ4 "named" (Xa (Xy es t)) "named"=some (Xa (Xy es t)):=Qd _ _ _
  have hrec3:upd ρ4 "named" (Xa (Xy es t)) "records"=some (.ents es):=by simp [upd,ofString_inj,hrec2]
  have hgr3:upd ρ4 "named" (Xa (Xy es t)) "groups"=some (.raw (.ref lg)):=by simp [upd,ofString_inj,hgr2]
  generalize upd ρ4 "named" (Xa (Xy es t))=ρ5 at c3 nm hrec3 hgr3
  have nSg:¬ ((W lg∨O lg)∨lg=I):=fun q=>q.elim nWg nIg
  have cS:Cx G 1 nowt Qk3 (A.deeper env) env t₃ (fun a=>(W a∨O a)∨a=I) (upd ρ5 "groups" (Qi6 gs)):=
   (c3.narrow (W:=fun a=>(W a∨O a)∨a=I) (fun a ha=>ha.elim (fun q=>.inl (.inl q)) .inr) fun _ q=>q.elim).reveal dk hgr3 (g3.data (fun a ha=>ha.elim (fun q=>.inl (.inl q)) .inr) nSg)
  obtain ⟨fl1,fl2⟩:=fur_len (es:=es) (t:=t) gok
  refine wpAny_execs_cons (st_compN (G:=G) (n:=1) (V:=nowt) (ks:=Qk3) (x:="group") (y:="further") (W:=fun a=>((W a∨O a)∨a=lg)∨a=I) (W₁:=fun a=>(W a∨O a)∨a=I) (ρ:=ρ5) (ρ₁:=upd ρ5 "groups" (Qi6 gs)) (ds:=gs.map fun g=>Xa g) (rs:=(Qbs es gs t).map fun g=>Xa g) (d:=Qi6 (Qbs es gs t))
   dk (Zj (Qb _ _ dk dk)) (fun _ _=>rfl) Qai (Jg dk (Zj (Qb _ _ dk dk)) (fun _ _=>rfl) (Qah (Ql op_in Qq (Qb _ _ dk dk) (Qb _ _ dk dk) rfl)) (Qb _ _ dk dk))
   (by rfl) dk (by rfl) (by rfl) c3 cS ow5 (by rw [Qd,bS];exact Qic gs) (by rw [List.length_map];have:=gok.few;omega) (fur_eval (by rw [Zb _ _ (by simp [ofString_inj])];exact nm) gok.len) ?_ fun t₄ k4 c4=>?_)
  ·intro X L vs s' nL k hpl r nX
   refine ob1_2 g3.ex fun ws hws hrs=>?_
   refine RepD.list (fun q=>q.elim (c3.excl.fresh nL) nX) (Heap.PlainList.isList hpl) (rep_fur gok.some' (Zg k (fun q=>q) hws) (hrs.mono (k.keepX fun _ q=>q.elim)) (fun a ha=>?_) r)
   rcases ha with ((ha | ha) | ha) | ha
   ·exact .inl (.inl (.inl ha))
   ·exact .inr ha
   ·exact .inl (.inl (.inr ha))
   ·exact .inl (.inr ha)
  have k4':=k4.nowt
  have g4:=g3.step k4' (fun a ha=>.inl (.inl (.inr ha))) nOg
  have fu:upd ρ5 "further" (Qi6 (Qbs es gs t)) "further"=some (Qi6 (Qbs es gs t)):=Qd _ _ _
  have hrec4:upd ρ5 "further" (Qi6 (Qbs es gs t)) "records"=some (.ents es):=by simp [upd,ofString_inj,hrec3]
  have hgr4:upd ρ5 "further" (Qi6 (Qbs es gs t)) "groups"=some (.raw (.ref lg)):=by simp [upd,ofString_inj,hgr3]
  generalize upd ρ5 "further" (Qi6 (Qbs es gs t))=ρ6 at c4 fu hrec4 hgr4
  refine wpAny_execs_cons (wpAny_For (Zj (Qb _ _ dk dk) _ env t₄ _ ρ6 ((Qbs es gs t).map fun g=>Xa g) _ _ c4 (by dsimp only;rw [fu,bS];exact Qic _) fun I2 t₅ k5 hI2 it2=>?_) (fun _=>rfl))
  refine Qaa (Jb c4 hI2) fun ne2L ne2C _ nW2 bI2=>?_
  refine ob1_2 it2.cls fun oI2 eI2 _=>?_
  have nx2:Qd0 t₄.heap (fun a=>((W a∨O a)∨a=lg)∨a=I) (fun a=>(((W a∨O a)∨a=lg)∨a=I)∨a=I2):=fun a ob ea hw=>hw.elim id fun q=>by rw [q,hI2] at ea;exact nSo ea
  have c5':Cx G 1 nowt Qk3 (A.deeper env) env t₅ (fun a=>(((W a∨O a)∨a=lg)∨a=I)∨a=I2) ρ6:=c4.widen k5 (fun a ha=>.inl ha) nx2 (fun a ha=>ha.elim (fun q=>(c4.step k5).excl.live a q) fun q=>⟨oI2,q ▸ eI2⟩)
  have n2g:lg≠I2:=fun q=>nW2 (.inl (.inr q.symm))
  have n2O:¬ O I2:=fun q=>nW2 (.inl (.inl (.inr q)))
  have g5':Gr G t₅.heap (fun a=>(((W a∨O a)∨a=lg)∨a=I)∨a=I2) lg gs:=by
   refine ob1_2 g4.ex fun vs a b=>?_
   exact ⟨vs,Zg k5 (fun q=>q) a,(b.strong nx2).mono (k5.keepX fun _ q=>q.elim)⟩
  have ow6:Own G Qk3 env (fun a=>(((W a∨O a)∨a=lg)∨a=I)∨a=I2) O:=ow5.wide fun a=>.inl
  have kx:Step G (fun a=>O a∨a=lg) t₂ t₄:=(k3.trans k4').mono fun a=>.inl
  refine Qdx (n:=1) (V:=nowt) (ks:=Qk3) (s:=t₄) (W:=fun a=>((W a∨O a)∨a=lg)∨a=I) (O:=O) (U:=fun a=>O a∨a=lg) c4.good (.inl rfl) dk ow5 hI2 nW2 ne2L (fun y a e=>ne2C y a e) (fun a=>.inl) (fun a ha=>.inl (hUW a ha)) (fun _ q=>q.elim) (Qw k5) c5' it2
   (GrpIn G es gs t lg (fun a=>(((W a∨O a)∨a=lg)∨a=I)∨a=I2)) ⟨[],_,rfl,rfl,hrec4,hgr4,g5'⟩ ?_ ?_
  ·rintro d rest ρ7 u₁ u₂ ⟨dn,td,hft,hr2,hrec5,hgr5,gq⟩ _ ku ku2 cu
   obtain ⟨gg,td,rfl⟩:∃ t q,td=t :: q:=by cases td with
    | nil=>cases hr2
    | cons a b=>exact in2_1 a b rfl
   obtain ⟨rfl,rfl⟩:=List.cons.inj hr2
   refine Qk9 fun Q2 E2 hQ2 hE2=>?_
   have hdn:∀ x ∈ dn,x.length <= 4:=fun x hx=>fl2 x (by rw [hft];exact List.mem_append_left _ hx)
   have hdnl:dn.length <= 16:=by
    have:=congrArg List.length hft
    rw [List.length_append] at this
    omega
   have aok:=Qkg gok hdn
   have gq2:=gq.step ku (fun a ha=>ha.elim .inr fun q=>.inl (.inl (.inl (.inr q)))) (fun q=>q.elim n2g nOg)
   have gv:upd ρ7 "group" (Xa gg) "group"=some (Xa gg):=Qd _ _ _
   have hrec6:upd ρ7 "group" (Xa gg) "records"=some (.ents es):=by simp [upd,ofString_inj,hrec5]
   have hgr6:upd ρ7 "group" (Xa gg) "groups"=some (.raw (.ref lg)):=by simp [upd,ofString_inj,hgr5]
   generalize upd ρ7 "group" (Xa gg)=ρ8 at cu gv hrec6 hgr6
   generalize hcur:dn.foldl Qi0 gs=cur at gq2 aok
   have nSg2:¬ (((W lg∨O lg)∨lg=I)∨lg=I2):=fun q=>q.elim nSg n2g
   have cS2:Cx G 1 nowt Qk3 (A.deeper env) env u₂ (fun a=>((W a∨O a)∨a=I)∨a=I2) (upd ρ8 "groups" (Qi6 cur)):=
    (cu.narrow (W:=fun a=>((W a∨O a)∨a=I)∨a=I2) (fun a ha=>ha.elim (fun q=>.inl (q.elim (fun q=>.inl (.inl q)) .inr)) .inr) fun _ q=>q.elim).reveal dk hgr6 (gq2.data (fun a ha=>ha.elim (fun q=>.inl (q.elim (fun q=>.inl (.inl q)) .inr)) .inr) nSg2)
   refine wpAny_execs_cons (wpAny_If (Ql Qgw Qq (Qb _ _ dk dk) (Qb _ _ dk dk) rfl _ env u₂ _ _ (!decide (gg ∈ cur)) _ _ cS2 ?_ fun u₃ ku3=>?_))
   ·dsimp only
    rw [Zb _ _ (by simp [ofString_inj]),gv,Qd,bS,bS,notIn_grp,bS]
    rfl
   have cu3:=cu.step ku3
   have gq3:=gq2.step ku3 (fun _ q=>q.elim) (fun q=>q)
   by_cases hin:gg ∈ cur
   ·rw [decide_eq_true hin]
    refine wpAny_execs_nil (wpAny_execs_nil (hQ2 _ _ ⟨Qw ku3,ρ8,cu3,dn ++ [gg],td,by rw [hft];simp,rfl,hrec6,hgr6,?_⟩))
    have e1:(dn ++ [gg]).foldl Qi0 gs=cur:=by rw [List.foldl_append,hcur,List.foldl_cons,List.foldl_nil];unfold Qi0;rw [if_pos hin]
    rw [e1];exact gq3
   ·rw [decide_eq_false hin]
    refine ob1_2 gq3.ex fun vs hvs hrs=>?_
    have hvl:vs.length <= 32:=by
     have:=hrs.length
     rw [List.length_map] at this
     have:=aok.few
     omega
    refine wpAny_execs_cons (Qa5 (f:=fun ρ=>ρ "group") (d:=Xa gg) (Qb _ _ dk dk) (fun _=>rfl) rfl dk dk (fun _=>rfl) (fun _=>rfl) (fun _=>rfl) cu3 hgr6 hvs gv (by rw [List.size_toArray];omega) (.inl (.inl (.inr rfl))) g0 neL neC fun w u₄ ku4 hl4 hw4 cu4=>?_)
    refine wpAny_execs_nil (wpAny_execs_nil (hQ2 _ _ ⟨(Qw ku3).trans (ku4.mono fun a=>.inr),ρ8,cu4,dn ++ [gg],td,by rw [hft];simp,rfl,hrec6,hgr6,?_⟩))
    have e1:(dn ++ [gg]).foldl Qi0 gs=cur ++ [gg]:=by rw [List.foldl_append,hcur,List.foldl_cons,List.foldl_nil];unfold Qi0;rw [if_neg hin]
    rw [e1]
    refine ⟨vs ++ [w],by simpa using hl4,?_⟩
    show RepDs _ _ _ ((cur ++ [gg]).map _)
    rw [List.map_append]
    exact (hrs.mono (ku4.keepX fun a ha=>.inl (.inl (.inr ha)))).snoc hw4
  ·rintro ρ7 u₁ h' ⟨dn,td,hft,hr2,hrec5,hgr5,gq⟩ _ hx kE cE
   have htd:td=[]:=by cases td with
    | nil=>rfl
    | cons a b=>cases hr2
   subst htd
   rw [List.append_nil] at hft
   rw [← hft] at gq
   refine wpAny_execs_nil (hQ1 _ _ ⟨kx.trans kE,ρ7,cE,done ++ [t],todo,by rw [ht];simp,rfl,hrec5,hgr5,?_⟩)
   have e1:(done ++ [t]).foldl (Jx es) grp0=(Qbs es gs t).foldl Qi0 gs:=by rw [List.foldl_append,hgs];rfl
   rw [e1]
   exact (gq.ext hx (.inr rfl) n2g).weak fun a=>.inl
 ·rintro ρ3 t₁ h' ⟨done,todo,ht,hr,hrec,hgr,g⟩ k1 hx kE cE
  have htodo:todo=[]:=by cases todo with
   | nil=>rfl
   | cons a b=>cases hr
  subst htodo
  rw [List.append_nil] at ht;replace ht:=ht
  rw [← ht] at g
  have g':Gr G h' (fun a=>((W a∨O a)∨a=lg)∨a=I) lg (Zt es):=g.ext hx (.inr rfl) nIg
  have kT:Step G nowt s { t₁ with heap:=h' }:=k12.later kE fun a ha=>.inl (ha.elim (hO a) fun q=>q ▸ newg)
  have c7:Cx G 1 nowt Qk3 (A.deeper env) env { t₁ with heap:=h' } (fun a=>W a∨O a) ρ3:=cE.narrow (fun a=>.inl) fun _ q=>q.elim
  have c8:=c7.reveal (x:="groups") dk hgr (d:=Qi6 (Zt es)) (g'.data (fun a ha=>.inl (.inl ha)) nWg)
  refine wpAny_execs_cons (Qaf (G:=G) (n:=1) (V:=nowt) (ks:=Qk3) (out:=.ret (Qi6 (Zt es))) (Qu (Qb _ _ dk dk)) c8 ow (by rw [Qd,mS]) fun fl s9 k9 r9=>?_)
  refine ob1_2 r9 ?_;rintro v' rfl r'
  exact hQ _ _ (h v' s9 (kT.later k9 fun a ha=>.inl (hO a ha)) (r'.weak fun a=>.inl))
end
noncomputable abbrev ks26:Qi:=(Qe 26).names
section
variable {G:Amb}{n:Nat}
open Classical in
theorem FnAt.ok{V:Addr->Prop}{name:Str}{ds:List D}{d:D}(x:FnAt G n V (fun _=>True) name ds d):∃ F,FnOk G n V name F∧F ds=some d:=by
 refine ob3_4 x.ex fun fa o fd hm ho hod hF=>?_
 refine ⟨fun ds'=>if ds'=ds then some d else none,⟨fa,o,fd,hm,ho,hod,fun A s W vs ds' d' Q E good ex r e h=>?_⟩,if_pos rfl⟩
 dsimp only at e
 split at e
 ·rename_i q
  obtain rfl:=Qo e
  subst q
  exact hF A s W vs Q E trivial good ex r h
 ·exact nSo e
theorem Qkc{ks:Qi}{A:Around}{env:Env}{s:Shared}{W U:Addr->Prop}{ρ:Qf}{P:Heap->Prop}{x:Str}{np pos:Pos}{args:List Expr}{fs:Qf->Option (List D)}{ds:List D}{d:D}{m:Nat}{Q:Value->Shared->Prop}{E:Value->Shared->Prop}(AG:Qv G)(hf:FnAt G m U P x ds d)(hk:ks.lookup x=some .globalImplicit)(hmn:m <= n)
  (hd:(x == ("__debug__":Str))=false)(ha:Qc4 G n nowt ks args fs)(c:Cx G n nowt ks A env s W ρ)(hUW:∀ a,U a->W a)(hds:fs ρ=some ds)(hP:∀ s',Step G nowt s s'->P s'.heap)(h:∀ v s',Step G U s s'->Rep G s'.heap W v d->Q v s'):
  wpAny (model G.prog G.w) A (eval (.Call (.Name x np) args [] pos) env) Q E s:=by
 refine ob3_4 hf.ex fun fa o fd hm ho hod hF=>?_
 refine wpAny_Call_NameR (Xc AG c.good.base c.ok hk hm hd ?_)
 refine callWith_of (P:=fun h=>G.h₀.StaysIn h) (by rw [Xn (ha.1 env)];rfl) (fun h hb=>⟨.frame,.inl rfl,?_⟩) (Zm (Xn (ha.1 env)) (ha.2 A env s W ρ ds pos _ E c hds fun vs s₁ k1 r₁=>⟨(c.step k1).good.base,?_⟩))
 ·refine (Looks.ld (part:=none) (hb _ _ ho)).andThen ?_
  rw [hod];exact .now
 ·have c1:=c.step k1
  exact hF A s₁ W vs Q E (hP s₁ k1) (c1.good.less hmn) ⟨hUW,c1.excl.live⟩ r₁ fun v s2 k2 r₂=>h v s2 ((Qw k1).trans k2) r₂
end
structure Tabs (P18 P19 P22 P5:Addr) (h:Heap):Prop where
 rows:h.get? P18=some (tabObj #[])
 nothing:h.get? P19=some (tabObj #[])
 changes:h.get? P22=some (tabObj #[])
 key:h.get? P5=some (tabObj #[])
noncomputable abbrev Qlk(rows:List (List Str))(es:List Ent):Bool:=(List.range 5).all fun k=>decide (Xw k (fun w=>((rows.getD w []).length:Int)) (List.range 16)=(((texts.map fun t=>(es.filter fun e=>decide (t ∈ e.u)).length).filter fun z=>decide (z=k)).length:Int))
theorem Qie(rows:List (List Str)):isD (Zy rows) (.data .none)=some (.data (.bool false)):=rfl
section
variable {G:Amb}[Qab G]
theorem fn_law{script:List Int}{P18 P19 P22 P5 fc:Addr}(AG:Qv G)(FO:Zp G)(EC:Qcr G)(RA:Qi1 G)(hkeep:keepIn G.K (.ref G.C)=true)(K:KOk G P5)(L18:Qe6 G 18 P18)(L19:Qe6 G 19 P19)(L22:Qe6 G 22 P22)(hfc:G.mg "cmp_to_key"=some (.ref fc))
  (hd:∀ i ∈ [3,9,10,12,13,14,15,16,17,20,21,23,24,25,26],Xf G i)(ne:P18≠P19∧P18≠P22∧P18≠P5∧P19≠P22∧P19≠P5∧P5≠P22)(hs:script.length <= 1000)
  (hrow:∀ r ∈ Qac (Zn script),Row r)(hch:changesN (Qac (Zn script)) + 1=(Zt (Zn script)).length)(hct:Qlk (Qac (Zn script)) (Zn script)=true)
  {fa:Addr}(hfa:G.mg "law"=some (.ref fa)){A:Around}{s:Shared}{W:Addr->Prop}{vs:List Value}{R:Result->Shared->Prop}(T:Tabs P18 P19 P22 P5 s.heap)(good:Good G 7 A s.heap)(ex:Excl s.heap (fun a=>a=P18∨a=P19∨a=P22∨a=P5) W)(r:RepL G s.heap W vs [Xa script])
  (h:∀ v s',Step G (fun a=>a=P18∨a=P19∨a=P22∨a=P5) s s'->Rep G s'.heap W v (.data (.bool true))->R (.ok (.ret v)) s'):codeAny (model G.prog G.w) A (.call (.ref fa) ⟨vs,[]⟩) R s:=by
 have h_t:=fn_texts (V:=nowt) AG (hd 12 (by decide))
 have h_m:=Qmj (V:=nowt) AG FO (hd 14 (by decide))
 have h_last:=fn_last (V:=nowt) AG (hd 15 (by decide))
 have h_r:=fn_right (V:=nowt) AG (hd 16 (by decide)) h_last
 have h_w:=fn_row (V:=nowt) AG (hd 17 (by decide)) h_t
 have h_3:=Qha (V:=nowt) AG (hd 10 (by decide))
 have h_d:∃ F,FnOk G 2 nowt "sorted_list_difference" F∧∀ a b:List Str,Row a->Row b->F [Qz a,Qz b]=some (.data (Qdo a b)):=⟨Qmp,fn_diff AG FO (hd 9 (by decide)),fun a b ha hb=>diffF_at ha hb⟩
 have h_ways:=fn_ways (V:=nowt) AG FO (hd 24 (by decide))
 have hF:FnOk G 3 nowt "merge_entries" mergeF:=fn_merge (n:=0) AG FO EC hkeep (hd 3 (by decide))
 refine ob1_2 (fn_counts (V:=nowt) AG FO (hd 25 (by decide)) h_t h_m h_ways) fun Fc h__law_counts_are_right eC=>?_
 refine ob1_2 (fn_halves (V:=nowt) AG FO (hd 20 (by decide)) h_3 h_d) fun Fh h__law_halves_are_right eH=>?_
 refine ob1_2 ((Qmh (script:=script) AG FO EC hkeep (hd 13 (by decide)) hs).ok) fun Fr h__law_records eR=>?_
 have h4:=Qbt script
 have hok:=Qgo script
 generalize Zn script=es at *
 refine ob1_2 ((fn_groups (es:=es) AG FO (hd 21 (by decide)) h_t h4 hok).ok) fun Fg h__law_groups eG=>?_
 have A18:=fn_rows (V:=fun a=>a=P18) (es:=es) AG FO RA L18 rfl hF h_t h_m h_r h_w h4 hok
 have A19:=Qmi (V:=fun a=>a=P19) AG FO RA L19 rfl
 have hlen:(Qac es).length=16:=by simp [Qac,Qc7]
 have A22:=Qmk (V:=fun a=>a=P22∨a=P5) (rows:=Qac es) AG FO (hd 10 (by decide)) (hd 23 (by decide)) K L22 (.inl rfl) (.inr rfl) ne.2.2.2.2.2 hfc hlen (fun r hr=>(hrow r hr).texty)
 generalize hrows:Qac es=rows at *
 refine ob1_2 ((hd 26 (by decide)).ex) fun fa' hd hm=>?_
 obtain rfl:fa'=fa:=by
  have e:G.mg "law"=some (.ref fa'):=hm
  rw [hfa] at e
  cases e
  rfl
 refine ob4_3 hd.ex fun o pm code doc ho hdat hcr=>?_
 refine ob1_2 (Xr r) ?_;rintro v0 rfl rv
 refine (Qb7 (n:=6) (V:=fun a=>a=P18∨a=P19∨a=P22∨a=P5) (W:=W) (xs:=["script"]) (ds:=[Xa script]) AG good ex (good.base _ _ ho) hdat (hcr.keeps good.base) rfl r dk dk dk rfl rfl rfl dk ?_)
 intro s₁ env O E' k1 kk c₁ ow hO hcode hqual hcells
 change Cx G 6 _ ks26 _ _ _ _ _ at c₁
 change Own G ks26 _ _ _ at ow
 have apart:=c₁.ok.apart
 have c1:=c₁.less (V':=nowt) fun _ q=>q.elim
 have l1:Xt ["script"] [Xa script] "script"=some (Xa script):=by simp [Qp]
 revert c1 l1;refine Qm2 (Xt ["script"] [Xa script]) fun ρ₁=>?_;intro c1 l1
 have t18:=kk _ _ T.rows
 have t19:=kk _ _ T.nothing
 have t22:=kk _ _ T.changes
 have t5:=kk _ _ T.key
 have nO:∀ {P:Addr}{o:Obj},s.heap.get? P=some o->¬ O P:=fun e q=>by rw [hO _ q] at e;exact nSo e
 have W18:W P18:=ex.sub _ (.inl rfl)
 have W19:W P19:=ex.sub _ (.inr (.inl rfl))
 have W22:W P22:=ex.sub _ (.inr (.inr (.inl rfl)))
 have W5:W P5:=ex.sub _ (.inr (.inr (.inr rfl)))
 have n18:=nO T.rows
 have n19:=nO T.nothing
 have n22:=nO T.changes
 have n5:=nO T.key
 refine wpAny_execs_cons (Qaf (G:=G) (n:=6) (V:=nowt) (ks:=ks26) (out:=.next (upd ρ₁ "records" (.ents es))) (Zx (Zw AG h__law_records rfl (by lia) (fun _ h=>h) dk (Qc (fun _=>rfl) (Qb _ _ dk dk) evs_nil)) (.inl rfl) dk (fun _ _=>rfl)) c1 ow (by rw [l1,bS,mS,bS,eR,mS]) fun fl s2 k2 r₂=>?_)
 obtain ⟨rfl,c₂⟩:=r₂
 have e2:=Qd ρ₁ "records" (.ents es)
 revert c₂ e2;refine Qm2 (upd ρ₁ "records" (.ents es)) fun ρ2=>?_;intro c₂ e2
 have t18:=k2.exact t18 (.inl n18) tab_cls
 have t19:=k2.exact t19 (.inl n19) tab_cls
 have t22:=k2.exact t22 (.inl n22) tab_cls
 have t5:=k2.exact t5 (.inl n5) tab_cls
 refine wpAny_execs_cons (wpAny_Assign_Name (Qkc AG A18 rfl (by lia) dk (Qc (fun _=>rfl) (Qb _ _ dk dk) evs_nil) c₂ (fun a ha=>.inl (ha ▸ W18)) (by rw [e2,bS,mS]) (fun s' k=>k.exact t18 (.inl id) tab_cls) fun v s3 k3 r₃=>?_) (by rfl))
 have c3:=c₂.stepU k3 (fun a ha=>.inl (ha ▸ W18)) (fun q=>apart.1 (.inl q)) (fun y a ha q=>apart.2 y a ha (.inl q))
 refine Qt (x:="rows") c3 ow.sub ow.base (ow.store (.inl rfl) dk) r₃ fun s4 k4 c4=>?_
 have t19:=k4.exact (k3.exact t19 (.inl (Ne.symm ne.1)) tab_cls) (.inl n19) tab_cls
 have t22:=k4.exact (k3.exact t22 (.inl (Ne.symm ne.2.1)) tab_cls) (.inl n22) tab_cls
 have t5:=k4.exact (k3.exact t5 (.inl (Ne.symm ne.2.2.1)) tab_cls) (.inl n5) tab_cls
 have w4:=Qd ρ2 "rows" (Zy rows)
 have e4:upd ρ2 "rows" (Zy rows) "records"=some (.ents es):=by simp [upd,ofString_inj,e2]
 revert c4 w4 e4;refine Qm2 (upd ρ2 "rows" (Zy rows)) fun ρ4=>?_;intro c4 w4 e4
 refine wpAny_execs_cons (wpAny_If (wpAny_isTrue_BoolOp (wpAny_allTrue_Or_cons (Ql op_is Qq (Qb _ _ dk dk) (Qaj _ _) rfl _ env s4 _ ρ4 false _ _ c4 (by dsimp only;rw [w4,bS,bS,Qie,bS];rfl) fun s5 k5=>?_))))
 have c₅:=c4.step k5
 have t19:=k5.exact t19 (.inl id) tab_cls
 have t22:=k5.exact t22 (.inl id) tab_cls
 have t5:=k5.exact t5 (.inl id) tab_cls
 refine wpAny_allTrue_Or_cons (wpAny_isTrue_Not (wpAny_isTrue_value (Qkc AG A19 rfl (by lia) dk evs_nil c₅ (fun a ha=>.inl (ha ▸ W19)) rfl (fun s' k=>k.exact t19 (.inl id) tab_cls) fun v s6 k6 r6=>?_)))
 rw [RepD.bool_inv r6]
 refine wpAny_truthy_bool ?_
 have c6:=c₅.stepU k6 (fun a ha=>.inl (ha ▸ W19)) (fun q=>apart.1 (.inr (.inl q))) (fun y a ha q=>apart.2 y a ha (.inr (.inl q)))
 have t22:=k6.exact t22 (.inl (Ne.symm ne.2.2.2.1)) tab_cls
 have t5:=k6.exact t5 (.inl (Ne.symm ne.2.2.2.2.1)) tab_cls
 refine wpAny_allTrue_Or_nil ?_
 refine wpAny_execs_nil ?_
 have hcn:changesN rows <= 15:=by
  unfold changesN
  exact Nat.le_trans (List.length_filter_le _ _) (by rw [List.length_range];exact Nat.le_refl _)
 have eL:one Qma [Qi6 (Zt es)]=some (.data (.int ((Zt es).length:Nat))):=by
  show (if (Qla (Zt es)).length <= 1000 then some (D.data (.int ((Qla (Zt es)).length:Nat))) else none)=_
  rw [List.length_map,if_pos (by lia)]
 refine wpAny_execs_cons (wpAny_If (wpAny_isTrue_Compare1 (wpAny_BinOp (Qkc AG A22 rfl (by lia) dk (Qc (fun _=>rfl) (Qb _ _ dk dk) evs_nil) c6 (fun a ha=>.inl (ha.elim (fun q=>q ▸ W22) fun q=>q ▸ W5)) (by rw [w4,bS,mS]) (fun s' k=>⟨k.exact t22 (.inl id) tab_cls,k.exact t5 (.inl id) tab_cls⟩) fun v s7 k7 r7=>?_)) (by rfl)))
 have c7:=c6.stepU k7 (fun a ha=>.inl (ha.elim (fun q=>q ▸ W22) fun q=>q ▸ W5)) (fun q=>apart.1 (.inr (.inr q))) (fun y a ha q=>apart.2 y a ha (.inr (.inr q)))
 refine Qj (G:=G) (n:=6) (V:=nowt) (ks:=ks26) _ _ _ _ env s7 _ ρ4 _ _ _ c7 rfl fun u s8 k8 r8=>?_
 have c8:=c7.step k8
 refine Qeg (G:=G) (n:=6) (V:=nowt) _ s8 _ v u _ _ _ _ _ c8.good c8.excl (c7.mono k8 r7) r8 (add_at _ _) fun x s9 k9 r9=>?_
 have c9:=c8.step k9
 refine Qip (G:=G) (n:=6) (V:=nowt) (ks:=ks26) AG FO rfl (Qc (fun _=>rfl) (Zw AG h__law_groups rfl (by lia) (fun _ h=>h) dk (Qc (fun _=>rfl) (Qb _ _ dk dk) evs_nil)) evs_nil) _ env s9 _ ρ4 _ _ _ c9 (by dsimp only;rw [e4,bS,mS,bS,eG,bS,mS,bS,eL]) fun y s10 k10 r10=>?_
 have c10:=c9.step k10
 refine Qfa (G:=G) (n:=6) (V:=nowt) _ s10 _ x y _ _ _ _ _ c10.good c10.excl (c9.mono k10 r9) r10 (ne_int _ _) fun z s11 k11 r11=>?_
 have c11:=c10.step k11
 have hz:(!decide (((changesN rows:Nat):Int) + 1=((Zt es).length:Nat)))=false:=by
  rw [← hch]
  simp
 rw [hz] at r11
 rw [RepD.bool_inv r11]
 refine wpAny_truthy_bool ?_
 refine wpAny_execs_nil ?_
 have eH1:Fh [Zy rows]=some (.data (.bool true)):=eH rows hlen hrow
 have eC1:Fc [Zy rows,.ents es]=some (.data (.bool true)):=by
  have h1:=eC rows es hlen (fun r hr=>⟨(hrow r hr).texty,by have:=(hrow r hr).few;lia⟩) h4 hok
  rw [h1]
  exact congrArg (fun b=>some (D.data (.bool b))) hct
 refine wpAny_execs_cons (Qaf (G:=G) (n:=6) (V:=nowt) (ks:=ks26) (out:=.ret (.data (.bool true))) (Qu (ev_and Qq (Zw AG h__law_halves_are_right rfl (by lia) (fun _ h=>h) dk (Qc (fun _=>rfl) (Qb _ _ dk dk) evs_nil)) (Zw AG h__law_counts_are_right rfl (by lia) (fun _ h=>h) dk (Qc (fun _=>rfl) (Qb _ _ dk dk) (Qc (fun _=>rfl) (Qb _ _ dk dk) evs_nil))))) c11 ow ?_ fun fl s12 k12 r12=>?_)
 ·rw [w4,e4]
  rw [bS,mS,bS,eH1,bS]
  show ((some true).bind _).map _=_
  rw [bS,if_pos rfl,bS,bS,mS,mS,bS,eC1,mS]
 refine ob1_2 r12 ?_;rintro v' rfl r'
 refine h v' s12 ?_ (r'.weak fun a=>.inl)
 have kA:Step G (fun a=>(a=P18∨a=P19∨a=P22∨a=P5)∨O a) s₁ s12:=by
  refine ((((((((((((k2.mono ?_).trans (k3.mono ?_)).trans (k4.mono ?_)).trans (Qw k5)).trans (k6.mono ?_)).trans (k7.mono ?_)).trans (Qw k8)).trans (Qw k9)).trans (Qw k10)).trans (Qw k11)).trans (k12.mono ?_)))
  ·exact fun a=>.inr
  ·exact fun a q=>.inl (.inl q)
  ·exact fun a=>.inr
  ·exact fun a q=>.inl (.inr (.inl q))
  ·exact fun a q=>.inl (.inr (.inr q))
  ·exact fun a=>.inr
 exact k1.later kA fun a ha=>ha.elim .inr fun q=>.inl (hO a q)
end
noncomputable abbrev KK:List Int:=[0,1,2,3]
noncomputable def Nn(es:List Ent)(t:Str)(k:Int):Bool:=decide (t ∈ (es.getD k.toNat Qi7).u)
noncomputable def gOf(es:List Ent)(T:List Str):List Int:=KK.filter fun k=>T.all fun t=>Nn es t k
noncomputable def rOf(es:List Ent)(g:List Int):List Str:=texts.filter fun t=>g.all fun k=>Nn es t k
section
variable {es:List Ent}
theorem mem_rOf{g:List Int}{t:Str}:t ∈ rOf es g↔t ∈ texts∧∀ k ∈ g,Nn es t k=true:=by
 unfold rOf
 rw [List.mem_filter,List.all_eq_true]
theorem mem_gOf{T:List Str}{k:Int}:k ∈ gOf es T↔k ∈ KK∧∀ t ∈ T,Nn es t k=true:=by
 unfold gOf
 rw [List.mem_filter,List.all_eq_true]
theorem rOf_sub{g:List Int}{t:Str}(h:t ∈ rOf es g):t ∈ texts:=(mem_rOf.mp h).1
theorem rOf_close{g:List Int}(hg:∀ k ∈ g,k ∈ KK):rOf es (gOf es (rOf es g))=rOf es g:=by
 refine List.filter_congr fun t ht=>?_
 rw [Bool.eq_iff_iff,List.all_eq_true,List.all_eq_true]
 constructor
 ·intro h k hk
  exact h k (mem_gOf.mpr ⟨hg k hk,fun t' ht'=>(mem_rOf.mp ht').2 k hk⟩)
 ·intro h k hk
  exact (mem_gOf.mp hk).2 t (mem_rOf.mpr ⟨ht,h⟩)
theorem Qil{T:List Str}(hT:∀ t ∈ T,t ∈ texts):gOf es (rOf es (gOf es T))=gOf es T:=by
 refine List.filter_congr fun k hk=>?_
 rw [Bool.eq_iff_iff,List.all_eq_true,List.all_eq_true]
 constructor
 ·intro h t ht
  exact h t (mem_rOf.mpr ⟨hT t ht,fun k' hk'=>(mem_gOf.mp hk').2 t ht⟩)
 ·intro h t ht
  exact (mem_rOf.mp ht).2 k (mem_gOf.mpr ⟨hk,h⟩)
theorem addG_mem{gs:List (List Int)}{g x:List Int}:x ∈ Qi0 gs g↔x ∈ gs∨x=g:=by
 unfold Qi0
 split
 ·rename_i h
  exact ⟨.inl,fun q=>q.elim id fun q=>q ▸ h⟩
 ·rw [List.mem_append,List.mem_singleton]
theorem Qlp:∀ {fs gs:List (List Int)}{x:List Int},x ∈ fs.foldl Qi0 gs↔x ∈ gs∨x ∈ fs
 | [],gs,x=>by simp
 | f :: fs,gs,x=>by
  rw [List.foldl_cons,Qlp,addG_mem,List.mem_cons,or_assoc]
theorem Qm0{gs:List (List Int)}{g:List Int}(h:gs.Nodup):(Qi0 gs g).Nodup:=by
 unfold Qi0
 split
 ·exact h
 ·rename_i hg
  rw [List.nodup_append]
  refine Jw h (by simp) (fun a ha b hb q=>?_)
  rw [List.mem_singleton.mp hb] at q
  exact hg (q ▸ ha)
theorem Qgf:∀ {fs gs:List (List Int)},gs.Nodup->(fs.foldl Qi0 gs).Nodup
 | [],_,h=>h
 | _ :: fs,_,h=>Qgf (fs:=fs) (Qm0 h)
theorem Qii:(Zt es).Nodup:=by
 have:∀ (ts:List Str) (gs:List (List Int)),gs.Nodup->(ts.foldl (Jx es) gs).Nodup:=by
  intro ts
  induction ts with
  | nil=>exact fun _ h=>h
  | cons t ts ih=>exact fun gs h=>ih _ (Qgf h)
 exact this texts grp0 (by decide)
theorem Qf4{T:List Str}{t:Str}:(gOf es T).filter (fun k=>decide (k ∈ Xy es t))=gOf es (t :: T):=by
 unfold gOf
 rw [List.filter_filter]
 refine List.filter_congr fun k hk=>?_
 have e:decide (k ∈ Xy es t)=Nn es t k:=by
  rw [Bool.eq_iff_iff,decide_eq_true_eq]
  unfold Xy
  rw [List.mem_filter]
  exact ⟨fun h=>h.2,fun h=>⟨hk,h⟩⟩
 rw [e,List.all_cons]
theorem Qf3:∀ (ts done:List Str) (gs:List (List Int)),(∀ g,g ∈ gs↔∃ T:List Str,(∀ t ∈ T,t ∈ done)∧g=gOf es T)->
  ∀ g,g ∈ ts.foldl (Jx es) gs↔∃ T:List Str,(∀ t ∈ T,t ∈ done ++ ts)∧g=gOf es T
 | [],done,gs,h,g=>by rw [List.append_nil];exact h g
 | t :: ts,done,gs,h,g=>by
  have key:∀ g,g ∈ Jx es gs t↔∃ T:List Str,(∀ x ∈ T,x ∈ done ++ [t])∧g=gOf es T:=by
   intro g
   unfold Jx
   rw [Qlp]
   constructor
   ·rintro (q | q)
    ·refine ob1_2 ((h g).mp q) fun T h1 h2=>?_
     exact in1_2 T (fun x hx=>List.mem_append_left _ (h1 x hx)) h2
    ·refine ob1_2 (List.mem_map.mp q) ?_;rintro g' hg' rfl
     refine ob1_2 ((h g').mp hg') ?_;rintro T h1 rfl
     refine in1_2 (t :: T) (fun x hx=>?_) Qf4
     rcases List.mem_cons.mp hx with r | r
     ·rw [r];exact List.mem_append_right _ List.mem_cons_self
     ·exact List.mem_append_left _ (h1 x r)
   ·intro z0;refine ob1_2 z0 ?_;rintro T h1 rfl
    by_cases ht:t ∈ T
    ·right
     refine List.mem_map.mpr ⟨gOf es (T.filter fun x=>decide (x≠t)),(h _).mpr ⟨_,fun x hx=>?_,rfl⟩,?_⟩
     ·obtain ⟨q1,q2⟩:=List.mem_filter.mp hx
      rcases List.mem_append.mp (h1 x q1) with r | r
      ·exact r
      ·exact absurd (List.mem_singleton.mp r) (by simpa using q2)
     ·rw [Qf4]
      refine List.filter_congr fun k _=>?_
      rw [Bool.eq_iff_iff,List.all_eq_true,List.all_eq_true]
      constructor
      ·intro q x hx
       by_cases hxt:x=t
       ·exact q x (hxt ▸ List.mem_cons_self)
       ·exact q x (List.mem_cons_of_mem _ (List.mem_filter.mpr ⟨hx,by simpa using hxt⟩))
      ·intro q x hx
       rcases List.mem_cons.mp hx with r | r
       ·exact q x (r ▸ ht)
       ·exact q x (List.mem_filter.mp r).1
    ·left
     refine (h _).mpr ⟨T,fun x hx=>?_,rfl⟩
     rcases List.mem_append.mp (h1 x hx) with r | r
     ·exact r
     ·exact absurd (List.mem_singleton.mp r ▸ hx) ht
  have:=Qf3 ts (done ++ [t]) (Jx es gs t) key g
  rw [List.append_assoc] at this
  exact this
theorem groupsOf_mem{g:List Int}:g ∈ Zt es↔∃ T:List Str,(∀ t ∈ T,t ∈ texts)∧g=gOf es T:=by
 refine Qf3 texts [] grp0 (fun g=>?_) g
 constructor
 ·intro h
  exact in1_2 [] (fun _ q=>by cases q) (List.mem_singleton.mp h)
 ·rintro ⟨T,h,rfl⟩
  have:T=[]:=by cases T with
   | nil=>rfl
   | cons a b=>exact absurd (h a List.mem_cons_self) (fun q=>by cases q)
  subst this
  exact List.mem_singleton.mpr rfl
theorem len_le{α:Type}[DecidableEq α]:∀ {l m:List α},l.Nodup->(∀ x ∈ l,x ∈ m)->l.length <= m.length
 | [],_,_,_=>Nat.zero_le _
 | x :: l,m,hn,h=>by
  refine Qx (List.nodup_cons.mp hn) fun hx hn=>?_
  have hm:=h x List.mem_cons_self
  have:=len_le (m:=m.erase x) hn fun y hy=>by
   have hne:y≠x:=fun q=>hx (q ▸ hy)
   exact (List.mem_erase_of_ne hne).mpr (h y (List.mem_cons_of_mem _ hy))
  rw [List.length_erase_of_mem hm] at this
  have:0 < m.length:=List.length_pos_of_mem hm
  rw [List.length_cons]
  omega
end
noncomputable def Qep:List (List Str)->List (List Str)
 | []=>[]
 | [a]=>[a]
 | a :: b :: r=>if a=b then Qep (b :: r) else a :: Qep (b :: r)
theorem heads_mem:∀ {q:List (List Str)}{x:List Str},x ∈ Qep q↔x ∈ q
 | [],x=>Iff.rfl
 | [a],x=>Iff.rfl
 | a :: b :: r,x=>by
  unfold Qep
  split
  ·rename_i h
   rw [heads_mem (q:=b :: r),List.mem_cons (a:=x) (b:=a)]
   exact ⟨.inr,fun q=>q.elim (fun q=>by rw [q,h];exact List.mem_cons_self) id⟩
  ·rw [List.mem_cons,heads_mem (q:=b :: r),← List.mem_cons]
theorem Qb6:∀ {q:List (List Str)},q.Pairwise (fun a b=>ltL b a=false)->(Qep q).Nodup
 | [],_=>List.nodup_nil
 | [a],_=>by unfold Qep;simp
 | a :: b :: r,h=>by
  refine Qx (List.pairwise_cons.mp h) fun h1 h2=>?_
  unfold Qep
  split
  ·exact Qb6 h2
  ·rename_i hab
   refine List.nodup_cons.mpr ⟨fun hm=>?_,Qb6 h2⟩
   have hm:=heads_mem.mp hm
   have hba:=h1 b List.mem_cons_self
   rcases List.mem_cons.mp hm with q | q
   ·exact hab q
   ·exact hab (Jt a b ((List.pairwise_cons.mp h2).1 a q) hba)
theorem Qih:∀ {q:List (List Str)}{m:Nat},q.length=m + 1->(Qep q).length=((List.range m).filter fun k=>!decide (q.getD k []=q.getD (k + 1) [])).length + 1
 | [],m,h=>by simp at h
 | [a],m,h=>by
  have:m=0:=by simpa using h.symm
  subst this
  rfl
 | a :: b :: r,m,h=>by
  obtain ⟨m,rfl⟩:∃ k,m=k + 1:=⟨r.length,by simpa using h.symm⟩
  have ih:=Qih (q:=b :: r) (m:=m) (by simpa using h)
  have e:((List.range (m + 1)).filter fun k=>!decide ((a :: b :: r).getD k []=(a :: b :: r).getD (k + 1) [])).length=(if a=b then 0 else 1) + ((List.range m).filter fun k=>!decide ((b :: r).getD k []=(b :: r).getD (k + 1) [])).length:=by
   rw [List.range_succ_eq_map,List.filter_cons,List.filter_map,]
   have e2:((fun k=>!decide ((a :: b :: r).getD k []=(a :: b :: r).getD (k + 1) [])) ∘ Nat.succ)=fun k=>!decide ((b :: r).getD k []=(b :: r).getD (k + 1) []):=by
    funext k
    rfl
   rw [e2]
   by_cases hab:a=b
   ·have:(!decide ((a :: b :: r).getD 0 []=(a :: b :: r).getD (0 + 1) []))=false:=by
     show (!decide (a=b))=false
     simp [hab]
    rw [this,if_neg (by decide),List.length_map,if_pos hab,Nat.zero_add]
   ·have:(!decide ((a :: b :: r).getD 0 []=(a :: b :: r).getD (0 + 1) []))=true:=by
     show (!decide (a=b))=true
     simp [hab]
    rw [this,if_pos rfl,List.length_cons,List.length_map,if_neg hab]
    lia
  rw [e]
  unfold Qep
  split
  ·rw [ih];lia
  ·rw [List.length_cons,ih];lia
noncomputable def Xu(rows:List (List Str)):List (List Str):=(Qdj rows).map fun w=>rows.getD w []
theorem Qhg(rows:List (List Str)):changesN rows + 1=(Qep (Xu rows)).length:=by
 have hl:=Qjo rows
 rw [Qih (m:=15) (by unfold Xu;rw [List.length_map,hl])]
 congr 1
 unfold changesN
 congr 1
 refine List.filter_congr fun k hk=>?_
 have hk:=List.mem_range.mp hk
 have e:∀ j < 16,(Xu rows).getD j []=rows.getD ((Qdj rows).getD j 0) []:=fun j hj=>by
  unfold Xu
  rw [List.getD_eq_getElem?_getD,List.getD_eq_getElem?_getD (l:=Qdj rows),List.getElem?_map,List.getElem?_eq_getElem (by lia)]
  rfl
 unfold Qbn
 rw [e k (by lia),e (k + 1) (by lia)]
theorem Qjc(rows:List (List Str)):(Xu rows).Pairwise (fun a b=>ltL b a=false):=by
 have h:=(Xb (Jd (Xo rows) (by decide:1 <= 16))).1
 refine List.Pairwise.map _ (fun i j hij=>?_) h
 rcases hij with q | q
 ·exact Qat _ _ q
 ·exact q.1
theorem Qly(rows:List (List Str)){x:List Str}:x ∈ Xu rows↔∃ w < 16,x=rows.getD w []:=by
 have hp:=Qa6 (Xo rows) (by decide:1 <= 16)
 unfold Xu
 rw [List.mem_map]
 constructor
 ·intro z0;refine ob1_2 z0 ?_;rintro w hw rfl
  exact in1_2 w (List.mem_range.mp (hp.mem_iff.mp hw)) rfl
 ·intro z0;refine ob1_2 z0 ?_;rintro w hw rfl
  exact in1_2 w (hp.mem_iff.mpr (List.mem_range.mpr hw)) rfl
theorem Qju(p:Int->Bool):∃ w < 16,Qad ((w:Nat):Int)=KK.filter p:=by
 cases h0:p 0 <;> cases h1:p 1 <;> cases h2:p 2 <;> cases h3:p 3
 ·exact in1_2 0 (by decide) (by simp only [KK,List.filter_cons,List.filter_nil,h0,h1,h2,h3];decide)
 ·exact in1_2 8 (by decide) (by simp only [KK,List.filter_cons,List.filter_nil,h0,h1,h2,h3];decide)
 ·exact in1_2 4 (by decide) (by simp only [KK,List.filter_cons,List.filter_nil,h0,h1,h2,h3];decide)
 ·exact in1_2 12 (by decide) (by simp only [KK,List.filter_cons,List.filter_nil,h0,h1,h2,h3];decide)
 ·exact in1_2 2 (by decide) (by simp only [KK,List.filter_cons,List.filter_nil,h0,h1,h2,h3];decide)
 ·exact in1_2 10 (by decide) (by simp only [KK,List.filter_cons,List.filter_nil,h0,h1,h2,h3];decide)
 ·exact in1_2 6 (by decide) (by simp only [KK,List.filter_cons,List.filter_nil,h0,h1,h2,h3];decide)
 ·exact in1_2 14 (by decide) (by simp only [KK,List.filter_cons,List.filter_nil,h0,h1,h2,h3];decide)
 ·exact in1_2 1 (by decide) (by simp only [KK,List.filter_cons,List.filter_nil,h0,h1,h2,h3];decide)
 ·exact in1_2 9 (by decide) (by simp only [KK,List.filter_cons,List.filter_nil,h0,h1,h2,h3];decide)
 ·exact in1_2 5 (by decide) (by simp only [KK,List.filter_cons,List.filter_nil,h0,h1,h2,h3];decide)
 ·exact in1_2 13 (by decide) (by simp only [KK,List.filter_cons,List.filter_nil,h0,h1,h2,h3];decide)
 ·exact in1_2 3 (by decide) (by simp only [KK,List.filter_cons,List.filter_nil,h0,h1,h2,h3];decide)
 ·exact in1_2 11 (by decide) (by simp only [KK,List.filter_cons,List.filter_nil,h0,h1,h2,h3];decide)
 ·exact in1_2 7 (by decide) (by simp only [KK,List.filter_cons,List.filter_nil,h0,h1,h2,h3];decide)
 ·exact in1_2 15 (by decide) (by simp only [KK,List.filter_cons,List.filter_nil,h0,h1,h2,h3];decide)
theorem Qgz(w:Int):∀ k ∈ Qad w,k ∈ KK:=fun k hk=>(List.mem_filter.mp hk).1
section
variable {es:List Ent}
theorem Qfw:∀ (l:List Ent) (e:Ent) (t:Str),t ∈ (Qm e l).u↔t ∈ e.u∧∀ r ∈ l,t ∈ r.u
 | [],e,t=>by simp [Qm]
 | a :: l,e,t=>by
  have:=Qfw l (Xg e a) t
  show t ∈ (Qm (Xg e a) l).u↔_
  rw [this]
  have e1:t ∈ (Xg e a).u↔t ∈ e.u∧t ∈ a.u:=by
   show t ∈ e.u.filter _↔_
   rw [List.mem_filter,decide_eq_true_eq]
  rw [e1]
  constructor
  ·rintro ⟨⟨q1,q2⟩,q3⟩
   refine ⟨q1,fun r hr=>?_⟩
   rcases List.mem_cons.mp hr with q | q
   ·exact q ▸ q2
   ·exact q3 r q
  ·rintro ⟨q1,q2⟩
   exact ⟨⟨q1,q2 a List.mem_cons_self⟩,fun r hr=>q2 r (List.mem_cons_of_mem _ hr)⟩
theorem rowAt_eq{w:Nat}(h1:1 <= w)(h2:w < 16):Qjh es w=rOf es (Qad (w:Nat)):=by
 unfold Qjh
 refine List.filter_congr fun t _=>?_
 rw [Bool.eq_iff_iff,decide_eq_true_eq,List.all_eq_true]
 unfold Qdw
 have hne:Qad (w:Nat)≠[]:=Qjt w h2 h1
 unfold Jj
 cases hm:Qad (w:Nat) with
 | nil=>exact absurd hm hne
 | cons a r=>
  show t ∈ (Qm _ _).u↔_
  rw [Qfw]
  constructor
  ·intro z0;refine Qx z0 fun q1 q2=>?_;rintro k hk
   rcases List.mem_cons.mp hk with q | q
   ·rw [q];exact decide_eq_true q1
   ·exact decide_eq_true (q2 _ (List.mem_map.mpr ⟨k,q,rfl⟩))
  ·intro q
   refine ⟨of_decide_eq_true (q a List.mem_cons_self),fun x hx=>?_⟩
   refine ob1_2 (List.mem_map.mp hx) ?_;rintro k hk rfl
   exact of_decide_eq_true (q k (List.mem_cons_of_mem _ hk))
theorem Qjf{w:Nat}(h:w < 16):(Qac es).getD w []=rOf es (Qad (w:Nat)):=by
 cases w with
 | zero=>
  show texts=_
  have:Qad ((0:Nat):Int)=[]:=by decide
  rw [this]
  exact (List.filter_eq_self.mpr fun _ _=>rfl).symm
 | succ w=>
  rw [← rowAt_eq (by lia) h]
  show (((List.range 15).map fun i=>Qjh es (i + 1))).getD w []=_
  rw [List.getD_eq_getElem?_getD,List.getElem?_map,List.getElem?_range (by lia)]
  rfl
theorem rows_row:∀ r ∈ Qac es,Row r:=by
 intro r hr
 rcases List.mem_cons.mp hr with q | q
 ·exact ⟨fun _=>true,by rw [q];exact (List.filter_eq_self.mpr fun _ _=>rfl).symm⟩
 ·refine ob1_2 (List.mem_map.mp q) ?_;rintro i _ rfl
  exact ⟨_,rfl⟩
theorem Qhy:changesN (Qac es) + 1=(Zt es).length:=by
 rw [Qhg]
 have n1:=Qb6 (Qjc (Qac es))
 have inj:∀ a ∈ Zt es,∀ b ∈ Zt es,rOf es a=rOf es b->a=b:=fun a ha b hb q=>by
  refine ob1_2 (groupsOf_mem.mp ha) ?_;rintro T h1 rfl
  refine ob1_2 (groupsOf_mem.mp hb) ?_;rintro T' h2 rfl
  rw [← Qil h1,q,Qil h2]
 have n2:((Zt es).map (rOf es)).Nodup:=by
  have:∀ l:List (List Int),l.Nodup->(∀ a ∈ l,∀ b ∈ l,rOf es a=rOf es b->a=b)->(l.map (rOf es)).Nodup:=by
   intro l
   induction l with
   | nil=>exact fun _ _=>List.nodup_nil
   | cons a l ih=>
    intro h hi
    refine Qx (List.nodup_cons.mp h) fun h1 h2=>?_
    refine List.nodup_cons.mpr ⟨fun hm=>?_,ih h2 fun x hx y hy=>hi x (List.mem_cons_of_mem _ hx) y (List.mem_cons_of_mem _ hy)⟩
    refine ob1_2 (List.mem_map.mp hm) fun b hb q=>?_
    have:=hi b (List.mem_cons_of_mem _ hb) a List.mem_cons_self q
    exact h1 (this ▸ hb)
  exact this _ Qii inj
 have same:∀ x,x ∈ Qep (Xu (Qac es))↔x ∈ (Zt es).map (rOf es):=by
  intro x
  rw [heads_mem,Qly,List.mem_map]
  constructor
  ·intro z0;refine ob1_2 z0 ?_;rintro w hw rfl
   rw [Qjf hw]
   exact in1_2 _ (groupsOf_mem.mpr ⟨rOf es (Qad (w:Nat)),fun t ht=>rOf_sub ht,rfl⟩) (rOf_close (Qgz _))
  ·rintro ⟨g,hg,rfl⟩
   refine ob1_2 (groupsOf_mem.mp hg) ?_;rintro T _ rfl
   refine ob1_2 (Qju fun k=>T.all fun t=>Nn es t k) fun w hw e=>?_
   refine in1_2 w hw ?_
   rw [Qjf hw,e]
   rfl
 have l1:=len_le n1 fun x hx=>(same x).mp hx
 have l2:=len_le n2 fun x hx=>(same x).mpr hx
 rw [List.length_map] at l1 l2
 lia
theorem bits(b0 b1 b2 b3:Bool):∀ k ∈ KK,(((if b0 then 1 else 0) + ((if b1 then 2 else 0) + ((if b2 then 4 else 0) + ((if b3 then 8 else 0) + 0)))) / 2 ^ k.toNat % 2 == 1)=(if k=0 then b0 else if k=1 then b1 else if k=2 then b2 else b3):=by
 revert b0 b1 b2 b3
 decide
theorem msk_bit{t:Str}:∀ k ∈ KK,(msk es t / 2 ^ k.toNat % 2 == 1)=Nn es t k:=by
 intro k hk
 have h:=bits (decide (t ∈ (es.getD 0 Qi7).u)) (decide (t ∈ (es.getD 1 Qi7).u)) (decide (t ∈ (es.getD 2 Qi7).u)) (decide (t ∈ (es.getD 3 Qi7).u)) k hk
 have e:msk es t=(if decide (t ∈ (es.getD 0 Qi7).u) then 1 else 0) + ((if decide (t ∈ (es.getD 1 Qi7).u) then 2 else 0) + ((if decide (t ∈ (es.getD 2 Qi7).u) then 4 else 0) + ((if decide (t ∈ (es.getD 3 Qi7).u) then 8 else 0) + 0))):=rfl
 rw [e,h]
 have hk':k=0∨k=1∨k=2∨k=3:=by simpa using hk
 rcases hk' with rfl | rfl | rfl | rfl <;> rfl
theorem rOf_sub'{w:Nat}:rOf es (Qad (w:Nat))=texts.filter fun t=>sub w (msk es t):=by
 refine List.filter_congr fun t _=>?_
 unfold sub
 rw [Bool.eq_iff_iff,List.all_eq_true,List.all_eq_true]
 constructor
 ·intro h k hk
  rw [msk_bit k (Qgz _ k hk)]
  exact h k hk
 ·intro h k hk
  rw [← msk_bit k (Qgz _ k hk)]
  exact h k hk
theorem Qdg{k:Nat}{f g:Nat->Int}:∀ {ws:List Nat},(∀ w ∈ ws,f w=g w)->Xw k f ws=Xw k g ws
 | [],_=>rfl
 | w :: ws,h=>by
  unfold Xw
  rw [h w List.mem_cons_self,Qdg fun x hx=>h x (List.mem_cons_of_mem _ hx)]
theorem four{α:Type}{l:List α}(h:l.length=4):∃ a b c d,l=[a,b,c,d]:=by
 refine ob2_1 (List.exists_cons_of_length_eq_add_one h) ?_;rintro a l rfl
 replace h:=Nat.succ.inj h
 refine ob2_1 (List.exists_cons_of_length_eq_add_one h) ?_;rintro b l rfl
 replace h:=Nat.succ.inj h
 refine ob2_1 (List.exists_cons_of_length_eq_add_one h) ?_;rintro c l rfl
 replace h:=Nat.succ.inj h
 refine ob2_1 (List.exists_cons_of_length_eq_add_one h) ?_;rintro d l rfl
 exact in4_1 a b c d (by rw [List.eq_nil_of_length_eq_zero (Nat.succ.inj h)])
theorem named_len{t:Str}(h4:es.length=4):(Qad (msk es t)).length=(es.filter fun e=>decide (t ∈ e.u)).length:=by
 have h:=congrArg List.length (msk_memb es t)
 rw [List.length_map] at h;replace h:=h
 rw [h]
 refine ob4_1 (four h4) ?_;rintro a b c d rfl
 simp only [List.range,List.range.loop,List.filter_cons,List.filter_nil,List.getD_cons_zero,List.getD_cons_succ]
 cases decide (t ∈ a.u) <;> cases decide (t ∈ b.u) <;> cases decide (t ∈ c.u) <;> cases decide (t ∈ d.u) <;> rfl
theorem Qjm(h4:es.length=4):Qlk (Qac es) es=true:=by
 rw [List.all_eq_true]
 intro k hk
 have hk:=List.mem_range.mp hk
 rw [decide_eq_true_eq,Qdg (g:=fun w=>((texts.filter fun t=>sub w (msk es t)).length:Int)) (fun w hw=>by rw [Qjf (List.mem_range.mp hw),rOf_sub']),Qgd hk (msk es) texts fun t _=>msk_lt es t,List.filter_map,List.length_map]
 congr 2
 refine List.filter_congr fun t _=>?_
 show decide ((Qad (msk es t)).length=k)=decide ((es.filter fun e=>decide (t ∈ e.u)).length=k)
 rw [named_len h4]
end
theorem ws:OpenLaw.wellSaid PySem.Challenge.rw_il0051_01=true:=by
 unfold OpenLaw.wellSaid OpenRow.wellSaid OpenRow.partSaid looksOpen
 repeat' with_reducible refine look_both ?_ ?_
 all_goals decide +kernel
noncomputable def fdIn(K:Frag)(a:Addr):Option FuncData:=match K.lookup a with
 | some ⟨_,_,.func fd,_⟩=>some fd
 | _=>none
noncomputable def Qlm(K:Frag)(a:Addr):Bool:=match fdIn K a with
 | some fd=>(match fd.code with
  | .ref c=>(match K.lookup c with
   | some ⟨_,_,.fields vs,_⟩=>(match (vs[1]?:Option Value) with
    | some (.str q _)=>q == fd.qualname
    | _=>false)
   | _=>false)
  | _=>false)
 | none=>false
noncomputable def tupOk(K:Frag)(a x:Addr):Bool:=match K.lookup a with
 | some ⟨_,_,.seq vs _,_⟩=>vs.toList == [.ref x]
 | _=>false
structure KFacts (K:Frag):Prop where
 noT:noTabs K=true
 entry:nsIn K mainGlobals "Entry"=some (some (.ref 59))
 name:(nsIn K mainGlobals "__name__").any (·.isSome)=true
 reduce:nsIn K mainGlobals "reduce"=some (some (.ref 86))
 missing:nsIn K mainGlobals "_initial_missing"=some (some (.ref 78))
 free:(usedNames.all fun x=>nsIn K mainGlobals x == some none)=true
 entGet:findIn K (.ref 59) "__getattribute__"=some (some (.builtin "object.__getattribute__"))
 entHas:hasDictIn K 59=true
 entAttr:((["useragents","rulelines","delay","req_rate"]:List Str).all fun a=>findIn K (.ref 59) a == some none)=true
 set:findIn K (.ref 59) "__setattr__"=some (some (.builtin "object.__setattr__"))
 plain:plainOver K 59=true
 taker:((["useragents","rulelines","delay","req_rate"]:List Str).all fun a=>(takerIn K 59 a).any (·.isNone))=true
 makes:makesIn K 59=true
 keep:keepIn K (.ref 59)=true
 init:findIn K (.ref 59) "__init__"=some (some (.ref 35))
 initTy:typeIn K (.ref 35)=some (.type "function")
 initFd:(fdIn K 35).map (fun fd=>(fd.body,fd.scope,fd.globals,fd.builtins,fd.closure))=some (.stmts Qk7,Qig,mainGlobals,builtinsNs,[])
 initBind:∀ v,(fdIn K 35).map (fun fd=>bindArgs fd ⟨[v],[]⟩)=some (pure [(("self":Str),v)])
 initCode:Qlm K 35=true
 redFd:(fdIn K 86).map (fun fd=>(fd.body,fd.scope,fd.globals,fd.builtins,fd.closure,fd.defaults))=some (.stmts (Jl 7),Qe 7,mainGlobals,builtinsNs,[],.ref 79)
 redBind:∀ f l:Value,∃ k:Option (Array Value)->Sem (List (Str × Value)),(fdIn K 86).map (fun fd=>bindArgs fd ⟨[f,l],[]⟩)=some (seqItems? (.ref 79) >>= k)∧k (some #[.ref 78])=pure [(("function":Str),f),(("sequence":Str),l),(("initial":Str),.ref 78)]
 redCode:Qlm K 86=true
 redDef:tupOk K 79 78=true
 tp:nsIn K cStatics "thirdparty.any"=some none
 t5:tabIn K "cmp_to_key"=some (76,72)
 t18:tabIn K "_law_rows"=some (136,134)
 t19:tabIn K "_law_nothing_is_refused"=some (143,139)
 t22:tabIn K "_law_changes"=some (158,156)
noncomputable def Qlr(p:Program):Prop:=∀ i ∈ [3,5,9,10,12,13,14,15,16,17,18,19,20,21,22,23,24,25,26],((PyProof.Rows.recsOf p).find? fun e=>e.name == Jn i).map (fun d=>(d.name,d.params,d.body,d.scope))=some (Jn i,Qiz i,Jl i,Qe i)
noncomputable abbrev TABS:List (Addr × Addr):=[(76,72),(158,156),(143,139),(136,134)]
theorem fd_at{K:Frag}{h:Heap}{a:Addr}{fd:FuncData}(X:K.In h)(e:fdIn K a=some fd):∃ o,h.get? a=some o∧o.data=.func fd:=by
 unfold fdIn at e
 split at e
 ·rename_i q
  obtain rfl:=Qo e
  exact in1_2 _ (X _ _ q) rfl
 ·exact nSo e
theorem code_at{K:Frag}{h:Heap}{a:Addr}{fd:FuncData}(X:K.In h)(e:fdIn K a=some fd)(c:Qlm K a=true):h.CodeRec fd.code fd.qualname:=by
 unfold Qlm at c
 rw [e] at c
 dsimp only at c
 split at c
 ·rename_i cc hc
  split at c
  ·rename_i vs _ q
   split at c
   ·rename_i qn t hq
    rw [eq_of_beq c] at hq
    exact in4_4 cc _ vs t hc (X _ _ q) rfl hq
   ·exact fT c
  ·exact fT c
 ·exact fT c
theorem ints_rep{h:Heap}{W:Addr->Prop}{vs:List Value}{ns:List Int}(i:IntsAre vs ns):RepDs h W vs (ns.map .int):=by
 induction i with
 | nil=>exact .nil
 | cons=>exact .cons (RepD.int _ _) (by assumption)
section
variable {view prog:Program}{loose:List Str}{mean:ExcName->Option Value}{mg mb:Str->Option Value}{s₁:Shared}{K:Frag}{w:World}
noncomputable def Qmg(prog:Program)(w:World)(h:Heap)(mg mb:Str->Option Value)(K:Frag):Amb:={ prog,w,h₀:=ghostOf h TABS,mg,mb,K,C:=59,hot:=False }
theorem ghost_rec{h:Heap}{cd:Value}{q:Str}(hT:TabsAt TABS h)(x:h.CodeRec cd q):(ghostOf h TABS).CodeRec cd q:=by
 refine ob4_4 x fun c o vs t e ho hd hv=>?_
 refine in4_4 c o vs t e (ghost_get hT ho (fun r=>?_)) hd hv
 rw [r] at hd;replace hd:=hd
 cases hd
 simp at hv
theorem Qj2(T:Top view loose mean mg mb s₁.heap)(D:Qlr view)(hT:TabsAt TABS s₁.heap){i:Nat}(hi:i ∈ [3,5,9,10,12,13,14,15,16,17,18,19,20,21,22,23,24,25,26]):
  ∃ fa o pm code doc,(ghostOf s₁.heap TABS).get? fa=some o∧s₁.heap.get? fa=some o∧o.data=.func (Calls.docDef (Jn i) (Qiz i) (Jl i) (Qe i) pm code doc)∧(ghostOf s₁.heap TABS).CodeRec code (Jn i)∧mg (Jn i)=some (.ref fa):=by
 have e:=D i hi
 rw [Option.map_eq_some_iff] at e
 refine ob1_2 e fun d hd q=>?_
 refine ob5_4 (T.fn d (List.mem_of_find?_eq_some hd)) fun fa o pm code doc h1 h2 h3 h4=>?_
 obtain ⟨n,p,b,s,pos⟩:=d
 simp only [Prod.mk.injEq] at q
 obtain ⟨rfl,rfl,rfl,rfl⟩:=q
 exact in5_5 fa o pm code doc (ghost_get hT h2 (fun r=>by rw [r] at h3;cases h3)) h2 h3 (ghost_rec hT h4) h1
theorem Qmq(T:Top view loose mean mg mb s₁.heap)(D:Qlr view)(hT:TabsAt TABS s₁.heap){i:Nat}(hi:i ∈ [3,5,9,10,12,13,14,15,16,17,18,19,20,21,22,23,24,25,26]):Xf (Qmg prog w s₁.heap mg mb K) i:=by
 refine ob5_5 (Qj2 T D hT hi) fun fa o pm code doc h1 _ h3 h4 h5=>?_
 exact ⟨fa,⟨o,pm,code,doc,h1,h3,h4⟩,h5⟩
theorem Qcj(T:Top view loose mean mg mb s₁.heap)(X:K.In s₁.heap)(D:Qlr view)(hT:TabsAt TABS s₁.heap){i:Nat}(hi:i ∈ [3,5,9,10,12,13,14,15,16,17,18,19,20,21,22,23,24,25,26]){c P:Addr}(ht:tabIn K (Jn i)=some (c,P))(hC:CodeHd (ghostOf s₁.heap TABS) c P):DefTab (Qmg prog w s₁.heap mg mb K) i P:=by
 refine ob5_5 (Qj2 T D hT hi) fun fa o pm code doc h1 h2 h3 h4 h5=>?_
 have e:code=.ref c:=law_code X T.g ht h5 h2 h3
 subst e
 exact ⟨fa,o,pm,c,doc,h1,h3,h4,hC,h5⟩
theorem bm_of(T:Top view loose mean mg mb s₁.heap)(hT:TabsAt TABS s₁.heap){P:Addr}(hP:s₁.heap.get? P=some (tabObj #[])):(ghostOf s₁.heap TABS).BuiltinsAt mg P:=by
 refine ob2_6 T.bmain fun bm ob a1 a2 a3 a4 a5 a6=>?_
 refine in2_8 bm ob a1 a2 (fun q=>?_) (fun q=>?_) (ghost_get hT a3 (fun r=>by rw [r] at a4;cases a4)) a4 a5 a6
 ·refine ob3_3 T.g fun o es ep ho hd _=>?_
  rw [← q,a3] at ho
  obtain rfl:=Qo ho
  rw [a6] at hd;replace hd:=hd
  cases hd
 ·rw [← q,a3] at hP;replace hP:=hP
  obtain rfl:=Qo hP
  cases a4
theorem finish(T:Top view loose mean mg mb s₁.heap)(X:K.In s₁.heap)(F:KFacts K)(D:Qlr view)(hT:TabsAt TABS s₁.heap)(hg:s₁.gens=#[])(him:importsNone view=true){fa l:Addr}{ns:List Int}{vs:List Value}(hmg:mg "law"=some (.ref fa))(hl:s₁.heap.IsList l (List.toArray vs))(hi:IntsAre vs ns)(hlen:ns.length <= 63)
  {cw:ClaimW}{cl:Str->Option Addr}{mean':ExcName->Option Value}{args:List WData}(hr:∀ a x,cw.raises a x=false)(hp:cw.post args (.bool true) args=true):
  codeAny (model prog w) callerA (.call (.ref fa) ⟨[.ref l],[]⟩) (GoodWG cw cl mean' args s₁) s₁:=by
 refine kn_post hT hr ?_
 have X0:K.In (ghostOf s₁.heap TABS):=ghost_K hT X F.noT
 have AG:Qv (Qmg prog w s₁.heap mg mb K):=⟨ghost_ns hT T.g,ghost_ns hT T.b,T.builtins,ob1_2 T.nolimit fun mc a r=>⟨mc,ghost_ns hT a,r⟩,X0,F.entGet,F.entHas,fun a ha=>eq_of_beq (List.all_eq_true.mp F.entAttr a ha)⟩
 have FO:Zp (Qmg prog w s₁.heap mg mb K):=fun x hx=>mg_none_of X T.g (eq_of_beq (List.all_eq_true.mp F.free x hx))
 have EC:Qcr (Qmg prog w s₁.heap mg mb K):=by
  refine ⟨F.set,F.plain,fun a ha=>?_,F.makes,?_,mg_of X T.g F.entry⟩
  ·have:=List.all_eq_true.mp F.taker a ha
   show takerIn K 59 a=some none
   cases h:takerIn K 59 a with
   | none=>rw [h] at this;exact fT this
   | some v=>cases v with
    | none=>rfl
    | some v=>rw [h] at this;exact fT this
  ·have e:=F.initFd
   rw [Option.map_eq_some_iff] at e;replace e:=e
   refine ob1_2 e fun fd hfd q=>?_
   simp only [Prod.mk.injEq] at q
   refine Qaa q fun q1 q2 q3 q4 q5=>?_
   refine ob1_2 (fd_at X0 hfd) fun o ho hd=>?_
   refine in3_10 35 fd o F.init F.initTy ho hd (code_at X0 hfd F.initCode) q3 q4 q5 q1 ⟨q2,fun v=>?_⟩
   have:=F.initBind v
   rw [hfd] at this
   exact Option.some.inj this
 have RA:Qi1 (Qmg prog w s₁.heap mg mb K):=by
  have e:=F.redFd
  rw [Option.map_eq_some_iff] at e
  refine ob1_2 e fun fd hfd q=>?_
  simp only [Prod.mk.injEq] at q
  refine ob0_6 q fun q1 q2 q3 q4 q5 q6=>?_
  refine ob1_2 (fd_at X0 hfd) fun o ho hd=>?_
  refine ⟨86,o,fd,78,mg_of X T.g F.reduce,ho,hd,code_at X0 hfd F.redCode,q1,q2,q3,q4,q5,mg_of X T.g F.missing,fun s hs f l=>?_⟩
  refine ob1_2 (F.redBind f l) fun k hk1 hk2=>?_
  rw [hfd] at hk1
  have hd79:=F.redDef
  unfold tupOk at hd79
  split at hd79
  ·rename_i c d vs n sl q
   have ev:vs=#[.ref 78]:=by
    have:=eq_of_beq hd79
    exact Array.toList_inj.mp this
   subst ev
   exact BindsTo.of_defaults q6 (hs _ _ (X0 _ _ q)) rfl ((Option.some.inj hk1).trans (by rw [q6])) hk2
  ·exact fT hd79
 have gc:=ghost_code hT
 have t72:s₁.heap.get? 72=some (tabObj #[]):=(hT (76,72) (by decide)).2
 have t156:s₁.heap.get? 156=some (tabObj #[]):=(hT (158,156) (by decide)).2
 have t139:s₁.heap.get? 139=some (tabObj #[]):=(hT (143,139) (by decide)).2
 have t134:s₁.heap.get? 134=some (tabObj #[]):=(hT (136,134) (by decide)).2
 have p0:∀ P ∈ TABS.map (·.2),(ghostOf s₁.heap TABS).get? P=none:=fun P hP=>hideAll_none _ hP
 have KO:KOk (Qmg prog w s₁.heap mg mb K) 72:=by
  refine ⟨Qcj T X D hT (i:=5) (by decide) F.t5 gc.1,bm_of T hT t72,?_,F.tp,p0 72 (by decide),?_⟩
  ·have:=F.name
   cases h:nsIn K mainGlobals "__name__" with
   | none=>rw [h] at this;exact fT this
   | some v=>cases v with
    | none=>rw [h] at this;exact fT this
    | some v=>
     show (mg "__name__").isSome=true
     rw [mg_of X T.g h];rfl
  ·refine ob1_2 ((T.seer him).mods) fun mm hmm _=>?_
   refine ob3_2 (ghost_ns hT hmm) fun o _ _ ho _=>?_
   exact ⟨o,ho⟩
 have L18:Qe6 (Qmg prog w s₁.heap mg mb K) 18 134:=⟨Qcj T X D hT (i:=18) (by decide) F.t18 gc.2.2.2.1,bm_of T hT t134,p0 134 (by decide)⟩
 have L19:Qe6 (Qmg prog w s₁.heap mg mb K) 19 139:=⟨Qcj T X D hT (i:=19) (by decide) F.t19 gc.2.2.1,bm_of T hT t139,p0 139 (by decide)⟩
 have L22:Qe6 (Qmg prog w s₁.heap mg mb K) 22 156:=⟨Qcj T X D hT (i:=22) (by decide) F.t22 gc.2.1,bm_of T hT t156,p0 156 (by decide)⟩
 refine ob5_5 (Qj2 T D hT (i:=5) (by decide)) fun fc _ _ _ _ _ _ _ _ hfc=>?_
 haveI:Qab (Qmg prog w s₁.heap mg mb K):=⟨id⟩
 have good:Good (Qmg prog w s₁.heap mg mb K) 7 callerA s₁.heap:=⟨fun b o e=>of_hideAll _ e,.inr rfl,by decide,by decide,⟨[],rfl,fun _ q=>by cases q⟩⟩
 have nl:∀ P,s₁.heap.get? P=some (tabObj #[])->l≠P:=fun P hP q=>by
  refine ob1_3 hl fun o e c _=>?_
  rw [q,hP] at e
  obtain rfl:=Qo e
  cases c
 refine fn_law (G:=Qmg prog w s₁.heap mg mb K) (script:=ns) (P18:=134) (P19:=139) (P22:=156) (P5:=72) (fc:=fc) AG FO EC RA F.keep KO L18 L19 L22 hfc (fun i hi'=>Qmq T D hT (by
   have:∀ i ∈ [3,9,10,12,13,14,15,16,17,20,21,23,24,25,26],i ∈ [3,5,9,10,12,13,14,15,16,17,18,19,20,21,22,23,24,25,26]:=by decide
   exact this i hi')) (by decide) (by lia) rows_row Qhy (Qjm (Qbt ns))
  (W:=fun a=>a=134∨a=139∨a=156∨a=72) hmg ⟨t134,t139,t156,t72⟩ good ⟨fun _ q=>q,fun a ha=>?_⟩ ⟨RepD.list (fun q=>?_) hl (ints_rep hi),trivial⟩ fun v s' k r=>?_
 ·rcases ha with rfl | rfl | rfl | rfl
  ·exact ⟨_,t134⟩
  ·exact ⟨_,t139⟩
  ·exact ⟨_,t156⟩
  ·exact ⟨_,t72⟩
 ·rcases q with q | q | q | q
  ·exact nl _ t134 q
  ·exact nl _ t139 q
  ·exact nl _ t156 q
  ·exact nl _ t72 q
 ·have hv:v=.bool true:=RepD.bool_inv r
  subst hv
  refine Jo k.os fun e1 e2 _=>?_
  refine ⟨⟨.inl ⟨.bool true,.bool true,[],rfl,fun x=>hr args x,.bool true,hp,fun _=>⟨List.nodup_nil,fun _ q=>by cases q⟩⟩,fun b o e=>k.base b o e (of_hideAll _ e),e1,e2.trans hg⟩,?_⟩
  exact ⟨k.tab 72 ⟨_,t72⟩,k.tab 156 ⟨_,t156⟩,k.tab 139 ⟨_,t139⟩,k.tab 134 ⟨_,t134⟩,trivial⟩
end
section
def vw:Program:={ PySem.Challenge.pw_il0051_01 with main:={ PySem.Challenge.pw_il0051_01.main with body:=([0,2,3,5,6,9,10,12,13,14,15,16,17,18,19,20,21,22,23,24,25,26]:List Nat).filterMap fun i=>PySem.Challenge.pw_il0051_01.main.body[i]? } }
abbrev rr:OpenRow:=PySem.W.OpenLaw.row PySem.Challenge.rw_il0051_01
abbrev ll:List Str:=[Str.ofString "_initial_missing",Str.ofString "reduce"]
set_option maxRecDepth 100000 in
set_option maxHeartbeats 8000000 in
theorem hd(H:Hook){d:DefRec}{kwd:List (Str × Expr)}(left:LeftO rr.prog vw ll (fun s=>PySem.W.xlAt vw [] s && PySem.W.recOk (PySem.W.RowW.records (PySem.W.OpenRow.toRowW rr)) s) (PySem.W.Hook.obs H) (PySem.W.Hook.val H) 2092)(hw:rr.toRowW.promised)
  (call:WalkO vw ll (PySem.W.XL vw []) (PySem.W.Hook.says H) rr.toRowW d kwd fun f vs=>PySem.call f vs)(hdef:defOf vw rr.name=some (d,kwd):=by rfl)(hp:rr.prog.theDef rr.name=some (d.params,d.body,d.scope):=by rfl)(hk:kwWritten? d.params.kwonlyargs d.params.kw_defaults=some kwd:=by rfl)(k1:rr.wellSaid=true:=by assumption):rr.Holds:=
 PySem.W.holds_open left (PySem.W.Hook.of H) (PySem.W.Hook.keeps H) (fun s e=>PySem.W.xl_of s (Bool.and_eq_true_iff.mp e).1) PySem.W.XL.keeps hdef hp hk (fun s e=>PySem.W.recFacts_of (Bool.and_eq_true_iff.mp e).2) (by rfl) k1 dk ⟨rfl,rfl,rfl,rfl,rfl,by decide +kernel⟩ hw call
end
end Mine
local macro_rules
 | `(tactic| o_head $H)=>`(tactic| refine Mine.hd $H ?hl ?hw ?hc)
set_option maxRecDepth 100000 in
set_option maxHeartbeats 8000000 in
theorem PySem.Challenge.cw_il0051_01_holds : PySem.Challenge.rw_il0051_01.Holds := by
 w_on
 refine PySem.W.holds_law Mine.ws fun said=>?_
 k_head
 case hl=>intro w;kernel_rfl
 case hw=>w_witness2
 w_strict (
  k_fill
  intro w s₀ s₁ mg mb G Y fa o pm cd doc dV kV ho hd hcd hD hmg hg args vals as hpre hlay hrd hwl hlo
  have KX:=km_in_of Y
  km_tabs Y
  refine Ground.open G ?_
  intro T B D TE TW
  try (refine guard_noD D (by decide +kernel) ?_;clear D)
  km_lay T hmg ho hd cd
  wrow_args hpre hlay hrd hwl hlo
  all_goals (
   first | refine callC_kw (enter_call ?_) | refine enter_call ?_
   refine Mine.finish T KX ?kf ?df hT9 hg (by kernel_rfl) hmg (by assumption) (by assumption) (by omega) (fun _ _=>rfl) (by kernel_rfl)
   case df=>
    intro i hi
    simp only [List.mem_cons,List.not_mem_nil,or_false] at hi
    rcases hi with rfl | rfl | rfl | rfl | rfl | rfl | rfl | rfl | rfl | rfl | rfl | rfl | rfl | rfl | rfl | rfl | rfl | rfl | rfl
    all_goals kernel_rfl
   case kf=>
    constructor
    case redBind=>exact fun f l=>⟨_,rfl,rfl⟩
    case initBind=>exact fun v=>by kernel_rfl
    all_goals kernel_rfl))
