import PyProof.Rows.All
import Wide.All
import OpenK.AllK
import Wide.FinOn
import KE.KRevIter
import KE.KLam
import Lean
import PySem.Challenge.RW_wf0108_02
set_option linter.all false
set_option tactic.hygienic false
set_option maxHeartbeats 0
set_option maxRecDepth 100000
set_option genSizeOf false
set_option genInjectivity false
open PySem PySem.Calls PyProof.Rows PySem.SeqAt PySem.W
namespace Mine.Internal
local macro_rules (kind := Lean.Parser.Command.declaration)
  | s=>if s.getPos?.isNone then Lean.Macro.throwUnsupported else pure (s.rewriteBottomUp fun x=>x.setInfo .none)
theorem k0_2 {G:Prop}{p0 p1:Prop}(h:p0/\p1)(k:p0->p1->G):G:=k h.1 h.2
theorem k0_3 {G:Prop}{p0 p1 p2:Prop}(h:p0/\p1/\p2)(k:p0->p1->p2->G):G:=k h.1 h.2.1 h.2.2
theorem k0_4 {G:Prop}{p0 p1 p2 p3:Prop}(h:p0/\p1/\p2/\p3)(k:p0->p1->p2->p3->G):G:=k h.1 h.2.1 h.2.2.1 h.2.2.2
theorem k0_5 {G:Prop}{p0 p1 p2 p3 p4:Prop}(h:p0/\p1/\p2/\p3/\p4)(k:p0->p1->p2->p3->p4->G):G:=k h.1 h.2.1 h.2.2.1 h.2.2.2.1 h.2.2.2.2
theorem k0_6 {G:Prop}{p0 p1 p2 p3 p4 p5:Prop}(h:p0/\p1/\p2/\p3/\p4/\p5)(k:p0->p1->p2->p3->p4->p5->G):G:=k h.1 h.2.1 h.2.2.1 h.2.2.2.1 h.2.2.2.2.1 h.2.2.2.2.2
theorem k0_7 {G:Prop}{p0 p1 p2 p3 p4 p5 p6:Prop}(h:p0/\p1/\p2/\p3/\p4/\p5/\p6)(k:p0->p1->p2->p3->p4->p5->p6->G):G:=k h.1 h.2.1 h.2.2.1 h.2.2.2.1 h.2.2.2.2.1 h.2.2.2.2.2.1 h.2.2.2.2.2.2
theorem k0_8 {G:Prop}{p0 p1 p2 p3 p4 p5 p6 p7:Prop}(h:p0/\p1/\p2/\p3/\p4/\p5/\p6/\p7)(k:p0->p1->p2->p3->p4->p5->p6->p7->G):G:=k h.1 h.2.1 h.2.2.1 h.2.2.2.1 h.2.2.2.2.1 h.2.2.2.2.2.1 h.2.2.2.2.2.2.1 h.2.2.2.2.2.2.2
theorem k1_1.{u0} {G:Prop}{α0:Sort u0}{p0:α0->Prop}(h:∃ x0,p0 x0)(k:∀ x0,p0 x0->G):G:=h.elim k
theorem k1_2.{u0} {G:Prop}{α0:Sort u0}{p0 p1:α0->Prop}(h:∃ x0,p0 x0/\p1 x0)(k:∀ x0,p0 x0->p1 x0->G):G:=h.elim fun x h=>k0_2 h (k x)
theorem k1_3.{u0} {G:Prop}{α0:Sort u0}{p0 p1 p2:α0->Prop}(h:∃ x0,p0 x0/\p1 x0/\p2 x0)(k:∀ x0,p0 x0->p1 x0->p2 x0->G):G:=h.elim fun x h=>k0_3 h (k x)
theorem k1_4.{u0} {G:Prop}{α0:Sort u0}{p0 p1 p2 p3:α0->Prop}(h:∃ x0,p0 x0/\p1 x0/\p2 x0/\p3 x0)(k:∀ x0,p0 x0->p1 x0->p2 x0->p3 x0->G):G:=h.elim fun x h=>k0_4 h (k x)
theorem k1_5.{u0} {G:Prop}{α0:Sort u0}{p0 p1 p2 p3 p4:α0->Prop}(h:∃ x0,p0 x0/\p1 x0/\p2 x0/\p3 x0/\p4 x0)(k:∀ x0,p0 x0->p1 x0->p2 x0->p3 x0->p4 x0->G):G:=h.elim fun x h=>k0_5 h (k x)
theorem k1_6.{u0} {G:Prop}{α0:Sort u0}{p0 p1 p2 p3 p4 p5:α0->Prop}(h:∃ x0,p0 x0/\p1 x0/\p2 x0/\p3 x0/\p4 x0/\p5 x0)(k:∀ x0,p0 x0->p1 x0->p2 x0->p3 x0->p4 x0->p5 x0->G):G:=h.elim fun x h=>k0_6 h (k x)
theorem k1_7.{u0} {G:Prop}{α0:Sort u0}{p0 p1 p2 p3 p4 p5 p6:α0->Prop}(h:∃ x0,p0 x0/\p1 x0/\p2 x0/\p3 x0/\p4 x0/\p5 x0/\p6 x0)(k:∀ x0,p0 x0->p1 x0->p2 x0->p3 x0->p4 x0->p5 x0->p6 x0->G):G:=h.elim fun x h=>k0_7 h (k x)
theorem k2_1.{u0,u1} {G:Prop}{α0:Sort u0}{α1:Sort u1}{p0:α0->α1->Prop}(h:∃ x0 x1,p0 x0 x1)(k:∀ x0 x1,p0 x0 x1->G):G:=h.elim fun x h=>k1_1 h (k x)
theorem k2_2.{u0,u1} {G:Prop}{α0:Sort u0}{α1:Sort u1}{p0 p1:α0->α1->Prop}(h:∃ x0 x1,p0 x0 x1/\p1 x0 x1)(k:∀ x0 x1,p0 x0 x1->p1 x0 x1->G):G:=h.elim fun x h=>k1_2 h (k x)
theorem k2_3.{u0,u1} {G:Prop}{α0:Sort u0}{α1:Sort u1}{p0 p1 p2:α0->α1->Prop}(h:∃ x0 x1,p0 x0 x1/\p1 x0 x1/\p2 x0 x1)(k:∀ x0 x1,p0 x0 x1->p1 x0 x1->p2 x0 x1->G):G:=h.elim fun x h=>k1_3 h (k x)
theorem k2_4.{u0,u1} {G:Prop}{α0:Sort u0}{α1:Sort u1}{p0 p1 p2 p3:α0->α1->Prop}(h:∃ x0 x1,p0 x0 x1/\p1 x0 x1/\p2 x0 x1/\p3 x0 x1)(k:∀ x0 x1,p0 x0 x1->p1 x0 x1->p2 x0 x1->p3 x0 x1->G):G:=h.elim fun x h=>k1_4 h (k x)
theorem k2_5.{u0,u1} {G:Prop}{α0:Sort u0}{α1:Sort u1}{p0 p1 p2 p3 p4:α0->α1->Prop}(h:∃ x0 x1,p0 x0 x1/\p1 x0 x1/\p2 x0 x1/\p3 x0 x1/\p4 x0 x1)(k:∀ x0 x1,p0 x0 x1->p1 x0 x1->p2 x0 x1->p3 x0 x1->p4 x0 x1->G):G:=h.elim fun x h=>k1_5 h (k x)
theorem k2_6.{u0,u1} {G:Prop}{α0:Sort u0}{α1:Sort u1}{p0 p1 p2 p3 p4 p5:α0->α1->Prop}(h:∃ x0 x1,p0 x0 x1/\p1 x0 x1/\p2 x0 x1/\p3 x0 x1/\p4 x0 x1/\p5 x0 x1)(k:∀ x0 x1,p0 x0 x1->p1 x0 x1->p2 x0 x1->p3 x0 x1->p4 x0 x1->p5 x0 x1->G):G:=h.elim fun x h=>k1_6 h (k x)
theorem k2_7.{u0,u1} {G:Prop}{α0:Sort u0}{α1:Sort u1}{p0 p1 p2 p3 p4 p5 p6:α0->α1->Prop}(h:∃ x0 x1,p0 x0 x1/\p1 x0 x1/\p2 x0 x1/\p3 x0 x1/\p4 x0 x1/\p5 x0 x1/\p6 x0 x1)(k:∀ x0 x1,p0 x0 x1->p1 x0 x1->p2 x0 x1->p3 x0 x1->p4 x0 x1->p5 x0 x1->p6 x0 x1->G):G:=h.elim fun x h=>k1_7 h (k x)
theorem k3_1.{u0,u1,u2} {G:Prop}{α0:Sort u0}{α1:Sort u1}{α2:Sort u2}{p0:α0->α1->α2->Prop}(h:∃ x0 x1 x2,p0 x0 x1 x2)(k:∀ x0 x1 x2,p0 x0 x1 x2->G):G:=h.elim fun x h=>k2_1 h (k x)
theorem k3_2.{u0,u1,u2} {G:Prop}{α0:Sort u0}{α1:Sort u1}{α2:Sort u2}{p0 p1:α0->α1->α2->Prop}(h:∃ x0 x1 x2,p0 x0 x1 x2/\p1 x0 x1 x2)(k:∀ x0 x1 x2,p0 x0 x1 x2->p1 x0 x1 x2->G):G:=h.elim fun x h=>k2_2 h (k x)
theorem k3_3.{u0,u1,u2} {G:Prop}{α0:Sort u0}{α1:Sort u1}{α2:Sort u2}{p0 p1 p2:α0->α1->α2->Prop}(h:∃ x0 x1 x2,p0 x0 x1 x2/\p1 x0 x1 x2/\p2 x0 x1 x2)(k:∀ x0 x1 x2,p0 x0 x1 x2->p1 x0 x1 x2->p2 x0 x1 x2->G):G:=h.elim fun x h=>k2_3 h (k x)
theorem k3_4.{u0,u1,u2} {G:Prop}{α0:Sort u0}{α1:Sort u1}{α2:Sort u2}{p0 p1 p2 p3:α0->α1->α2->Prop}(h:∃ x0 x1 x2,p0 x0 x1 x2/\p1 x0 x1 x2/\p2 x0 x1 x2/\p3 x0 x1 x2)(k:∀ x0 x1 x2,p0 x0 x1 x2->p1 x0 x1 x2->p2 x0 x1 x2->p3 x0 x1 x2->G):G:=h.elim fun x h=>k2_4 h (k x)
theorem k3_5.{u0,u1,u2} {G:Prop}{α0:Sort u0}{α1:Sort u1}{α2:Sort u2}{p0 p1 p2 p3 p4:α0->α1->α2->Prop}(h:∃ x0 x1 x2,p0 x0 x1 x2/\p1 x0 x1 x2/\p2 x0 x1 x2/\p3 x0 x1 x2/\p4 x0 x1 x2)(k:∀ x0 x1 x2,p0 x0 x1 x2->p1 x0 x1 x2->p2 x0 x1 x2->p3 x0 x1 x2->p4 x0 x1 x2->G):G:=h.elim fun x h=>k2_5 h (k x)
theorem k4_1.{u0,u1,u2,u3} {G:Prop}{α0:Sort u0}{α1:Sort u1}{α2:Sort u2}{α3:Sort u3}{p0:α0->α1->α2->α3->Prop}(h:∃ x0 x1 x2 x3,p0 x0 x1 x2 x3)(k:∀ x0 x1 x2 x3,p0 x0 x1 x2 x3->G):G:=h.elim fun x h=>k3_1 h (k x)
theorem k4_2.{u0,u1,u2,u3} {G:Prop}{α0:Sort u0}{α1:Sort u1}{α2:Sort u2}{α3:Sort u3}{p0 p1:α0->α1->α2->α3->Prop}(h:∃ x0 x1 x2 x3,p0 x0 x1 x2 x3/\p1 x0 x1 x2 x3)(k:∀ x0 x1 x2 x3,p0 x0 x1 x2 x3->p1 x0 x1 x2 x3->G):G:=h.elim fun x h=>k3_2 h (k x)
theorem k4_3.{u0,u1,u2,u3} {G:Prop}{α0:Sort u0}{α1:Sort u1}{α2:Sort u2}{α3:Sort u3}{p0 p1 p2:α0->α1->α2->α3->Prop}(h:∃ x0 x1 x2 x3,p0 x0 x1 x2 x3/\p1 x0 x1 x2 x3/\p2 x0 x1 x2 x3)(k:∀ x0 x1 x2 x3,p0 x0 x1 x2 x3->p1 x0 x1 x2 x3->p2 x0 x1 x2 x3->G):G:=h.elim fun x h=>k3_3 h (k x)
theorem k4_4.{u0,u1,u2,u3} {G:Prop}{α0:Sort u0}{α1:Sort u1}{α2:Sort u2}{α3:Sort u3}{p0 p1 p2 p3:α0->α1->α2->α3->Prop}(h:∃ x0 x1 x2 x3,p0 x0 x1 x2 x3/\p1 x0 x1 x2 x3/\p2 x0 x1 x2 x3/\p3 x0 x1 x2 x3)(k:∀ x0 x1 x2 x3,p0 x0 x1 x2 x3->p1 x0 x1 x2 x3->p2 x0 x1 x2 x3->p3 x0 x1 x2 x3->G):G:=h.elim fun x h=>k3_4 h (k x)
theorem k5_1.{u0,u1,u2,u3,u4} {G:Prop}{α0:Sort u0}{α1:Sort u1}{α2:Sort u2}{α3:Sort u3}{α4:Sort u4}{p0:α0->α1->α2->α3->α4->Prop}(h:∃ x0 x1 x2 x3 x4,p0 x0 x1 x2 x3 x4)(k:∀ x0 x1 x2 x3 x4,p0 x0 x1 x2 x3 x4->G):G:=h.elim fun x h=>k4_1 h (k x)
theorem k5_2.{u0,u1,u2,u3,u4} {G:Prop}{α0:Sort u0}{α1:Sort u1}{α2:Sort u2}{α3:Sort u3}{α4:Sort u4}{p0 p1:α0->α1->α2->α3->α4->Prop}(h:∃ x0 x1 x2 x3 x4,p0 x0 x1 x2 x3 x4/\p1 x0 x1 x2 x3 x4)(k:∀ x0 x1 x2 x3 x4,p0 x0 x1 x2 x3 x4->p1 x0 x1 x2 x3 x4->G):G:=h.elim fun x h=>k4_2 h (k x)
theorem k6_1.{u0,u1,u2,u3,u4,u5} {G:Prop}{α0:Sort u0}{α1:Sort u1}{α2:Sort u2}{α3:Sort u3}{α4:Sort u4}{α5:Sort u5}{p0:α0->α1->α2->α3->α4->α5->Prop}(h:∃ x0 x1 x2 x3 x4 x5,p0 x0 x1 x2 x3 x4 x5)(k:∀ x0 x1 x2 x3 x4 x5,p0 x0 x1 x2 x3 x4 x5->G):G:=h.elim fun x h=>k5_1 h (k x)
theorem k7_1.{u0,u1,u2,u3,u4,u5,u6} {G:Prop}{α0:Sort u0}{α1:Sort u1}{α2:Sort u2}{α3:Sort u3}{α4:Sort u4}{α5:Sort u5}{α6:Sort u6}{p0:α0->α1->α2->α3->α4->α5->α6->Prop}(h:∃ x0 x1 x2 x3 x4 x5 x6,p0 x0 x1 x2 x3 x4 x5 x6)(k:∀ x0 x1 x2 x3 x4 x5 x6,p0 x0 x1 x2 x3 x4 x5 x6->G):G:=h.elim fun x h=>k6_1 h (k x)

theorem JE {p0 p1:Prop}(h0:p0)(h1:p1):p0/\p1:=⟨h0,h1⟩
theorem am {p0 p1 p2:Prop}(h0:p0)(h1:p1)(h2:p2):p0/\p1/\p2:=⟨h0,h1,h2⟩
theorem a7 {p0 p1 p2 p3:Prop}(h0:p0)(h1:p1)(h2:p2)(h3:p3):p0/\p1/\p2/\p3:=⟨h0,h1,h2,h3⟩
theorem lu {p0 p1 p2 p3 p4:Prop}(h0:p0)(h1:p1)(h2:p2)(h3:p3)(h4:p4):p0/\p1/\p2/\p3/\p4:=⟨h0,h1,h2,h3,h4⟩
theorem Ct {p0 p1 p2 p3 p4 p5:Prop}(h0:p0)(h1:p1)(h2:p2)(h3:p3)(h4:p4)(h5:p5):p0/\p1/\p2/\p3/\p4/\p5:=⟨h0,h1,h2,h3,h4,h5⟩
theorem FQ {p0 p1 p2 p3 p4 p5 p6:Prop}(h0:p0)(h1:p1)(h2:p2)(h3:p3)(h4:p4)(h5:p5)(h6:p6):p0/\p1/\p2/\p3/\p4/\p5/\p6:=⟨h0,h1,h2,h3,h4,h5,h6⟩
theorem FR {p0 p1 p2 p3 p4 p5 p6 p7:Prop}(h0:p0)(h1:p1)(h2:p2)(h3:p3)(h4:p4)(h5:p5)(h6:p6)(h7:p7):p0/\p1/\p2/\p3/\p4/\p5/\p6/\p7:=⟨h0,h1,h2,h3,h4,h5,h6,h7⟩
theorem JF {p0 p1 p2 p3 p4 p5 p6 p7 p8:Prop}(h0:p0)(h1:p1)(h2:p2)(h3:p3)(h4:p4)(h5:p5)(h6:p6)(h7:p7)(h8:p8):p0/\p1/\p2/\p3/\p4/\p5/\p6/\p7/\p8:=⟨h0,h1,h2,h3,h4,h5,h6,h7,h8⟩
theorem JG.{u0} {α0:Sort u0}{p0:α0->Prop}(x0:α0)(h0:p0 x0):∃ x0,p0 x0:=⟨x0,h0⟩
theorem aa.{u0} {α0:Sort u0}{p0 p1:α0->Prop}(x0:α0)(h0:p0 x0)(h1:p1 x0):∃ x0,p0 x0/\p1 x0:=⟨x0,JE h0 h1⟩
theorem aB.{u0} {α0:Sort u0}{p0 p1 p2:α0->Prop}(x0:α0)(h0:p0 x0)(h1:p1 x0)(h2:p2 x0):∃ x0,p0 x0/\p1 x0/\p2 x0:=⟨x0,am h0 h1 h2⟩
theorem hX.{u0} {α0:Sort u0}{p0 p1 p2 p3:α0->Prop}(x0:α0)(h0:p0 x0)(h1:p1 x0)(h2:p2 x0)(h3:p3 x0):∃ x0,p0 x0/\p1 x0/\p2 x0/\p3 x0:=⟨x0,a7 h0 h1 h2 h3⟩
theorem lv.{u0} {α0:Sort u0}{p0 p1 p2 p3 p4:α0->Prop}(x0:α0)(h0:p0 x0)(h1:p1 x0)(h2:p2 x0)(h3:p3 x0)(h4:p4 x0):∃ x0,p0 x0/\p1 x0/\p2 x0/\p3 x0/\p4 x0:=⟨x0,lu h0 h1 h2 h3 h4⟩
theorem og.{u0} {α0:Sort u0}{p0 p1 p2 p3 p4 p5:α0->Prop}(x0:α0)(h0:p0 x0)(h1:p1 x0)(h2:p2 x0)(h3:p3 x0)(h4:p4 x0)(h5:p5 x0):∃ x0,p0 x0/\p1 x0/\p2 x0/\p3 x0/\p4 x0/\p5 x0:=⟨x0,Ct h0 h1 h2 h3 h4 h5⟩
theorem FS.{u0} {α0:Sort u0}{p0 p1 p2 p3 p4 p5 p6:α0->Prop}(x0:α0)(h0:p0 x0)(h1:p1 x0)(h2:p2 x0)(h3:p3 x0)(h4:p4 x0)(h5:p5 x0)(h6:p6 x0):∃ x0,p0 x0/\p1 x0/\p2 x0/\p3 x0/\p4 x0/\p5 x0/\p6 x0:=⟨x0,FQ h0 h1 h2 h3 h4 h5 h6⟩
theorem FT.{u0} {α0:Sort u0}{p0 p1 p2 p3 p4 p5 p6 p7:α0->Prop}(x0:α0)(h0:p0 x0)(h1:p1 x0)(h2:p2 x0)(h3:p3 x0)(h4:p4 x0)(h5:p5 x0)(h6:p6 x0)(h7:p7 x0):∃ x0,p0 x0/\p1 x0/\p2 x0/\p3 x0/\p4 x0/\p5 x0/\p6 x0/\p7 x0:=⟨x0,FR h0 h1 h2 h3 h4 h5 h6 h7⟩
theorem FU.{u0} {α0:Sort u0}{p0 p1 p2 p3 p4 p5 p6 p7 p8:α0->Prop}(x0:α0)(h0:p0 x0)(h1:p1 x0)(h2:p2 x0)(h3:p3 x0)(h4:p4 x0)(h5:p5 x0)(h6:p6 x0)(h7:p7 x0)(h8:p8 x0):∃ x0,p0 x0/\p1 x0/\p2 x0/\p3 x0/\p4 x0/\p5 x0/\p6 x0/\p7 x0/\p8 x0:=⟨x0,JF h0 h1 h2 h3 h4 h5 h6 h7 h8⟩
theorem mF.{u0,u1} {α0:Sort u0}{α1:Sort u1}{p0:α0->α1->Prop}(x0:α0)(x1:α1)(h0:p0 x0 x1):∃ x0 x1,p0 x0 x1:=⟨x0,JG x1 h0⟩
theorem ba.{u0,u1} {α0:Sort u0}{α1:Sort u1}{p0 p1:α0->α1->Prop}(x0:α0)(x1:α1)(h0:p0 x0 x1)(h1:p1 x0 x1):∃ x0 x1,p0 x0 x1/\p1 x0 x1:=⟨x0,aa x1 h0 h1⟩
theorem aF.{u0,u1} {α0:Sort u0}{α1:Sort u1}{p0 p1 p2:α0->α1->Prop}(x0:α0)(x1:α1)(h0:p0 x0 x1)(h1:p1 x0 x1)(h2:p2 x0 x1):∃ x0 x1,p0 x0 x1/\p1 x0 x1/\p2 x0 x1:=⟨x0,aB x1 h0 h1 h2⟩
theorem cQ.{u0,u1} {α0:Sort u0}{α1:Sort u1}{p0 p1 p2 p3:α0->α1->Prop}(x0:α0)(x1:α1)(h0:p0 x0 x1)(h1:p1 x0 x1)(h2:p2 x0 x1)(h3:p3 x0 x1):∃ x0 x1,p0 x0 x1/\p1 x0 x1/\p2 x0 x1/\p3 x0 x1:=⟨x0,hX x1 h0 h1 h2 h3⟩
theorem tO.{u0,u1} {α0:Sort u0}{α1:Sort u1}{p0 p1 p2 p3 p4:α0->α1->Prop}(x0:α0)(x1:α1)(h0:p0 x0 x1)(h1:p1 x0 x1)(h2:p2 x0 x1)(h3:p3 x0 x1)(h4:p4 x0 x1):∃ x0 x1,p0 x0 x1/\p1 x0 x1/\p2 x0 x1/\p3 x0 x1/\p4 x0 x1:=⟨x0,lv x1 h0 h1 h2 h3 h4⟩
theorem tP.{u0,u1} {α0:Sort u0}{α1:Sort u1}{p0 p1 p2 p3 p4 p5:α0->α1->Prop}(x0:α0)(x1:α1)(h0:p0 x0 x1)(h1:p1 x0 x1)(h2:p2 x0 x1)(h3:p3 x0 x1)(h4:p4 x0 x1)(h5:p5 x0 x1):∃ x0 x1,p0 x0 x1/\p1 x0 x1/\p2 x0 x1/\p3 x0 x1/\p4 x0 x1/\p5 x0 x1:=⟨x0,og x1 h0 h1 h2 h3 h4 h5⟩
theorem oh.{u0,u1} {α0:Sort u0}{α1:Sort u1}{p0 p1 p2 p3 p4 p5 p6:α0->α1->Prop}(x0:α0)(x1:α1)(h0:p0 x0 x1)(h1:p1 x0 x1)(h2:p2 x0 x1)(h3:p3 x0 x1)(h4:p4 x0 x1)(h5:p5 x0 x1)(h6:p6 x0 x1):∃ x0 x1,p0 x0 x1/\p1 x0 x1/\p2 x0 x1/\p3 x0 x1/\p4 x0 x1/\p5 x0 x1/\p6 x0 x1:=⟨x0,FS x1 h0 h1 h2 h3 h4 h5 h6⟩
theorem tQ.{u0,u1} {α0:Sort u0}{α1:Sort u1}{p0 p1 p2 p3 p4 p5 p6 p7:α0->α1->Prop}(x0:α0)(x1:α1)(h0:p0 x0 x1)(h1:p1 x0 x1)(h2:p2 x0 x1)(h3:p3 x0 x1)(h4:p4 x0 x1)(h5:p5 x0 x1)(h6:p6 x0 x1)(h7:p7 x0 x1):∃ x0 x1,p0 x0 x1/\p1 x0 x1/\p2 x0 x1/\p3 x0 x1/\p4 x0 x1/\p5 x0 x1/\p6 x0 x1/\p7 x0 x1:=⟨x0,FT x1 h0 h1 h2 h3 h4 h5 h6 h7⟩
theorem JH.{u0,u1} {α0:Sort u0}{α1:Sort u1}{p0 p1 p2 p3 p4 p5 p6 p7 p8:α0->α1->Prop}(x0:α0)(x1:α1)(h0:p0 x0 x1)(h1:p1 x0 x1)(h2:p2 x0 x1)(h3:p3 x0 x1)(h4:p4 x0 x1)(h5:p5 x0 x1)(h6:p6 x0 x1)(h7:p7 x0 x1)(h8:p8 x0 x1):∃ x0 x1,p0 x0 x1/\p1 x0 x1/\p2 x0 x1/\p3 x0 x1/\p4 x0 x1/\p5 x0 x1/\p6 x0 x1/\p7 x0 x1/\p8 x0 x1:=⟨x0,FU x1 h0 h1 h2 h3 h4 h5 h6 h7 h8⟩
theorem yP.{u0,u1,u2} {α0:Sort u0}{α1:Sort u1}{α2:Sort u2}{p0:α0->α1->α2->Prop}(x0:α0)(x1:α1)(x2:α2)(h0:p0 x0 x1 x2):∃ x0 x1 x2,p0 x0 x1 x2:=⟨x0,mF x1 x2 h0⟩
theorem JI.{u0,u1,u2} {α0:Sort u0}{α1:Sort u1}{α2:Sort u2}{p0 p1:α0->α1->α2->Prop}(x0:α0)(x1:α1)(x2:α2)(h0:p0 x0 x1 x2)(h1:p1 x0 x1 x2):∃ x0 x1 x2,p0 x0 x1 x2/\p1 x0 x1 x2:=⟨x0,ba x1 x2 h0 h1⟩
theorem cA.{u0,u1,u2} {α0:Sort u0}{α1:Sort u1}{α2:Sort u2}{p0 p1 p2:α0->α1->α2->Prop}(x0:α0)(x1:α1)(x2:α2)(h0:p0 x0 x1 x2)(h1:p1 x0 x1 x2)(h2:p2 x0 x1 x2):∃ x0 x1 x2,p0 x0 x1 x2/\p1 x0 x1 x2/\p2 x0 x1 x2:=⟨x0,aF x1 x2 h0 h1 h2⟩
theorem dy.{u0,u1,u2} {α0:Sort u0}{α1:Sort u1}{α2:Sort u2}{p0 p1 p2 p3:α0->α1->α2->Prop}(x0:α0)(x1:α1)(x2:α2)(h0:p0 x0 x1 x2)(h1:p1 x0 x1 x2)(h2:p2 x0 x1 x2)(h3:p3 x0 x1 x2):∃ x0 x1 x2,p0 x0 x1 x2/\p1 x0 x1 x2/\p2 x0 x1 x2/\p3 x0 x1 x2:=⟨x0,cQ x1 x2 h0 h1 h2 h3⟩
theorem oi.{u0,u1,u2} {α0:Sort u0}{α1:Sort u1}{α2:Sort u2}{p0 p1 p2 p3 p4:α0->α1->α2->Prop}(x0:α0)(x1:α1)(x2:α2)(h0:p0 x0 x1 x2)(h1:p1 x0 x1 x2)(h2:p2 x0 x1 x2)(h3:p3 x0 x1 x2)(h4:p4 x0 x1 x2):∃ x0 x1 x2,p0 x0 x1 x2/\p1 x0 x1 x2/\p2 x0 x1 x2/\p3 x0 x1 x2/\p4 x0 x1 x2:=⟨x0,tO x1 x2 h0 h1 h2 h3 h4⟩
theorem tR.{u0,u1,u2} {α0:Sort u0}{α1:Sort u1}{α2:Sort u2}{p0 p1 p2 p3 p4 p5:α0->α1->α2->Prop}(x0:α0)(x1:α1)(x2:α2)(h0:p0 x0 x1 x2)(h1:p1 x0 x1 x2)(h2:p2 x0 x1 x2)(h3:p3 x0 x1 x2)(h4:p4 x0 x1 x2)(h5:p5 x0 x1 x2):∃ x0 x1 x2,p0 x0 x1 x2/\p1 x0 x1 x2/\p2 x0 x1 x2/\p3 x0 x1 x2/\p4 x0 x1 x2/\p5 x0 x1 x2:=⟨x0,tP x1 x2 h0 h1 h2 h3 h4 h5⟩
theorem JJ.{u0,u1,u2} {α0:Sort u0}{α1:Sort u1}{α2:Sort u2}{p0 p1 p2 p3 p4 p5 p6:α0->α1->α2->Prop}(x0:α0)(x1:α1)(x2:α2)(h0:p0 x0 x1 x2)(h1:p1 x0 x1 x2)(h2:p2 x0 x1 x2)(h3:p3 x0 x1 x2)(h4:p4 x0 x1 x2)(h5:p5 x0 x1 x2)(h6:p6 x0 x1 x2):∃ x0 x1 x2,p0 x0 x1 x2/\p1 x0 x1 x2/\p2 x0 x1 x2/\p3 x0 x1 x2/\p4 x0 x1 x2/\p5 x0 x1 x2/\p6 x0 x1 x2:=⟨x0,oh x1 x2 h0 h1 h2 h3 h4 h5 h6⟩
theorem FV.{u0,u1,u2} {α0:Sort u0}{α1:Sort u1}{α2:Sort u2}{p0 p1 p2 p3 p4 p5 p6 p7:α0->α1->α2->Prop}(x0:α0)(x1:α1)(x2:α2)(h0:p0 x0 x1 x2)(h1:p1 x0 x1 x2)(h2:p2 x0 x1 x2)(h3:p3 x0 x1 x2)(h4:p4 x0 x1 x2)(h5:p5 x0 x1 x2)(h6:p6 x0 x1 x2)(h7:p7 x0 x1 x2):∃ x0 x1 x2,p0 x0 x1 x2/\p1 x0 x1 x2/\p2 x0 x1 x2/\p3 x0 x1 x2/\p4 x0 x1 x2/\p5 x0 x1 x2/\p6 x0 x1 x2/\p7 x0 x1 x2:=⟨x0,tQ x1 x2 h0 h1 h2 h3 h4 h5 h6 h7⟩
theorem JK.{u0,u1,u2} {α0:Sort u0}{α1:Sort u1}{α2:Sort u2}{p0 p1 p2 p3 p4 p5 p6 p7 p8:α0->α1->α2->Prop}(x0:α0)(x1:α1)(x2:α2)(h0:p0 x0 x1 x2)(h1:p1 x0 x1 x2)(h2:p2 x0 x1 x2)(h3:p3 x0 x1 x2)(h4:p4 x0 x1 x2)(h5:p5 x0 x1 x2)(h6:p6 x0 x1 x2)(h7:p7 x0 x1 x2)(h8:p8 x0 x1 x2):∃ x0 x1 x2,p0 x0 x1 x2/\p1 x0 x1 x2/\p2 x0 x1 x2/\p3 x0 x1 x2/\p4 x0 x1 x2/\p5 x0 x1 x2/\p6 x0 x1 x2/\p7 x0 x1 x2/\p8 x0 x1 x2:=⟨x0,JH x1 x2 h0 h1 h2 h3 h4 h5 h6 h7 h8⟩
theorem JL.{u0,u1,u2,u3} {α0:Sort u0}{α1:Sort u1}{α2:Sort u2}{α3:Sort u3}{p0:α0->α1->α2->α3->Prop}(x0:α0)(x1:α1)(x2:α2)(x3:α3)(h0:p0 x0 x1 x2 x3):∃ x0 x1 x2 x3,p0 x0 x1 x2 x3:=⟨x0,yP x1 x2 x3 h0⟩
theorem FW.{u0,u1,u2,u3} {α0:Sort u0}{α1:Sort u1}{α2:Sort u2}{α3:Sort u3}{p0 p1 p2:α0->α1->α2->α3->Prop}(x0:α0)(x1:α1)(x2:α2)(x3:α3)(h0:p0 x0 x1 x2 x3)(h1:p1 x0 x1 x2 x3)(h2:p2 x0 x1 x2 x3):∃ x0 x1 x2 x3,p0 x0 x1 x2 x3/\p1 x0 x1 x2 x3/\p2 x0 x1 x2 x3:=⟨x0,cA x1 x2 x3 h0 h1 h2⟩
theorem FX.{u0,u1,u2,u3} {α0:Sort u0}{α1:Sort u1}{α2:Sort u2}{α3:Sort u3}{p0 p1 p2 p3:α0->α1->α2->α3->Prop}(x0:α0)(x1:α1)(x2:α2)(x3:α3)(h0:p0 x0 x1 x2 x3)(h1:p1 x0 x1 x2 x3)(h2:p2 x0 x1 x2 x3)(h3:p3 x0 x1 x2 x3):∃ x0 x1 x2 x3,p0 x0 x1 x2 x3/\p1 x0 x1 x2 x3/\p2 x0 x1 x2 x3/\p3 x0 x1 x2 x3:=⟨x0,dy x1 x2 x3 h0 h1 h2 h3⟩
theorem oj.{u0,u1,u2,u3} {α0:Sort u0}{α1:Sort u1}{α2:Sort u2}{α3:Sort u3}{p0 p1 p2 p3 p4:α0->α1->α2->α3->Prop}(x0:α0)(x1:α1)(x2:α2)(x3:α3)(h0:p0 x0 x1 x2 x3)(h1:p1 x0 x1 x2 x3)(h2:p2 x0 x1 x2 x3)(h3:p3 x0 x1 x2 x3)(h4:p4 x0 x1 x2 x3):∃ x0 x1 x2 x3,p0 x0 x1 x2 x3/\p1 x0 x1 x2 x3/\p2 x0 x1 x2 x3/\p3 x0 x1 x2 x3/\p4 x0 x1 x2 x3:=⟨x0,oi x1 x2 x3 h0 h1 h2 h3 h4⟩
theorem qi.{u0,u1,u2,u3} {α0:Sort u0}{α1:Sort u1}{α2:Sort u2}{α3:Sort u3}{p0 p1 p2 p3 p4 p5:α0->α1->α2->α3->Prop}(x0:α0)(x1:α1)(x2:α2)(x3:α3)(h0:p0 x0 x1 x2 x3)(h1:p1 x0 x1 x2 x3)(h2:p2 x0 x1 x2 x3)(h3:p3 x0 x1 x2 x3)(h4:p4 x0 x1 x2 x3)(h5:p5 x0 x1 x2 x3):∃ x0 x1 x2 x3,p0 x0 x1 x2 x3/\p1 x0 x1 x2 x3/\p2 x0 x1 x2 x3/\p3 x0 x1 x2 x3/\p4 x0 x1 x2 x3/\p5 x0 x1 x2 x3:=⟨x0,tR x1 x2 x3 h0 h1 h2 h3 h4 h5⟩
theorem JM.{u0,u1,u2,u3} {α0:Sort u0}{α1:Sort u1}{α2:Sort u2}{α3:Sort u3}{p0 p1 p2 p3 p4 p5 p6:α0->α1->α2->α3->Prop}(x0:α0)(x1:α1)(x2:α2)(x3:α3)(h0:p0 x0 x1 x2 x3)(h1:p1 x0 x1 x2 x3)(h2:p2 x0 x1 x2 x3)(h3:p3 x0 x1 x2 x3)(h4:p4 x0 x1 x2 x3)(h5:p5 x0 x1 x2 x3)(h6:p6 x0 x1 x2 x3):∃ x0 x1 x2 x3,p0 x0 x1 x2 x3/\p1 x0 x1 x2 x3/\p2 x0 x1 x2 x3/\p3 x0 x1 x2 x3/\p4 x0 x1 x2 x3/\p5 x0 x1 x2 x3/\p6 x0 x1 x2 x3:=⟨x0,JJ x1 x2 x3 h0 h1 h2 h3 h4 h5 h6⟩
theorem FY.{u0,u1,u2,u3} {α0:Sort u0}{α1:Sort u1}{α2:Sort u2}{α3:Sort u3}{p0 p1 p2 p3 p4 p5 p6 p7:α0->α1->α2->α3->Prop}(x0:α0)(x1:α1)(x2:α2)(x3:α3)(h0:p0 x0 x1 x2 x3)(h1:p1 x0 x1 x2 x3)(h2:p2 x0 x1 x2 x3)(h3:p3 x0 x1 x2 x3)(h4:p4 x0 x1 x2 x3)(h5:p5 x0 x1 x2 x3)(h6:p6 x0 x1 x2 x3)(h7:p7 x0 x1 x2 x3):∃ x0 x1 x2 x3,p0 x0 x1 x2 x3/\p1 x0 x1 x2 x3/\p2 x0 x1 x2 x3/\p3 x0 x1 x2 x3/\p4 x0 x1 x2 x3/\p5 x0 x1 x2 x3/\p6 x0 x1 x2 x3/\p7 x0 x1 x2 x3:=⟨x0,FV x1 x2 x3 h0 h1 h2 h3 h4 h5 h6 h7⟩
theorem FZ.{u0,u1,u2,u3} {α0:Sort u0}{α1:Sort u1}{α2:Sort u2}{α3:Sort u3}{p0 p1 p2 p3 p4 p5 p6 p7 p8:α0->α1->α2->α3->Prop}(x0:α0)(x1:α1)(x2:α2)(x3:α3)(h0:p0 x0 x1 x2 x3)(h1:p1 x0 x1 x2 x3)(h2:p2 x0 x1 x2 x3)(h3:p3 x0 x1 x2 x3)(h4:p4 x0 x1 x2 x3)(h5:p5 x0 x1 x2 x3)(h6:p6 x0 x1 x2 x3)(h7:p7 x0 x1 x2 x3)(h8:p8 x0 x1 x2 x3):∃ x0 x1 x2 x3,p0 x0 x1 x2 x3/\p1 x0 x1 x2 x3/\p2 x0 x1 x2 x3/\p3 x0 x1 x2 x3/\p4 x0 x1 x2 x3/\p5 x0 x1 x2 x3/\p6 x0 x1 x2 x3/\p7 x0 x1 x2 x3/\p8 x0 x1 x2 x3:=⟨x0,JK x1 x2 x3 h0 h1 h2 h3 h4 h5 h6 h7 h8⟩
theorem yQ.{u0,u1,u2,u3,u4} {α0:Sort u0}{α1:Sort u1}{α2:Sort u2}{α3:Sort u3}{α4:Sort u4}{p0:α0->α1->α2->α3->α4->Prop}(x0:α0)(x1:α1)(x2:α2)(x3:α3)(x4:α4)(h0:p0 x0 x1 x2 x3 x4):∃ x0 x1 x2 x3 x4,p0 x0 x1 x2 x3 x4:=⟨x0,JL x1 x2 x3 x4 h0⟩
theorem JN.{u0,u1,u2,u3,u4} {α0:Sort u0}{α1:Sort u1}{α2:Sort u2}{α3:Sort u3}{α4:Sort u4}{p0 p1 p2 p3:α0->α1->α2->α3->α4->Prop}(x0:α0)(x1:α1)(x2:α2)(x3:α3)(x4:α4)(h0:p0 x0 x1 x2 x3 x4)(h1:p1 x0 x1 x2 x3 x4)(h2:p2 x0 x1 x2 x3 x4)(h3:p3 x0 x1 x2 x3 x4):∃ x0 x1 x2 x3 x4,p0 x0 x1 x2 x3 x4/\p1 x0 x1 x2 x3 x4/\p2 x0 x1 x2 x3 x4/\p3 x0 x1 x2 x3 x4:=⟨x0,FX x1 x2 x3 x4 h0 h1 h2 h3⟩
theorem JO.{u0,u1,u2,u3,u4} {α0:Sort u0}{α1:Sort u1}{α2:Sort u2}{α3:Sort u3}{α4:Sort u4}{p0 p1 p2 p3 p4:α0->α1->α2->α3->α4->Prop}(x0:α0)(x1:α1)(x2:α2)(x3:α3)(x4:α4)(h0:p0 x0 x1 x2 x3 x4)(h1:p1 x0 x1 x2 x3 x4)(h2:p2 x0 x1 x2 x3 x4)(h3:p3 x0 x1 x2 x3 x4)(h4:p4 x0 x1 x2 x3 x4):∃ x0 x1 x2 x3 x4,p0 x0 x1 x2 x3 x4/\p1 x0 x1 x2 x3 x4/\p2 x0 x1 x2 x3 x4/\p3 x0 x1 x2 x3 x4/\p4 x0 x1 x2 x3 x4:=⟨x0,oj x1 x2 x3 x4 h0 h1 h2 h3 h4⟩
theorem JP.{u0,u1,u2,u3,u4} {α0:Sort u0}{α1:Sort u1}{α2:Sort u2}{α3:Sort u3}{α4:Sort u4}{p0 p1 p2 p3 p4 p5:α0->α1->α2->α3->α4->Prop}(x0:α0)(x1:α1)(x2:α2)(x3:α3)(x4:α4)(h0:p0 x0 x1 x2 x3 x4)(h1:p1 x0 x1 x2 x3 x4)(h2:p2 x0 x1 x2 x3 x4)(h3:p3 x0 x1 x2 x3 x4)(h4:p4 x0 x1 x2 x3 x4)(h5:p5 x0 x1 x2 x3 x4):∃ x0 x1 x2 x3 x4,p0 x0 x1 x2 x3 x4/\p1 x0 x1 x2 x3 x4/\p2 x0 x1 x2 x3 x4/\p3 x0 x1 x2 x3 x4/\p4 x0 x1 x2 x3 x4/\p5 x0 x1 x2 x3 x4:=⟨x0,qi x1 x2 x3 x4 h0 h1 h2 h3 h4 h5⟩
theorem yR.{u0,u1,u2,u3,u4} {α0:Sort u0}{α1:Sort u1}{α2:Sort u2}{α3:Sort u3}{α4:Sort u4}{p0 p1 p2 p3 p4 p5 p6:α0->α1->α2->α3->α4->Prop}(x0:α0)(x1:α1)(x2:α2)(x3:α3)(x4:α4)(h0:p0 x0 x1 x2 x3 x4)(h1:p1 x0 x1 x2 x3 x4)(h2:p2 x0 x1 x2 x3 x4)(h3:p3 x0 x1 x2 x3 x4)(h4:p4 x0 x1 x2 x3 x4)(h5:p5 x0 x1 x2 x3 x4)(h6:p6 x0 x1 x2 x3 x4):∃ x0 x1 x2 x3 x4,p0 x0 x1 x2 x3 x4/\p1 x0 x1 x2 x3 x4/\p2 x0 x1 x2 x3 x4/\p3 x0 x1 x2 x3 x4/\p4 x0 x1 x2 x3 x4/\p5 x0 x1 x2 x3 x4/\p6 x0 x1 x2 x3 x4:=⟨x0,JM x1 x2 x3 x4 h0 h1 h2 h3 h4 h5 h6⟩
theorem JQ.{u0,u1,u2,u3,u4} {α0:Sort u0}{α1:Sort u1}{α2:Sort u2}{α3:Sort u3}{α4:Sort u4}{p0 p1 p2 p3 p4 p5 p6 p7 p8:α0->α1->α2->α3->α4->Prop}(x0:α0)(x1:α1)(x2:α2)(x3:α3)(x4:α4)(h0:p0 x0 x1 x2 x3 x4)(h1:p1 x0 x1 x2 x3 x4)(h2:p2 x0 x1 x2 x3 x4)(h3:p3 x0 x1 x2 x3 x4)(h4:p4 x0 x1 x2 x3 x4)(h5:p5 x0 x1 x2 x3 x4)(h6:p6 x0 x1 x2 x3 x4)(h7:p7 x0 x1 x2 x3 x4)(h8:p8 x0 x1 x2 x3 x4):∃ x0 x1 x2 x3 x4,p0 x0 x1 x2 x3 x4/\p1 x0 x1 x2 x3 x4/\p2 x0 x1 x2 x3 x4/\p3 x0 x1 x2 x3 x4/\p4 x0 x1 x2 x3 x4/\p5 x0 x1 x2 x3 x4/\p6 x0 x1 x2 x3 x4/\p7 x0 x1 x2 x3 x4/\p8 x0 x1 x2 x3 x4:=⟨x0,FZ x1 x2 x3 x4 h0 h1 h2 h3 h4 h5 h6 h7 h8⟩
theorem JR.{u0,u1,u2,u3,u4,u5} {α0:Sort u0}{α1:Sort u1}{α2:Sort u2}{α3:Sort u3}{α4:Sort u4}{α5:Sort u5}{p0:α0->α1->α2->α3->α4->α5->Prop}(x0:α0)(x1:α1)(x2:α2)(x3:α3)(x4:α4)(x5:α5)(h0:p0 x0 x1 x2 x3 x4 x5):∃ x0 x1 x2 x3 x4 x5,p0 x0 x1 x2 x3 x4 x5:=⟨x0,yQ x1 x2 x3 x4 x5 h0⟩
theorem JS.{u0,u1,u2,u3,u4,u5} {α0:Sort u0}{α1:Sort u1}{α2:Sort u2}{α3:Sort u3}{α4:Sort u4}{α5:Sort u5}{p0 p1 p2 p3 p4 p5:α0->α1->α2->α3->α4->α5->Prop}(x0:α0)(x1:α1)(x2:α2)(x3:α3)(x4:α4)(x5:α5)(h0:p0 x0 x1 x2 x3 x4 x5)(h1:p1 x0 x1 x2 x3 x4 x5)(h2:p2 x0 x1 x2 x3 x4 x5)(h3:p3 x0 x1 x2 x3 x4 x5)(h4:p4 x0 x1 x2 x3 x4 x5)(h5:p5 x0 x1 x2 x3 x4 x5):∃ x0 x1 x2 x3 x4 x5,p0 x0 x1 x2 x3 x4 x5/\p1 x0 x1 x2 x3 x4 x5/\p2 x0 x1 x2 x3 x4 x5/\p3 x0 x1 x2 x3 x4 x5/\p4 x0 x1 x2 x3 x4 x5/\p5 x0 x1 x2 x3 x4 x5:=⟨x0,JP x1 x2 x3 x4 x5 h0 h1 h2 h3 h4 h5⟩
theorem JT.{u0,u1,u2,u3,u4,u5} {α0:Sort u0}{α1:Sort u1}{α2:Sort u2}{α3:Sort u3}{α4:Sort u4}{α5:Sort u5}{p0 p1 p2 p3 p4 p5 p6 p7 p8:α0->α1->α2->α3->α4->α5->Prop}(x0:α0)(x1:α1)(x2:α2)(x3:α3)(x4:α4)(x5:α5)(h0:p0 x0 x1 x2 x3 x4 x5)(h1:p1 x0 x1 x2 x3 x4 x5)(h2:p2 x0 x1 x2 x3 x4 x5)(h3:p3 x0 x1 x2 x3 x4 x5)(h4:p4 x0 x1 x2 x3 x4 x5)(h5:p5 x0 x1 x2 x3 x4 x5)(h6:p6 x0 x1 x2 x3 x4 x5)(h7:p7 x0 x1 x2 x3 x4 x5)(h8:p8 x0 x1 x2 x3 x4 x5):∃ x0 x1 x2 x3 x4 x5,p0 x0 x1 x2 x3 x4 x5/\p1 x0 x1 x2 x3 x4 x5/\p2 x0 x1 x2 x3 x4 x5/\p3 x0 x1 x2 x3 x4 x5/\p4 x0 x1 x2 x3 x4 x5/\p5 x0 x1 x2 x3 x4 x5/\p6 x0 x1 x2 x3 x4 x5/\p7 x0 x1 x2 x3 x4 x5/\p8 x0 x1 x2 x3 x4 x5:=⟨x0,JQ x1 x2 x3 x4 x5 h0 h1 h2 h3 h4 h5 h6 h7 h8⟩
theorem tS.{u0,u1,u2,u3,u4,u5,u6} {α0:Sort u0}{α1:Sort u1}{α2:Sort u2}{α3:Sort u3}{α4:Sort u4}{α5:Sort u5}{α6:Sort u6}{p0:α0->α1->α2->α3->α4->α5->α6->Prop}(x0:α0)(x1:α1)(x2:α2)(x3:α3)(x4:α4)(x5:α5)(x6:α6)(h0:p0 x0 x1 x2 x3 x4 x5 x6):∃ x0 x1 x2 x3 x4 x5 x6,p0 x0 x1 x2 x3 x4 x5 x6:=⟨x0,JR x1 x2 x3 x4 x5 x6 h0⟩
theorem Cu.{u0,u1,u2,u3,u4,u5,u6} {α0:Sort u0}{α1:Sort u1}{α2:Sort u2}{α3:Sort u3}{α4:Sort u4}{α5:Sort u5}{α6:Sort u6}{p0 p1 p2 p3 p4 p5:α0->α1->α2->α3->α4->α5->α6->Prop}(x0:α0)(x1:α1)(x2:α2)(x3:α3)(x4:α4)(x5:α5)(x6:α6)(h0:p0 x0 x1 x2 x3 x4 x5 x6)(h1:p1 x0 x1 x2 x3 x4 x5 x6)(h2:p2 x0 x1 x2 x3 x4 x5 x6)(h3:p3 x0 x1 x2 x3 x4 x5 x6)(h4:p4 x0 x1 x2 x3 x4 x5 x6)(h5:p5 x0 x1 x2 x3 x4 x5 x6):∃ x0 x1 x2 x3 x4 x5 x6,p0 x0 x1 x2 x3 x4 x5 x6/\p1 x0 x1 x2 x3 x4 x5 x6/\p2 x0 x1 x2 x3 x4 x5 x6/\p3 x0 x1 x2 x3 x4 x5 x6/\p4 x0 x1 x2 x3 x4 x5 x6/\p5 x0 x1 x2 x3 x4 x5 x6:=⟨x0,JS x1 x2 x3 x4 x5 x6 h0 h1 h2 h3 h4 h5⟩
theorem JU.{u0,u1,u2,u3,u4,u5,u6} {α0:Sort u0}{α1:Sort u1}{α2:Sort u2}{α3:Sort u3}{α4:Sort u4}{α5:Sort u5}{α6:Sort u6}{p0 p1 p2 p3 p4 p5 p6 p7 p8:α0->α1->α2->α3->α4->α5->α6->Prop}(x0:α0)(x1:α1)(x2:α2)(x3:α3)(x4:α4)(x5:α5)(x6:α6)(h0:p0 x0 x1 x2 x3 x4 x5 x6)(h1:p1 x0 x1 x2 x3 x4 x5 x6)(h2:p2 x0 x1 x2 x3 x4 x5 x6)(h3:p3 x0 x1 x2 x3 x4 x5 x6)(h4:p4 x0 x1 x2 x3 x4 x5 x6)(h5:p5 x0 x1 x2 x3 x4 x5 x6)(h6:p6 x0 x1 x2 x3 x4 x5 x6)(h7:p7 x0 x1 x2 x3 x4 x5 x6)(h8:p8 x0 x1 x2 x3 x4 x5 x6):∃ x0 x1 x2 x3 x4 x5 x6,p0 x0 x1 x2 x3 x4 x5 x6/\p1 x0 x1 x2 x3 x4 x5 x6/\p2 x0 x1 x2 x3 x4 x5 x6/\p3 x0 x1 x2 x3 x4 x5 x6/\p4 x0 x1 x2 x3 x4 x5 x6/\p5 x0 x1 x2 x3 x4 x5 x6/\p6 x0 x1 x2 x3 x4 x5 x6/\p7 x0 x1 x2 x3 x4 x5 x6/\p8 x0 x1 x2 x3 x4 x5 x6:=⟨x0,JT x1 x2 x3 x4 x5 x6 h0 h1 h2 h3 h4 h5 h6 h7 h8⟩
theorem ceN {α:Type} {G:Prop} {x:α} (h:none=some x):G:=nomatch h
theorem ceM {α:Type} {G:Prop} {x:α} (h:some x=none):G:=nomatch h
theorem ceS {α:Type} {G:Prop} {x y:α} (h:some x=some y) (k:x=y->G):G:=k (Option.some.inj h)
theorem ceE {α:Type} {G:Prop} {x y:α} (h:x=y) (k:x=y->G):G:=k h
theorem lO {α:Type} {n:Nat} {l:List α} (h:l.length=n+1):∃ a t,l=a::t/\t.length=n:=by
 cases l with
 | nil=>cases h
 | cons a t=>exact⟨a,t,rfl,Nat.succ.inj h⟩
theorem L8 {P:Nat->Prop} (a:P 0) (b:P 1) (c:P 2) (d:P 3):∀ i<4,P i:=fun i h=>match i,h with
 | 0,_=>a
 | 1,_=>b
 | 2,_=>c
 | 3,_=>d
@[elab_as_elim] theorem rwE.{u} {α:Sort u} {motive:α->Prop} {a b:α} (h:a=b) (x:motive b):motive a:=h▸x
theorem trT.{u} {α:Sort u} {a b c:α} {G:Prop} (h:a=b) (e:a=c) (k:c=b->G):G:=k (e.symm.trans h)
theorem trK {p G:Prop} (h:p) (k:p->G):G:=k h
theorem yS {n a t:Nat} (h:a<n):(a+n*t)%n=a/\(a+n*t)/n=t:=⟨by rw [Nat.add_mul_mod_self_left,Nat.mod_eq_of_lt h],by rw [Nat.add_mul_div_left _ _ (Nat.lt_of_le_of_lt (Nat.zero_le _) h),Nat.div_eq_of_lt h,Nat.zero_add]⟩
theorem vq (a n:Nat):max 0 (min (if (a:Int)<0 then (a:Int)+n else a) n)=((min a n:Nat):Int):=by
 rw [if_neg (Int.not_lt.mpr (Int.natCast_nonneg a)),show min (a:Int) n=((min a n:Nat):Int) from by omega]
 exact Int.max_eq_right (Int.natCast_nonneg _)
theorem L9 {a b c d:Nat} (h0:a<4) (h1:b<4) (h2:c<4) (h3:d<4):(a+4*b+16*c+64*d)/1%4=a/\(a+4*b+16*c+64*d)/4%4=b/\(a+4*b+16*c+64*d)/16%4=c/\(a+4*b+16*c+64*d)/64%4=d:=by
 have e:a+4*b+16*c+64*d=a+4*(b+4*(c+4*d)):=by omega
 rw [e,show 16=4*4 from rfl,show 64=4*4*4 from rfl,<-Nat.div_div_eq_div_mul,<-Nat.div_div_eq_div_mul,<-Nat.div_div_eq_div_mul,(yS h0).2,(yS h1).2,(yS h2).2,Nat.div_one]
 exact⟨(yS h0).1,(yS h1).1,(yS h2).1,Nat.mod_eq_of_lt h3⟩
section
set_option compiler.extract_closed false
set_option compiler.reuse false
namespace Q
open Lean
def kd (t:List Char):Name:=match t with
 | ':'::r=>`Lean.Parser.Term++Name.mkSimple (String.ofList r)
 | '_'::r=>Name.mkSimple (String.ofList r)
 | _=>`Lean.Parser.Tactic++Name.mkSimple (String.ofList t)
def at_ (w:String):Syntax:=.atom .none w
def nd (k:Name) (a:List Syntax):Syntax:=.node .none k a.toArray
def pk (a:List Syntax) (w:String):Syntax:=match w.toList with
 | '$'::c::_=>a.getD (c.toNat-48) .missing
 | '@'::t=>mkIdent (String.ofList t).toName
 | ['\'']=>at_ ")"
 | _=>at_ w
def tg (a:List Syntax):List String->Name->List Syntax->List (Name×List Syntax)->Syntax
 | [],_,b,_=>b.getD 0 .missing
 | w::r,k,b,q=>match w.toList with
  | '('::c::t=>tg a r (kd (c::t)) [] ((k,b)::q)
  | [')']=>match q with
   | (k2,b2)::q=>tg a r k2 (nd k b.reverse::b2) q
   | []=>.missing
  | _=>tg a r k (pk a w::b) q
def tp (s:String) (a:List Syntax):Syntax:=tg a (s.splitOn " ") `x [] []
def mp (f:Syntax->Syntax):List Syntax->List Syntax
 | []=>[]
 | x::l=>f x::mp f l
def sp (c:Syntax):List Syntax->List Syntax
 | []=>[]
 | [x]=>[x]
 | x::l=>x::c::sp c l
def Cv (a:List Syntax):Syntax:=nd `null a
def sq (a:List Syntax):Syntax:=tp "(tacticSeq (tacticSeq1Indented $0 ) )" [Cv (sp (at_ ";") a)]
def pr (a:List Syntax):Syntax:=tp "(paren ( $0 ' )" [sq a]
def fi (a:List Syntax):Syntax:=tp "(first first $0 )" [Cv (mp (fun t=>tp "(_group | $0 )" [sq [t]]) a)]
def ap (f:String) (a:List Syntax):Syntax:=tp "(:app $0 $1 )" [mkIdent f.toName,Cv a]
def hole:Syntax:=tp "(:syntheticHole ? _ )" []
def re (t:Syntax):Syntax:=tp "(refine refine $0 )" [t]
def rf (f:String) (a:List Syntax):Syntax:=re (ap f (a++[hole]))
def ex (t:Syntax):Syntax:=tp "(exact exact $0 )" [t]
def yT (h:Syntax):Syntax:=tp "(clear clear (_null $0 ) )" [h]
def Bv (a:List Syntax):Syntax:=tp "(intro intro $0 )" [Cv a]
def yU (p h:Syntax):Syntax:=tp "(obtain obtain (_null $0 ) (_null ) (_null := (_null $1 ) ) )" [p,h]
def F4 (t:Syntax):Syntax:=tp "(tacticTry_ try $0 )" [sq [t]]
def wr (t:Syntax):Syntax:=tp "(withReducible with_reducible $0 )" [sq [t]]
def JV (c:String) (a:List Syntax):Syntax:=tp "(rcasesPatMed $0 )" [Cv (sp (at_ c) a)]
def xe:Syntax:=mkIdent `ξ
def xr:Syntax:=mkIdent `ζ
def tT (h:Syntax):Syntax:=tp "(subst subst (_null $0 ) )" [h]
def kn (q:Syntax) (s:String):Bool:=q.getKind==`Lean.Parser.Tactic.rcasesPat++Name.mkSimple s
def Bw (q:Syntax):Bool:=q[0].getId==`rfl
def vt (q:Syntax):Bool:=let o:=q[0][0][0]
 q[0][0].getNumArgs==1&&q[1].getNumArgs==0&&((kn o "one"&& !Bw o)||kn o "ignore")
def F5 (q:Syntax):Syntax:=let o:=q[0][0][0];if o[0].isIdent then o[0] else tp "(:hole _ )" []
def tk:List Syntax->Nat->List Syntax
 | q::l,n+1=>if vt q then q::tk l n else []
 | _,_=>[]
def ks (h:Syntax) (n:Nat):Nat->List Syntax
 | 0=>[]
 | m+1=>ks h n m++[rf s!"k{m}_{n-m}" [h]]
def fOb (p h:Syntax):Option Syntax:=
 let c:=if h.isIdent then [F4 (yT h)] else []
 match p[0].getSepArgs.toList with
 | a::b::l=>some (tp "(focus focus $0 )" [sq (re (ap "Or.elim" [h,hole,hole])::c++[Bv [xr],yU (JV "|" [a]) xr,tp "(rotateLeft rotate_left (_null ) )" []]++c++[Bv [xr],yU (JV "|" (b::l)) xr,tp "(rotateRight rotate_right (_null ) )" []])])
 | [a]=>
  if kn a "one" then
   if Bw a then some (if h.isIdent then tT h else pr [rf "ceE" [h],Bv [xe],tT xe])
   else if h.isIdent then some (pr [tp "(revert revert (_null $0 ) )" [h],Bv [a[0]]]) else none
  else if kn a "ignore" then (if h.isIdent then c[0]? else none)
  else if !kn a "tuple" then none else
  let ps:=a[1].getSepArgs.toList
  let s:=tk ps 99
  let s:=if s.length==ps.length&&s.length<9 then s else s.take 7
  let r:=ps.drop s.length
  let tu:=fun l=>JV "" [a.setArg 1 (Cv (sp (at_ ",") l))]
  let go:=fun nm th=>if nm.length<2 then none else some (pr (fi (ks h nm.length (min 8 nm.length))::c++Bv nm::th))
  let nm:=mp F5 s
  match r with
  | []=>go nm []
  | [q]=>go (nm++[xe]) [yU q[0] xe]
  | q::t=>
   if vt q then go (nm++[xr]) [yU (tu r) xr]
   else if q[0][0].getNumArgs>1 then none
   else match t with
   | [u]=>if vt u then go (nm++[xe,F5 u]) [yU q[0] xe] else go (nm++[xe,xr]) [yU q[0] xe,yU u[0] xr]
   | _=>go (nm++[xe,xr]) [yU q[0] xe,yU (tu t) xr]
 | []=>none
def fCa (s:Syntax):Option Syntax:=
 let g:=s[1][0]
 let h:=g[1]
 if s[1].getNumArgs != 1||g[0].getNumArgs != 0||s[2].getNumArgs != 0||!h.isIdent then none else
 let al:=s[3][0][2]
 let lh:=al[0][0][0]
 let v:=lh[2].getArgs.toList
 let ho:=tp "(:hole _ )" []
 let tl:=fun f b u=>pr (rf f [h]::yT h::Bv (b++v)::u++[tp "(paren ( $0 ' )" [al[0][1][1]]])
 some (fi ((if s[3].getNumArgs==0 then [ex (ap "ceN" [h]),ex (ap "ceM" [h]),pr [rf "ceS" [h],yT h,Bv [xe],tT xe],tT h]
  else if al.getNumArgs==1&&lh[1][1].getId==`cons&&v.length==2 then [tl "All2.cB" [] [],tl "All2.cR" [ho,ho,xe] [tT xe],tl "All2.cL" [ho,ho,xe] [tT xe]] else [])++
  mp (fun n=>tp "(induction induction (_null $0 ) $1 (_null ) $2 )" [g,n,s[3]]) [tp "(_null using @PySem.Expr.casesOn )" [],tp "(_null using @PySem.Stmt.casesOn )" [],Cv []]))
def fRw (s:Syntax):Option Syntax:=
 let rs:=s[2][1].getSepArgs.toList
 let en:=[F4 (wr (tp "(tacticRfl rfl )" []))]
 let sy:=fun (r:Syntax) f=>if r[0].getNumArgs==0 then r[1] else ap f [r[1]]
 if s[1][0].getNumArgs != 0 then none
 else if s[3].getNumArgs==0 then some (pr (mp (fun r=>fi [rf "rwE" [sy r "Eq.symm"],rf "rwE" [ap "propext" [sy r "Iff.symm"]],tp "(rewriteSeq rewrite (optConfig (_null ) ) (rwRuleSeq [ (_null $0 ) ] ) (_null ) )" [r]]) rs++en))
 else
 let l:=s[3][0][1]
 let h:=l[0][0]
 if l.getKind != `Lean.Parser.Tactic.locationHyp||l[0].getNumArgs != 1||!h.isIdent||(s[2].find? fun s=>s.getKind==`Lean.Parser.Term.byTactic||s.getKind==`Lean.Parser.Term.nofun||s.getKind==`Lean.Parser.Term.nomatch).isSome then none
 else some (pr (mp (fun r=>pr [fi [wr (rf "trT" [h,sy r "Eq.symm"]),rf "trK" [tp "(:subst $0 ▸ (_null $1 ) )" [sy r "Eq.symm",h]]],yT h,Bv [h]]) rs++en))
def ofO (o:Option Syntax):MacroM Syntax:=match o with
 | some t=>pure t
 | none=>Macro.throwUnsupported
end Q
set_option compiler.extract_closed true
set_option compiler.reuse true
local macro_rules (kind:=Lean.Parser.Tactic.obtain)
 | s=>Q.ofO (if s[1].getNumArgs==1&&s[2].getNumArgs==0&&s[3][1].getNumArgs==1 then Q.fOb s[1][0] s[3][1][0] else none)
local macro_rules (kind:=Lean.Parser.Tactic.rcases)
 | s=>Q.ofO (if s[1].getNumArgs==1&&s[1][0][0].getNumArgs==0&&s[2].getNumArgs==2&&s[2][1][1].getNumArgs==0 then Q.fOb s[2][1][0] s[1][0][1] else none)
local macro_rules (kind:=Lean.Parser.Tactic.cases)
 | s=>Q.ofO (Q.fCa s)
local macro_rules (kind:=Lean.Parser.Tactic.rwSeq)
 | s=>Q.ofO (Q.fRw s)
local macro_rules (kind:=Lean.Parser.Tactic.show)
 | s=>pure (Q.tp "(refine refine (:typeAscription (:hygienicLParen ( (_hygieneInfo @ ) ) (:syntheticHole ? _ ) : (_null $0 ) ' ) )" [s[1]])
local macro_rules (kind:=Lean.Parser.Tactic.omega)
 | s=>pure (Q.tp "(lia lia (optConfig (_null ) ) )" [])
noncomputable abbrev PM:=Addr->Option Obj
noncomputable def In (p:PM) (h:Heap):Prop:=∀ a o,p a=some o->h.get? a=some o
noncomputable def Dj (p q:PM):Prop:=∀ a,p a=none\/q a=none
noncomputable def put (p:PM) (a:Addr) (o:Obj):PM:=fun b=>if b=a then some o else p b
noncomputable def Cw (p:PM) (a:Addr):PM:=fun b=>if b=a then none else p b
noncomputable def un (p q:PM):PM:=fun a=>(p a).or (q a)
noncomputable def Le (p q:PM):Prop:=∀ a o,p a=some o->q a=some o
noncomputable def emp:PM:=fun ι=>none
theorem Le.refl (p:PM):Le p p:=fun ι ι e=>e
theorem Le.trans {p q r:PM} (x:Le p q) (y:Le q r):Le p r:=fun a o e=>y a o (x a o e)
theorem Le.non {p q:PM} (x:Le p q) {a:Addr} (e:q a=none):p a=none:=by
 cases h:p a with
 | none=>rfl
 | some o=>rw [x a o h] at e;cases e
theorem aK (p:PM) (a:Addr) (o:Obj):put p a o a=some o:=if_pos rfl
theorem dH {p:PM} {a b:Addr} {o:Obj} (h:b≠a):put p a o b=p b:=if_neg h
theorem fR {p:PM} {a b:Addr} {o:Obj} (h:p b=none) (n:b≠a):put p a o b=none:=(dH n).trans h
theorem jX {p:PM} {a b:Addr} {o x:Obj} (h:put p a o b=some x):(b=a/\x=o)\/(b≠a/\p b=some x):=by
 by_cases q:b=a
 ·subst q;rw [aK] at h;cases h;exact .inl ⟨rfl,rfl⟩
 ·rw [dH q] at h;exact .inr ⟨q,h⟩
theorem Le.put {p:PM} {a:Addr} {o:Obj} (h:p a=none):Le p (put p a o):=fun b x e=>by
 have:b≠a:=fun z=>by subst z;rw [h] at e;cases e
 exact (dH this).trans e
theorem jY (p:PM) (a:Addr):Cw p a a=none:=if_pos rfl
theorem qj {p:PM} {a b:Addr} (h:b≠a):Cw p a b=p b:=if_neg h
theorem qk (p:PM) (a:Addr):Le (Cw p a) p:=fun b o e=>by
 have:b≠a:=fun z=>by subst z;rw [jY] at e;cases e
 exact (qj this).symm.trans e
theorem cX {p q:PM} {a:Addr} {o:Obj} (h:p a=some o):un p q a=some o:=by unfold un;rw [h];rfl
theorem hY {p q:PM} {a:Addr} {o:Obj} (h:p a=none) (h':q a=some o):un p q a=some o:=by unfold un;rw [h];exact h'
theorem cY {p q:PM} {a:Addr}:un p q a=none ↔ p a=none/\q a=none:=by unfold un;cases p a<;>simp
theorem jB {p q:PM} {a:Addr} {o:Obj} (h:un p q a=some o):p a=some o\/q a=some o:=by
 unfold un at h;cases e:p a with
 | none=>rw [e] at h;exact .inr h
 | some x=>rw [e] at h;exact .inl h
structure W where
 γ:List Addr
 own:Addr->Option Nat
 R:PM
 B:PM
 F:PM
 vm:Str->Option Value
 s:Shared
noncomputable abbrev W.h (w:W):Heap:=w.s.heap
noncomputable def W.to (w:W) (h:Heap) (n:Nat):W:={ w with s:={ w.s with heap:=h,toks:=n } }
noncomputable def W.tk (w:W) (n:Nat):W:={ w with s:={ w.s with toks:=n } }
structure ai (w:W) (a:Addr):Prop where
 r:w.R a=none
 b:w.B a=none
 f:w.F a=none
 o:w.own a=none
structure Ok (w:W):Prop where
 r:In w.R w.h
 b:In w.B w.h
 f:In w.F w.h
 rb:Dj w.R w.B
 rf:Dj w.R w.F
 bf:Dj w.B w.F
 o:∀ a,w.own a≠none->(∃ o,w.h.get? a=some o)/\w.R a=none/\w.B a=none/\w.F a=none
theorem Dj.l {p q:PM} (x:Dj p q) {a:Addr} {o:Obj} (h:p a=some o):q a=none:=(x a).resolve_left (by rw [h];exact nofun)
theorem Dj.r {p q:PM} (x:Dj p q) {a:Addr} {o:Obj} (h:q a=some o):p a=none:=(x a).resolve_right (by rw [h];exact nofun)
theorem Dj.le {p p' q q':PM} (x:Dj p q) (h:Le p' p) (h':Le q' q):Dj p' q':=fun a=>(x a).imp h.non h'.non
theorem Dj.putL {p q:PM} (x:Dj p q) {a:Addr} {o:Obj} (h:q a=none):Dj (put p a o) q:=fun b=>by
 by_cases hb:b=a
 ·rw [hb];exact .inr h
 ·rw [dH hb];exact x b
theorem Dj.symm {p q:PM} (x:Dj p q):Dj q p:=fun a=>(x a).symm
theorem Dj.putR {p q:PM} (x:Dj p q) {a:Addr} {o:Obj} (h:p a=none):Dj p (put q a o):=(x.symm.putL h).symm
theorem Dj.un {p q r:PM} (x:Dj p r) (y:Dj q r):Dj (un p q) r:=fun a=>by
 rcases x a with h1 | h1
 ·rcases y a with h2 | h2
  ·exact .inl (cY.mpr ⟨h1,h2⟩)
  ·exact .inr h2
 ·exact .inr h1
theorem In.lt {p:PM} {h:Heap} (x:In p h) {a:Addr} {o:Obj} (e:p a=some o):a<h.objs.size:=Heap.lt_size (x a o e)
theorem In.none {p:PM} {h:Heap} (x:In p h) {a:Addr} (ha:h.objs.size<=a):p a=none:=by
 cases e:p a with
 | none=>rfl
 | some o=>exact absurd (x.lt e) (Nat.not_lt.mpr ha)
theorem In.put {p:PM} {h:Heap} (x:In p h) {a:Addr} {o:Obj} (e:h.get? a=some o):In (put p a o) h:=fun b o' q=>by
 rcases jX q with ⟨rfl,rfl⟩ | ⟨_,q⟩
 ·exact e
 ·exact x b o' q
noncomputable def Kp (w:W) (h:Heap):Prop:=∀ b o,¬ ai w b->w.h.get? b=some o->h.get? b=some o
section
variable {w:W} {a:Addr} {ob ob':Obj} {h:Heap} {n:Nat}
theorem Ok.free (x:Ok w) (ha:w.h.objs.size<=a):ai w a:=⟨x.r.none ha,x.b.none ha,x.f.none ha,by
 cases e:w.own a with
 | none=>rfl
 | some k=>obtain⟨⟨o,q⟩,_⟩:=x.o a (by rw [e];exact nofun);exact absurd (Heap.lt_size q) (Nat.not_lt.mpr ha)⟩
theorem JW {w:W} {b o} (e:w.R b=some o):¬ ai w b:=fun f=>by rw [f.r] at e;cases e
theorem JX {w:W} {b o} (e:w.B b=some o):¬ ai w b:=fun f=>by rw [f.b] at e;cases e
theorem JY {w:W} {b o} (e:w.F b=some o):¬ ai w b:=fun f=>by rw [f.f] at e;cases e
theorem F6 {w:W} {b} (e:w.own b≠none):¬ ai w b:=fun f=>e f.o
theorem Ok.to (x:Ok w) (k:Kp w h):Ok (w.to h n) :=
 ⟨fun b o e=>k b o (JW e) (x.r b o e),fun b o e=>k b o (JX e) (x.b b o e),fun b o e=>k b o (JY e) (x.f b o e),x.rb,x.rf,x.bf,fun b e=>let ⟨⟨o,q⟩,r⟩:=x.o b e;⟨⟨o,k b o (F6 e) q⟩,r⟩⟩
theorem Ok.tk (x:Ok w) (n:Nat):Ok (w.tk n):=⟨x.r,x.b,x.f,x.rb,x.rf,x.bf,x.o⟩
noncomputable def W.toB (w:W) (a:Addr) (ob:Obj):W:={ w with B:=put w.B a ob }
noncomputable def W.toF (w:W) (a:Addr) (ob:Obj):W:={ w with F:=put w.F a ob }
noncomputable def W.toFF (w:W) (h:Heap) (n:Nat) (F:PM):W:={ w with F:=F,s:={ w.s with heap:=h,toks:=n } }
noncomputable def W.frz (w:W) (a:Addr) (ob:Obj):W:={ w with B:=put w.B a ob,F:=Cw w.F a }
noncomputable def W.inR (w:W) (R:PM):W:={ w with R:=R }
noncomputable def W.toR (w:W) (T:PM):W:={ w with R:=un w.R T }
theorem Ok.toB (x:Ok w) (f:ai w a) (e:w.h.get? a=some ob):Ok (w.toB a ob) :=
 ⟨x.r,x.b.put e,x.f,x.rb.putR f.r,x.rf,x.bf.putL f.f,fun b q=>k0_4 (x.o b q) fun h1 h2 h3 h4=>(a7 h1 h2 (fR h3 fun z=>q (z▸f.o)) h4)⟩
theorem Ok.toR (x:Ok w) {T:PM} (f:∀ a o,T a=some o->ai w a/\w.h.get? a=some o):Ok (w.toR T):=by
 have d:∀ {q:PM},(∀ a,ai w a->q a=none)->Dj T q:=fun hq a=>by
  cases e:T a with
  | none=>exact .inl rfl
  | some o=>exact .inr (hq a (f a o e).1)
 refine⟨fun b o e=>?_,x.b,x.f,x.rb.un (d fun ι z=>z.b),x.rf.un (d fun ι z=>z.f),x.bf,fun b q=>k0_4 (x.o b q) fun h1 h2 h3 h4=>(a7 h1 (cY.mpr ⟨h2,?_⟩) h3 h4)⟩
 ·rcases jB e with e | e
  ·exact x.r b o e
  ·exact (f b o e).2
 ·cases e:T b with
  | none=>rfl
  | some o=>exact absurd (f b o e).1.o q
theorem Ok.outR {R T:PM} (x:Ok w) (e:w.R=un R T) (hT:∀ a,T a≠none->R a=none):Ok (w.inR R)/\∀ a o,T a=some o->ai (w.inR R) a/\w.h.get? a=some o:=by
 have l:Le R (un R T):=fun a o q=>cX q
 refine⟨⟨fun b o q=>x.r b o (by rw [e];exact cX q),x.b,x.f,x.rb.le (by rw [e];exact l) (Le.refl _),x.rf.le (by rw [e];exact l) (Le.refl _),x.bf,fun b q=>k0_4 (x.o b q) fun h1 h2 h3 h4=>(a7 h1 (by rw [e] at h2;exact (cY.mp h2).1) h3 h4)⟩,fun a o q=>?_⟩
 have hr:=hT a (by rw [q];exact nofun)
 have q':w.R a=some o:=by rw [e];exact hY hr q
 refine⟨⟨hr,x.rb.l q',x.rf.l q',?_⟩,x.r _ _ q'⟩
 show w.own a=none
 cases z:w.own a with
 | none=>rfl
 | some k=>have:=(x.o a (by rw [z];exact nofun)).2.1;rw [q'] at this;cases this
theorem Ok.setF (x:Ok w) (e:w.F a=some ob) (hs:Heap.SameBut a w.h h) (e':h.get? a=some ob'):Ok (w.toFF h n (put w.F a ob')):=by
 have ne:∀ {q:PM} {b o},q a=none->q b=some o->b≠a:=fun hq hb z=>by clear e hs e';subst z;rw [hq] at hb;cases hb
 have ka:w.own a=none:=by
  cases z:w.own a with
  | none=>rfl
  | some k=>have:=(x.o a (by rw [z];exact nofun)).2.2.2;rw [e] at this;cases this
 refine⟨fun b o q=>(hs.2 b (ne (x.rf.r e) q)).trans (x.r b o q),fun b o q=>(hs.2 b (ne (x.bf.r e) q)).trans (x.b b o q),fun b o q=>?_,x.rb,x.rf.putR (x.rf.r e),x.bf.putR (x.bf.r e),fun b q=>?_⟩
 ·rcases jX q with ⟨rfl,rfl⟩ | ⟨hb,q⟩
  ·exact e'
  ·exact (hs.2 b hb).trans (x.f b o q)
 ·obtain⟨h1,h2,h3,h4⟩:=x.o b q
  exact (a7 (h1.imp fun o q'=>(hs.2 b fun z=>q (z▸ka)).trans q') h2 h3 (fR h4 fun z=>q (z▸ka)))
theorem Ok.freeze (x:Ok w) (e:w.F a=some ob):Ok (w.frz a ob):=by
 have l:=qk w.F a
 refine⟨x.r,x.b.put (x.f _ _ e),fun b o q=>x.f b o (l b o q),x.rb.putR (x.rf.r e),x.rf.le (Le.refl _) l,(x.bf.le (Le.refl _) l).putL (jY _ _),fun b q=>?_⟩
 obtain⟨h1,h2,h3,h4⟩:=x.o b q
 exact (a7 h1 h2 (fR h3 (fun z=>by clear l q;subst z;rw [e] at h4;cases h4)) (l.non h4))
end
inductive All2 {α β:Type} (R:α->β->Prop):List α->List β->Prop
 | nil:All2 R [] []
 | cons {a b l m}:R a b->All2 R l m->All2 R (a::l) (b::m)
theorem All2.cB {α β:Type} {R:α->β->Prop} {a b l m} {G:Prop} (h:All2 R (a::l) (b::m)) (k:R a b->All2 R l m->G):G:=by
 cases (h) with
 | cons x y=>exact k x y
theorem All2.cR {α β:Type} {R:α->β->Prop} {v b m} {G:Prop} (h:All2 R v (b::m)) (k:∀ a l,v=a::l->R a b->All2 R l m->G):G:=by
 cases (h) with
 | cons x y=>exact k _ _ rfl x y
theorem All2.cL {α β:Type} {R:α->β->Prop} {v a l} {G:Prop} (h:All2 R (a::l) v) (k:∀ b m,v=b::m->R a b->All2 R l m->G):G:=by
 cases (h) with
 | cons x y=>exact k _ _ rfl x y
section
variable {α β:Type} {R R':α->β->Prop} {l l':List α} {m m':List β}
theorem All2.imp (x:All2 R l m) (h:∀ a b,R a b->R' a b):All2 R' l m:=by
 induction x with
 | nil=>exact .nil
 | cons a _ ih=>exact .cons (h _ _ a) ih
theorem All2.len (x:All2 R l m):l.length=m.length:=by
 induction x with
 | nil=>rfl
 | cons _ _ ih=>exact congrArg Nat.succ ih
theorem All2.app (x:All2 R l m) (y:All2 R l' m'):All2 R (l++l') (m++m'):=by
 induction x with
 | nil=>exact y
 | cons a _ ih=>exact .cons a ih
theorem All2.snoc (x:All2 R l m) {a b} (y:R a b):All2 R (l++[a]) (m++[b]):=x.app (.cons y .nil)
theorem All2.get (x:All2 R l m):∀ {i:Nat} {b:β},m[i]?=some b->∃ a,l[i]?=some a/\R a b:=by
 induction x with
 | nil=>intro i b e;cases e
 | cons a _ ih =>
  intro i b e
  cases i with
  | zero=>cases e;exact (aa _ rfl a)
  | succ i=>exact ih e
theorem All2.get' (x:All2 R l m):∀ {i:Nat} {a:α},l[i]?=some a->∃ b,m[i]?=some b/\R a b:=by
 induction x with
 | nil=>intro i b e;cases e
 | cons a _ ih =>
  intro i b e
  cases i with
  | zero=>cases e;exact (aa _ rfl a)
  | succ i=>exact ih e
theorem All2.at (x:All2 R l m) {i:Nat} {a:α} {b:β} (e:l[i]?=some a) (e':m[i]?=some b):R a b:=by
 obtain⟨c,h1,h2⟩:=x.get e'
 rw [e] at h1;cases h1;exact h2
theorem All2.rev (x:All2 R l m):All2 R l.reverse m.reverse:=by
 induction x with
 | nil=>exact .nil
 | cons a _ ih=>rw [List.reverse_cons,List.reverse_cons];exact ih.snoc a
theorem All2.set (x:All2 R l m) (i:Nat) {a b} (y:R a b):All2 R (l.set i a) (m.set i b):=by
 induction x generalizing i with
 | nil=>exact .nil
 | cons c d ih =>
  cases i with
  | zero=>exact .cons y d
  | succ i=>exact .cons c (ih i)
theorem All2.erase (x:All2 R l m) (i:Nat):All2 R (l.eraseIdx i) (m.eraseIdx i):=by
 induction x generalizing i with
 | nil=>exact .nil
 | cons c d ih =>
  cases i with
  | zero=>exact d
  | succ i=>exact .cons c (ih i)
theorem All2.rep {a b} (y:R a b) (n:Nat):All2 R (List.replicate n a) (List.replicate n b):=by
 induction n with
 | zero=>exact .nil
 | succ n ih=>exact .cons y ih
theorem All2.pick (x:All2 R l m) (ps:List Nat):All2 R (ps.filterMap (l[·]?)) (ps.filterMap (m[·]?)):=by
 induction ps with
 | nil=>exact .nil
 | cons i ps ih =>
  rw [List.filterMap_cons,List.filterMap_cons]
  cases q:m[i]? with
  | none =>
   have:l[i]?=none:=by rw [List.getElem?_eq_none_iff] at q ⊢;rw [x.len];exact q
   rw [this];exact ih
  | some d =>
   obtain⟨v,hv,rv⟩:=x.get q
   rw [hv];exact .cons rv ih
theorem All2.mapR {γ:Type} {f:γ->β} {l:List α} {m:List γ} (x:All2 (fun a c=>R a (f c)) l m):All2 R l (m.map f):=by
 induction x with
 | nil=>exact .nil
 | cons a _ ih=>exact .cons a ih
end
noncomputable abbrev ae (vs:List Value) (n:Nat):Obj:={ cls:=.type "list",data:=.seq vs.toArray n }
noncomputable abbrev bo (vs:List Value):Obj:={ cls:=.type "tuple",data:=.seq vs.toArray }
mutual
inductive Rd (B:PM):Value->PyData->Prop
 | none:Rd B .none .none
 | bool (b):Rd B (.bool b) (.bool b)
 | int (i t):Rd B (.int i t) (.int i)
 | str (x t):Rd B (.str x t) (.str x)
 | list {a vs n xs}:B a=some (ae vs n)->Rds0 B vs xs->Rd B (.ref a) (.list xs)
 | tuple {a vs xs}:B a=some (bo vs)->Rds0 B vs xs->Rd B (.ref a) (.tuple xs)
 | dict0 {a}:(a==sysModules)=false->B a=some { cls:=.type "dict",data:=.dict #[] }->Rd B (.ref a) (.dict [])
inductive Rds0 (B:PM):List Value->List PyData->Prop
 | nil:Rds0 B [] []
 | cons {v vs d ds}:Rd B v d->Rds0 B vs ds->Rds0 B (v::vs) (d::ds)
end
noncomputable abbrev cP (B:PM):=All2 (Rd B)
theorem Rds0.all {B:PM} {vs ds} (x:Rds0 B vs ds):cP B vs ds :=
 Rds0.rec (motive_1:=fun ι ι ι=>True) (motive_2:=fun vs ds ι=>cP B vs ds) trivial (fun ι=>trivial) (fun ι ι=>trivial) (fun ι ι=>trivial) (fun ι ι ι=>trivial) (fun ι ι ι=>trivial) (fun ι ι=>trivial) .nil (fun a ι ι ih=>.cons a ih) x
theorem All2.rds0 {B:PM} {vs ds} (x:cP B vs ds):Rds0 B vs ds:=by
 induction x with
 | nil=>exact .nil
 | cons a _ ih=>exact .cons a ih
theorem Rd.lst {B:PM} {a vs n xs} (e:B a=some (ae vs n)) (x:cP B vs xs):Rd B (.ref a) (.list xs):=.list e x.rds0
theorem Rd.tup {B:PM} {a vs xs} (e:B a=some (bo vs)) (x:cP B vs xs):Rd B (.ref a) (.tuple xs):=.tuple e x.rds0
theorem Rd.le {B B':PM} (k:Le B B') {v d} (x:Rd B v d):Rd B' v d :=
 Rd.rec (motive_1:=fun v d ι=>Rd B' v d) (motive_2:=fun vs ds ι=>Rds0 B' vs ds) .none .bool .int .str (fun e ι ih=>.list (k _ _ e) ih) (fun e ι ih=>.tuple (k _ _ e) ih) (fun n e=>.dict0 n (k _ _ e)) .nil (fun ι ι a b=>.cons a b) x
theorem cP.le {B B':PM} (k:Le B B') {vs ds} (x:cP B vs ds):cP B' vs ds:=x.imp fun ι ι=>Rd.le k
theorem Rd.reads {B:PM} {h:Heap} (k:In B h) {v d} (x:Rd B v d):∃ as,Reads h v d as :=
 Rd.rec (motive_1:=fun v d ι=>∃ as,Reads h v d as) (motive_2:=fun vs ds ι=>∃ as,ReadsAll h vs ds as) ⟨_,.none⟩ (fun b=>⟨_,.bool b⟩) (fun i t=>⟨_,.int i t⟩) (fun x t=>⟨_,.str x t⟩)
  (fun e ι ih=>ih.elim fun ι y=>⟨_,.list (k _ _ e) rfl rfl y⟩) (fun e ι ih=>ih.elim fun ι y=>⟨_,.tuple (k _ _ e) rfl rfl y⟩) (fun ι e=>⟨_,.dict (k _ _ e) rfl rfl .nil .nil⟩) ⟨_,.nil⟩ (fun ι ι a b=>a.elim fun ι y=>b.elim fun ι z=>⟨_,.cons y z⟩) x
theorem cP.reads {B:PM} {h:Heap} (k:In B h) {vs ds} (x:cP B vs ds):∃ as,ReadsAll h vs ds as:=by
 induction x with
 | nil=>exact⟨_,.nil⟩
 | cons a _ ih=>obtain⟨_,y⟩:=a.reads k;obtain⟨_,z⟩:=ih;exact⟨_,.cons y z⟩
theorem Rd.isInt {B:PM} {v i} (x:Rd B v (.int i)):∃ t,v=.int i t:=by cases x;exact⟨_,rfl⟩
theorem Rd.isStr {B:PM} {v i} (x:Rd B v (.str i)):∃ t,v=.str i t:=by cases x;exact⟨_,rfl⟩
theorem Rd.isBool {B:PM} {v b} (x:Rd B v (.bool b)):v=.bool b:=by cases x;rfl
theorem Rd.isNone {B:PM} {v} (x:Rd B v .none):v=.none:=by cases x;rfl
theorem Rd.isList {B:PM} {v xs} (x:Rd B v (.list xs)):∃ a vs n,v=.ref a/\B a=some (ae vs n)/\cP B vs xs:=by cases x with | list e r=>exact (cA _ _ _ rfl e r.all)
theorem Rd.isTup {B:PM} {v xs} (x:Rd B v (.tuple xs)):∃ a vs,v=.ref a/\B a=some (bo vs)/\cP B vs xs:=by cases x with | tuple e r=>exact (aF _ _ rfl e r.all)
noncomputable def FG (w:W) (v:Value) (ds:List PyData):Prop:=∃ a vs n,v=.ref a/\w.h.get? a=some (ae vs n)/\cP w.B vs ds
noncomputable def Pk (w:W) (v:Value) (d:PyData):Prop:=Rd w.B v d\/∃ ds,d=.list ds/\FG w v ds
theorem Pk.lst {w:W} (b:In w.B w.h) {v ds} (x:Pk w v (.list ds)):FG w v ds:=by
 rcases x with x | ⟨ds',e,x⟩
 ·obtain⟨a,vs,n,zq,e,r⟩:=x.isList;rw [zq]
  exact (cA a vs n rfl (b _ _ e) r)
 ·cases e;exact x
theorem Pk.rd {w:W} {v d} (x:Pk w v d) (h:∀ ds,d≠.list ds):Rd w.B v d:=x.elim id fun y7953=>k1_2 y7953 fun ds e ι=>absurd e (h ds)
theorem Pk.reads {w:W} (b:In w.B w.h) {v d} (x:Pk w v d):∃ as,Reads w.h v d as:=by
 rcases x with x | ⟨ds',rfl,a,vs,n,rfl,e,r⟩
 ·exact x.reads b
 ·obtain⟨as,y⟩:=r.reads b
  exact⟨_,.list e rfl rfl y⟩
theorem Pk.mono {w w':W} (x:Le w.B w'.B) (k:∀ a o,w.h.get? a=some o->w'.h.get? a=some o) {v d} (y:Pk w v d):Pk w' v d :=
 y.imp (Rd.le x) fun ⟨ds,e,a,vs,n,e1,e2,e3⟩=>(aa ds e (cA a vs n e1 (k _ _ e2) (e3.le x)))
inductive ab where
 | dat (d:PyData)
 | obj (k:Nat)
 | raw (v:Value)
 | tup (l:List (PyData ⊕ Nat))
inductive GObj where
 | tab (i:Nat)
 | inst (c:Nat) (attrs:List (Str×ab))
 | lst (ds:List PyData)
 | clo (sg:Nat)
 | citer (k:Nat) (done:Bool)
 | gone
inductive Slot where
 | val (v:ab)
 | lst (ds:List PyData)
noncomputable abbrev Rho:=List (Str×Slot)
structure St where
 ρ:Rho
 G:List GObj
inductive RV where
 | val (v:ab)
 | own (ds:List PyData)
inductive Fl where
 | next
 | cont
 | ret (v:ab)
noncomputable def RV.fz:RV->ab
 | .val v=>v
 | .own ds=>.dat (.list ds)
noncomputable def RV.slot:RV->Slot
 | .val v=>.val v
 | .own ds=>.lst ds
noncomputable def V0 (γ:List Addr) (B:PM) (v:Value):PyData ⊕ Nat->Prop
 | .inl d=>Rd B v d
 | .inr k=>∃ a,v=.ref a/\γ[k]?=some a
noncomputable def VR (γ:List Addr) (B:PM) (v:Value):ab->Prop
 | .dat d=>Rd B v d
 | .obj k=>∃ a,v=.ref a/\γ[k]?=some a
 | .raw u=>v=u
 | .tup l=>∃ a vs,v=.ref a/\B a=some (bo vs)/\All2 (V0 γ B) vs l
noncomputable abbrev qm (γ:List Addr) (B:PM):=All2 (VR γ B)
noncomputable def bD (γ γ':List Addr):Prop:=∀ (k:Nat) (a:Addr),γ[k]?=some a->γ'[k]?=some a
theorem bD.refl (γ:List Addr):bD γ γ:=fun ι ι e=>e
theorem bD.trans {a b c:List Addr} (x:bD a b) (y:bD b c):bD a c:=fun k z e=>y k z (x k z e)
theorem bD.append (γ l:List Addr):bD γ (γ++l):=fun k a e=>by
 have:=(List.getElem?_eq_some_iff.mp e).1
 rw [List.getElem?_append_left this];exact e
theorem V0.le {γ γ':List Addr} {B B':PM} (g:bD γ γ') (k:Le B B') {v d} (x:V0 γ B v d):V0 γ' B' v d:=by
 cases d with
 | inl d=>exact Rd.le k x
 | inr j=>obtain⟨a,e,q⟩:=x;exact (aa a e (g _ _ q))
theorem VR.le {γ γ':List Addr} {B B':PM} (g:bD γ γ') (k:Le B B') {v d} (x:VR γ B v d):VR γ' B' v d:=by
 cases d with
 | dat d=>exact Rd.le k x
 | obj j=>obtain⟨a,e,q⟩:=x;exact (aa a e (g _ _ q))
 | raw u=>exact x
 | tup l=>obtain⟨a,vs,e,q,r⟩:=x;exact (aF a vs e (k _ _ q) (r.imp fun ι ι=>V0.le g k))
theorem qm.le {γ γ':List Addr} {B B':PM} (g:bD γ γ') (k:Le B B') {v d} (x:qm γ B v d):qm γ' B' v d:=x.imp fun ι ι=>VR.le g k
noncomputable def vv (o:Obj) (m:Str->Option Value):Prop:=∃ es ep,o.data=.dict es ep/\StrKeys es/\∀ name,nsFind es name=m name
theorem vv.ns {o:Obj} {m:Str->Option Value} {h:Heap} {a:Addr} (x:vv o m) (e:h.get? a=some o):h.Ns a m :=
 k2_3 x fun es ep h1 h2 h3=>(dy o es ep e h1 h2 h3)
theorem mG {m:Str->Option Value} {h:Heap} {a:Addr} (x:h.Ns a m):∃ o,h.get? a=some o/\vv o m :=
 k3_4 x fun o es ep e h1 h2 h3=>(aa o e (aF es ep h1 h2 h3))
noncomputable def af (ρ:Rho) (x:Str):Option Slot:=ρ.lookup x
noncomputable def aG:Rho->Str->Slot->Rho
 | [],x,s=>[(x,s)]
 | (y,t)::r,x,s=>if x==y then (y,s)::r else (y,t)::aG r x s
theorem cC (ρ:Rho) (x y:Str) (s:Slot):af (aG ρ x s) y=if y=x then some s else af ρ y:=by
 unfold af
 induction ρ with
 | nil =>
  show List.lookup y [(x,s)]=_
  rw [List.lookup_cons,List.lookup_nil]
  by_cases h:y=x
  ·subst h;simp
  ·have:(y==x)=false:=by simpa using h
   rw [this,if_neg h]
 | cons p r ih =>
  obtain⟨z,t⟩:=p
  show List.lookup y (if x==z then (z,s)::r else (z,t)::aG r x s)=_
  by_cases hx:x=z
  ·subst hx
   rw [if_pos (beq_self_eq_true x),List.lookup_cons,List.lookup_cons]
   by_cases h:y=x
   ·rw [<- h];simp
   ·have:(y==x)=false:=by simpa using h
    rw [this,if_neg h]
  ·have hx':(x==z)=false:=by simpa using hx
   rw [hx',if_neg Bool.false_ne_true,List.lookup_cons,List.lookup_cons,ih]
   by_cases h:y=z
   ·clear hx';subst h
    have hyx:¬ y=x:=fun e=>hx e.symm
    rw [beq_self_eq_true];exact (if_neg hyx).symm
   ·have:(y==z)=false:=by simpa using h
    rw [this]
noncomputable def Cy (o:Obj) (m:Str->Option Value):Prop:=∃ es ep,o.data=.dict es ep/\StrKeys es/\UniqKeys es/\∀ name,nsFind es name=m name
noncomputable def InstAt (h:Heap) (a dx C:Addr) (mA:Str->Option Value):Prop :=
 ∃ o od,h.get? a=some o/\o.cls=.ref C/\(∀ c,o.data≠.cls c)/\o.dict=some dx/\dx≠a/\h.get? dx=some od/\Cy od mA
theorem InstAt.inst {h:Heap} {a dx C:Addr} {mA} (I:InstAt h a dx C mA):h.Inst a C mA :=
 k2_7 I fun o od h1 h2 h3 h4 h5 h6 y=>k2_1 y fun es ep h7 =>
 (hX o h1 h2 h3 (.inr (aB dx h4 h5 (JI od es ep h6 h7))))
theorem rW {m:Str->Option Value} {h:Heap} {a:Addr} (x:h.Ns1 a m):∃ o,h.get? a=some o/\Cy o m :=
 k3_5 x fun o es ep e h1 h2 h3 h4=>(aa o e (cQ es ep h1 h2 h3 h4))
noncomputable def dI (B:PM) (c:Addr) (q:Str):Prop:=∃ oc vs t,B c=some oc/\oc.data=.fields vs/\vs[1]?=some (.str q t)
theorem dI.rec {B:PM} {c:Addr} {q:Str} (x:dI B c q) {h:Heap} (i:In B h):h.CodeRec (.ref c) q :=
 k3_3 x fun oc vs t a b d=>(FX c oc vs t rfl (i _ _ a) b d)
theorem dI.le {B B':PM} {c:Addr} {q:Str} (x:dI B c q) (k:Le B B'):dI B' c q :=
 k3_3 x fun oc vs t a b d=>(cA oc vs t (k _ _ a) b d)
noncomputable abbrev dT (vs:Array Value):Obj:={ cls:=.type "callable_iterator",data:=.fields vs }
structure F7 where
 params:Arguments
 body:Expr
 scope:Scope
 qual:Str
structure F8 where
 at_:Addr
 pos:Pos
 qual:Str
structure aD where
 prog:Program
 w:World
 mg:Str->Option Value
 mb:Str->Option Value
 K:PM
 cls:Nat->Addr
 tab:Nat->F8
 lam:F7
 rc:Addr
 pin:List Addr
structure ly (V:aD) (B:PM):Prop where
 g:∃ o,B mainGlobals=some o/\vv o V.mg
 b:∃ o,B builtinsNs=some o/\vv o V.mb
 l:∃ o mc,B cStatics=some o/\vv o mc/\mc "sys.recursionlimit"=none
 k:Le V.K B
theorem ly.le {V B B'} (x:ly V B) (k:Le B B'):ly V B' :=
 ⟨k1_2 x.g fun o a b=>(aa o (k _ _ a) b),k1_2 x.b fun o a b=>(aa o (k _ _ a) b),k2_2 x.l fun o m a b=>(ba o m (k _ _ a) b),x.k.trans k⟩
theorem ly.ng {V B} (x:ly V B) {h:Heap} (i:In B h):h.Ns mainGlobals V.mg:=k1_2 x.g fun ι a b=>b.ns (i _ _ a)
theorem ly.nb {V B} (x:ly V B) {h:Heap} (i:In B h):h.Ns builtinsNs V.mb:=k1_2 x.b fun ι a b=>b.ns (i _ _ a)
theorem ly.nl {V B} (x:ly V B) {h:Heap} (i:In B h):h.NoLimit:=k2_3 x.l fun ι m a b c=>(aa m (b.ns (i _ _ a)) c)
noncomputable def JZ (L:F7) (pm c ct:Value) (clos:List (Str×Addr)):Obj:={ cls:=.type "function",data:=.func { name:="<lambda>",qualname:=L.qual,params:=L.params,body:=.expr L.body,scope:=L.scope,globals:=mainGlobals,closure:=clos,defaults:=.none,kwdefaults:=.none,doc:=.none,pyModule:=pm,annotations:=none,code:=c,closureTuple:=ct,builtins:=builtinsNs } }
noncomputable def fI (γ:List Addr) (B:PM) (mA:Str->Option Value) (attrs:List (Str×ab)):Prop:=∀ x:Str,match attrs.lookup x with
 | none=>mA x=none
 | some av=>∃ v,mA x=some v/\VR γ B v av
noncomputable def gE (V:aD) (w:W) (k:Nat) (ob:GObj) (a:Addr):Prop:=match ob with
 | .tab i=>w.own a=some k/\a=(V.tab i).at_/\(w.h.get? a=some (tabObj #[])\/∃ c,w.h.get? a=some (tabObj #[rawInt (V.tab i).pos.line,rawInt (V.tab i).pos.col,.ref c])/\dI w.B c (V.tab i).qual)
 | .inst c attrs=>w.own a=some k/\∃ dx mA,w.own dx=some k/\InstAt w.h a dx (V.cls c) mA/\fI w.γ w.B mA attrs
 | .lst ds=>w.own a=some k/\∃ vs n,w.h.get? a=some (ae vs n)/\cP w.B vs ds
 | .clo sg=>∃ pm c ct clos cl o x,w.B a=some (JZ V.lam pm (.ref c) ct clos)/\dI w.B c V.lam.qual/\clos.lookup ("signs":Str)=some cl/\w.B cl=some o/\o.data=.cell (some (.ref x))/\w.γ[sg]?=some x
 | .citer j done=>w.own a=some k/\∃ o,w.h.get? a=some o/\((done=true/\o=dT #[.none,.none,.bool true]) \/
  (done=false/\∃ m x t,o=dT #[.ref m,.str "" t,.bool false]/\w.B m=some (methodObj (.ref V.rc) (.ref x))/\w.γ[j]?=some x))
 | .gone=>True
structure tU (V:aD) (w:W) (G:List GObj):Prop where
 pin:bD V.pin w.γ
 len:w.γ.length=G.length
 at_:∀ k ob,G[k]?=some ob->∃ a,w.γ[k]?=some a/\gE V w k ob a
theorem fI.le {γ γ':List Addr} {B B':PM} (g:bD γ γ') (k:Le B B') {mA attrs} (x:fI γ B mA attrs):fI γ' B' mA attrs:=fun y=>by
 have:=x y
 cases q:attrs.lookup y with
 | none=>rw [q] at this;exact this
 | some av=>rw [q] at this;obtain⟨v,e,r⟩:=this;exact (aa v e (r.le g k))
theorem gE.move {V:aD} {w w':W} {k:Nat} {ob:GObj} {a:Addr} (x:gE V w k ob a) (g:bD w.γ w'.γ) (b:Le w.B w'.B) (e:∀ y,w.own y=some k->w'.own y=some k/\∀ o,w.h.get? y=some o->w'.h.get? y=some o):gE V w' k ob a:=by
 cases ob with
 | tab i =>
  obtain⟨o,e1,e2⟩:=x
  have q:=e _ o
  exact (am q.1 e1 (e2.imp (q.2 _) fun y5830=>k1_2 y5830 fun c e3 e4=>(aa c (q.2 _ e3) (e4.le b))))
 | inst c attrs =>
  obtain⟨o,dx,mA,o2,⟨p,q,e1,e2,e3,e4,e5,e6,e7⟩,r⟩:=x
  exact⟨(e _ o).1,(aF dx mA ((e _ o2).1) (oh p q ((e _ o).2 _ e1) e2 e3 e4 e5 ((e _ o2).2 _ e6) e7) (r.le g b))⟩
 | lst ds =>
  obtain⟨o,vs,n,e1,e2⟩:=x
  exact⟨(e _ o).1,(ba vs n ((e _ o).2 _ e1) (e2.le b))⟩
 | clo sg =>
  obtain⟨pm,c,ct,clos,cl,o,x,e1,e2,e0,e3,e4,e5⟩:=x
  exact (Cu pm c ct clos cl o x (b _ _ e1) (e2.le b) e0 (b _ _ e3) e4 (g _ _ e5))
 | citer j done =>
  obtain⟨o,o1,e1,e2⟩:=x
  exact⟨(e _ o).1,(aa o1 ((e _ o).2 _ e1) (e2.imp id fun ⟨d,m,x,t,q1,q2,q3⟩=>⟨d,(cA m x t q1 (b _ _ q2) (g _ _ q3))⟩))⟩
 | gone=>trivial
theorem tU.move {V:aD} {w w':W} {G} (x:tU V w G) (g:w'.γ=w.γ) (o:w'.own=w.own) (b:Le w.B w'.B) (e:∀ y o,w.own y≠none->w.h.get? y=some o->w'.h.get? y=some o):tU V w' G :=
 ⟨g▸x.pin,g▸x.len,fun k ob q=>k1_2 (x.at_ k ob q) fun a h1 h2=>(aa a (g▸h1) (h2.move (g▸bD.refl _) b fun y z=>⟨o▸z,fun o'=>e y o' (by rw [z];exact nofun)⟩))⟩
structure Bs (V:aD) (w:W) (G:List GObj):Prop where
 ok:Ok w
 top:ly V w.B
 ob:tU V w G
structure Nx (w w':W):Prop where
 g:bD w.γ w'.γ
 b:Le w.B w'.B
 r:w'.R=w.R
 s:∃ h n,w'.s={ w.s with heap:=h,toks:=n }
theorem Nx.refl (w:W):Nx w w:=⟨bD.refl _,Le.refl _,rfl,w.s.heap,w.s.toks,rfl⟩
theorem Nx.trans {a b c:W} (x:Nx a b) (y:Nx b c):Nx a c:=⟨x.g.trans y.g,x.b.trans y.b,y.r.trans x.r,by
 obtain⟨h,n,e⟩:=x.s
 obtain⟨h',n',e'⟩:=y.s
 exact (mF h' n' (by rw [e',e]))⟩
theorem Nx.to (w:W) (h:Heap) (n:Nat):Nx w (w.to h n):=⟨bD.refl _,Le.refl _,rfl,h,n,rfl⟩
theorem Nx.tk (w:W) (n:Nat):Nx w (w.tk n):=⟨bD.refl _,Le.refl _,rfl,w.s.heap,n,rfl⟩
section
variable {V:aD} {w:W} {G:List GObj} {h:Heap} {n:Nat} {a:Addr} {ob:Obj}
theorem Bs.to (x:Bs V w G) (k:Kp w h) (n:Nat):Bs V (w.to h n) G:=⟨x.ok.to k,x.top,x.ob.move rfl rfl (Le.refl _) fun y o z=>k y o (F6 z)⟩
theorem Bs.tk (x:Bs V w G) (n:Nat):Bs V (w.tk n) G:=⟨x.ok.tk n,x.top,x.ob.move rfl rfl (Le.refl _) fun ι ι ι=>id⟩
theorem Bs.toB (x:Bs V w G) (f:ai w a) (e:w.h.get? a=some ob):Bs V (w.toB a ob) G:=⟨x.ok.toB f e,x.top.le (Le.put f.b),x.ob.move rfl rfl (Le.put f.b) fun ι ι ι=>id⟩
theorem Nx.toB (f:w.B a=none):Nx w (w.toB a ob):=⟨bD.refl _,Le.put f,rfl,w.s.heap,w.s.toks,rfl⟩
theorem Kp.push (w:W) (o:Obj):Kp w (w.h.push o):=fun ι ι ι e=>Heap.get?_push_of_some o e
theorem Kp.all (k:∀ b o,w.h.get? b=some o->h.get? b=some o):Kp w h:=fun b o ι=>k b o
theorem Bs.in (x:Bs V w G):In w.B w.h:=x.ok.b
theorem Bs.K (x:Bs V w G):In V.K w.h:=fun a o e=>x.ok.b _ _ (x.top.k _ _ e)
noncomputable def Do (V:aD) (A:Around) {α:Type} (t:Sem α) (w:W) (Z:α->W->Prop):Prop :=
 ∀ (Q:α->Shared->Prop) (E:Value->Shared->Prop),(∀ v w',Nx w w'->Z v w'->Q v w'.s)->wpAny (model V.prog V.w) A t Q E w.s
theorem Do.bind {A:Around} {α β:Type} {t:Sem α} {f:α->Sem β} {Y:α->W->Prop} {Z:β->W->Prop} (x:Do V A t w Y) (y:∀ v w',Nx w w'->Y v w'->Do V A (f v) w' Z):Do V A (t >>= f) w Z :=
 fun Q E hQ=>wpAny_bind (x _ _ fun v w' n z=>y v w' n z _ _ fun u w'' n' z'=>hQ u w'' (n.trans n') z')
theorem Do.mono {A:Around} {α:Type} {t:Sem α} {Y Z:α->W->Prop} (x:Do V A t w Y) (y:∀ v w',Nx w w'->Y v w'->Z v w'):Do V A t w Z:=fun Q E hQ=>x Q E fun v w' n z=>hQ v w' n (y v w' n z)
theorem Do.pure {A:Around} {α:Type} {a:α} {Z:α->W->Prop} (x:Z a w):Do V A (Pure.pure a) w Z:=fun Q E hQ=>wpAny_pure (hQ _ _ (Nx.refl _) x)
structure dz (k:Nat) (A:Around):Prop where
 d:A.depth+k+50<recursionLimit
 u:A.units+8*k+300<cLine
 h:A.handled=none
theorem dz.less {k j:Nat} {A:Around} (x:dz k A) (h:j<=k):dz j A:=⟨Nat.lt_of_le_of_lt (Nat.add_le_add_right (Nat.add_le_add_left h _) _) x.d,Nat.lt_of_le_of_lt (Nat.add_le_add_right (Nat.add_le_add_left (Nat.mul_le_mul_left _ h) _) _) x.u,x.h⟩
theorem dz.un {k:Nat} {A:Around} (x:dz k A) {j:Nat} (h:j<=300):A.units+j<cLine:=by have:=x.u;omega
structure Cx where
 A:Around
 env:Env
 C:PM
noncomputable def rX (k:NameKind):Bool:=k==.local||k==.cell||k==.free
noncomputable def cT (w:W) (v:Value):Slot->Prop
 | .val av=>VR w.γ w.B v av
 | .lst ds=>∃ a vs n,v=.ref a/\w.F a=some (ae vs n)/\cP w.B vs ds
theorem jZ {a b:NameKind} (h:(a==b)=true):a=b:=by cases a<;>cases b<;>first | rfl | cases h
theorem FH {a:Option NameKind} {b:NameKind} (h:(a==some b)=true):a=some b:=by
 cases a with
 | none=>cases h
 | some k=>rw [jZ (show (k==b)=true from h)]
noncomputable def dO (sc:Scope) (x:Str):Bool:=sc.names.lookup x==some .globalImplicit&&!(x==("__debug__":Str))
structure iS (sc:Scope) (c:Cx) (ρ:Rho) (w:W):Prop where
 kind:c.env.scope.kind=.function
 glb:c.env.globals=mainGlobals
 blt:c.env.builtins=builtinsNs
 dbg:∀ k,sc.names.lookup ("__debug__":Str)=some k->k=.globalImplicit
 cdk:sc.names.lookup ("__classdict__":Str)=none
 knd:∀ x k,sc.names.lookup x=some k->k≠.free->c.env.kindOf x=some k
 knf:∀ x,sc.names.lookup x=some .free->c.env.kindOf x=some .cell\/c.env.kindOf x=some .free
 ns:∃ oL m,w.F c.env.locals=some oL/\vv oL m/\∀ x,c.env.kindOf x=some .local->m x=w.vm x
 cl:∀ x,c.env.kindOf x=some .cell\/c.env.kindOf x=some .free->∃ a o,c.env.cells.lookup x=some a/\o.data=.cell (w.vm x)/\(w.F a=some o\/((c.C a=some o\/w.B a=some o)/\sc.names.lookup x=some .free))
 inj:∀ x y a,(c.env.kindOf x=some .cell\/c.env.kindOf x=some .free)->(c.env.kindOf y=some .cell\/c.env.kindOf y=some .free)->c.env.cells.lookup x=some a->c.env.cells.lookup y=some a->x=y
 vals:∀ x s,af ρ x=some s->∃ v k,w.vm x=some v/\cT w v s/\sc.names.lookup x=some k/\rX k=true
 own:∀ x y ds ds' a,af ρ x=some (.lst ds)->af ρ y=some (.lst ds')->w.vm x=some (.ref a)->w.vm y=some (.ref a)->x=y
variable {sc:Scope} {c:Cx} {ρ:Rho} {k:Nat} {st:St} {w':W}
theorem iS.kv (x:iS sc c ρ w) {n:Str} {k:NameKind} (h:sc.names.lookup n=some k) (hk:rX k=true):c.env.kindOf n=some .local\/c.env.kindOf n=some .cell\/c.env.kindOf n=some .free:=by
 cases k with
 | «local»=>exact .inl (x.knd _ _ h nofun)
 | cell=>exact .inr (.inl (x.knd _ _ h nofun))
 | free=>exact .inr (x.knf _ h)
 | _=>exact nomatch hk
theorem iS.ndbg (x:iS sc c ρ w) {n:Str} {k:NameKind} (h:sc.names.lookup n=some k) (hv:rX k=true):(n==("__debug__":Str))=false:=by
 cases q:n==("__debug__":Str) with
 | false=>rfl
 | true=>rw [eq_of_beq q] at h;rw [x.dbg _ h] at hv;exact nomatch hv
theorem iS.ncdk (x:iS sc c ρ w) {n:Str} {k:NameKind} (h:sc.names.lookup n=some k):(n==("__classdict__":Str))=false:=by
 cases q:n==("__classdict__":Str) with
 | false=>rfl
 | true=>rw [eq_of_beq q,x.cdk] at h;cases h
theorem cT.move {s:Slot} {v:Value} (x:cT w v s) (g:bD w.γ w'.γ) (b:Le w.B w'.B) (f:∀ a vs n,w.F a=some (ae vs n)->w'.F a=some (ae vs n)):cT w' v s:=by
 cases s with
 | val av=>exact VR.le g b x
 | lst ds=>obtain⟨a,vs,n,e1,e2,e3⟩:=x;exact (cA a vs n e1 (f _ _ _ e2) (e3.le b))
theorem iS.move (x:iS sc c ρ w) (g:bD w.γ w'.γ) (b:Le w.B w'.B) (f:w'.F=w.F) (v:w'.vm=w.vm):iS sc c ρ w' :=
 { x with
  ns:=by rw [f,v];exact x.ns
  cl:=fun n h=>k2_3 (x.cl n h) fun a o h1 h2 h3=>(aF a o h1 (by rw [v];exact h2) (by rw [f];exact h3.imp id fun q=>⟨q.1.imp id (b _ _),q.2⟩))
  vals:=fun n s h=>k2_3 (x.vals n s h) fun u k h1 h2 h3=>(aF u k (by rw [v];exact h1) (h2.move g b fun ι ι ι e=>by rw [f];exact e) h3)
  own:=by rw [v];exact x.own }
structure aq (V:aD) (k:Nat) (sc:Scope) (c:Cx) (st:St) (w:W):Prop where
 room:dz k c.A
 bs:Bs V w st.G
 cr:Le c.C w.R
 fr:iS sc c st.ρ w
theorem aq.to (x:aq V k sc c st w) (q:Kp w h) (n:Nat):aq V k sc c st (w.to h n):=⟨x.room,x.bs.to q n,x.cr,x.fr.move (bD.refl _) (Le.refl _) rfl rfl⟩
theorem aq.tk (x:aq V k sc c st w) (n:Nat):aq V k sc c st (w.tk n):=⟨x.room,x.bs.tk n,x.cr,x.fr.move (bD.refl _) (Le.refl _) rfl rfl⟩
theorem aq.toB (x:aq V k sc c st w) (f:ai w a) (e:w.h.get? a=some ob):aq V k sc c st (w.toB a ob):=⟨x.room,x.bs.toB f e,x.cr,x.fr.move (bD.refl _) (Le.put f.b) rfl rfl⟩
theorem aq.after {G':List GObj} (x:aq V k sc c st w) (n:Nx w w') (b:Bs V w' G') (f:w'.F=w.F) (v:w'.vm=w.vm):aq V k sc c ⟨st.ρ,G'⟩ w':=⟨x.room,b,by rw [n.r];exact x.cr,x.fr.move n.g n.b f v⟩
structure iR (V:aD) (k:Nat) (sc:Scope) (c:Cx) (w:W) (st:St) (X:W->Prop) (w':W):Prop where
 vm:w'.vm=w.vm
 rel:aq V k sc c st w'
 x:X w'
noncomputable def qn (w:W) (v:Value):RV->Prop
 | .val av=>VR w.γ w.B v av
 | .own ds=>∃ a vs n,v=.ref a/\w.h.get? a=some (ae vs n)/\ai w a/\cP w.B vs ds
noncomputable def yV (v:Flow) (w:W):Fl->Prop
 | .next=>v=.next
 | .cont=>v=.cont
 | .ret av=>∃ x,v=.ret x/\VR w.γ w.B x av
noncomputable def vf (V:aD) (k:Nat) {α:Type} (t:Env->Sem α) (sc:Scope) (st st':St) (X:α->W->Prop):Prop :=
 ∀ (c:Cx) (w:W),aq V k sc c st w->Do V c.A (t c.env) w fun v=>iR V k sc c w st' (X v)
noncomputable def Ev (V:aD) (k:Nat) (e:Expr) (sc:Scope) (st:St) (r:RV) (st':St):Prop:=vf V k (eval e) sc st st' fun v w=>qn w v r
noncomputable def eK (V:aD) (k:Nat) (e:Expr) (sc:Scope) (st:St) (r:ab) (st':St):Prop:=vf V k (eval e) sc st st' fun v w=>VR w.γ w.B v r
noncomputable def bH (V:aD) (k:Nat) (e:Expr) (sc:Scope) (st:St) (d:PyData) (st':St):Prop:=vf V k (eval e) sc st st' fun v w=>Rd w.B v d
noncomputable def Pe (V:aD) (k:Nat) (e:Expr) (sc:Scope) (st:St) (d:PyData):Prop :=
 ∀ (c:Cx) (w:W),aq V k sc c st w->Do V c.A (eval e c.env) w fun v w'=>iR V k sc c w st (fun w'=>Pk w' v d/\∀ a o,w.h.get? a=some o->w'.h.get? a=some o) w'
noncomputable def Cd (V:aD) (k:Nat) (e:Expr) (sc:Scope) (st:St) (b:Bool) (st':St):Prop:=vf V k (fun env=>isTrue e env (eval e env)) sc st st' fun v ι=>v=b
noncomputable def Ex (V:aD) (k:Nat) (ss:List Stmt) (sc:Scope) (st:St) (f:Fl) (st':St):Prop :=
 ∀ (c:Cx) (w:W),aq V k sc c st w->Do V c.A (execs ss c.env) w fun v w'=>aq V k sc c st' w'/\yV v w' f
noncomputable def eM (V:aD) (k:Nat) (s:Stmt) (sc:Scope) (st:St) (f:Fl) (st':St):Prop :=
 ∀ (c:Cx) (w:W),aq V k sc c st w->Do V c.A (exec s c.env) w fun v w'=>aq V k sc c st' w'/\yV v w' f
noncomputable def cV (V:aD) (k:Nat) (v:Value) (as:List ab) (kw:List (Str×PyData)) (G:List GObj) (r:RV) (G':List GObj):Prop :=
 ∀ (A:Around) (w:W) (vs:List Value) (kvs:List (Str×Value)),dz k A->Bs V w G->qm w.γ w.B vs as->All2 (fun p q=>p.1=q.1/\Rd w.B p.2 q.2) kvs kw->Do V A (call v vs kvs) w fun u w'=>Bs V w' G'/\w'.F=w.F/\w'.vm=w.vm/\qn w' u r
noncomputable abbrev eV (V:aD) (k:Nat) (v:Value) (as:List ab) (G:List GObj) (r:RV) (G':List GObj):Prop:=cV V k v as [] G r G'
noncomputable def bQ (V:aD) (v:Value):Prop:=∀ (A:Around) (w:W) G,Bs V w G->wpAny (model V.prog V.w) A (keeperOf v) (fun ι s=>s=w.s) (fun ι ι=>False) w.s
end
section
variable {V:aD} {k:Nat} {sc:Scope} {c:Cx} {st st':St} {w w':W} {x:Str} {sl:Slot}
theorem Do.load {v:Value} {Z:Value->W->Prop} (r:aq V k sc c st w) (hx:af st.ρ x=some sl) (hv:w.vm x=some v) (z:cT w v sl->Z v w):Do V c.A (loadName c.env x) w Z:=fun Q E hQ=>by
 obtain⟨u,kk,hu,hs,hk,hvk⟩:=r.fr.vals x sl hx
 rw [hv] at hu;cases hu
 have fin:=hQ v w (Nx.refl _) (z hs)
 rcases r.fr.kv hk hvk with e | e
 ·obtain⟨oL,m,h1,h2,h3⟩:=r.fr.ns
  exact wpAny_loadName_local r.fr.kind e (h2.ns (r.bs.ok.f _ _ h1)) ((h3 x e).trans hv) fin
 ·obtain⟨a,o,h1,h2,h3⟩:=r.fr.cl x e
  have hc:w.h.IsCell a (some v):=(aa o (h3.elim (r.bs.ok.f _ _) (fun y=>y.1.elim (fun z=>r.bs.ok.r _ _ (r.cr _ _ z)) (r.bs.ok.b _ _))) (hv▸h2))
  rcases e with e | e
  ·exact wpAny_loadName_cell r.fr.kind e h1 hc fin
  ·exact wpAny_loadName_free r.fr.kind e h1 hc fin (r.fr.ncdk hk)
theorem Do.name {p:Pos} {v:Value} {Z:Value->W->Prop} (r:aq V k sc c st w) (hx:af st.ρ x=some sl) (hv:w.vm x=some v) (z:cT w v sl->Z v w):Do V c.A (eval (.Name x p) c.env) w Z:=fun Q E hQ=>by
 obtain⟨u,kk,hu,hs,hk,hvk⟩:=r.fr.vals x sl hx
 exact wpAny_Name (Do.load r hx hv z Q E hQ) (r.fr.ndbg hk hvk)
theorem aq.slot (r:aq V k sc c st w) (hx:af st.ρ x=some sl):∃ v,w.vm x=some v/\cT w v sl:=by
 obtain⟨v,kk,hv,hs,_⟩:=r.fr.vals x sl hx
 exact (aa v hv hs)
theorem aq.slotv (r:aq V k sc c st w) (hx:af st.ρ x=some sl) {v} (hv:w.vm x=some v):cT w v sl:=by
 obtain⟨u,hu,hs⟩:=r.slot hx
 rw [hv] at hu;cases hu;exact hs
theorem iS.lists {ρ ρ':Rho} (f:iS sc c ρ w) (b:Le w.B w'.B) (g:w'.γ=w.γ) (v:w'.vm=w.vm) (keep:∀ a o,w.F a=some o->(∀ xs n,o.data≠.seq xs n)->w'.F a=some o)
  (vals:∀ y s,af ρ' y=some s->∃ u k,w.vm y=some u/\cT w' u s/\sc.names.lookup y=some k/\rX k=true) (own:∀ y ds,af ρ' y=some (.lst ds)->∃ ds',af ρ y=some (.lst ds')):iS sc c ρ' w' :=
 { f with
  ns:=by
   obtain⟨oL,m,h1,h2,h3⟩:=f.ns
   exact (aF oL m (keep _ _ h1 (by obtain⟨es,ep,hd,_⟩:=h2;rw [hd];exact nofun)) h2 (by rw [v];exact h3))
  cl:=fun y hy=>by
   obtain⟨a,o,h1,h2,h3⟩:=f.cl y hy
   exact (aF a o h1 (by rw [v];exact h2) (h3.imp (fun z=>keep _ _ z (by rw [h2];exact nofun)) fun z=>⟨z.1.imp id (b _ _),z.2⟩))
  vals:=by rw [v];exact vals
  own:=fun y z d1 d2 a h1 h2 h3 h4=>by
   obtain⟨e1,q1⟩:=own y d1 h1
   obtain⟨e2,q2⟩:=own z d2 h2
   rw [v] at h3 h4
   exact f.own y z e1 e2 a q1 q2 h3 h4 }
theorem iS.unlist {ρ:Rho} (f:iS sc c ρ w) {ds:List PyData} {a:Addr} {vs:List Value} {n:Nat} (b:Le w.B w'.B) (g:bD w.γ w'.γ) (v:w'.vm=w.vm) (hF:w'.F=Cw w.F a) (hx:af ρ x=some (.lst ds)) (hv:w.vm x=some (.ref a)) (ea:w.F a=some (ae vs n))
  {av:ab} (r:VR w'.γ w'.B (.ref a) av):iS sc c (aG ρ x (.val av)) w':=by
 have ne:∀ b o,w.F b=some o->b≠a->w'.F b=some o:=fun b o e z=>by rw [hF,qj z];exact e
 have f0:iS sc c ρ { w with B:=w'.B,γ:=w'.γ }:={ f with
  cl:=fun y hy=>by
   obtain⟨a,o,h1,h2,h3⟩:=f.cl y hy
   exact (aF a o h1 h2 (h3.imp id fun z=>⟨z.1.imp id (b _ _),z.2⟩))
  vals:=fun y s hy=>by
   obtain⟨u,k,h1,h2,h3⟩:=f.vals y s hy
   exact (aF u k h1 (h2.move g b fun ι ι ι e=>e) h3) }
 refine f0.lists (Le.refl _) rfl v (fun b o e hd=>ne b o e fun z=>by
  subst z
  have e':w.F b=some o:=e
  rw [ea] at e';cases e';exact hd _ _ rfl) (fun y s hy=>?_) fun y ds' hy=>?_
 ·rw [cC] at hy
  by_cases e:y=x
  ·rw [if_pos e] at hy;cases hy;subst e
   obtain⟨u,kk,h1,h2,h3⟩:=f.vals y _ hx
   rw [hv] at h1;cases h1
   exact (aF _ kk hv r h3)
  ·rw [if_neg e] at hy
   obtain⟨u,kk,h1,h2,h3⟩:=f.vals y s hy
   refine (aF u kk h1 ?_ h3)
   cases s with
   | val av'=>exact VR.le g b h2
   | lst ds' =>
    obtain⟨a',us,q,rfl,eb,rs⟩:=h2
    exact (cA a' us q rfl (ne _ _ eb fun z=>e (f.own y x ds' ds a hy hx (z▸h1) hv)) (rs.le b))
 ·rw [cC] at hy
  by_cases e:y=x
  ·rw [if_pos e] at hy;cases hy
  ·rw [if_neg e] at hy;exact⟨_,hy⟩
theorem aq.freeze (r:aq V k sc c st w) {ds:List PyData} (hx:af st.ρ x=some (.lst ds)):∃ w',Nx w w'/\w'.vm=w.vm/\w'.s=w.s/\aq V k sc c ⟨aG st.ρ x (.val (.dat (.list ds))),st.G⟩ w'/\∀ b,ai w b->ai w' b:=by
 obtain⟨v,hv,a,vs,n,rfl,ea,rs⟩:=r.slot hx
 have l:=Le.put (o:=ae vs n) (r.bs.ok.bf.r ea)
 have l2:=qk w.F a
 exact (lv (w.frz a (ae vs n)) ⟨bD.refl _,l,rfl,w.s.heap,w.s.toks,rfl⟩ rfl rfl ⟨r.room,⟨r.bs.ok.freeze ea,r.bs.top.le l,r.bs.ob.move rfl rfl l fun ι ι ι=>id⟩,r.cr,r.fr.unlist (w':=w.frz a (ae vs n)) l (bD.refl _) rfl rfl hx hv ea (Rd.lst (aK ..) (rs.le l))⟩ (fun b f=>⟨f.r,fR f.b (fun z=>by subst z;rw [f.f] at ea;cases ea),l2.non f.f,f.o⟩))
theorem aq.fz (r:aq V k sc c st w) {v:Value} {rv:RV} (y:qn w v rv):∃ w',Nx w w'/\w'.vm=w.vm/\w'.s=w.s/\aq V k sc c st w'/\VR w'.γ w'.B v rv.fz:=by
 cases rv with
 | val av=>exact (lv w (Nx.refl _) rfl rfl r y)
 | own ds =>
  obtain⟨a,vs,n,rfl,e,f,rs⟩:=y
  exact (lv _ (Nx.toB f.b) rfl rfl (r.toB f e) (Rd.lst (aK ..) (rs.le (Le.put f.b))))
theorem Do.to {A:Around} {α:Type} {t:Sem α} {Z:α->W->Prop} (x:Do V A t w' Z) (n:Nx w w') (e:w'.s=w.s):Do V A t w Z:=fun Q E hQ=>by
 rw [<- e];exact x Q E fun v w2 n2 z=>hQ v w2 (n.trans n2) z
theorem Do.post {A:Around} {α:Type} {t:Sem α} {Y Z:α->W->Prop} (x:Do V A t w Y) (y:∀ v w',Nx w w'->Y v w'->∃ w2,Nx w' w2/\w2.s=w'.s/\Z v w2):Do V A t w Z:=fun Q E hQ=>x Q E fun v w' n z=>by
 obtain⟨w2,n2,e,z2⟩:=y v w' n z
 rw [<- e];exact hQ v w2 (n.trans n2) z2
theorem Ev.a {e:Expr} {r:RV} (h:Ev V k e sc st r st'):eK V k e sc st r.fz st':=fun c w rl=>(h c w rl).post fun v w' n z=>by
 obtain⟨w2,n2,vm,s,rel,x⟩:=z.rel.fz z.x
 exact (aB w2 n2 s ⟨vm.trans z.vm,rel,x⟩)
theorem eK.d {e:Expr} {d:PyData} (h:eK V k e sc st (.dat d) st'):bH V k e sc st d st':=h
theorem Ev.d {e:Expr} {d:PyData} (h:Ev V k e sc st (.val (.dat d)) st'):bH V k e sc st d st':=h
theorem Ev.od {e:Expr} {ds:List PyData} (h:Ev V k e sc st (.own ds) st'):bH V k e sc st (.list ds) st':=h.a
theorem eK.v {e:Expr} {r:ab} (h:eK V k e sc st r st'):Ev V k e sc st (.val r) st':=h
theorem bH.v {e:Expr} {d:PyData} (h:bH V k e sc st d st'):Ev V k e sc st (.val (.dat d)) st':=h
theorem bH.a {e:Expr} {d:PyData} (h:bH V k e sc st d st'):eK V k e sc st (.dat d) st':=h
theorem Bx {p:Pos} {v:ab} (hx:af st.ρ x=some (.val v)):eK V k (.Name x p) sc st v st:=fun c w r=>by
 obtain⟨u,hu,hs⟩:=r.slot hx
 exact Do.name r hx hu fun h=>⟨rfl,r,h⟩
theorem F9 {p:Pos} {ds:List PyData} (hx:af st.ρ x=some (.lst ds)):bH V k (.Name x p) sc st (.list ds) ⟨aG st.ρ x (.val (.dat (.list ds))),st.G⟩:=fun c w r=>by
 obtain⟨w',n,vm,s,r',_⟩:=r.freeze hx
 obtain⟨u,hu,hs⟩:=r'.slot (x:=x) (sl:=.val (.dat (.list ds))) (by rw [cC,if_pos rfl])
 exact Do.to (Do.name r' (sl:=.val (.dat (.list ds))) (by rw [cC,if_pos rfl]) hu fun h=>⟨vm,r',h⟩) n s
theorem aZ {A:Around} {p:Pos} {v:Value} {Z:Value->W->Prop} (r:aq V k sc c st w) (hk:dO sc x=true) (hv:V.mg x=some v\/(V.mg x=none/\V.mb x=some v)) (z:Z v w):Do V A (eval (.Name x p) c.env) w Z:=fun Q E hQ=>by
 obtain⟨hk,nd⟩:=Bool.and_eq_true_iff.mp hk
 refine Name_function_global r.fr.kind (r.fr.knd _ _ (FH hk) nofun) ?_ (Bool.not_eq_true' _▸nd)
 have fin:=hQ v w (Nx.refl _) z
 rcases hv with hv | ⟨h0,hv⟩
 ·exact loadGlobal_global (by rw [r.fr.glb];exact r.bs.top.ng r.bs.in) hv fin
 ·exact loadGlobal_builtin (by rw [r.fr.glb];exact r.bs.top.ng r.bs.in) h0 (by rw [r.fr.blt];exact r.bs.top.nb r.bs.in) hv fin
theorem iR.tk {X:W->Prop} (r:aq V k sc c st w) (n:Nat) (h:X (w.tk n)):iR V k sc c w st X (w.tk n):=⟨rfl,r.tk n,h⟩
theorem Ga {i:Int} {j:Nat} {p:Pos}:bH V k (.Constant (.int i) j p) sc st (.int i) st:=fun c w r Q E hQ ι ι ι=>hQ _ (w.tk (w.s.toks+1)) (Nx.tk _ _) (iR.tk r _ (.int _ _))
theorem By {i:Str} {j:Nat} {p:Pos}:bH V k (.Constant (.str i) j p) sc st (.str i) st:=fun c w r Q E hQ ι ι ι=>hQ _ (w.tk (w.s.toks+1)) (Nx.tk _ _) (iR.tk r _ (.str _ _))
theorem Cz {b:Bool} {j:Nat} {p:Pos}:bH V k (.Constant (.bool b) j p) sc st (.bool b) st:=fun c w r Q E hQ=>wpAny_pure (hQ _ w (Nx.refl _) ⟨rfl,r,.bool _⟩)
theorem CA {j:Nat} {p:Pos}:bH V k (.Constant .none j p) sc st .none st:=fun c w r Q E hQ=>wpAny_pure (hQ _ w (Nx.refl _) ⟨rfl,r,.none⟩)
theorem Pe.of {e:Expr} {d:PyData} (h:∀ (c:Cx) (w:W),aq V k sc c st w->Do V c.A (eval e c.env) w fun v w'=>∃ n,w'=w.tk n/\Pk w v d):Pe V k e sc st d:=fun c w r=>(h c w r).mono fun v w' n y11206=>k1_2 y11206 fun m e p=>by
 subst e;exact iR.tk r m ⟨p,fun ι ι=>id⟩
theorem Gb {p:Pos} {ds:List PyData} (hx:af st.ρ x=some (.lst ds)):Pe V k (.Name x p) sc st (.list ds):=fun c w r=>by
 obtain⟨u,hu,hs⟩:=r.slot hx
 obtain⟨a,vs,n,e1,e2,e3⟩:=hs
 exact Do.name r hx hu fun ι=>⟨rfl,r,.inr (aa ds rfl (cA a vs n e1 (r.bs.ok.f _ _ e2) e3)),fun ι ι=>id⟩
theorem Gc {p:Pos} {d:PyData} (hx:af st.ρ x=some (.val (.dat d))):Pe V k (.Name x p) sc st d:=fun c w r=>by
 obtain⟨u,hu,hs⟩:=r.slot hx
 exact Do.name r hx hu fun ι=>⟨rfl,r,.inl hs,fun ι ι=>id⟩
theorem tU.lst {G:List GObj} (x:tU V w G) {j:Nat} {ds:List PyData} (hg:G[j]?=some (.lst ds)) {a:Addr} (ha:w.γ[j]?=some a):FG w (.ref a) ds:=by
 obtain⟨a',h1,_,vs,n,h3,h4⟩:=x.at_ j _ hg
 rw [ha] at h1;cases h1
 exact (cA a vs n rfl h3 h4)
theorem Bz {e:Expr} {j:Nat} {ds:List PyData} (h:∀ (c:Cx) (w:W),aq V k sc c st w->Do V c.A (eval e c.env) w fun v w'=>∃ n,w'=w.tk n/\VR w.γ w.B v (.obj j)) (hg:st.G[j]?=some (.lst ds)):Pe V k e sc st (.list ds):=fun c w r=>(h c w r).mono fun v w' n ⟨m,e,a,e1,e2⟩=>by
 subst e e1
 exact iR.tk r m ⟨.inr (aa ds rfl (r.bs.ob.lst hg e2)),fun ι ι=>id⟩
noncomputable def gF (w:W) (x:Str) (v:Value) (ρ:Rho) (sl:Slot):Prop:=∀ a ds,sl=.lst ds->v=.ref a->∀ y ds',y≠x->af ρ y=some (.lst ds')->w.vm y≠some (.ref a)
structure J0 (w w':W) (x:Str) (v:Value):Prop where
 g:w'.γ=w.γ
 b:w'.B=w.B
 v:w'.vm=fun y=>if y=x then some v else w.vm y
 f:∀ a vs n,w.F a=some (ae vs n)->w'.F a=some (ae vs n)
theorem Do.storeX {v:Value} {kk:NameKind} (r:aq V k sc c st w) (hk:sc.names.lookup x=some kk) (hkk:kk=.local\/kk=.cell) (hs:cT w v sl) (ho:gF w x v st.ρ sl) :
  Do V c.A (storeName c.env x v) w fun ι w'=>aq V k sc c ⟨aG st.ρ x sl,st.G⟩ w'/\J0 w w' x v:=fun Q E hQ=>by
 have fr:=r.fr
 have key:∀ (b:Addr) (ob ob':Obj) (h':Heap) (n:Nat),w.F b=some ob->(∀ xs n,ob.data≠.seq xs n)->Heap.SameBut b w.h h'->h'.get? b=some ob' ->
   (∃ oL m,put w.F b ob' c.env.locals=some oL/\vv oL m/\∀ y,c.env.kindOf y=some .local->m y=if y=x then some v else w.vm y) ->
   (∀ y,c.env.kindOf y=some .cell\/c.env.kindOf y=some .free->∃ a o,c.env.cells.lookup y=some a/\o.data=.cell (if y=x then some v else w.vm y)/\(put w.F b ob' a=some o\/((c.C a=some o\/w.B a=some o)/\sc.names.lookup y=some .free))) ->
   Q () { w.s with heap:=h',toks:=n }:=by
  intro b ob ob' h' n hF hd hsb he ns cl
  have ok:=r.bs.ok.setF (n:=n) hF hsb he
  have hkF:∀ a vs n,w.F a=some (ae vs n)->put w.F b ob' a=some (ae vs n):=fun a vs n ea=>by
   have:a≠b:=fun z=>by subst z;rw [hF] at ea;cases ea;exact hd _ _ rfl
   rw [dH this];exact ea
  refine hQ () { w.toFF h' n (put w.F b ob') with vm:=fun y=>if y=x then some v else w.vm y } ⟨bD.refl _,Le.refl _,rfl,h',n,rfl⟩ ⟨⟨r.room,⟨⟨ok.r,ok.b,ok.f,ok.rb,ok.rf,ok.bf,ok.o⟩,r.bs.top,r.bs.ob.move rfl rfl (Le.refl _) fun y o e q=>(hsb.2 y fun z=>?_).trans q⟩,r.cr,?_⟩,⟨rfl,rfl,rfl,hkF⟩⟩
  ·subst z
   have:=(r.bs.ok.o y e).2.2.2
   rw [hF] at this;cases this
  ·exact { fr with
    ns:=ns
    cl:=cl
    vals:=fun y s' hy=>by
     rw [cC] at hy
     by_cases e:y=x
     ·rw [if_pos e] at hy;cases hy
      refine (cQ v kk (if_pos e) (hs.move (bD.refl _) (Le.refl _) hkF) (e▸hk) ?_)
      rcases hkk with rfl | rfl<;>rfl
     ·rw [if_neg e] at hy
      obtain⟨u,k,h1,h2,h3⟩:=fr.vals y s' hy
      exact (aF u k ((if_neg e).trans h1) (h2.move (bD.refl _) (Le.refl _) hkF) h3)
    own:=fun y z d1 d2 a h1 h2 h3 h4=>by
     rw [cC] at h1 h2
     simp only at h3 h4
     by_cases hy:y=x
     ·by_cases hz:z=x
      ·rw [hy,hz]
      ·rw [if_pos hy] at h1 h3;rw [if_neg hz] at h2 h4
       exact absurd h4 (ho a d1 (Option.some.inj h1) (Option.some.inj h3) z d2 hz h2)
     ·by_cases hz:z=x
      ·rw [if_neg hy] at h1 h3;rw [if_pos hz] at h2 h4
       exact absurd h3 (ho a d2 (Option.some.inj h2) (Option.some.inj h4) y d1 hy h1)
      ·rw [if_neg hy] at h1 h3;rw [if_neg hz] at h2 h4
       exact fr.own y z d1 d2 a h1 h2 h3 h4 }
 obtain⟨oL,m,n1,n2,n3⟩:=fr.ns
 obtain⟨es,ep,hdL,_⟩:=id n2
 rcases hkk with rfl | rfl
 ·have hl:=fr.knd x _ hk nofun
  refine wpAny_storeName_local hl (n2.ns (r.bs.ok.f _ _ n1)) (fun h' hn hsb=>?_) (by rw [fr.kind];rfl)
  obtain⟨oL',e',nn'⟩:=mG hn
  refine key _ _ _ _ _ n1 (by rw [hdL];exact nofun) hsb e' (aF oL' _ (aK ..) nn' (fun y hy=>?_)) fun y hy=>?_
  ·by_cases e:y=x
   ·simp [e]
   ·simp only [e,if_false];exact n3 y hy
  ·obtain⟨a,o,h1,h2,h3⟩:=fr.cl y hy
   have hyx:y≠x:=fun z=>by subst z;rw [hl] at hy;rcases hy with hy | hy<;>cases hy
   refine (aF a o h1 (by rw [if_neg hyx];exact h2) (h3.imp (fun z=>?_) id))
   have:a≠c.env.locals:=fun q=>by
    subst q;rw [n1] at z;cases z
    rw [hdL] at h2;cases h2
   rw [dH this];exact z
 ·have hl:=fr.knd x _ hk nofun
  obtain⟨a,o,h1,h2,h3⟩:=fr.cl x (.inl hl)
  have hFc:w.F a=some o:=h3.elim id fun y=>by rw [hk] at y;exact absurd y.2 nofun
  refine wpAny_storeName_cell fr.kind hl h1 (aa o (r.bs.ok.f _ _ hFc) h2) fun h' hc hsb=>?_
  obtain⟨o',e',hd'⟩:=hc
  refine key _ _ _ _ w.s.toks hFc (by rw [h2];exact nofun) hsb e' (aF oL m ?_ n2 (fun y hy=>?_)) fun y hy=>?_
  ·have:c.env.locals≠a:=fun z=>by
    rw [<- z,n1] at hFc;cases hFc
    rw [hdL] at h2;cases h2
   rw [dH this];exact n1
  ·have hyx:y≠x:=fun z=>by subst z;rw [hl] at hy;cases hy
   rw [if_neg hyx];exact n3 y hy
  ·by_cases e:y=x
   ·subst e
    exact (aF a o' h1 (by rw [if_pos rfl];exact hd') (.inl (aK ..)))
   ·obtain⟨c2,o2,g1,g2,g3⟩:=fr.cl y hy
    have:c2≠a:=fun z=>e (fr.inj y x a hy (.inl hl) (z▸g1) h1)
    exact (aF c2 o2 g1 (by rw [if_neg e];exact g2) (g3.imp (fun z=>by rw [dH this];exact z) id))
theorem Do.store {v:Value} {kk:NameKind} (r:aq V k sc c st w) (hk:sc.names.lookup x=some kk) (hkk:kk=.local\/kk=.cell) (hs:cT w v sl) (ho:gF w x v st.ρ sl):Do V c.A (storeName c.env x v) w fun ι w'=>aq V k sc c ⟨aG st.ρ x sl,st.G⟩ w':=(Do.storeX r hk hkk hs ho).mono fun ι ι ι z=>z.1
end
noncomputable def lim:Nat:=1000000
theorem aT {n:Nat} (h:n<=lim):n<=sizeLine:=Nat.le_trans h (by decide)
noncomputable def Gr (w w':W):Prop:=∃ h n,w'=w.to h n/\Kp w h
section
variable {V:aD} {k:Nat} {sc:Scope} {c:Cx} {st st' st1 st2:St} {w w':W} {A:Around} {t:Sem Value} {a b:PyData}
theorem Gr.tk (w:W) (n:Nat):Gr w (w.tk n):=(ba w.h n rfl (fun ι ι ι=>id))
theorem Gr.rel (g:Gr w w') (r:aq V k sc c st w):aq V k sc c st w':=by obtain⟨h,n,zq,q⟩:=g;rw [zq];exact r.to q n
theorem Gr.vm (g:Gr w w'):w'.vm=w.vm:=by obtain⟨h,n,zq,q⟩:=g;rw [zq];rfl
noncomputable def Gv (V:aD) (A:Around) (t:Sem Value) (w:W) (rv:RV):Prop:=Do V A t w fun r w'=>Gr w w'/\qn w' r rv
theorem Gv.dat {d:PyData} (h:∀ (Q E:Value->Shared->Prop),(∀ r n,Rd w.B r d->Q r (w.tk n).s)->wpAny (model V.prog V.w) A t Q E w.s):Gv V A t w (.val (.dat d)) :=
 fun Q E hQ=>h Q E fun r n x=>hQ r (w.tk n) (Nx.tk w n) ⟨Gr.tk w n,x⟩
theorem Gv.int {i:Int} (h:∀ (Q E:Value->Shared->Prop),(∀ u n,Q (.int i u) (w.tk n).s)->wpAny (model V.prog V.w) A t Q E w.s):Gv V A t w (.val (.dat (.int i))):=Gv.dat fun Q E hQ=>h Q E fun u n=>hQ _ _ (.int _ _)
theorem Gv.str {i:Str} (h:∀ (Q E:Value->Shared->Prop),(∀ u n,Q (.str i u) (w.tk n).s)->wpAny (model V.prog V.w) A t Q E w.s):Gv V A t w (.val (.dat (.str i))):=Gv.dat fun Q E hQ=>h Q E fun u n=>hQ _ _ (.str _ _)
theorem Gv.own {rs:List Value} {ds:List PyData} {G} (r:Bs V w G) (hd:cP w.B rs ds) (h:∀ (Q E:Value->Shared->Prop),(∀ n,Q (.ref w.h.objs.size) (w.to (w.h.push (ae rs 0)) n).s)->wpAny (model V.prog V.w) A t Q E w.s):Gv V A t w (.own ds) :=
 fun Q E hQ=>h Q E fun n=>hQ _ (w.to (w.h.push (ae rs 0)) n) (Nx.to ..) ⟨(ba _ _ rfl (Kp.push w _)),(dy _ rs 0 rfl (Heap.get?_push_size _ rfl) (let f:=r.ok.free (Nat.le_refl _);⟨f.r,f.b,f.f,f.o⟩) hd)⟩
noncomputable def Op (V:aD) (f:Value->Value->Sem Value) (a b:PyData) (rv:RV):Prop:=∀ (A:Around) (w:W) (u v:Value) G,Bs V w G->Rd w.B u a->Rd w.B v b->Gv V A (f u v) w rv
noncomputable abbrev lP (V:aD) (op:Operator):=Op V (binaryOp op)
noncomputable abbrev vg (V:aD) (op:Operator):=Op V (inplaceOp op)
theorem Gd {ea eb:Expr} {op:Operator} {p:Pos} {rv:RV} (h1:bH V k ea sc st a st1) (h2:bH V k eb sc st1 b st2) (h:lP V op a b rv):Ev V k (.BinOp ea op eb p) sc st rv st2:=fun c w r Q E hQ =>
 wpAny_BinOp (h1 c w r _ E fun u w1 n1 z1=>h2 c w1 z1.rel _ E fun v w2 n2 z2=>h c.A w2 u v _ z2.rel.bs (z1.x.le n2.b) z2.x Q E fun x w3 n3 z3=>hQ x w3 (n1.trans (n2.trans n3)) ⟨z3.1.vm.trans (z2.vm.trans z1.vm),z3.1.rel z2.rel,z3.2⟩)
theorem Ge {ea:Expr} {p:Pos} {i:Int} (h1:bH V k ea sc st (.int i) st1):bH V k (.UnaryOp .USub ea p) sc st (.int (-i)) st1:=fun c w r Q E hQ =>
 UnaryOp_ (h1 c w r _ E fun u w1 n1 z1=>by
  obtain⟨t,zq⟩:=z1.x.isInt;rw [zq]
  exact PyProof.Rows.neg_int (hQ _ (w1.tk _) (n1.trans (Nx.tk _ _)) ⟨z1.vm,z1.rel.tk _,.int _ _⟩))
theorem Op.ints {f:Value->Value->Sem Value} {i j m:Int} (h:∀ (A:Around) (s:Shared) (t u:Tok) (Q E:Value->Shared->Prop),(∀ t' n,Q (.int m t') { s with toks:=n })->wpAny (model V.prog V.w) A (f (.int i t) (.int j u)) Q E s):Op V f (.int i) (.int j) (.val (.dat (.int m))) :=
 fun A w u v G r hu hv=>by
  obtain⟨t,zq⟩:=hu.isInt;rw [zq]
  obtain⟨t',zq⟩:=hv.isInt;rw [zq]
  exact Gv.int fun Q E hQ=>h A w.s t t' Q E hQ
theorem ol {a b:Int} (h:Builtin.Int.intBits a+Builtin.Int.intBits b<=100000):IntMulOk a b:=by
 unfold IntMulOk
 intro q
 have h2:=(Bool.and_eq_true_iff.mp q).2
 unfold Builtin.Int.intTooBig at h2
 have h3:=of_decide_eq_true h2
 have:(bitsLine:Int)=134217728:=by decide +kernel
 clear q h2
 omega
theorem CB {a b:Int} (h:Builtin.Int.intBits b<=9000):Builtin.divisionGoesByPylong a b=false:=by
 refine PyProof.noPylong_of_log2 ?_
 unfold Builtin.Int.intBits at h
 split at h
 ·rename_i h0
  have:b=0:=eq_of_beq h0
  rw [this];decide +kernel
 ·omega
theorem Gf {i j:Int}:lP V .Add (.int i) (.int j) (.val (.dat (.int (i+j)))):=.ints fun A s t u Q E hQ=>add_int (hQ _ _)
theorem Gg {i j:Int}:lP V .Sub (.int i) (.int j) (.val (.dat (.int (i-j)))):=.ints fun A s t u Q E hQ=>sub_int (hQ _ _)
theorem Gh {i j:Int} (h:Builtin.Int.intBits i+Builtin.Int.intBits j<=100000):lP V .Mult (.int i) (.int j) (.val (.dat (.int (i*j)))):=.ints fun A s t u Q E hQ=>mul_int (hQ _ _) (ol h)
theorem Gi {i j:Int} (h:j≠0) (h':Builtin.Int.intBits j<=9000):lP V .FloorDiv (.int i) (.int j) (.val (.dat (.int (i.fdiv j)))):=.ints fun A s t u Q E hQ=>floordiv_int h (hQ _ _) (.inl (CB h'))
theorem Gj {i j:Int} (h:j≠0):lP V .Mod (.int i) (.int j) (.val (.dat (.int (i.fmod j)))):=.ints fun A s t u Q E hQ=>mod_int' h (hQ _ _)
theorem Gk {i j:Int} (h:0<=j) (h':(Builtin.Int.intBits i:Int)*j<=2 ^ 27):lP V .Pow (.int i) (.int j) (.val (.dat (.int (i ^ j.toNat)))):=.ints fun A s t u Q E hQ=>pow_int h h' (hQ _ _)
theorem Gm {i j:Int} (h:0<=j) (h':(Builtin.Int.intBits i:Int)+j<=2 ^ 27):lP V .LShift (.int i) (.int j) (.val (.dat (.int (i*2 ^ j.toNat)))):=.ints fun A s t u Q E hQ=>lshift_int h h' (hQ _ _)
theorem Gn {i j:Int} (h:0<=j):lP V .RShift (.int i) (.int j) (.val (.dat (.int (i.fdiv (2 ^ j.toNat))))):=.ints fun A s t u Q E hQ=>rshift_int h (hQ _ _)
theorem Go {i j:Int}:lP V .BitAnd (.int i) (.int j) (.val (.dat (.int (Builtin.bitAnd i j)))):=.ints fun A s t u Q E hQ=>and_int (hQ _ _)
theorem J1 {i j:Int}:lP V .BitOr (.int i) (.int j) (.val (.dat (.int (Builtin.bitOr i j)))):=.ints fun A s t u Q E hQ=>or_int (hQ _ _)
theorem Gp {i j:Int}:lP V .BitXor (.int i) (.int j) (.val (.dat (.int (Builtin.bitXor i j)))):=.ints fun A s t u Q E hQ=>xor_int (hQ _ _)
theorem Gq {i j:Int}:vg V .Add (.int i) (.int j) (.val (.dat (.int (i+j)))):=.ints fun A s t u Q E hQ=>iadd_int (hQ _ _)
theorem Gs {i j:Int}:vg V .Sub (.int i) (.int j) (.val (.dat (.int (i-j)))):=.ints fun A s t u Q E hQ=>isub_int (hQ _ _)
theorem Gu {i j:Int} (h:Builtin.Int.intBits i+Builtin.Int.intBits j<=100000):vg V .Mult (.int i) (.int j) (.val (.dat (.int (i*j)))):=.ints fun A s t u Q E hQ=>imul_int (hQ _ _) (ol h)
theorem Gw {i j:Int} (h:j≠0) (h':Builtin.Int.intBits j<=9000):vg V .FloorDiv (.int i) (.int j) (.val (.dat (.int (i.fdiv j)))):=.ints fun A s t u Q E hQ=>ifloordiv_int h (hQ _ _) (.inl (CB h'))
theorem Gx {i j:Int} (h:0<=j) (h':(Builtin.Int.intBits i:Int)+j<=2 ^ 27):vg V .LShift (.int i) (.int j) (.val (.dat (.int (i*2 ^ j.toNat)))):=.ints fun A s t u Q E hQ=>ilshift_int h h' (hQ _ _)
theorem Gy {i j:Int} (h:0<=j):vg V .RShift (.int i) (.int j) (.val (.dat (.int (i.fdiv (2 ^ j.toNat))))):=.ints fun A s t u Q E hQ=>irshift_int h (hQ _ _)
theorem Gz {x y:Str} (h:x.length+y.length<=lim):lP V .Add (.str x) (.str y) (.val (.dat (.str (x++y)))):=fun A w u v G r hu hv=>by
 obtain⟨t,zq⟩:=hu.isStr;rw [zq]
 obtain⟨t',zq⟩:=hv.isStr;rw [zq]
 exact Gv.str fun Q E hQ=>SBL.add (fun t' tk ι=>hQ _ _) (aT h)
theorem CC {xs ys:List PyData} (h:xs.length+ys.length<=lim):lP V .Add (.list xs) (.list ys) (.own (xs++ys)):=fun A w u v G r hu hv=>by
 obtain⟨a1,vs1,n1,zq,e1,r1⟩:=hu.isList;rw [zq]
 obtain⟨a2,vs2,n2,zq,e2,r2⟩:=hv.isList;rw [zq]
 refine Gv.own (rs:=vs1++vs2) r (r1.app r2) fun Q E hQ=>?_
 have f1:=r.ok.b _ _ e1
 have f2:=r.ok.b _ _ e2
 with_reducible refine P.add_list (n:=n1) (n2:=n2) (items:=vs1.toArray) (items2:=vs2.toArray) f1 f2 ?_ ?_
 ·have e:(vs1.toArray++vs2.toArray)=(vs1++vs2).toArray:=by simp
  rw [e];exact hQ w.s.toks
 ·rw [List.size_toArray,List.size_toArray,r1.len,r2.len]
  exact aT h
theorem j0 (v1:Value):∀ (m:Nat) (acc:Array Value),List.foldl (fun x1 x2=>x1++x2) acc (List.replicate m #[v1])=acc++(List.replicate m v1).toArray:=by
 intro m
 induction m with
 | zero =>
  intro acc
  simp
 | succ m ih =>
  intro acc
  rw [List.replicate_succ,List.foldl_cons,ih,List.replicate_succ]
  apply Array.ext'
  simp
theorem mH {s:Shared} {Q E:Value->Shared->Prop} {a1:Addr} {v1:Value} {n1:Nat} {n:Int} {t2:Tok} (hl1:s.heap.get? a1=some (ae [v1] n1)) (h1:n<=20000) (h2:-20000<=n)
  (hQ:Q (.ref s.heap.objs.size) { s with heap:=s.heap.push (ae (List.replicate n.toNat v1) 0) }) :
  wpAny (model V.prog V.w) A (binaryOp .Mult (.ref a1) (.int n t2)) Q E s:=by
 have e0:(#[v1]:Array Value).size*n.toNat<=20000:=by
  show 1*n.toNat<=20000
  omega
 refine wpAny_binaryOp_repeat_ref (T:="list") (U:="int") (by decide) (aa _ hl1 rfl) (fun s'=>typeIs_int s' n _) noFill_list_mul PySem.F.fills_int_mul PySem.F.slot_int_rmul repeat_list PySem.F.slot_int_index.lookup
  (call_meets PySem.F.slot_int_rmul (typeIs_int s n _) PySem.F.entry_int_rmul (PySem.F.args_int_rmul_2 _ _) (int___rmul___int_list n _ a1 #[v1] n1)
   (a7 hl1 rfl (aa _ hl1 rfl) (call_meets PySem.F.slot_list_mul (aa _ hl1 rfl) PySem.F.entry_list_mul (PySem.F.args_list_mul_2 _ _)
    (AutoListH.list___mul___list_int_3 a1 #[v1] n1 n _ (by simp [Builtin.List.listFitsIndex];omega) (by have:=e0;omega) (by
     show ¬ decide (_>sizeLine)=true
     rw [decide_eq_true_eq,sizeLine_eq];have:=e0;omega))
    ⟨hl1,?_⟩)))
 have e:List.foldl (fun x1 x2=>x1++x2) (#[]:Array Value) (List.replicate (if (#[v1]:Array Value).isEmpty=true then 0 else n.toNat) #[v1])=(List.replicate n.toNat v1).toArray:=by
  have e0:(#[v1]:Array Value).isEmpty=false:=rfl
  rw [e0,j0]
  simp
 rw [e];exact hQ
theorem CD {x:PyData} {n:Int} (h1:n<=20000) (h2:-20000<=n):lP V .Mult (.list [x]) (.int n) (.own (List.replicate n.toNat x)):=fun A w u v G r hu hv=>by
 obtain⟨a1,vs1,n1,zq,e1,r1⟩:=hu.isList;rw [zq]
 obtain⟨t',zq⟩:=hv.isInt;rw [zq]
 cases r1 with
 | cons q q' =>
  cases q'
  exact Gv.own r (.rep q n.toNat) fun Q E hQ=>mH (r.ok.b _ _ e1) h1 h2 (hQ w.s.toks)
end
section
variable {V:aD} {k:Nat} {sc:Scope} {c:Cx} {st st' st1 st2:St} {w w':W} {A:Around} {a b:PyData} {ea eb:Expr} {p:Pos}
noncomputable def Cm (V:aD) (op:CmpOp) (a b:PyData) (t:Bool):Prop:=∀ (A:Around) (w:W) (u v:Value) G (Q E:Value->Shared->Prop),A.units+66<cLine->Bs V w G->Pk w u a->Pk w v b->(∀ n,Q (.bool t) (w.tk n).s)->wpAny (model V.prog V.w) A (compareOp op u v) Q E w.s
noncomputable def om (V:aD) (k:Nat) (ea:Expr) (op:CmpOp) (eb:Expr) (sc:Scope) (st:St) (t:Bool) (st':St):Prop:=∀ (c:Cx) (w:W),aq V k sc c st w->∀ (Q E:Value->Shared->Prop),
 (∀ w',Nx w w'->iR V k sc c w st' (fun ι=>True) w'->Q (.bool t) w'.s) ->
 wpAny (model V.prog V.w) c.A (eval ea c.env) (fun x s₁=>wpAny (model V.prog V.w) c.A (eval eb c.env) (fun y s₂=>wpAny (model V.prog V.w) c.A (compareOp op x y) Q E s₂) E s₁) E w.s
variable {op:CmpOp} {t:Bool}
theorem J2 (h1:Pe V k ea sc st a) (h2:Pe V k eb sc st b) (h:Cm V op a b t):om V k ea op eb sc st t st:=fun c w r Q E hQ =>
 h1 c w r _ E fun u w1 n1 z1=>h2 c w1 z1.rel _ E fun v w2 n2 z2=>h c.A w2 u v _ Q E (z2.rel.room.un (by decide)) z2.rel.bs (z1.x.1.mono n2.b z2.x.2) z2.x.1 fun n=>hQ (w2.tk n) (n1.trans (n2.trans (Nx.tk _ _))) ⟨z2.vm.trans z1.vm,z2.rel.tk n,trivial⟩
theorem J3 (h1:bH V k ea sc st a st1) (h2:Pe V k eb sc st1 b) (h:Cm V op a b t):om V k ea op eb sc st t st1:=fun c w r Q E hQ =>
 h1 c w r _ E fun u w1 n1 z1=>h2 c w1 z1.rel _ E fun v w2 n2 z2=>h c.A w2 u v _ Q E (z2.rel.room.un (by decide)) z2.rel.bs (.inl (z1.x.le n2.b)) z2.x.1 fun n=>hQ (w2.tk n) (n1.trans (n2.trans (Nx.tk _ _))) ⟨z2.vm.trans z1.vm,z2.rel.tk n,trivial⟩
theorem J4 (h1:bH V k ea sc st a st1) (h2:bH V k eb sc st1 b st2) (h:Cm V op a b t):om V k ea op eb sc st t st2:=fun c w r Q E hQ =>
 h1 c w r _ E fun u w1 n1 z1=>h2 c w1 z1.rel _ E fun v w2 n2 z2=>h c.A w2 u v _ Q E (z2.rel.room.un (by decide)) z2.rel.bs (.inl (z1.x.le n2.b)) (.inl z2.x) fun n=>hQ (w2.tk n) (n1.trans (n2.trans (Nx.tk _ _))) ⟨z2.vm.trans z1.vm,z2.rel.tk n,trivial⟩
theorem GA (h:om V k ea op eb sc st t st1) (hb:behindInMarks op eb=false:=by rfl):bH V k (.Compare ea [op] [eb] p) sc st (.bool t) st1:=fun c w r Q E hQ=>wpAny_Compare1 (h c w r Q E fun w' n z=>hQ _ w' n ⟨z.vm,z.rel,.bool _⟩) hb
theorem qo (h:om V k ea op eb sc st t st1) (hb:behindInMarks op eb=false:=by rfl):Cd V k (.Compare ea [op] [eb] p) sc st t st1:=fun c w r Q E hQ=>wpAny_isTrue_Compare1 (h c w r _ E fun w' n z=>PySem.wpAny_truthy_bool (hQ _ w' n ⟨z.vm,z.rel,rfl⟩)) hb
theorem Cm.ints {i j:Int} (h:∀ (A:Around) (s:Shared) (t' u:Tok) (Q E:Value->Shared->Prop),Q (.bool t) s->wpAny (model V.prog V.w) A (compareOp op (.int i t') (.int j u)) Q E s):Cm V op (.int i) (.int j) t:=fun A w u v G Q E hu r x y hQ=>by
 obtain⟨t1,zq⟩:=(x.rd fun ι=>nofun).isInt;rw [zq]
 obtain⟨t2,zq⟩:=(y.rd fun ι=>nofun).isInt;rw [zq]
 exact h A w.s t1 t2 Q E (hQ w.s.toks)
theorem GB {i j:Int}:Cm V .Lt (.int i) (.int j) (decide (i<j)):=.ints fun A s t u Q E hQ=>lt_int hQ
theorem GC {i j:Int}:Cm V .LtE (.int i) (.int j) (decide (i<=j)):=.ints fun A s t u Q E hQ=>le_int hQ
theorem GD {i j:Int}:Cm V .Gt (.int i) (.int j) (decide (i>j)):=.ints fun A s t u Q E hQ=>gt_int hQ
theorem GE {i j:Int}:Cm V .GtE (.int i) (.int j) (decide (i>=j)):=.ints fun A s t u Q E hQ=>ge_int hQ
noncomputable def b9 (a b:PyData):Bool:=shaped a&&shaped b
theorem GF (h:b9 a b=true):Cm V .Eq a b (PyData.eqv a b):=fun A w u v G Q E hu r x y hQ=>by
 obtain⟨o1,o2⟩:=Bool.and_eq_true_iff.mp h
 obtain⟨as,ra⟩:=x.reads r.in
 obtain⟨bs,rb⟩:=y.reads r.in
 exact compareEq_shaped ra rb o1 o2 (Nat.lt_of_le_of_lt (Nat.add_le_add_left (by decide) _) hu) (hQ w.s.toks)
theorem GG (h:b9 a b=true):Cm V .NotEq a b (!PyData.eqv a b):=fun A w u v G Q E hu r x y hQ=>by
 obtain⟨o1,o2⟩:=Bool.and_eq_true_iff.mp h
 obtain⟨as,ra⟩:=x.reads r.in
 obtain⟨bs,rb⟩:=y.reads r.in
 exact ne_dataH ra rb o1 o2 (Nat.lt_of_le_of_lt (Nat.add_le_add_left (by decide) _) hu) (hQ w.s.toks)
theorem CE (a b:Bool):(Value.bool a==Value.bool b)=(a==b):=by cases a<;>cases b<;>rfl
theorem vw {i j:Bool}:Cm V .Is (.bool i) (.bool j) (i==j):=fun A w u v G Q E hu r x y hQ=>by
 cases (x.rd fun ι=>nofun).isBool;cases (y.rd fun ι=>nofun).isBool
 with_reducible refine wpAny_is_plain ?_ ?_
 ·rfl
 ·rw [CE];exact hQ w.s.toks
theorem qq {i:Str}:Cm V .IsNot (.str i) .none true:=fun A w u v G Q E hu r x y hQ=>by
 obtain⟨t,zq⟩:=(x.rd fun ι=>nofun).isStr;rw [zq];cases (y.rd fun ι=>nofun).isNone
 with_reducible refine wpAny_isNot_plain ?_ ?_
 ·rfl
 ·exact hQ w.s.toks
theorem qr:Cm V .IsNot .none .none false:=fun A w u v G Q E hu r x y hQ=>by
 cases (x.rd fun ι=>nofun).isNone;cases (y.rd fun ι=>nofun).isNone
 with_reducible refine wpAny_isNot_plain ?_ ?_
 ·rfl
 ·exact hQ w.s.toks
theorem vx:Cm V .Is .none .none true:=fun A w u v G Q E hu r x y hQ=>by
 cases (x.rd fun ι=>nofun).isNone;cases (y.rd fun ι=>nofun).isNone
 with_reducible refine wpAny_is_plain ?_ ?_
 ·rfl
 ·exact hQ w.s.toks
theorem vy {i:Str}:Cm V .Is (.str i) .none false:=fun A w u v G Q E hu r x y hQ=>by
 obtain⟨t,zq⟩:=(x.rd fun ι=>nofun).isStr;rw [zq];cases (y.rd fun ι=>nofun).isNone
 with_reducible refine wpAny_is_plain ?_ ?_
 ·rfl
 ·exact hQ w.s.toks
noncomputable def dU (x y:Str):Bool:=!(Builtin.Str.occurrences y x 0 y.length 1).isEmpty
theorem tV {i j:Str}:Cm V .In (.str i) (.str j) (dU i j):=fun A w u v G Q E hu r x y hQ=>by
 obtain⟨t1,zq⟩:=(x.rd fun ι=>nofun).isStr;rw [zq];obtain⟨t2,zq⟩:=(y.rd fun ι=>nofun).isStr;rw [zq]
 exact in_str (show Q _ w.s from hQ w.s.toks)
noncomputable def eqTo (h:Heap) (a:PyData) (y:Value):Bool:=@decide (∃ d as,Reads h y d as/\PyData.eqv d a=true) (Classical.propDecidable _)
theorem rY {h:Heap} {a d:PyData} {y:Value} {as} (r:Reads h y d as):eqTo h a y=PyData.eqv d a:=by
 unfold eqTo
 cases q:PyData.eqv d a with
 | true=>exact @decide_eq_true _ (Classical.propDecidable _) (ba d as r q)
 | false=>exact @decide_eq_false _ (Classical.propDecidable _) fun y7018=>k2_2 y7018 fun d' as' h' q'=>by rw [<- (Reads.unique r d' as' h').1,q] at q';cases q'
theorem cP.eqTo {B:PM} {h:Heap} (k:In B h) {a:PyData} {vs ds} (x:cP B vs ds):All2 (fun v d=>Internal.eqTo h a v=PyData.eqv d a) vs ds:=x.imp fun ι ι r=>(r.reads k).elim fun ι q=>rY q
theorem All2.any {α β:Type} {f:α->Bool} {g:β->Bool} {l m} (x:All2 (fun a b=>f a=g b) l m):l.any f=m.any g:=by
 induction x with
 | nil=>rfl
 | cons a _ ih=>rw [List.any_cons,List.any_cons,a,ih]
theorem All2.countP {α β:Type} {f:α->Bool} {g:β->Bool} {l m} (x:All2 (fun a b=>f a=g b) l m):l.countP f=m.countP g:=by
 induction x with
 | nil=>rfl
 | cons a _ ih=>rw [List.countP_cons,List.countP_cons,a,ih]
theorem All2.findIdx {α β:Type} {f:α->Bool} {g:β->Bool} {l m} (x:All2 (fun a b=>f a=g b) l m):l.findIdx? f=m.findIdx? g:=by
 induction x with
 | nil=>rfl
 | cons a _ ih=>rw [List.findIdx?_cons,List.findIdx?_cons,a,ih]
theorem rZ {bs:List Addr} {x:Value} {vs:List Value} {ds:List PyData} {s:Shared} {B:PM} (hu:A.units+64<cLine) (hb:In B s.heap) (rb:Reads s.heap x a bs) (hr:cP B vs ds) (hok:ds.all (b9 a)=true) :
  ∀ y,y∈vs.toArray->EqAt A s y x (eqTo s.heap a y):=by
 intro y hy
 obtain⟨i,hi,zq⟩:=List.getElem_of_mem (Array.mem_toList_iff.mpr hy);rw [<- zq]
 obtain⟨d,hd,rd⟩:=hr.get' (List.getElem?_eq_getElem (by simpa using hi))
 obtain⟨o1,o2⟩:=Bool.and_eq_true_iff.mp (List.all_eq_true.mp hok d (List.mem_of_getElem? hd))
 obtain⟨as,ra⟩:=rd.reads hb
 show EqAt A s vs[i] x _
 rw [rY ra]
 exact eqAt_reads d a A s _ _ as bs ra rb (canLay_of_shaped o2) (canLay_of_shaped o1) (room_of_shaped o2 hu)
theorem r5 {A:Around} (hu:A.units+66<cLine):A.in1.units+64<cLine:=Nat.lt_of_le_of_lt (by show A.units+1+64<=A.units+66;omega) hu
theorem qt {ds:List PyData} (h:ds.all (b9 a)=true):Cm V .In a (.list ds) (ds.any fun d=>PyData.eqv d a):=fun A w u v G Q E hu r x y hQ=>by
 obtain⟨a1,vs,n,zq,e,rs⟩:=y.lst r.in;rw [zq]
 obtain⟨as,ra⟩:=x.reads r.in
 have l:w.h.IsList a1 vs.toArray:=(aB _ e rfl ⟨n,rfl⟩)
 with_reducible refine in_listAt (eqTo w.h a) l (rZ (r5 hu) r.in ra rs h) ?_
 rw [List.any_toArray,(cP.eqTo r.in rs).any];exact hQ w.s.toks
theorem on {ds:List PyData} (h:ds.all (b9 a)=true):Cm V .NotIn a (.list ds) (!ds.any fun d=>PyData.eqv d a):=fun A w u v G Q E hu r x y hQ=>by
 obtain⟨a1,vs,n,zq,e,rs⟩:=y.lst r.in;rw [zq]
 obtain⟨as,ra⟩:=x.reads r.in
 have l:w.h.IsList a1 vs.toArray:=(aB _ e rfl ⟨n,rfl⟩)
 with_reducible refine notIn_listAt (eqTo w.h a) l (rZ (r5 hu) r.in ra rs h) ?_
 rw [List.any_toArray,(cP.eqTo r.in rs).any];exact hQ w.s.toks
noncomputable def Tr (V:aD) (d:PyData) (t:Bool):Prop:=∀ (A:Around) (w:W) (u:Value) G (Q:Bool->Shared->Prop) (E:Value->Shared->Prop),Bs V w G->Pk w u d->(∀ n,Q t (w.tk n).s)->wpAny (model V.prog V.w) A (truthy u) Q E w.s
theorem CF {b:Bool}:Tr V (.bool b) b:=fun A w u G Q E r x hQ=>by
 cases (x.rd fun ι=>nofun).isBool;exact PySem.wpAny_truthy_bool (hQ w.s.toks)
theorem GH {i:Int}:Tr V (.int i) (i != 0):=fun A w u G Q E r x hQ=>by
 obtain⟨t,zq⟩:=(x.rd fun ι=>nofun).isInt;rw [zq];exact PySem.P.truthy_int (hQ w.s.toks)
theorem j4 {e:Expr} {c:Cx} {w:W} {Z:Bool->W->Prop} (he:∀ env whole,isTrue e env whole=(do let v <- whole;standAt e.pos;holding [v] (truthy v))) {Y:Value->W->Prop} (h:Do V c.A (eval e c.env) w Y)
  (h':∀ v w' (Q:Bool->Shared->Prop) (E:Value->Shared->Prop),Nx w w'->Y v w'->(∀ b n,Z b (w'.tk n)->Q b (w'.tk n).s)->wpAny (model V.prog V.w) c.A (truthy v) Q E w'.s):Do V c.A (isTrue e c.env (eval e c.env)) w Z:=fun Q E hQ =>
 isTrue_plain (h _ E fun v w' n z=>h' v w' Q E n z fun b m zb=>hQ b (w'.tk m) (n.trans (Nx.tk _ _)) zb) (he _ _)
theorem GJ {e:Expr} {d:PyData} (h:bH V k e sc st d st1) (ht:Tr V d t) (he:∀ env whole,isTrue e env whole=(do let v <- whole;standAt e.pos;holding [v] (truthy v)):=by exact fun ι ι=>rfl):Cd V k e sc st t st1:=fun c w r =>
 j4 he (h c w r) fun v w' Q E n z hQ=>ht c.A w' v _ Q E z.rel.bs (.inl z.x) fun m=>hQ t m ⟨z.vm,z.rel.tk m,rfl⟩
theorem J5 {e:Expr} {d:PyData} (h:Pe V k e sc st d) (ht:Tr V d t) (he:∀ env whole,isTrue e env whole=(do let v <- whole;standAt e.pos;holding [v] (truthy v)):=by exact fun ι ι=>rfl):Cd V k e sc st t st:=fun c w r =>
 j4 he (h c w r) fun v w' Q E n z hQ=>ht c.A w' v _ Q E z.rel.bs z.x.1 fun m=>hQ t m ⟨z.vm,z.rel.tk m,rfl⟩
variable {ec:Expr} {rs:List Expr} {i1:Bool}
theorem CG {o:BoolOp} (h:Cd V k ea sc st t st1):Cd V k (.BoolOp o [ea] p) sc st t st1:=fun c w r Q E hQ=>by
 have:=h c w r Q E hQ
 cases o with
 | And=>refine isTrue_and (wpAny_mono this (fun c s' h'=>?_) fun ι ι x=>x);cases c;exact h';exact isTrue_and_nil h'
 | Or=>refine isTrue_or (wpAny_mono this (fun c s' h'=>?_) fun ι ι x=>x);cases c;exact isTrue_or_nil h';exact h'
theorem CH {t':Bool} (h:Cd V k ea sc st true st1) (h':Cd V k (.BoolOp .And (eb::rs) p) sc st1 t' st2):Cd V k (.BoolOp .And (ea::eb::rs) p) sc st t' st2:=fun c w r Q E hQ =>
 isTrue_and (h c w r _ E fun v w1 n1 z1=>by
  cases z1.x;exact h' c w1 z1.rel Q E fun v w2 n2 z2=>hQ v w2 (n1.trans n2) ⟨z2.vm.trans z1.vm,z2.rel,z2.x⟩)
theorem vz (h:Cd V k ea sc st false st1):Cd V k (.BoolOp .And (ea::eb::rs) p) sc st false st1:=fun c w r Q E hQ =>
 isTrue_and (h c w r _ E fun v w1 n1 z1=>by cases z1.x;exact hQ _ w1 n1 z1)
theorem GK {t':Bool} (h:Cd V k ea sc st false st1) (h':Cd V k (.BoolOp .Or (eb::rs) p) sc st1 t' st2):Cd V k (.BoolOp .Or (ea::eb::rs) p) sc st t' st2:=fun c w r Q E hQ =>
 isTrue_or (h c w r _ E fun v w1 n1 z1=>by
  cases z1.x;exact h' c w1 z1.rel Q E fun v w2 n2 z2=>hQ v w2 (n1.trans n2) ⟨z2.vm.trans z1.vm,z2.rel,z2.x⟩)
theorem yW (h:Cd V k ea sc st true st1):Cd V k (.BoolOp .Or (ea::eb::rs) p) sc st true st1:=fun c w r Q E hQ =>
 isTrue_or (h c w r _ E fun v w1 n1 z1=>by cases z1.x;exact hQ _ w1 n1 z1)
theorem GL {o:BoolOp} {rv:RV} (h:Ev V k ea sc st rv st1):Ev V k (.BoolOp o [ea] p) sc st rv st1:=fun c w r Q E hQ=>BoolOp_one (h c w r Q E hQ)
theorem GN {rv:RV} {d:PyData} (h:bH V k ea sc st d st1) (ht:Tr V d true) (h':Ev V k (.BoolOp .And (eb::rs) p) sc st1 rv st2):Ev V k (.BoolOp .And (ea::eb::rs) p) sc st rv st2:=fun c w r Q E hQ =>
 BoolOp_and (h c w r _ E fun v w1 n1 z1=>ht c.A w1 v _ _ E z1.rel.bs (.inl z1.x) fun m=>h' c (w1.tk m) (z1.rel.tk m) Q E fun v w2 n2 z2=>hQ v w2 (n1.trans ((Nx.tk _ _).trans n2)) ⟨z2.vm.trans z1.vm,z2.rel,z2.x⟩)
theorem yX {d:PyData} (h:bH V k ea sc st d st1) (ht:Tr V d false):bH V k (.BoolOp .And (ea::eb::rs) p) sc st d st1:=fun c w r Q E hQ =>
 BoolOp_and (h c w r _ E fun v w1 n1 z1=>ht c.A w1 v _ _ E z1.rel.bs (.inl z1.x) fun m=>hQ v (w1.tk m) (n1.trans (Nx.tk _ _)) ⟨z1.vm,z1.rel.tk m,z1.x⟩)
theorem J6 {rv:RV} {d:PyData} (h:bH V k ea sc st d st1) (ht:Tr V d false) (h':Ev V k (.BoolOp .Or (eb::rs) p) sc st1 rv st2):Ev V k (.BoolOp .Or (ea::eb::rs) p) sc st rv st2:=fun c w r Q E hQ =>
 BoolOp_or (h c w r _ E fun v w1 n1 z1=>ht c.A w1 v _ _ E z1.rel.bs (.inl z1.x) fun m=>h' c (w1.tk m) (z1.rel.tk m) Q E fun v w2 n2 z2=>hQ v w2 (n1.trans ((Nx.tk _ _).trans n2)) ⟨z2.vm.trans z1.vm,z2.rel,z2.x⟩)
theorem CI {d:PyData} (h:bH V k ea sc st d st1) (ht:Tr V d true):bH V k (.BoolOp .Or (ea::eb::rs) p) sc st d st1:=fun c w r Q E hQ =>
 BoolOp_or (h c w r _ E fun v w1 n1 z1=>ht c.A w1 v _ _ E z1.rel.bs (.inl z1.x) fun m=>hQ v (w1.tk m) (n1.trans (Nx.tk _ _)) ⟨z1.vm,z1.rel.tk m,z1.x⟩)
theorem CJ {rv:RV} (h:Cd V k ec sc st true st1) (h':Ev V k ea sc st1 rv st2):Ev V k (.IfExp ec ea eb p) sc st rv st2:=fun c w r Q E hQ =>
 IfExp_ (h c w r _ E fun v w1 n1 z1=>by cases z1.x;exact h' c w1 z1.rel Q E fun v w2 n2 z2=>hQ v w2 (n1.trans n2) ⟨z2.vm.trans z1.vm,z2.rel,z2.x⟩)
theorem CK {rv:RV} (h:Cd V k ec sc st false st1) (h':Ev V k eb sc st1 rv st2):Ev V k (.IfExp ec ea eb p) sc st rv st2:=fun c w r Q E hQ =>
 IfExp_ (h c w r _ E fun v w1 n1 z1=>by cases z1.x;exact h' c w1 z1.rel Q E fun v w2 n2 z2=>hQ v w2 (n1.trans n2) ⟨z2.vm.trans z1.vm,z2.rel,z2.x⟩)
end
set_option backward.match.sparseCases false in
noncomputable def bu:Expr->Bool
 | .Set ..=>false
 | .Starred ..=>false
 | _=>true
section
variable {V:aD} {k:Nat} {sc:Scope} {c:Cx} {st st' st1 st2 st3 st4:St} {w w':W} {A:Around} {e o i:Expr} {es:List Expr} {p:Pos}
theorem Le.emp (p:PM):Le emp p:=fun a o e=>by unfold Internal.emp at e;cases e
theorem j5 {j:Int} {n:Nat} (h:0<=j) (h1:j.toNat<n):seqIndex? j n=some j.toNat:=by
 unfold seqIndex?
 rw [if_neg (Int.not_lt.mpr h),if_pos (by rw [Bool.and_eq_true,decide_eq_true_eq,decide_eq_true_eq];omega)]
theorem tW {j:Int} {x:Str} {m:Nat} (hx:x.length<=lim) (h:seqIndex? j x.length=some m):(decide (j < -(2 ^ 63:Int))||decide (j>=2 ^ 63))=false:=by
 rw [Bool.or_eq_false_iff,decide_eq_false_iff_not,decide_eq_false_iff_not]
 have hz:lim=1000000:=rfl
 unfold seqIndex? at h
 by_cases q:j<0
 ·simp only [q,if_true,Bool.and_eq_true,decide_eq_true_eq] at h
  split at h
  ·omega
  ·exact nomatch h
 ·simp only [q,if_false,Bool.and_eq_true,decide_eq_true_eq] at h
  split at h
  ·omega
  ·exact nomatch h
noncomputable def RA (w:W) (v:Value) (a:ab):Prop:=VR w.γ w.B v a
noncomputable def RD (w:W) (v:Value) (d:PyData):Prop:=Rd w.B v d
noncomputable def R0 (w:W) (v:Value) (d:PyData ⊕ Nat):Prop:=V0 w.γ w.B v d
class Mono {α:Type} (R:W->Value->α->Prop):Prop where
 le:∀ {w w' v a},Nx w w'->R w v a->R w' v a
instance:Mono RA:=⟨fun n x=>VR.le n.g n.b x⟩
instance:Mono RD:=⟨fun n x=>Rd.le n.b x⟩
instance:Mono R0:=⟨fun n x=>V0.le n.g n.b x⟩
noncomputable def vh {α:Type} (R:W->Value->α->Prop) (V:aD) (k:Nat) (es:List Expr) (sc:Scope) (st:St) (as:List α) (st':St):Prop :=
 es.all bu=true/\∀ (c:Cx) (w:W) (pos:Pos),aq V k sc c st w->Do V c.A (spliced (backTo pos (starEach es c.env))) w fun vs=>iR V k sc c w st' fun w'=>All2 (R w') vs as
noncomputable abbrev EvsA:=@vh _ RA
noncomputable abbrev EvsD:=@vh _ RD
theorem aP {rest:List Expr} {env:Env} (h:bu e=true):starEach (e::rest) env=(false,eval e env)::starEach rest env:=by
 cases e<;>first | rfl | (exact absurd h Bool.false_ne_true)
variable {α:Type} {R:W->Value->α->Prop}
theorem CL:vh R V k [] sc st [] st:=⟨rfl,fun c w pos r Q E hQ=>PySem.Calls.spliced_nil (hQ [] w (Nx.refl _) ⟨rfl,r,.nil⟩)⟩
theorem yY [Mono R] {a:α} {as:List α} (h:vf V k (eval e) sc st st1 fun v w=>R w v a) (h':vh R V k es sc st1 as st2) (hp:bu e=true:=by rfl):vh R V k (e::es) sc st (a::as) st2 :=
 ⟨by rw [List.all_cons,hp];exact h'.1,fun c w pos r Q E hQ=>by
  rw [aP hp]
  exact PySem.Calls.spliced_cons (h c w r _ E fun v w1 n1 z1=>h'.2 c w1 pos z1.rel _ E fun vs w2 n2 z2=>hQ (v::vs) w2 (n1.trans n2) ⟨z2.vm.trans z1.vm,z2.rel,.cons (Mono.le n2 z1.x) z2.x⟩)⟩
theorem bI:∀ {es:List Expr} (env:Env) (pos:Pos),es.all bu=true->(backTo pos (starEach es env)).any (·.1)=false/\(backTo pos (starEach es env)).all (fun x=>!x.1)=true:=by
 intro es
 induction es with
 | nil =>
  intro env pos h
  exact⟨rfl,rfl⟩
 | cons e es ih =>
  intro env pos h
  obtain⟨h1,h2⟩:=Bool.and_eq_true_iff.mp ((List.all_cons (f:=bu)).symm.trans h)
  obtain⟨g1,g2⟩:=ih env pos h2
  rw [aP h1]
  exact⟨g1,g2⟩
theorem mI {f:Value} {l:List (Bool×Sem Value)} {M:Model} {s:Shared} {K:Args->Shared->Prop} {E:Value->Shared->Prop} (hl:l.any (·.1)=false) (h:wpAny M A (spliced l) (fun vs s'=>K ⟨vs,[]⟩ s') E s):wpAny M A (evalArgs f true l []) K E s:=by
 rcases l with _ | ⟨⟨b,x⟩,r⟩
 ·unfold evalArgs
  show wpAny M A (spliced [] >>= _) K E s
  exact wpAny_bind (wpAny_mono h (fun vs s' h'=>wpAny_holding (wpAny_bind (wpAny_pure (wpAny_bind (wpAny_pure (wpAny_pure h')))))) fun ι ι x=>x)
 ·cases b with
  | false=>exact PySem.Calls.evalArgs_plain h
  | true=>cases hl
theorem vh.args {as:List α} (h:vh R V k es sc st as st') (c:Cx) (w:W) (f:Value) (pos:Pos) (r:aq V k sc c st w) (K:Args->Shared->Prop) (E:Value->Shared->Prop)
  (hK:∀ vs w',Nx w w'->iR V k sc c w st' (fun w'=>All2 (R w') vs as) w'->K ⟨vs,[]⟩ w'.s):wpAny (model V.prog V.w) c.A (evalArgs f true (backTo pos (starEach es c.env)) []) K E w.s :=
 mI (bI c.env pos h.1).1 (h.2 c w pos r (fun vs s=>K ⟨vs,[]⟩ s) E hK)
theorem CM {ds:List PyData} (h:EvsD V k es sc st ds st1) (hz:ds.length<=lim):Ev V k (.List es p) sc st (.own ds) st1:=fun c w r Q E hQ =>
 wpAny_List (h.2 c w _ r _ E fun vs w1 n1 z1=>⟨aT (by rw [All2.len z1.x];exact hz),hQ _ (w1.to (w1.h.push (ae vs 0)) w1.s.toks) (n1.trans (Nx.to ..)) ⟨z1.vm,z1.rel.to (Kp.push w1 _) _,_,vs,0,rfl,Heap.get?_push_size _ rfl,(let f:=z1.rel.bs.ok.free (Nat.le_refl _);⟨f.r,f.b,f.f,f.o⟩),z1.x⟩⟩)
theorem aq.newB {ob:Obj} (r:aq V k sc c st w) (hf:ob.isFreed=false) (n:Nat):∃ w',Nx w w'/\w'.vm=w.vm/\w'.s=(w.to (w.h.push ob) n).s/\aq V k sc c st w'/\w'.B w.h.objs.size=some ob:=by
 have f:=r.bs.ok.free (Nat.le_refl _)
 have f':ai (w.to (w.h.push ob) n) w.h.objs.size:=⟨f.r,f.b,f.f,f.o⟩
 exact (lv _ ((Nx.to w _ n).trans (Nx.toB f'.b)) rfl rfl ((r.to (Kp.push w ob) n).toB f' (Heap.get?_push_size _ hf)) (aK ..))
theorem lQ {β:Type} {T:W->Value->β->Prop} [Mono T] {xs:List β} {j:Nat} {av:ab} (h:vh T V k es sc st xs st1) (hz:xs.length<=lim) (hx:∀ w a vs,w.B a=some (bo vs)->All2 (T w) vs xs->VR w.γ w.B (.ref a) av):eK V k (.Tuple es j p) sc st av st1:=fun c w r Q E hQ =>
 wpAny_Tuple (h.2 c w _ r _ E fun vs w1 n1 z1=>⟨aT (by rw [All2.len z1.x];exact hz),by
  obtain⟨w2,n2,vm,s,rel,e⟩:=z1.rel.newB (ob:=bo vs) rfl w1.s.toks
  have q:=hQ (.ref w1.h.objs.size) w2 (n1.trans n2) ⟨vm.trans z1.vm,rel,hx _ _ _ e (z1.x.imp fun ι ι=>Mono.le n2)⟩
  rw [s] at q;exact q⟩)
theorem GO {ds:List PyData} {j:Nat} (h:EvsD V k es sc st ds st1) (hz:ds.length<=lim):bH V k (.Tuple es j p) sc st (.tuple ds) st1:=lQ (av:=.dat (.tuple ds)) h hz fun ι ι ι e x=>Rd.tup e x
theorem CN {ds:List (PyData ⊕ Nat)} {j:Nat} (h:vh R0 V k es sc st ds st1) (hz:ds.length<=lim):eK V k (.Tuple es j p) sc st (.tup ds) st1:=lQ h hz fun ι a vs e x=>(aF a vs rfl e x)
noncomputable def It (V:aD) (d i r:PyData):Prop:=∀ (A:Around) (w:W) (u v:Value) G (Q E:Value->Shared->Prop) (value slice:Expr),Bs V w G->Pk w u d->Rd w.B v i->(∀ x n,Rd w.B x r->Q x (w.tk n).s)->wpAny (model V.prog V.w) A (subscriptTail value slice u v) Q E w.s
theorem jr (slice:Expr) (o i:Value):∃ ops,subscripted slice false o i=operate ops (getItem o i):=by
 cases slice with
 | Slice l u st p=>cases st<;>exact⟨_,rfl⟩
 | _=>exact⟨_,rfl⟩
theorem dJ {prog:Program} {wd:World} {s:Shared} {Q E:Value->Shared->Prop} {value slice:Expr} {o i:Value} {T id:String} (hT:s.TypeIs o T)
  (hl:typeLookup (.type T) "__getitem__"=pure (some (.builtin id))) (hg:wpAny (model prog wd) A (getItem o i) Q E s):wpAny (model prog wd) A (subscriptTail value slice o i) Q E s:=by
 obtain⟨_,hs⟩:=jr slice o i
 exact tail_any hT hl hg hs
theorem yZ {ds:List PyData} {j:Int} {d:PyData} (h0:0<=j) (h1:j<2 ^ 62) (h:ds[j.toNat]?=some d):It V (.list ds) (.int j) d:=fun A w u v G Q E value slice r hu hv hQ=>by
 obtain⟨t,zq⟩:=hv.isInt;rw [zq]
 obtain⟨a,vs,n,zq,e,rs⟩:=hu.lst r.in;rw [zq]
 have l:w.h.IsList a vs.toArray:=(aB _ e rfl ⟨n,rfl⟩)
 obtain⟨x,hx,rx⟩:=rs.get h
 with_reducible refine dJ l.typeIs slot_list_getitem.lookup ?_
 with_reducible exact wpAny_getItem_list l h0 (Int.lt_trans h1 (by decide)) (by simpa using hx) (hQ x w.s.toks rx)
theorem oq {ds:List PyData} {m:Nat} {d:PyData} (h0:0<m) (h1:m<=ds.length) (h2:ds.length<=lim) (h:ds[ds.length-m]?=some d):It V (.list ds) (.int (-(m:Int))) d:=fun A w u v G Q E value slice r hu hv hQ=>by
 obtain⟨t,zq⟩:=hv.isInt;rw [zq]
 obtain⟨a,vs,n,zq,e,rs⟩:=hu.lst r.in;rw [zq]
 have l:w.h.IsList a vs.toArray:=(aB _ e rfl ⟨n,rfl⟩)
 obtain⟨x,hx,rx⟩:=rs.get h
 have hl:=rs.len
 have hz:lim=1000000:=rfl
 have fin:Q x w.s:=hQ x w.s.toks rx
 with_reducible refine dJ l.typeIs slot_list_getitem.lookup ?_
 with_reducible refine wpAny_getItem_list_neg (x:=x) l (by omega) (by rw [List.size_toArray];omega) (by omega) ?_ fin
 rw [List.size_toArray,hl,List.getElem?_toArray,<- hx]
 congr 1;omega
theorem CO {ds:List PyData} {j:Int} {d:PyData} (h0:0<=j) (h1:j<2 ^ 62) (h:ds[j.toNat]?=some d):It V (.tuple ds) (.int j) d:=fun A w u v G Q E value slice r hu hv hQ=>by
 obtain⟨t,zq⟩:=hv.isInt;rw [zq]
 obtain⟨a,vs,zq,e,rs⟩:=(hu.rd fun ι=>nofun).isTup;rw [zq]
 have l:IsTup w.h a vs.toArray:=(aB _ (r.in _ _ e) rfl ⟨_,rfl⟩)
 obtain⟨x,hx,rx⟩:=rs.get h
 have hlt:=(List.getElem?_eq_some_iff.mp hx).1
 with_reducible refine dJ l.typeIs PyProof.Rows.slot_tuple_getitem.lookup ?_
 with_reducible exact PyProof.Rows.getItem_tuple l (Int.le_trans (by decide) h0) (Int.lt_trans h1 (by decide)) (j5 h0 (by simpa using hlt)) (by simpa using hx) (hQ x w.s.toks rx)
theorem CP {x:Str} {j:Int} {m q:Nat} (hx:x.length<=lim) (hm:seqIndex? j x.length=some m) (h:x.cps[m]?=some q):It V (.str x) (.int j) (.str ⟨#[q]⟩):=fun A w u v G Q E value slice r hu hv hQ=>by
 obtain⟨t,zq⟩:=hv.isInt;rw [zq]
 obtain⟨t1,zq⟩:=(hu.rd fun ι=>nofun).isStr;rw [zq]
 with_reducible refine dJ (typeIs_str _ _ _) PySem.F.slot_str_getitem.lookup ?_
 have q4:(seqIndex? j x.length).bind (x.cps[·]?)=some q:=by rw [hm];exact h
 with_reducible exact PyProof.Rows.getItem_str (c:=q) (tW hx hm) q4 (hQ _ _ (.str _ _))
theorem GP {d j x:PyData} (h1:bH V k o sc st d st1) (h2:bH V k i sc st1 j st2) (h:It V d j x):bH V k (.Subscript o i p) sc st x st2:=fun c w r Q E hQ =>
 Subscript_ (h1 c w r _ E fun u w1 n1 z1=>h2 c w1 z1.rel _ E fun v w2 n2 z2=>h c.A w2 u v _ Q E o i z2.rel.bs (.inl (z1.x.le n2.b)) z2.x fun y n q=>hQ y (w2.tk n) (n1.trans (n2.trans (Nx.tk _ _))) ⟨z2.vm.trans z1.vm,z2.rel.tk n,q⟩)
theorem CQ {y:Str} {xp:Pos} {ds ds':List PyData} {j x:PyData} (hx:af st.ρ y=some (.lst ds)) (h2:bH V k i sc st j st1) (hx':af st1.ρ y=some (.lst ds')) (h:It V (.list ds') j x):bH V k (.Subscript (.Name y xp) i p) sc st x st1:=fun c w r Q E hQ=>by
 obtain⟨u,hu,_⟩:=r.slot hx
 refine Subscript_ (Do.name r hx hu (Z:=fun v w'=>v=u/\w'=w) (fun ι=>⟨rfl,rfl⟩) _ E fun v w1 n1 z1=>?_)
 obtain⟨rfl,zq⟩:=z1;clear n1;subst zq
 refine h2 c w1 r _ E fun v' w2 n2 z2=>?_
 obtain⟨a,vs,n,e1,e2,e3⟩:=z2.rel.slotv hx' (z2.vm▸hu)
 exact h c.A w2 v v' _ Q E _ i z2.rel.bs (.inr (aa ds' rfl (cA a vs n e1 (z2.rel.bs.ok.f _ _ e2) e3))) z2.x fun y n q=>hQ y (w2.tk n) (n2.trans (Nx.tk _ _)) ⟨z2.vm,z2.rel.tk n,q⟩
theorem CR {y:Str} {xp:Pos} {z:Str} {a:Addr} {es:List DictEntry} {n:Nat} {d:PyData} (hk:dO sc y=true) (hg:V.mg y=some (.ref a)) (hK:V.K a=some { cls:=.type "dict",data:=.dict es.toArray n })
  (hes:∀ e∈es,∃ x t,e.key=.str x t/\e.hash=PyData.keyHash V.w.params x) (h2:bH V k i sc st (.str z) st1) (hf:∃ v,findBy Value.isStrOf es.toArray z=some v/\Rd emp v d):bH V k (.Subscript (.Name y xp) i p) sc st d st1:=fun c w r Q E hQ=>by
 refine Subscript_ (aZ r hk (.inl hg) (Z:=fun v w'=>v=.ref a/\w'=w) ⟨rfl,rfl⟩ _ E fun v w1 n1 z1=>?_)
 obtain⟨zq,zq⟩:=z1;clear n1;subst zq;rw [zq]
 refine h2 c w1 r _ E fun v' w2 n2 z2=>?_
 obtain⟨t,zq⟩:=z2.x.isStr;rw [zq]
 obtain⟨v,hv,rv⟩:=hf
 have m:w2.h.MapOf (PySem.strKind V.prog V.w) a (fun k=>findBy Value.isStrOf es.toArray k):=(oi _ es.toArray n (z2.rel.bs.K _ _ hK) (am rfl rfl rfl) rfl (fun e he=>by
  obtain⟨x,t,e1,e2⟩:=hes e (by simpa using he)
  exact (aa x (by rw [e1];exact strKind_is _ _ x t) e2)) (fun ι=>rfl))
 with_reducible refine dJ m.typeIs slot_dict_getitem.lookup ?_
 with_reducible refine wpAny_getItem_of (strKind_is V.prog V.w z t) m (v:=v) hv ?_
 exact hQ v (w2.tk _) (n2.trans (Nx.tk _ _)) ⟨z2.vm,z2.rel.tk _,rv.le (Le.emp _)⟩
theorem y0 {y:Str} {xp:Pos} {z:Str} {a:Addr} {es:List DictEntry} {n:Nat} (hk:dO sc y=true) (hg:V.mg y=some (.ref a)) (hK:V.K a=some { cls:=.type "dict",data:=.dict es.toArray n }) (hn:(a==sysModules)=false)
  (hes:∀ e∈es,∃ x t,e.key=.str x t/\e.hash=PyData.keyHash V.w.params x) (h1:bH V k o sc st (.str z) st1):om V k o .In (.Name y xp) sc st (findBy Value.isStrOf es.toArray z).isSome st1:=fun c w r Q E hQ =>
 h1 c w r _ E fun u w1 n1 z1=>aZ z1.rel hk (.inl hg) (Z:=fun v w'=>v=.ref a/\w'=w1) ⟨rfl,rfl⟩ _ E fun v w2 n2 z2=>by
  obtain⟨zq,zq⟩:=z2;clear n2;subst zq;rw [zq]
  obtain⟨t,zq⟩:=z1.x.isStr;rw [zq]
  have m:w2.h.MapOf (PySem.strKind V.prog V.w) a (fun k=>findBy Value.isStrOf es.toArray k):=(oi _ es.toArray n (z1.rel.bs.K _ _ hK) (am rfl rfl rfl) rfl (fun e he=>by
   obtain⟨x,t,e1,e2⟩:=hes e (by simpa using he)
   exact (aa x (by rw [e1];exact strKind_is _ _ x t) e2)) (fun ι=>rfl))
  with_reducible refine wpAny_in_of (strKind_is V.prog V.w z t) hn m ?_
  exact hQ (w2.tk _) (n1.trans (Nx.tk _ _)) ⟨z1.vm,z1.rel.tk _,trivial⟩
end
section
variable {V:aD} {k:Nat} {sc:Scope} {c:Cx} {st st' st1 st2 st3 st4:St} {w w':W} {A:Around} {e o i:Expr} {es:List Expr} {p:Pos}
noncomputable def n9 (V:aD) (k:Nat) (e:Option Expr) (sc:Scope) (st:St) (d:Option Int) (st':St):Prop:=vf V k (evalPart e) sc st st' fun v w=>∃ y,v=partValue y/\y.map (·.1)=d/\IsPart v d
theorem y4:n9 V k none sc st none st:=fun c w r Q E hQ=>by
 rw [evalPart_none]
 exact wpAny_pure (hQ _ w (Nx.refl _) ⟨rfl,r,none,rfl,rfl,.none⟩)
theorem y5 {j:Int} (h:bH V k e sc st (.int j) st'):n9 V k (some e) sc st (some j) st':=fun c w r Q E hQ=>by
 rw [evalPart_some]
 refine h c w r Q E fun v w' n z=>hQ v w' n ⟨z.vm,z.rel,?_⟩
 obtain⟨t,zq⟩:=z.x.isInt;clear z;subst zq
 exact (aB (some (_,_)) rfl rfl (.int _ _))
noncomputable def Sl (V:aD) (d:PyData) (l u s:Option Int) (rv:RV):Prop:=∀ (A:Around) (w:W) (v vl vu vp:Value) G (Q E:Value->Shared->Prop) (value slice:Expr),Bs V w G->Pk w v d ->
 (∃ y,vl=partValue y/\y.map (·.1)=l/\IsPart vl l)->(∃ y,vu=partValue y/\y.map (·.1)=u/\IsPart vu u)->(∃ y,vp=partValue y/\y.map (·.1)=s/\IsPart vp s) ->
 (∀ x w',Nx w w'->Gr w w'->qn w' x rv->Q x w'.s)->wpAny (model V.prog V.w) A (subscriptTail value slice v (.ref w.h.objs.size)) Q E (w.to (w.h.push { cls:=.type "slice",data:=.fields #[vl,vu,vp] }) w.s.toks).s
noncomputable def pick (ds:List PyData) (l u s:Option Int):List PyData:=(sliceRange (sliceBounds l u s ds.length).1 (sliceBounds l u s ds.length).2.1 (sliceBounds l u s ds.length).2.2).filterMap (ds[·]?)
theorem y6 {ds:List PyData} {l u s:Option Int} (h0:s≠some 0) (hz:ds.length<=lim):Sl V (.list ds) l u s (.own (pick ds l u s)):=fun A w v vl vu vp G Q E value slice r hv ⟨yl,e1,m1,p1⟩ ⟨yu,e2,m2,p2⟩ ⟨yp,e3,m3,p3⟩ hQ=>by
 have r':=r.to (Kp.push w { cls:=.type "slice",data:=.fields #[vl,vu,vp] }) w.s.toks
 obtain⟨a,vs,n,zq,e,rs⟩:=hv.lst r.in;clear hv;subst zq
 have li:(w.to (w.h.push { cls:=.type "slice",data:=.fields #[vl,vu,vp] }) w.s.toks).h.IsList a vs.toArray:=(aB _ (Heap.get?_push_of_some _ e) rfl ⟨n,rfl⟩)
 have hs:(w.to (w.h.push { cls:=.type "slice",data:=.fields #[vl,vu,vp] }) w.s.toks).s.heap.IsSliceOf w.h.objs.size vl vu vp:=Heap.IsSliceOf.new ..
 have hsz:vs.toArray.size<=sizeLine:=by rw [List.size_toArray,rs.len];exact aT hz
 with_reducible refine dJ (Heap.IsList.typeIs (s:=(w.to (w.h.push { cls:=.type "slice",data:=.fields #[vl,vu,vp] }) w.s.toks).s) li) slot_list_getitem.lookup ?_
 with_reducible refine wpAny_getItem_list_slice li hs p1 p2 p3 h0 ?_ hsz
 have ar:slicePick vs.toArray l u s=((sliceRange (sliceBounds l u s ds.length).1 (sliceBounds l u s ds.length).2.1 (sliceBounds l u s ds.length).2.2).filterMap (vs[·]?)).toArray:=by
  unfold slicePick
  simp only [List.size_toArray,rs.len,List.getElem?_toArray]
 rw [ar]
 generalize hN:(w.to (w.h.push { cls:=.type "slice",data:=.fields #[vl,vu,vp] }) w.s.toks)=w1 at *
 clear li hs;subst hN
 have f:=r'.ok.free (Nat.le_refl _)
 exact hQ _ (w.to ((w.h.push { cls:=.type "slice",data:=.fields #[vl,vu,vp] }).push (ae _ 0)) w.s.toks) (Nx.to ..) (ba _ _ rfl (fun b o nf q=>Heap.get?_push_of_some _ (Heap.get?_push_of_some _ q))) (dy _ _ 0 rfl (Heap.get?_push_size _ rfl) ⟨f.r,f.b,f.f,f.o⟩ (rs.pick _))
noncomputable def bJ (x:Str) (l u s:Option Int):Str:=if (s.getD 1==1&&(Builtin.Str.strSliceIndices l u (s.getD 1) x.length).length==x.length)=true then x else ⟨((Builtin.Str.strSliceIndices l u (s.getD 1) x.length).filterMap (x.cps[·]?)).toArray⟩
theorem CS {x:Str} {l u s:Option Int} (h0:s≠some 0) (hz:(bJ x l u s).length<=lim):Sl V (.str x) l u s (.val (.dat (.str (bJ x l u s)))):=fun A w v vl vu vp G Q E value slice r hv ⟨yl,e1,m1,p1⟩ ⟨yu,e2,m2,p2⟩ ⟨yp,e3,m3,p3⟩ hQ=>by
 obtain⟨t1,zq⟩:=(hv.rd fun ι=>nofun).isStr;clear hv;subst zq
 clear p1;subst e1 e2 e3
 with_reducible refine dJ (typeIs_str _ _ _) PySem.F.slot_str_getitem.lookup ?_
 have hs:(w.to (w.h.push { cls:=.type "slice",data:=.fields #[partValue yl,partValue yu,partValue yp] }) w.s.toks).s.heap.IsSlice w.h.objs.size yl yu yp:=(aB _ (Heap.get?_push_size _ rfl) rfl rfl)
 with_reducible refine wpAny_getItem_str_slice (l:=yl) (u:=yu) (st:=yp) hs ?_ ?_
 ·rw [m3];cases s with
  | none=>rfl
  | some z=>simp only [Option.getD_some,beq_eq_false_iff_ne];exact fun e=>h0 (by rw [e])
 ·have fin:∀ y t n,y=bJ x l u s->Q (.str y t) (w.to (w.h.push { cls:=.type "slice",data:=.fields #[partValue yl,partValue yu,partValue yp] }) n).s:=fun y t n e=>by
   subst e;exact hQ _ (w.to _ n) (Nx.to ..) (ba _ n rfl (Kp.push w _)) (Rd.str _ _)
  delta sliceMade slicePicked
  rw [m1,m2,m3]
  unfold bJ at fin hz
  split
  ·rename_i c;rw [if_pos c] at fin;exact fin _ _ _ rfl
  ·rename_i c;rw [if_neg c] at fin hz
   exact⟨aT hz,fin _ _ _ rfl⟩
theorem iT {l u s:Option Expr} {sp:Pos} {dl du ds:Option Int} {rv:RV} {d:PyData} (h1:n9 V k l sc st dl st1) (h2:n9 V k u sc st1 du st2) (h3:n9 V k s sc st2 ds st3) (h:Sl V d dl du ds rv) {v:Value} {value:Expr} {c:Cx} {w0 w:W} (vm:w.vm=w0.vm) (n0:Nx w0 w) (r:aq V k sc c st w)
  (hv:∀ w',Nx w w'->iR V k sc c w st3 (fun ι=>True) w'->Pk w' v d) (Q E:Value->Shared->Prop) (hQ:∀ x w',Nx w0 w'->iR V k sc c w0 st3 (fun w'=>qn w' x rv) w'->Q x w'.s) :
  wpAny (model V.prog V.w) c.A (eval (.Slice l u s sp) c.env) (fun i s'=>wpAny (model V.prog V.w) c.A (subscriptTail value (.Slice l u s sp) v i) Q E s') E w.s :=
 wpAny_Slice (h1 c w r _ E fun vl w1 n1 z1=>h2 c w1 z1.rel _ E fun vu w2 n2 z2=>h3 c w2 z2.rel _ E fun vp w3 n3 z3=>h c.A w3 v vl vu vp _ Q E value _ z3.rel.bs (hv w3 (n1.trans (n2.trans n3)) ⟨z3.vm.trans (z2.vm.trans z1.vm),z3.rel,trivial⟩) z1.x z2.x z3.x
  fun x w4 n4 g4 q=>hQ x w4 (n0.trans (n1.trans (n2.trans (n3.trans n4)))) ⟨g4.vm.trans (z3.vm.trans (z2.vm.trans (z1.vm.trans vm))),g4.rel z3.rel,q⟩)
theorem y7 {l u s:Option Expr} {sp:Pos} {dl du ds:Option Int} {rv:RV} {d:PyData} {st0:St} (h0:bH V k o sc st0 d st) (h1:n9 V k l sc st dl st1) (h2:n9 V k u sc st1 du st2) (h3:n9 V k s sc st2 ds st3) (h:Sl V d dl du ds rv):Ev V k (.Subscript o (.Slice l u s sp) p) sc st0 rv st3:=fun c w r Q E hQ =>
 Subscript_ (h0 c w r _ E fun v w1 n1 z1=>iT h1 h2 h3 h z1.vm n1 z1.rel (fun w' n ι=>.inl (z1.x.le n.b)) Q E hQ)
theorem vA {l u s:Option Expr} {sp xp:Pos} {dl du ds:Option Int} {rv:RV} {y:Str} {xs xs':List PyData} (hx:af st.ρ y=some (.lst xs)) (h1:n9 V k l sc st dl st1) (h2:n9 V k u sc st1 du st2) (h3:n9 V k s sc st2 ds st3) (hx':af st3.ρ y=some (.lst xs')) (h:Sl V (.list xs') dl du ds rv):Ev V k (.Subscript (.Name y xp) (.Slice l u s sp) p) sc st rv st3:=fun c w r Q E hQ=>by
 obtain⟨u0,hu,_⟩:=r.slot hx
 refine Subscript_ (Do.name r hx hu (Z:=fun v w'=>v=u0/\w'=w) (fun ι=>⟨rfl,rfl⟩) _ E fun v w1 n1 z1=>?_)
 obtain⟨rfl,zq⟩:=z1;clear n1 a;subst zq
 refine iT h1 h2 h3 h rfl (Nx.refl _) r (fun w' n z=>?_) Q E hQ
 obtain⟨a,vs,m,e1,e2,e3⟩:=z.rel.slotv hx' (z.vm▸hu)
 exact .inr (aa xs' rfl (cA a vs m e1 (z.rel.bs.ok.f _ _ e2) e3))
theorem vB {sp:Pos} {y:Nat} {xs:List PyData} (h0:eK V k o sc st (.obj y) st1) (hg:st1.G[y]?=some (.lst xs)) {dl du ds:Option Int} {l u s:Option Expr} {rv:RV} (h1:n9 V k l sc st1 dl st1) (h2:n9 V k u sc st1 du st1) (h3:n9 V k s sc st1 ds st1) (h:Sl V (.list xs) dl du ds rv):Ev V k (.Subscript o (.Slice l u s sp) p) sc st rv st1:=fun c w r Q E hQ =>
 Subscript_ (h0 c w r _ E fun v w1 n1 z1=>iT h1 h2 h3 h z1.vm n1 z1.rel (fun w' n z=>by
  obtain⟨a,zq,e⟩:=z1.x;clear z1;subst zq
  exact .inr (aa xs rfl (z.rel.bs.ob.lst hg (n.g _ _ e)))) Q E hQ)
noncomputable def vC (s:Shared) (v:Value) (name:Str) (id:String):Prop:=∀ (M:Model) (A:Around) (Q:Value×List Value->Shared->Prop) (E:Value->Shared->Prop) (pl:Sem Bool),Q (.builtin id,[v]) s->wpAny M A (getMethod v name pl) Q E s
theorem cW {w:W} {v:Value} {ds:List PyData} {name:Str} {id:String} (h:FG w v ds) (slot:PySem.Slot "list" name id) (hty:typeOf (.builtin id)=pure (.type "method_descriptor")):vC w.s v name id:=by
 obtain⟨a,vs,n,rfl,e,_⟩:=h
 exact fun M A Q E pl h=>getMethod_builtin (aa _ e rfl) PySem.F.plainAttrs_list slot hty (fun b q=>by cases q;exact (aa _ e rfl)) h
noncomputable def jC (V:aD) (d:PyData) (name:Str) (as:List PyData) (rv:RV):Prop:=∃ id,(∀ (w:W) (v:Value),In w.B w.h->Pk w v d->vC w.s v name id) /\
 ∀ (A:Around) (w:W) (v:Value) (us:List Value) G,A.units+66<cLine->Bs V w G->Pk w v d->cP w.B us as->Gv V A (call (.builtin id) (v::us)) w rv
theorem Pk.str {v:Value} {x:Str} (h:Pk w v (.str x)):∃ t,v=.str x t:=(h.rd fun ι=>nofun).isStr
theorem y8 {x:Str} (h:x.length<=lim):jC V (.str x) "upper" [] (.val (.dat (.str (Txt.upper x)))):=(aa ("str.upper") (fun w v ι hv=>by
  obtain⟨t,zq⟩:=hv.str;clear hv;subst zq
  exact fun M A Q E pl h=>PySem.GM.upper h) (fun A w v us G hu r hv hus=>by
  obtain⟨t,zq⟩:=hv.str;clear hv;subst zq
  cases hus
  exact Gv.str fun Q E hQ=>SCL.upper (Nat.le_trans h (by decide)) fun ι=>hQ _ _))
theorem y9 {x:Str} (h:x.length<=lim):jC V (.str x) "lower" [] (.val (.dat (.str (Txt.lower x)))):=(aa ("str.lower") (fun w v ι hv=>by
  obtain⟨t,zq⟩:=hv.str;clear hv;subst zq
  exact fun M A Q E pl h=>PySem.GM.lower h) (fun A w v us G hu r hv hus=>by
  obtain⟨t,zq⟩:=hv.str;clear hv;subst zq
  cases hus
  exact Gv.str fun Q E hQ=>SCL.lower (Nat.le_trans h (by decide)) fun ι=>hQ _ _))
theorem ou {B:PM}:∀ (tk:Nat) (l:List Str),cP B (strsFrom tk l) (l.map .str)
 | _,[]=>.nil
 | tk,x::r=>.cons (.str _ _) (ou (tk+1) r)
theorem zc {x:Str} (h:x.length<=lim) (hw:(Builtin.Str.spaceWords x (x.length+1)).length<=lim):jC V (.str x) "split" [] (.own ((Txt.words x).map .str)):=(aa ("str.split") (fun w v ι hv=>by
  obtain⟨t,zq⟩:=hv.str;clear hv;subst zq
  exact fun M A Q E pl h=>PySem.GM.split h) (fun A w v us G hu r hv hus=>by
  obtain⟨t,zq⟩:=hv.str;clear hv;subst zq
  cases hus
  unfold Txt.words
  split
  ·rename_i cc
   refine Gv.own r (.cons (.str _ t) .nil) fun Q E hQ=>call_meets PySem.F.slot_str_split (typeIs_str _ _ _) PySem.F.entry_str_split (PySem.F.args_str_split_1 _) (meets_str_split_space x t (aT h) (aT hw)) ?_
   rw [if_pos cc];exact hQ w.s.toks
  ·rename_i cc
   refine Gv.own r (ou w.s.toks _) fun Q E hQ=>call_meets PySem.F.slot_str_split (typeIs_str _ _ _) PySem.F.entry_str_split (PySem.F.args_str_split_1 _) (meets_str_split_space x t (aT h) (aT hw)) ?_
   rw [if_neg cc];exact hQ _))
theorem zd {x y:Str} {j:Nat} {l:List Nat} (h:Builtin.Str.occurrences x y 0 x.length 1=j::l):jC V (.str x) "index" [.str y] (.val (.dat (.int j))):=(aa ("str.index") (fun w v ι hv=>by
  obtain⟨t,zq⟩:=hv.str;clear hv;subst zq
  exact fun M A Q E pl h=>PySem.GM.index h) (fun A w v us G hu r hv hus=>by
  obtain⟨t,zq⟩:=hv.str;clear hv;subst zq
  cases hus with
  | cons q q' =>
   cases q';obtain⟨t',zq⟩:=q.isStr;clear q;subst zq
   exact Gv.int fun Q E hQ=>PySem.SC.index h (hQ _ _)))
theorem ze {x y:Str}:jC V (.str x) "count" [.str y] (.val (.dat (.int (Txt.count x y)))):=(aa ("str.count") (fun w v ι hv=>by
  obtain⟨t,zq⟩:=hv.str;clear hv;subst zq
  exact fun M A Q E pl h=>PySem.GM.count h) (fun A w v us G hu r hv hus=>by
  obtain⟨t,zq⟩:=hv.str;clear hv;subst zq
  cases hus with
  | cons q q' =>
   cases q';obtain⟨t',zq⟩:=q.isStr;clear q;subst zq
   exact Gv.int fun Q E hQ=>PySem.SC.count (hQ _ _)))
theorem vD {B:PM} {l:List Str}:∀ {vs:List Value},cP B vs (l.map .str)->StrsAre vs l:=by
 induction l with
 | nil =>
  intro vs h
  have h:cP B vs []:=h
  clear h;cases h
  exact .nil
 | cons x l ih =>
  intro vs h
  have h:cP B vs (.str x::l.map .str):=h
  cases h with
  | cons a r=>obtain⟨t,zq⟩:=a.isStr;clear a h;subst zq;exact .cons _ _ (ih r)
theorem CT {x:Str} {l:List Str} (h:(l.map (·.length)).sum+l.length*x.length<=lim):jC V (.str x) "join" [.list (l.map .str)] (.val (.dat (.str (Txt.join x l)))):=(aa ("str.join") (fun w v ι hv=>by
  obtain⟨t,zq⟩:=hv.str;clear hv;subst zq
  exact fun M A Q E pl h=>PySem.GM.join h) (fun A w v us G hu r hv hus=>by
  obtain⟨t,zq⟩:=hv.str;clear hv;subst zq
  cases hus with
  | cons q q' =>
   cases q';obtain⟨a1,vs,n,zq,e1,rs⟩:=q.isList;clear q;subst zq
   have hl:w.h.IsList a1 vs.toArray:=(aB _ (r.in _ _ e1) rfl ⟨n,rfl⟩)
   exact Gv.str fun Q E hQ=>PyProof.Rows.join_list hl (vD rs) (aT h) fun t' k=>hQ _ _))
theorem CU {j:Int}:jC V (.int j) "bit_length" [] (.val (.dat (.int (Builtin.Int.intBits j)))):=(aa ("int.bit_length") (fun w v ι hv=>by
  obtain⟨t,zq⟩:=(hv.rd fun ι=>nofun).isInt;clear hv;subst zq
  exact fun M A Q E pl h=>getMethod_int_bit_length h) (fun A w v us G hu r hv hus=>by
  obtain⟨t,zq⟩:=(hv.rd fun ι=>nofun).isInt;clear hv;subst zq
  cases hus
  exact Gv.int fun Q E hQ=>call_int_bit_length (hQ _ _)))
theorem vE {ds:List PyData} {a:PyData} (h:ds.all (b9 a)=true):jC V (.list ds) "count" [a] (.val (.dat (.int (ds.countP fun d=>PyData.eqv d a)))):=(aa ("list.count") (fun w v b hv=>cW (hv.lst b) PySem.F.slot_list_count PySem.F.type_list_count) (fun A w v us G hu r hv hus=>by
  obtain⟨a1,vs,n,zq,e,rs⟩:=hv.lst r.in;clear hv;subst zq
  cases hus with
  | cons q q' =>
   cases q'
   obtain⟨as,ra⟩:=q.reads r.in
   refine Gv.int fun Q E hQ=>call_meets PySem.F.slot_list_count (aa _ e rfl) PySem.F.entry_list_count (PySem.F.args_list_count_2 _ _) (list_countAt a1 vs.toArray n none #[] _ (eqTo w.h a)) (am e (rZ (r5 hu) r.in ra rs h) ?_)
   show Q (.int ((vs.countP (eqTo w.h a):Nat):Int) w.s.toks) _
   rw [(cP.eqTo r.in rs).countP]
   exact hQ _ (w.s.toks+1)))
theorem vF {ds:List PyData} {a:PyData} {j:Nat} (h:ds.all (b9 a)=true) (hz:ds.length<=lim) (hj:(ds.findIdx? fun d=>PyData.eqv d a)=some j):jC V (.list ds) "index" [a] (.val (.dat (.int j))):=(aa ("list.index") (fun w v b hv=>cW (hv.lst b) PySem.F.slot_list_index PySem.F.type_list_index) (fun A w v us G hu r hv hus=>by
  obtain⟨a1,vs,n,zq,e,rs⟩:=hv.lst r.in;clear hv;subst zq
  cases hus with
  | cons q q' =>
   cases q'
   obtain⟨as,ra⟩:=q.reads r.in
   obtain⟨j1,j2,j3⟩:=List.findIdx?_eq_some_iff_getElem.mp ((cP.eqTo r.in rs (a:=a)).findIdx.trans hj)
   have hlen:vs.length<2 ^ 62:=by rw [rs.len];exact Nat.lt_of_le_of_lt hz (by decide)
   exact Gv.int fun Q E hQ=>call_meets PySem.F.slot_list_index (aa _ e rfl) PySem.F.entry_list_index (PySem.F.args_list_index_2 _ _) (list_indexAt a1 vs.toArray n none #[] _ (eqTo w.h a) j (by simpa using j1) (by omega) (by simpa using j2) (fun m hm hlt=>by simpa using j3 m hlt)) (am e (rZ (r5 hu) r.in ra rs h) (hQ _ _))))
end
section
variable {V:aD} {k:Nat} {sc:Scope} {c:Cx} {st st' st1 st2 st3:St} {w w':W} {A:Around} {e o:Expr} {es:List Expr} {p:Pos}
section
variable {M:Model} {E:Value->Shared->Prop} {s:Shared} {env:Env}
theorem aQ {f:Value} {pos:Pos} {first:List Value} {args:List (Bool×Sem Value)} {kws:List (Option Str×Sem Value)} {Q:Value->Shared->Prop} (hplain:args.any (·.1)=false) (hkw:kws.any (·.1.isNone)=false)
  (h:wpAny M A (evalArgs f true args kws) (fun a s₁=>wpAny M A (keeperOf f) (fun ι s₂=>s₂=s₁) E s₁/\wpAny M A (call f (first++a.pos) a.kw) Q E s₁) E s):wpAny M A (callWith pos f first args kws) Q E s:=by
 unfold callWith
 refine wpAny_bind (wpAny_holding (wpAny_mono h (fun a s₁ h₁=>wpAny_bind (wpAny_standAt ?_)) fun ι ι x=>x))
 obtain⟨hkp,hc⟩:=h₁
 obtain⟨apos,akw⟩:=a
 simp only [hplain,hkw,Bool.or_false]
 have tail:∀ {t:Sem Value},wpAny M A t Q E s₁->wpAny M A (t >>= fun r=>holding [r] point >>= fun ι=>pure r) Q E s₁ :=
  fun ht=>wpAny_bind (wpAny_mono ht (fun r s₂ hr=>wpAny_bind (wpAny_holding (wpAny_point (wpAny_pure hr)))) fun ι ι x=>x)
 refine wpAny_bind (wpAny_mono hkp (fun kp s₂ e=>?_) fun ι ι x=>x)
 rw [e]
 cases kp with
 | frame =>
  show wpAny M A (if args.length+2*kws.length>30 then _ else _) Q E s₁
  split
  ·exact tail hc
  ·exact tail (by unfold callMarked;exact wpAny_keep hc)
 | boundFrame =>
  show wpAny M A (if args.length+2*kws.length>30 then _ else _) Q E s₁
  split
  ·exact tail hc
  ·exact tail (by unfold callMarked;exact wpAny_keep hc)
 | machine=>exact tail hc
 | caller=>exact tail (wpAny_operating hc)
theorem r6 {name:Str} {apos pos:Pos} {args:List Expr} {kws:List Keyword} {Q:Value->Shared->Prop} (hbase:attributeBase o name env (eval o env)=eval o env)
  (hst:(backTo pos (starEach args env)).all (fun x=>!x.1)=true) (hkw:(backToKw pos (keywordEach kws env)).all (fun x=>x.1.isSome)=true) (hlen:args.length+kws.length<=5) (hline:(apos.endLine==pos.line)=true)
  (h:wpAny M A (eval o env) (fun ov s₁=>∀ pl,wpAny M A (getMethod ov name pl) (fun fm s₂=>wpAny M A (callWith pos fm.1 fm.2 (backTo pos (starEach args env)) (backToKw pos (keywordEach kws env))) Q E s₂) E s₁) E s) :
  wpAny M A (eval (.Call (.Attribute o name apos) args kws pos) env) Q E s:=by
 rw [arm_eval_Call,hbase]
 refine wpAny_bind (wpAny_mono h (fun ov s₁ h₁=>?_) fun ι ι e=>e)
 refine wpAny_bind (wpAny_standAt ?_)
 have hform:methodCallForm (args.length+kws.length) (backTo pos (starEach args env)) (backToKw pos (keywordEach kws env))=true:=by
  unfold methodCallForm
  rw [hst,hkw]
  simp
  split<;>omega
 have hpos:methodCallPos true o env apos pos=pure pos:=by delta methodCallPos;simp [hline]
 delta methodCall
 rw [hform]
 refine wpAny_bind (wpAny_holding (wpAny_mono (h₁ _) (fun fm s₂ h₂=>?_) fun ι ι e=>e))
 exact wpAny_bind (wpAny_of_eq hpos h₂)
theorem aA {v:Value} (h:∀ a,v≠.ref a):wpAny M A (keeperOf v) (fun ι s₂=>s₂=s) E s:=by
 unfold keeperOf
 cases v<;>first | exact wpAny_pure rfl | exact absurd rfl (h _)
end
theorem ca {α:Type} {R:W->Value->α->Prop} {as:List α} {f:Value} {first:List Value} {pos:Pos} {Z:Value->W->Prop} (h:vh R V k es sc st as st') (r:aq V k sc c st w) (hk:∀ (s:Shared) (w':W),w'.s=s->aq V k sc c st' w'->∀ E,wpAny (model V.prog V.w) c.A (keeperOf f) (fun ι s₂=>s₂=s) E s)
  (hc:∀ vs w',Nx w w'->iR V k sc c w st' (fun w'=>All2 (R w') vs as) w'->Do V c.A (call f (first++vs)) w' Z):Do V c.A (callWith pos f first (backTo pos (starEach es c.env)) []) w Z:=fun Q E hQ =>
 aQ (bI c.env pos h.1).1 rfl (h.args c w f pos r _ E fun vs w' n z=>⟨hk _ w' rfl z.rel E,hc vs w' n z Q E fun v w'' n' z'=>hQ v w'' (n.trans n') z'⟩)
noncomputable def dW (es:List Expr) (apos pos:Pos):Bool:=decide (es.length<=5)&&(apos.endLine==pos.line)
theorem c9 {name:Str} {apos pos:Pos} {Y Z:Value->W->Prop} (hf:dW es apos pos=true) (hb:attributeBase o name c.env (eval o c.env)=eval o c.env) (hp:es.all bu=true) (h:Do V c.A (eval o c.env) w Y)
  (h':∀ v w',Nx w w'->Y v w'->∀ (Q:Value->Shared->Prop) (E:Value->Shared->Prop),(∀ u w'',Nx w' w''->Z u w''->Q u w''.s)->∀ pl,wpAny (model V.prog V.w) c.A (getMethod v name pl) (fun fm s₂=>wpAny (model V.prog V.w) c.A (callWith pos fm.1 fm.2 (backTo pos (starEach es c.env)) []) Q E s₂) E w'.s) :
  Do V c.A (eval (.Call (.Attribute o name apos) es [] pos) c.env) w Z:=fun Q E hQ=>by
 unfold dW at hf
 obtain⟨h2,h3⟩:=Bool.and_eq_true_iff.mp hf
 exact r6 hb (bI c.env pos hp).2 rfl (of_decide_eq_true h2) h3 (h _ E fun v w' n y=>h' v w' n y Q E fun u w'' n' z=>hQ u w'' (n.trans n') z)
variable {name:Str} {apos pos:Pos} {d:PyData} {as:List PyData} {rv:RV} {x:Str} {xp:Pos} {ds ds' ds0:List PyData}
theorem vG (h0:bH V k o sc st d st1) (ha:EvsD V k es sc st1 as st2) (hm:jC V d name as rv) (hf:dW es apos pos=true:=by rfl) (hb:∀ env,attributeBase o name env (eval o env)=eval o env:=by exact fun ι=>rfl):Ev V k (.Call (.Attribute o name apos) es [] pos) sc st rv st2:=fun c w r=>by
 obtain⟨id,hg,hc⟩:=hm
 refine c9 hf (hb c.env) ha.1 (h0 c w r) fun v w1 n1 z1 Q E hQ pl=>hg w1 v z1.rel.bs.in (.inl z1.x) _ _ _ _ _ ?_
 refine ca (Z:=fun u w'=>iR V k sc c w st2 (fun w'=>qn w' u rv) w') ha z1.rel (fun s w' e ι E=>aA (v:=.builtin id) nofun) (fun vs w2 n2 z2=>?_) Q E hQ
 exact (hc c.A w2 v vs _ (z2.rel.room.un (by decide)) z2.rel.bs (.inl (z1.x.le n2.b)) z2.x).mono fun u w3 n3 z3=>⟨z3.1.vm.trans (z2.vm.trans z1.vm),z3.1.rel z2.rel,z3.2⟩
theorem Do.nameV {v0:Value} {sl:Slot} (r:aq V k sc c st w) (hx:af st.ρ x=some sl) (hv:w.vm x=some v0):Do V c.A (eval (.Name x p) c.env) w fun v w'=>v=v0/\w'=w:=Do.name r hx hv fun ι=>⟨rfl,rfl⟩
theorem aq.lstOf (r:aq V k sc c st w) (hx:af st.ρ x=some (.lst ds)) {v:Value} (hv:w.vm x=some v):FG w v ds:=by
 obtain⟨a,vs,n,e1,e2,e3⟩:=r.slotv hx hv
 exact (cA a vs n e1 (r.bs.ok.f _ _ e2) e3)
theorem zf (hx:af st.ρ x=some (.lst ds)) (ha:EvsD V k es sc st as st1) (hx':af st1.ρ x=some (.lst ds)) (hm:jC V (.list ds) name as rv) (hf:dW es apos pos=true:=by rfl):Ev V k (.Call (.Attribute (.Name x xp) name apos) es [] pos) sc st rv st1:=fun c w r=>by
 obtain⟨id,hg,hc⟩:=hm
 obtain⟨v0,hv,_⟩:=r.slot hx
 refine c9 hf rfl ha.1 (Do.nameV r hx hv) fun v w1 n1 z1 Q E hQ pl=>?_
 obtain⟨rfl,zq⟩:=z1;clear n1;subst zq
 refine hg w1 v r.bs.in (.inr (aa ds rfl (r.lstOf hx hv))) _ _ _ _ _ (ca (Z:=fun u w'=>iR V k sc c w1 st1 (fun w'=>qn w' u rv) w') ha r (fun s w' e ι E=>aA (v:=.builtin id) nofun) (fun vs w2 n2 z2=>?_) Q E hQ)
 exact (hc c.A w2 v vs _ (z2.rel.room.un (by decide)) z2.rel.bs (.inr (aa ds rfl (z2.rel.lstOf hx' (z2.vm▸hv)))) z2.x).mono fun u w3 n3 z3=>⟨z3.1.vm.trans z2.vm,z3.1.rel z2.rel,z3.2⟩
noncomputable def iU (V:aD) (name:Str) (ds:List PyData) (as:List PyData) (d:PyData) (ds':List PyData):Prop:=∃ id,(∀ (w:W) (v:Value) ds,FG w v ds->vC w.s v name id) /\
 ∀ (A:Around) (w:W) (Q E:Value->Shared->Prop) (a:Addr) (vs us:List Value) (n:Nat),w.h.get? a=some (ae vs n)->cP w.B vs ds->cP w.B us as ->
  (∀ v vs' n' h' tk,Heap.SameBut a w.h h'->h'.get? a=some (ae vs' n')->cP w.B vs' ds'->Rd w.B v d->Q v (w.to h' tk).s)->wpAny (model V.prog V.w) A (call (.builtin id) (.ref a::us)) Q E w.s
theorem gr {a:Addr} {vs vs':List Value} {n:Nat} {f:Array Value->Array Value} (e:w.h.get? a=some (ae vs n)) (e':f vs.toArray=vs'.toArray):∃ n',(w.h.update a (Obj.mapSeq f)).get? a=some (ae vs' n'):=by
 rw [Heap.get?_update_self _ e (by rfl)]
 refine⟨if (vs'.toArray.size==vs.toArray.size)=true then n else n+1,?_⟩
 show some (Obj.mapSeq f (ae vs n))=some (ae vs' _)
 simp only [Obj.mapSeq,ae,e']
theorem tX {d:PyData} (hz:ds.length<=lim):iU V "append" ds [d] .none (ds++[d]):=(aa ("list.append") (fun w v ds h=>cW h PySem.F.slot_list_append PySem.F.type_list_append) (fun A w Q E a vs us n e rs hus hQ=>by
  cases hus with
  | @cons u _ _ _ q q' =>
   cases q'
   refine call_meets PySem.F.slot_list_append (aa _ e rfl) PySem.F.entry_list_append (PySem.F.args_list_append_2 _ _) (PySem.list_append a vs.toArray n _ (by rw [List.size_toArray,rs.len];exact aT hz)) ⟨e,?_⟩
   obtain⟨n',en⟩:=gr (f:=fun xs=>xs.push u) (vs':=vs++[u]) e (by simp)
   exact hQ .none _ n' _ w.s.toks (Heap.SameBut.update ..) en (rs.snoc q) .none))
theorem qu (hz:ds.length<=lim):iU V "reverse" ds [] .none ds.reverse:=(aa ("list.reverse") (fun w v ds h=>cW h PySem.F.slot_list_reverse PySem.F.type_list_reverse) (fun A w Q E a vs us n e rs hus hQ=>by
  cases hus
  refine call_meets PySem.F.slot_list_reverse (aa _ e rfl) PySem.F.entry_list_reverse (PySem.F.args_list_reverse_1 _) (AutoSeq1.list_reverse_list_0 a vs.toArray n (by rw [List.size_toArray,rs.len];exact aT hz)) ⟨e,?_⟩
  obtain⟨n',en⟩:=gr (f:=fun x=>x.reverse) (vs':=vs.reverse) e (by simp)
  exact hQ .none _ n' _ w.s.toks (Heap.SameBut.update ..) en rs.rev .none))
theorem CV {j:Int} {d:PyData} (hz:ds.length<=lim) (h0:0<=j) (hd:ds[j.toNat]?=some d):iU V "pop" ds [.int j] d (ds.eraseIdx j.toNat):=(aa ("list.pop") (fun w v ds h=>cW h PySem.F.slot_list_pop PySem.F.type_list_pop) (fun A w Q E a vs us n e rs hus hQ=>by
  cases hus with
  | cons q q' =>
   cases q';obtain⟨t,zq⟩:=q.isInt;rw [zq]
   obtain⟨v,hv,rv⟩:=rs.get hd
   have hlt:j.toNat<vs.length:=(List.getElem?_eq_some_iff.mp hv).1
   have hl2:vs.length<=lim:=by rw [rs.len];exact hz
   have hk:=j5 (n:=vs.toArray.size) h0 (by simpa using hlt)
   have hlim:lim=1000000:=rfl
   have hf:Builtin.List.listFitsIndex j=true:=by
    simp only [Builtin.List.listFitsIndex,Bool.and_eq_true,decide_eq_true_eq];omega
   refine call_meets PySem.F.slot_list_pop (aa _ e rfl) PySem.F.entry_list_pop (PySem.F.args_list_pop_2 _ _) (PySem.MeetsSeq.list_pop_at a vs.toArray n j _ j.toNat v hf hk (by simpa using hv) (by rw [List.size_toArray];exact aT hl2)) ⟨e,?_⟩
   obtain⟨n',en⟩:=gr (f:=fun xs=>xs.eraseIdxIfInBounds j.toNat) (vs':=vs.eraseIdx j.toNat) e (by simp [Array.eraseIdxIfInBounds,hlt])
   exact hQ v _ n' _ w.s.toks (Heap.SameBut.update ..) en (rs.erase _) rv))
theorem aq.setList {a:Addr} {vs:List Value} {n:Nat} {h':Heap} (r:aq V k sc c st w) (hx:af st.ρ x=some (.lst ds)) (hv:w.vm x=some (.ref a)) (hs:Heap.SameBut a w.h h') (e':h'.get? a=some (ae vs n)) (rs:cP w.B vs ds') (tk:Nat) :
  aq V k sc c ⟨aG st.ρ x (.lst ds'),st.G⟩ (w.toFF h' tk (put w.F a (ae vs n))):=by
 obtain⟨v,kk,hu,hsl,hk⟩:=r.fr.vals x _ hx
 rw [hv] at hu;cases hu
 obtain⟨a',us,m,q,ef,_⟩:=hsl
 cases q
 have other:∀ b o,w.F b=some o->(∀ xs n,o.data≠.seq xs n)->put w.F a (ae vs n) b=some o:=fun b o e hd=>by
  have:b≠a:=fun z=>by clear hv hs e';subst z;rw [ef] at e;cases e;exact hd _ _ rfl
  rw [dH this];exact e
 refine⟨r.room,⟨r.bs.ok.setF ef hs e',r.bs.top,r.bs.ob.move rfl rfl (Le.refl _) fun y o z q=>(hs.2 y fun z'=>?_).trans q⟩,r.cr,r.fr.lists (Le.refl _) rfl rfl other (fun y s' hy=>?_) fun y es hy=>?_⟩
 ·clear hv hs e' other;subst z'
  have:=(r.bs.ok.o y z).2.2.2
  rw [ef] at this;cases this
 ·rw [cC] at hy
  by_cases e:y=x
  ·rw [if_pos e] at hy;cases hy;rw [e]
   exact (aF (.ref a) kk hv (cA a vs n rfl (aK ..) rs) hk)
  ·rw [if_neg e] at hy
   obtain⟨u,kk',g1,g2,g3⟩:=r.fr.vals y s' hy
   refine (aF u kk' g1 ?_ g3)
   cases s' with
   | val av=>exact g2
   | lst es =>
    obtain⟨b,us,m,q1,q2,q3⟩:=g2
    have:b≠a:=fun z=>e (r.fr.own y x es ds b hy hx (by rw [g1,q1]) (by rw [hv,z]))
    exact (cA b us m q1 (by show put w.F a (ae vs n) b=_;rw [dH this];exact q2) q3)
 ·rw [cC] at hy
  by_cases e:y=x
  ·rw [e];exact⟨_,hx⟩
  ·rw [if_neg e] at hy;exact⟨_,hy⟩
set_option tactic.hygienic true in
theorem zg (hx:af st.ρ x=some (.lst ds0)) (ha:EvsD V k es sc st as st1) (hx':af st1.ρ x=some (.lst ds)) (hm:iU V name ds as d ds') (hf:dW es apos pos=true:=by rfl) :
  bH V k (.Call (.Attribute (.Name x xp) name apos) es [] pos) sc st d ⟨aG st1.ρ x (.lst ds'),st1.G⟩:=fun c w r=>by
 obtain⟨id,hg,hc⟩:=hm
 obtain⟨v0,hv,_⟩:=r.slot hx
 refine c9 hf rfl ha.1 (Do.nameV r hx hv) fun v w1 n1 z1 Q E hQ pl=>?_
 obtain⟨rfl,zq⟩:=z1;clear n1;subst zq
 refine hg w1 v ds0 (r.lstOf hx hv) _ _ _ _ _ (ca (Z:=fun u w'=>iR V k sc c w1 ⟨aG st1.ρ x (.lst ds'),st1.G⟩ (fun w'=>Rd w'.B u d) w') ha r (fun s w' e ι E=>aA (v:=.builtin id) nofun) (fun vs w2 n2 z2=>?_) Q E hQ)
 have hv2:=z2.vm▸hv
 obtain⟨a,us,n,zq,e2,e3⟩:=z2.rel.lstOf hx' hv2;clear hv;subst zq
 exact fun Q E hQ=>hc c.A w2 Q E a us vs n e2 e3 z2.x fun u vs' n' h' tk hs he rs' ru=>hQ u (w2.toFF h' tk (put w2.F a (ae vs' n'))) ⟨bD.refl _,Le.refl _,rfl,h',tk,rfl⟩ ⟨z2.vm,z2.rel.setList hx' hv2 hs he rs' tk,ru⟩
end
section
variable {V:aD} {k:Nat} {sc:Scope} {c:Cx} {st st' st1 st2 st3:St} {w w' w0:W} {A:Around} {e o:Expr} {es:List Expr} {p:Pos} {G G0:List GObj} {ob ob':GObj} {a b:Addr} {h:Heap} {n j:Nat} {ds ds':List PyData}
noncomputable def one (a:Addr) (o:Obj):PM:=fun b=>if b=a then some o else none
theorem da (a:Addr) (o:Obj):one a o a=some o:=if_pos rfl
theorem eW {a b:Addr} {o:Obj} (h:b≠a):one a o b=none:=if_neg h
theorem Ok.setO (x:Ok w) (ho:w.own b≠none) (hs:Heap.SameBut b w.h h) (e':∃ o,h.get? b=some o):Ok (w.to h n):=by
 obtain⟨_,h1,h2,h3⟩:=x.o b ho
 have ne:∀ {q:PM} {d o},q b=none->q d=some o->d≠b:=fun hq hb z=>by clear ho hs e' a h1 h2 h3;subst z;rw [hq] at hb;cases hb
 refine⟨fun d o q=>(hs.2 d (ne h1 q)).trans (x.r d o q),fun d o q=>(hs.2 d (ne h2 q)).trans (x.b d o q),fun d o q=>(hs.2 d (ne h3 q)).trans (x.f d o q),x.rb,x.rf,x.bf,fun d q=>?_⟩
 obtain⟨⟨o,g0⟩,g⟩:=x.o d q
 refine⟨?_,g⟩
 by_cases hd:d=b
 ·rw [hd];exact e'
 ·exact⟨o,(hs.2 d hd).trans g0⟩
theorem Bs.upd (x:Bs V w G) (hg:G[j]?=some ob) (ha:w.γ[j]?=some a) (ho:w.own b=some j) (hs:Heap.SameBut b w.h h) (e':∃ o,h.get? b=some o) (hn:gE V (w.to h n) j ob' a):Bs V (w.to h n) (G.set j ob'):=by
 refine⟨x.ok.setO (by rw [ho];exact nofun) hs e',x.top,x.ob.pin,by rw [List.length_set];exact x.ob.len,fun i ob2 hi=>?_⟩
 rw [List.getElem?_set] at hi
 by_cases q:j=i
 ·subst q
  rw [if_pos rfl,if_pos (List.getElem?_eq_some_iff.mp hg).1] at hi
  clear hs e';cases hi
  exact (aa a ha hn)
 ·rw [if_neg q] at hi
  obtain⟨a2,g1,g2⟩:=x.ob.at_ i ob2 hi
  exact (aa a2 g1 (g2.move (bD.refl _) (Le.refl _) fun y hy=>⟨hy,fun o e=>(hs.2 y fun z=>q (by clear hs e';subst z;rw [ho] at hy;exact Option.some.inj hy)).trans e⟩))
theorem Bs.setLst {vs:List Value} {m:Nat} (x:Bs V w G) (hg:G[j]?=some (.lst ds)) (ha:w.γ[j]?=some a) (hs:Heap.SameBut a w.h h) (e':h.get? a=some (ae vs m)) (rs:cP w.B vs ds'):Bs V (w.to h n) (G.set j (.lst ds')):=by
 obtain⟨a',h1,h2,_⟩:=x.ob.at_ j _ hg
 rw [ha] at h1;clear a_1;cases h1
 exact x.upd hg ha h2 hs ⟨_,e'⟩ ⟨h2,(ba vs m e' rs)⟩
noncomputable def W.add (w:W) (a:Addr) (l:List Addr):W:={ w with γ:=w.γ++[a],own:=fun x=>if x∈l then some w.γ.length else w.own x }
theorem Ok.add {l:List Addr} (x:Ok w) (hl:∀ y∈l,ai w y/\∃ o,w.h.get? y=some o):Ok (w.add a l):=by
 refine⟨x.r,x.b,x.f,x.rb,x.rf,x.bf,fun y q=>?_⟩
 by_cases hy:y∈l
 ·obtain⟨f,e⟩:=hl y hy;exact (a7 e f.r f.b f.f)
 ·exact x.o y fun z=>q ((if_neg hy).trans z)
theorem Nx.add (w:W) (a:Addr) (l:List Addr):Nx w (w.add a l):=⟨bD.append _ _,Le.refl _,rfl,w.s.heap,w.s.toks,rfl⟩
theorem Bs.add {l:List Addr} (x:Bs V w G) (hl:∀ y∈l,ai w y/\∃ o,w.h.get? y=some o) (hn:gE V (w.add a l) G.length ob a):Bs V (w.add a l) (G++[ob]):=by
 refine⟨x.ok.add hl,x.top,x.ob.pin.trans (bD.append _ _),by show (w.γ++[a]).length=_;rw [List.length_append,List.length_append,x.ob.len];rfl,fun i ob2 hi=>?_⟩
 by_cases hi2:i<G.length
 ·rw [List.getElem?_append_left hi2] at hi
  obtain⟨a2,g1,g2⟩:=x.ob.at_ i ob2 hi
  refine (aa a2 (bD.append _ _ _ _ g1) (g2.move (bD.append _ _) (Le.refl _) fun y hy=>⟨?_,fun ι=>id⟩))
  refine (if_neg fun z=>?_).trans hy
  rw [(hl y z).1.o] at hy;cases hy
 ·have hle:=Nat.le_of_not_lt hi2
  rw [List.getElem?_append_right hle] at hi
  cases q:i-G.length with
  | succ m=>rw [q] at hi;cases hi
  | zero =>
   rw [q] at hi;clear hi2;cases hi
   obtain rfl:i=G.length:=Nat.le_antisymm (Nat.le_of_sub_eq_zero q) hle
   exact (aa a (by show (w.γ++[a])[_]?=_;rw [<- x.ob.len,List.getElem?_append_right (Nat.le_refl _),Nat.sub_self];rfl) hn)
theorem Bs.addLst {v:Value} (x:Bs V w G) (y:qn w v (.own ds)):∃ w',Nx w w'/\w'.vm=w.vm/\w'.F=w.F/\w'.s=w.s/\Bs V w' (G++[.lst ds])/\VR w'.γ w'.B v (.obj G.length):=by
 obtain⟨a,vs,m,zq,e,f,rs⟩:=y;rw [zq]
 refine (og (w.add a [a]) (Nx.add ..) rfl rfl rfl (x.add (fun y hy=>by cases List.mem_singleton.mp hy;exact⟨f,⟨_,e⟩⟩) ⟨(if_pos (List.mem_singleton.mpr rfl)).trans (by rw [x.ob.len]),(ba vs m e rs)⟩) (aa a rfl ?_))
 show (w.γ++[a])[_]?=_
 rw [<- x.ob.len,List.getElem?_append_right (Nat.le_refl _),Nat.sub_self];rfl
theorem aq.share {x:Str} (r:aq V k sc c st w) (hx:af st.ρ x=some (.lst ds)):∃ w',Nx w w'/\w'.vm=w.vm/\w'.s=w.s/\aq V k sc c ⟨aG st.ρ x (.val (.obj st.G.length)),st.G++[.lst ds]⟩ w':=by
 obtain⟨v,hv,a,vs,m,rfl,ea,rs⟩:=r.slot hx
 have l:=qk w.F a
 have e:=r.bs.ok.f _ _ ea
 have f:ai { w with F:=Cw w.F a } a:=⟨r.bs.ok.rf.r ea,r.bs.ok.bf.r ea,jY _ _,by
  cases z:w.own a with
  | none=>rfl
  | some q=>have:=(r.bs.ok.o a (by rw [z];exact nofun)).2.2.2;rw [ea] at this;cases this⟩
 have b:Bs V { w with F:=Cw w.F a } st.G:=⟨⟨r.bs.ok.r,r.bs.ok.b,fun b o q=>r.bs.ok.f b o (l b o q),r.bs.ok.rb,r.bs.ok.rf.le (Le.refl _) l,r.bs.ok.bf.le (Le.refl _) l,fun b q=>k0_4 (r.bs.ok.o b q) fun h1 h2 h3 h4=>(a7 h1 h2 h3 (l.non h4))⟩,r.bs.top,r.bs.ob.move rfl rfl (Le.refl _) fun ι ι ι=>id⟩
 obtain⟨w',n,vm,F,s,b',v'⟩:=b.addLst (v:=.ref a) (dy a vs m rfl e f rs)
 exact (hX w' ⟨n.g,n.b,n.r,n.s⟩ vm s ⟨r.room,b',by rw [n.r];exact r.cr,r.fr.unlist n.b n.g vm F hx hv ea v'⟩)
variable {name:Str} {apos pos:Pos} {d:PyData} {as:List PyData} {rv:RV} {x:Str} {xp:Pos}
theorem zh (h0:eK V k o sc st (.obj j) st1) (hg0:∃ ds0,st1.G[j]?=some (.lst ds0)) (ha:EvsD V k es sc st1 as st2) (hg:st2.G[j]?=some (.lst ds)) (hm:iU V name ds as d ds') (hf:dW es apos pos=true:=by rfl) (hb:∀ env,attributeBase o name env (eval o env)=eval o env:=by exact fun ι=>rfl) :
  bH V k (.Call (.Attribute o name apos) es [] pos) sc st d ⟨st2.ρ,st2.G.set j (.lst ds')⟩:=fun c w r=>by
 obtain⟨id,hgm,hc⟩:=hm
 refine c9 hf (hb c.env) ha.1 (h0 c w r) fun v w1 n1 z1 Q E hQ pl=>?_
 obtain⟨a,zq,e1⟩:=z1.x;rw [zq]
 obtain⟨ds0,hg0⟩:=hg0
 refine hgm w1 _ ds0 (z1.rel.bs.ob.lst hg0 e1) _ _ _ _ _ (ca (Z:=fun u w'=>iR V k sc c w ⟨st2.ρ,st2.G.set j (.lst ds')⟩ (fun w'=>Rd w'.B u d) w') ha z1.rel (fun s w' e ι E=>aA (v:=.builtin id) nofun) (fun vs w2 n2 z2=>?_) Q E hQ)
 obtain⟨a',us,m,q,e2,e3⟩:=z2.rel.bs.ob.lst hg (n2.g _ _ e1)
 cases q
 exact fun Q E hQ=>hc c.A w2 Q E a us vs m e2 e3 z2.x fun u vs' n' h' tk hs he rs' ru=>hQ u (w2.to h' tk) (Nx.to ..) ⟨z2.vm.trans z1.vm,z2.rel.after (Nx.to ..) (z2.rel.bs.setLst hg (n2.g _ _ e1) hs he rs') rfl rfl,ru⟩
theorem zi (h0:Ev V k o sc st (.own ds) st1) (ha:EvsD V k es sc st1 as st2) (hm:iU V name ds as d ds') (hf:dW es apos pos=true:=by rfl) (hb:∀ env,attributeBase o name env (eval o env)=eval o env:=by exact fun ι=>rfl) :
  bH V k (.Call (.Attribute o name apos) es [] pos) sc st d st2:=fun c w r=>by
 obtain⟨bid,hgm,hc⟩:=hm
 refine c9 hf (hb c.env) ha.1 (h0 c w r) fun v w1 n1 z1 Q E hQ pl=>?_
 obtain⟨a,us,m,zq,e1,f1,r1⟩:=z1.x;rw [zq]
 refine hgm w1 _ ds (cA a us m rfl e1 r1) _ _ _ _ _ ?_
 have hT:∀ a' o',one a (ae us m) a'=some o'->ai w1 a'/\w1.h.get? a'=some o':=fun a' o' q=>by
  by_cases z:a'=a
  ·clear z1;subst z;rw [da] at q;rw [<- q];exact⟨f1,e1⟩
  ·rw [eW z] at q;cases q
 have r1':aq V k sc c st1 (w1.toR (one a (ae us m))):=⟨z1.rel.room,⟨z1.rel.bs.ok.toR hT,z1.rel.bs.top,z1.rel.bs.ob.move rfl rfl (Le.refl _) fun ι ι ι=>id⟩,fun b o q=>(cX (q:=one a (ae us m)) (z1.rel.cr b o q)),z1.rel.fr.move (bD.refl _) (Le.refl _) rfl rfl⟩
 refine ca (w:=w1.toR (one a (ae us m))) (Z:=fun u w'=>iR V k sc c w st2 (fun w'=>Rd w'.B u d) (w'.inR w1.R)) ha r1' (fun s w' e ι E=>aA (v:=.builtin bid) nofun) (fun vs w2 n2 z2=>?_) Q E fun u w' n' z=>hQ u (w'.inR w1.R) ⟨n'.g,n'.b,rfl,n'.s⟩ z
 obtain⟨ok2,h2⟩:=z2.rel.bs.ok.outR n2.r fun b q=>by
  by_cases z:b=a
  ·rw [z];exact f1.r
  ·exact absurd (eW z) q
 obtain⟨f2,e2⟩:=h2 a (ae us m) (da _ _)
 have rel2:aq V k sc c st2 (w2.inR w1.R):=⟨z2.rel.room,⟨ok2,z2.rel.bs.top,z2.rel.bs.ob.move rfl rfl (Le.refl _) fun ι ι ι=>id⟩,z1.rel.cr,z2.rel.fr.move (bD.refl _) (Le.refl _) rfl rfl⟩
 exact fun Q E hQ=>hc c.A w2 Q E a us vs m e2 (r1.le n2.b) z2.x fun u vs' n' h' tk hs he rs' ru=>hQ u (w2.to h' tk) (Nx.to ..) ⟨z2.vm.trans z1.vm,rel2.to (h:=h') (fun b ob nf q=>(hs.2 b fun z=>nf (z▸f2)).trans q) tk,ru⟩
end
theorem ew {α:Type} {l:List (Str×α)} {n:Str} {c:α} (hn:(l.map (·.1)).Nodup) (h:(n,c)∈l):l.lookup n=some c:=by
 induction l with
 | nil=>cases h
 | cons p r ih =>
  obtain⟨k,v⟩:=p
  rw [List.map_cons,List.nodup_cons] at hn
  rw [List.lookup_cons]
  rcases List.mem_cons.mp h with e | h
  ·clear hn h;cases e;rw [beq_self_eq_true]
  ·have:(n==k)=false:=by
    cases q:n==k with
    | false=>rfl
    | true=>exact absurd (List.mem_map.mpr (aa _ h (eq_of_beq q))) hn.1
   rw [this];exact ih hn.2 h
theorem gT {α:Type} (l r:List (Str×α)) (x:Str):(l++r).lookup x=(l.lookup x).or (r.lookup x):=by
 induction l with
 | nil=>rfl
 | cons p l ih =>
  obtain⟨k,v⟩:=p
  rw [List.cons_append,List.lookup_cons,List.lookup_cons,ih]
  cases x==k<;>rfl
theorem cZ (names:List (Str×NameKind)):∀ (n:Nat) (acc:List (Str×Addr)),cellsFrom n names acc=cellsFrom n names []++acc:=by
 induction names with
 | nil=>intro n acc;rfl
 | cons p r ih =>
  intro n acc
  unfold cellsFrom
  split
  ·rw [ih (n+1) (_::acc),ih (n+1) [_],List.append_assoc];rfl
  ·exact ih n acc
theorem lz (names:List (Str×NameKind)):∀ (n:Nat) {x:Str} {c:Addr},(x,c)∈cellsFrom n names []->(x,NameKind.cell)∈names:=by
 induction names with
 | nil=>intro n x c h;cases h
 | cons p r ih =>
  intro n x c h
  unfold cellsFrom at h
  split at h
  ·rename_i hk
   rw [cZ] at h
   rcases List.mem_append.mp h with h | h
   ·exact List.mem_cons_of_mem _ (ih _ h)
   ·cases List.mem_singleton.mp h
    rw [<- eq_of_beq hk];exact List.mem_cons_self ..
  ·exact List.mem_cons_of_mem _ (ih _ h)
theorem lA (names:List (Str×NameKind)):∀ (n:Nat) {x:Str},(x,NameKind.cell)∈names->∃ c,(cellsFrom n names []).lookup x=some c:=by
 have gen:∀ {l:List (Str×Addr)} {n:Str} {c:Addr},(n,c)∈l->∃ c',l.lookup n=some c':=by
  intro l n c h
  induction l with
  | nil=>cases h
  | cons p r ih =>
   obtain⟨k,v⟩:=p
   rw [List.lookup_cons]
   cases q:n==k with
   | true=>exact⟨v,rfl⟩
   | false =>
    rcases List.mem_cons.mp h with e | h
    ·clear h;cases e;rw [beq_self_eq_true] at q;exact nomatch q
    ·exact ih h
 induction names with
 | nil=>intro n x h;cases h
 | cons p r ih =>
  intro n x h
  unfold cellsFrom
  split
  ·rw [cZ,gT]
   rcases List.mem_cons.mp h with e | h
   ·rw [<- e]
    cases q:List.lookup x (cellsFrom (n+1) r []) with
    | some c=>exact⟨c,rfl⟩
    | none=>exact gen (l:=[(x,n)]) (List.mem_singleton.mpr rfl)
   ·obtain⟨c,e⟩:=ih (n+1) h
    exact⟨c,by rw [e];rfl⟩
  ·rename_i hk
   rcases List.mem_cons.mp h with e | h
   ·clear h;subst e;exact absurd rfl hk
   ·exact ih n h
structure tY (sc:Scope) (cl:List (Str×Addr)) (vm0:Str->Option Value) (C B:PM):Prop where
 has:∀ x,sc.names.lookup x=some .free->∃ a o,cl.lookup x=some a/\o.data=.cell (vm0 x)/\(C a=some o\/B a=some o)
 inj:∀ x y a,sc.names.lookup x=some .free->sc.names.lookup y=some .free->cl.lookup x=some a->cl.lookup y=some a->x=y
structure tZ (sc:Scope):Prop where
 kind:sc.kind=.function
 dbg:∀ k,sc.names.lookup ("__debug__":Str)=some k->k=.globalImplicit
 cdk:sc.names.lookup ("__classdict__":Str)=none
 nd:(sc.names.map (·.1)).Nodup
noncomputable def qv (sc:Scope):Bool:=sc.kind==.function&&(sc.names.lookup ("__debug__":Str)).all (·==.globalImplicit)&&(sc.names.lookup ("__classdict__":Str)).isNone&&decide (sc.names.map (·.1)).Nodup
theorem eX {sc:Scope} (h:qv sc=true):tZ sc:=by
 delta qv at h
 simp only [Bool.and_eq_true,decide_eq_true_eq,Option.isNone_iff_eq_none] at h
 obtain⟨⟨⟨h1,h2⟩,h3⟩,h4⟩:=h
 refine⟨by cases hk:sc.kind<;>first | rfl | (rw [hk] at h1;clear hk;cases h1),fun k e=>?_,h3,h4⟩
 rw [e] at h2;exact jZ h2
structure vH (sc:Scope) (env:Env):Prop where
 a:∀ x k,sc.names.lookup x=some k->k≠.free->env.kindOf x=some k
 b:∀ x,sc.names.lookup x=some .free->env.kindOf x=some .cell\/env.kindOf x=some .free
 c:∀ x k,env.kindOf x=some k->∃ k',sc.names.lookup x=some k'/\(k'=.free\/k'=k)
noncomputable def W.call (w:W) (h:Heap) (n:Nat) (vm:Str->Option Value):W:={ w with R:=un w.R w.F,F:=fun a=>if w.h.objs.size<=a then h.get? a else none,vm:=vm,s:={ w.s with heap:=h,toks:=n } }
noncomputable def W.ret (w w':W):W:={ w' with R:=w.R,F:=w.F,vm:=w.vm }
section
variable {V:aD} {k:Nat} {sc:Scope} {c:Cx} {st:St} {w w':W} {A:Around} {G G':List GObj} {h:Heap} {n:Nat} {vm:Str->Option Value}
theorem Bs.call (x:Bs V w G) (e:∀ b o,w.h.get? b=some o->h.get? b=some o):Bs V (w.call h n vm) G:=by
 have ok:=x.ok
 have dj:∀ {q:PM},In q w.h->Dj q (fun a=>if w.h.objs.size<=a then h.get? a else none):=fun i b=>by
  by_cases hb:w.h.objs.size<=b
  ·exact .inl (i.none hb)
  ·exact .inr (if_neg hb)
 have ir:In (un w.R w.F) w.h:=fun b o q=>(jB q).elim (ok.r b o) (ok.f b o)
 refine⟨⟨fun b o q=>e b o (ir b o q),fun b o q=>e b o (ok.b b o q),fun b o q=>?_,ok.rb.un ok.bf.symm,dj ir,dj ok.b,fun b q=>?_⟩,x.top,x.ob.move rfl rfl (Le.refl _) fun y o ι=>e y o⟩
 ·by_cases hb:w.h.objs.size<=b
  ·exact (if_pos hb).symm.trans q
  ·exact absurd ((if_neg hb).symm.trans q) nofun
 ·obtain⟨⟨o,h0⟩,h1,h2,h3⟩:=ok.o b q
  exact (a7 ⟨o,e _ _ h0⟩ (cY.mpr ⟨h1,h3⟩) h2 (if_neg (Nat.not_le.mpr (Heap.lt_size h0))))
theorem Bs.leave (x:Bs V w G) (y:Bs V w' G') (e:w'.R=un w.R w.F):Bs V (w.ret w') G':=by
 have l:Le w.R (un w.R w.F):=fun a o q=>cX q
 have f:∀ a o,w.F a=some o->w'.R a=some o:=fun a o q=>by rw [e];exact hY (x.ok.rf.r q) q
 refine⟨⟨fun b o q=>y.ok.r b o (by rw [e];exact cX q),y.ok.b,fun b o q=>y.ok.r b o (f b o q),y.ok.rb.le (by rw [e];exact l) (Le.refl _),x.ok.rf,fun b=>?_,fun b q=>?_⟩,y.top,y.ob.move rfl rfl (Le.refl _) fun ι ι ι=>id⟩
 ·show w'.B b=none\/w.F b=none
  cases q:w.F b with
  | none=>exact .inr rfl
  | some o=>exact .inl (y.ok.rb.l (f b o q))
 ·obtain⟨h0,h1,h2,h3⟩:=y.ok.o b q
  rw [e] at h1
  exact (a7 h0 ((cY.mp h1).1) h2 ((cY.mp h1).2))
theorem Nx.leave (y:Nx (w.call h n vm) w'):Nx w (w.ret w'):=⟨y.g,y.b,rfl,by obtain⟨h',n',e⟩:=y.s;exact (mF h' n' e)⟩
theorem iS.new {cl:List (Str×Addr)} {vm0:Str->Option Value} {fo:Obj} {ρ0:Rho} (so:tZ sc) (kr:vH sc c.env) (hk:c.env.scope.kind=.function) (hg:c.env.globals=mainGlobals) (hb:c.env.builtins=builtinsNs) (hf:fo.isFreed=false) (hfd:fo.data=.dict #[])
  (hL:c.env.locals=w.h.objs.size) (hc:c.env.cells=cellsFrom (w.h.objs.size+1) sc.names cl) (cap:tY sc cl vm0 c.C w.B) (iC:In c.C w.h) (iB:In w.B w.h) (hv:∀ x s,af ρ0 x=some s->∃ v av,s=.val av/\vm0 x=some v/\VR w.γ w.B v av/\sc.names.lookup x=some .free) :
  iS sc c ρ0 (w.call (pushCells (w.h.push fo) sc.names) n fun x=>if sc.names.lookup x=some .free then vm0 x else none):=by
 have ok:=cellsFrom_ok sc.names (w.h.push fo) (w.h.objs.size+1) [] ⟨fun ι ι hm=>(nomatch hm),List.Pairwise.nil⟩ (by rw [Heap.size_push];exact Nat.le_refl _)
 rw [Heap.size_push] at ok
 have ownc:∀ x,sc.names.lookup x=some .cell->∃ a,c.env.cells.lookup x=some a/\(x,a)∈cellsFrom (w.h.objs.size+1) sc.names []:=fun x hx=>by
  obtain⟨a,ha⟩:=lA sc.names (w.h.objs.size+1) (mem_of_lookup hx)
  exact (aa a (by rw [hc,cZ,gT,ha];rfl) (mem_of_lookup ha))
 have capc:∀ x,sc.names.lookup x=some .free->c.env.cells.lookup x=cl.lookup x:=fun x hx=>by
  have:(cellsFrom (w.h.objs.size+1) sc.names []).lookup x=none:=by
   cases q:(cellsFrom (w.h.objs.size+1) sc.names []).lookup x with
   | none=>rfl
   | some a =>
    have:=lz _ _ (mem_of_lookup q)
    rw [ew so.nd this] at hx;exact nomatch hx
  rw [hc,cZ,gT,this];rfl
 have kcase:∀ x,(c.env.kindOf x=some .cell\/c.env.kindOf x=some .free)->sc.names.lookup x=some .cell\/sc.names.lookup x=some .free:=fun x hx=>by
  rcases hx with hx | hx<;>obtain⟨k',h1,h2⟩:=kr.c x _ hx<;>rcases h2 with rfl | rfl
  ·exact .inr h1
  ·exact .inl h1
  ·exact .inr h1
  ·exact .inr h1
 have below:∀ {x a},sc.names.lookup x=some .free->cl.lookup x=some a->a<w.h.objs.size:=fun hx ha=>by
  obtain⟨a',o,g1,_,g3⟩:=cap.has _ hx
  rw [ha] at g1;cases g1
  exact g3.elim iC.lt iB.lt
 refine { kind:=hk,glb:=hg,blt:=hb,dbg:=so.dbg,cdk:=so.cdk,knd:=kr.a,knf:=kr.b,ns:=(aF fo (fun ι=>none) ?_ (aF (#[]) 0 hfd (fun ι he=>by simp at he) (fun ι=>rfl)) (fun x hx=>?_)),cl:=fun x hx=>?_,inj:=fun x y a hx hy cx cy=>?_,vals:=fun x s hx=>?_,own:=fun x y ds ds' a hx=>?_ }
 ·rw [hL]
  exact (if_pos (Nat.le_refl _)).trans (pushCells_keeps _ _ _ _ (Heap.get?_push_size _ hf))
 ·refine (if_neg fun e=>?_).symm
  obtain⟨k',h1,h2⟩:=kr.c x _ hx
  rcases kr.b x e with q | q<;>rw [hx] at q<;>cases q
 ·rcases kcase x hx with e | e
  ·obtain⟨a,ha,hm⟩:=ownc x e
   obtain⟨⟨o,ho,hd⟩,hlo⟩:=ok.empty x a hm
   exact (aF a o ha (by rw [hd];congr 1;exact (if_neg (by rw [e];exact nofun)).symm) (.inl ((if_pos (Nat.le_of_succ_le hlo)).trans ho)))
  ·obtain⟨a,o,g1,g2,g3⟩:=cap.has x e
   exact (aF a o ((capc x e).trans g1) (by rw [g2];congr 1;exact (if_pos e).symm) (.inr ⟨g3,e⟩))
 ·have above:∀ {n a},(n,a)∈cellsFrom (w.h.objs.size+1) sc.names []->w.h.objs.size<a:=fun hm=>(ok.empty _ _ hm).2
  rcases kcase x hx with ex | ex<;>rcases kcase y hy with ey | ey
  ·obtain⟨a1,h1,m1⟩:=ownc x ex
   obtain⟨a2,h2,m2⟩:=ownc y ey
   rw [cx] at h1;rw [cy] at h2;cases h1;cases h2
   exact name_of_addr ok.apart m1 m2
  ·obtain⟨a1,h1,m1⟩:=ownc x ex
   rw [cx] at h1;cases h1
   rw [capc y ey] at cy
   exact absurd (above m1) (Nat.lt_asymm (below ey cy))
  ·obtain⟨a1,h1,m1⟩:=ownc y ey
   rw [cy] at h1;cases h1
   rw [capc x ex] at cx
   exact absurd (above m1) (Nat.lt_asymm (below ex cx))
  ·rw [capc x ex] at cx
   rw [capc y ey] at cy
   exact cap.inj x y a ex ey cx cy
 ·obtain⟨v,av,zq,h2,h3,h4⟩:=hv x s hx;rw [zq]
  exact (cQ v .free ((if_pos h4).trans h2) h3 h4 rfl)
 ·obtain⟨v,av,e,_⟩:=hv x _ hx
  exact nomatch e
end
structure jt (B:PM) (a:Addr) (fd:FuncData):Prop where
 at_:∃ o,B a=some o/\o.data=.func fd
 glb:fd.globals=mainGlobals
 bl:fd.builtins=builtinsNs
 code:∃ c,fd.code=.ref c/\dI B c fd.qualname
 so:tZ fd.scope
 co:fd.scope.isCoroutine=false
 gen:fd.scope.isGenerator=false
theorem jt.le {B B':PM} {a:Addr} {fd:FuncData} (x:jt B a fd) (k:Le B B'):jt B' a fd:=⟨x.at_.imp fun o q=>⟨k _ _ q.1,q.2⟩,x.glb,x.bl,x.code.imp fun c q=>⟨q.1,q.2.le k⟩,x.so,x.co,x.gen⟩
noncomputable def fS (fd:FuncData) (L a:Addr):Env:=newEnv fd.scope L fd.globals (cellsFrom (L+1) fd.scope.names fd.closure) (fd.qualname++".<locals>.") (some a) fd.code none fd.builtins
noncomputable def bE:Rho->List (Str×ab)->Rho
 | ρ,[]=>ρ
 | ρ,(x,v)::r=>bE (aG ρ x (.val v)) r
noncomputable def r7 (w:W) (p:Str×Value) (q:Str×ab):Prop:=p.1=q.1/\VR w.γ w.B p.2 q.2
section
variable {V:aD} {k:Nat} {c:Cx} {st st':St} {w w':W} {A:Around} {G G':List GObj} {fd:FuncData} {a:Addr} {sc:Scope}
theorem vI {bs:List (Str×Value)} {binds:List (Str×ab)} (hk:∀ p∈binds,sc.names.lookup p.1=some .local\/sc.names.lookup p.1=some .cell):∀ {st:St} {w:W},aq V k sc c st w->All2 (r7 w) bs binds ->
  Do V c.A (forIn bs () fun p ι=>do storeName c.env p.1 p.2;pure (ForInStep.yield ())) w fun ι w'=>aq V k sc c ⟨bE st.ρ binds,st.G⟩ w':=by
 induction binds generalizing bs with
 | nil =>
  intro st w r h
  cases h
  rw [List.forIn_nil]
  exact Do.pure r
 | cons q binds ih =>
  intro st w r h
  cases h with
  | @cons p _ l _ h1 h2 =>
   obtain⟨x,v⟩:=p
   obtain⟨rfl,hv⟩:=h1
   rw [List.forIn_cons]
   have store:=hk q (List.mem_cons_self ..)
   have D:Do V c.A (storeName c.env q.1 v) w fun ι w'=>aq V k sc c ⟨aG st.ρ q.1 (.val q.2),st.G⟩ w':=by
    rcases store with e | e
    ·exact Do.store (sl:=.val q.2) r e (.inl rfl) hv fun ι ι z=>nomatch z
    ·exact Do.store (sl:=.val q.2) r e (.inr rfl) hv fun ι ι z=>nomatch z
   refine Do.bind (Do.bind D fun ι w1 n1 r1=>Do.pure (Z:=fun u w'=>u=ForInStep.yield ()/\aq V k sc c ⟨aG st.ρ q.1 (.val q.2),st.G⟩ w'/\Nx w w') (am rfl r1 n1)) fun u w2 n2 z2=>?_
   obtain⟨zq,r2,n⟩:=z2;rw [zq]
   exact ih (fun p hp=>hk p (List.mem_cons_of_mem _ hp)) r2 (h2.imp fun p q h=>⟨h.1,h.2.le n.g n.b⟩)
theorem Do.at {α:Type} {t:Sem α} {Z:α->W->Prop} (x:Do V A t w Z) {s:Shared} (e:w.s=s) {Q:α->Shared->Prop} {E:Value->Shared->Prop} (h:∀ v w',Nx w w'->Z v w'->Q v w'.s):wpAny (model V.prog V.w) A t Q E s:=by
 subst e;exact x Q E h
theorem lR {cl:List (Str×Addr)} {vm0:Str->Option Value} {ρ0:Rho} {bs:List (Str×Value)} {binds:List (Str×ab)} {A1:Around} (F:jt w.B a fd) (hcl:fd.closure=cl) (room:dz k A1) (b:Bs V w G) (cap:tY fd.scope cl vm0 emp w.B)
  (hv:∀ x s,af ρ0 x=some s->∃ v av,s=.val av/\vm0 x=some v/\VR w.γ w.B v av/\fd.scope.names.lookup x=some .free) (hk:∀ p∈binds,fd.scope.names.lookup p.1=some .local\/fd.scope.names.lookup p.1=some .cell) (hbs:All2 (r7 w) bs binds)
  {Q:Env->Shared->Prop} {E:Value->Shared->Prop} (h:∀ w' h1 n vm,Nx (w.call h1 n vm) w'->aq V k fd.scope ⟨A1,fS fd w.h.objs.size a,emp⟩ ⟨bE ρ0 binds,G⟩ w'->Q (fS fd w.h.objs.size a) w'.s) :
  wpAny (model V.prog V.w) A1 (newFunctionEnv fd.scope fd.globals fd.closure bs (fd.qualname++".<locals>.") (some a) fd.code none fd.builtins) Q E w.s:=by
 simp only [newFunctionEnv,Option.isSome_none,Bool.false_eq_true,if_false]
 refine wpAny_bind (wpAny_alloc ?_)
 refine wpAny_bind (wpAny_layCells _ (fun name kind cells=>by cases hkc:kind==NameKind.cell<;>simp [hkc]) _ _ _ _ ?_)
 rw [show ({ w.s with heap:=w.s.heap.push { cls:=.type "frame",data:=.dict #[] } }:Shared).heap.objs.size=w.s.heap.objs.size+1 from Heap.size_push ..]
 have kr:vH fd.scope (fS fd w.h.objs.size a):=⟨fun x k e ι=>e,fun x e=>.inr e,fun x k e=>(aa k e (.inr rfl))⟩
 have fr:=iS.new (w:=w) (n:=w.s.toks) (c:=⟨A1,fS fd w.h.objs.size a,emp⟩) (fo:={ cls:=.type "frame",data:=.dict #[] }) F.so kr F.so.kind F.glb F.bl rfl rfl rfl (by rw [hcl.symm];rfl) cap (fun ι ι e=>nomatch e) b.ok.b hv
 have keep:∀ bb o,w.h.get? bb=some o->(pushCells (w.h.push { cls:=.type "frame",data:=.dict #[] }) fd.scope.names).get? bb=some o:=fun bb o e=>pushCells_keeps _ _ _ _ (Heap.get?_push_of_some _ e)
 have b1:=b.call (n:=w.s.toks) (vm:=fun x=>if fd.scope.names.lookup x=some .free then vm0 x else none) keep
 have rel:aq V k fd.scope ⟨A1,fS fd w.h.objs.size a,emp⟩ ⟨ρ0,G⟩ (w.call (pushCells (w.h.push { cls:=.type "frame",data:=.dict #[] }) fd.scope.names) w.s.toks fun x=>if fd.scope.names.lookup x=some .free then vm0 x else none):=⟨room,b1,Le.emp _,fr⟩
 exact wpAny_bind (Do.at (vI hk rel (bs:=bs) hbs) rfl fun ι w' n r=>wpAny_pure (h w' _ _ _ n r))
noncomputable def Fl.rv:Fl->RV
 | .next=>.val (.dat .none)
 | .cont=>.val (.dat .none)
 | .ret v=>.val v
noncomputable def fT (V:aD) (fd:FuncData) (as:List ab) (kw:List (Str×PyData)) (binds:List (Str×ab)):Prop:=∀ (A:Around) (w:W) (G:List GObj) (vs:List Value) (kvs:List (Str×Value)),Bs V w G->qm w.γ w.B vs as->All2 (fun p q=>p.1=q.1/\Rd w.B p.2 q.2) kvs kw ->
 Do V A (bindArgs fd ⟨vs,kvs⟩) w fun bs w'=>Bs V w' G/\w'.F=w.F/\w'.vm=w.vm/\All2 (r7 w') bs binds
theorem t4 {ps:List Str}:∀ {vs:List Value} {as:List ab},qm w.γ w.B vs as->vs.length=ps.length->All2 (r7 w) (ps.zip vs) (ps.zip as):=by
 induction ps with
 | nil=>intro vs as _ _;exact .nil
 | cons p ps ih =>
  intro vs as h hl
  cases h with
  | nil=>cases hl
  | cons h1 h2=>exact .cons ⟨rfl,h1⟩ (ih h2 (Nat.succ.inj hl))
theorem hZ {ps:List Str} {as:List ab} (hl:as.length=ps.length) (h:∀ vs:List Value,vs.length=ps.length->bindArgs fd ⟨vs,[]⟩=pure (ps.zip vs)):fT V fd as [] (ps.zip as):=fun A w G vs kvs b hvs hkw=>by
 cases hkw
 have e:=hvs.len.trans hl
 rw [h vs e]
 exact Do.pure (a7 b rfl rfl (t4 hvs e))
theorem dz.deeper {A:Around} (h:dz (k+1) A) (env:Env):dz k (A.deeper env):=⟨by have:=h.d;show A.depth+1+k+50<_;omega,by have:=h.u;show A.units+3+8*k+300<_;omega,h.h⟩
theorem dz.in1 {A:Around} (h:dz (k+1) A):dz k A.in1:=⟨by have:=h.d;show A.depth+k+50<_;omega,by have:=h.u;show A.units+1+8*k+300<_;omega,h.h⟩
theorem dz.lt {A:Around} (h:dz k A):A.depth<recursionLimit:=by have:=h.d;omega
noncomputable def fO (V:aD) (k:Nat) (fd:FuncData) (ss:List Stmt) (sc:Scope) (st:St) (f:Fl) (G':List GObj):Prop :=
 ∀ (c:Cx) (w:W),(∃ L a,c.env=fS fd L a)->aq V k sc c st w->Do V c.A (execs ss c.env) w fun v w'=>Bs V w' G'/\yV v w' f
theorem Ex.F {ss:List Stmt} {fl:Fl} (h:Ex V k ss sc st fl st'):fO V k fd ss sc st fl st'.G:=fun c w ι r=>(h c w r).mono fun v w' n z=>⟨z.1.bs,z.2⟩
noncomputable def GQ (Q E:Value->Shared->Prop) (r:Result) (s':Shared):Prop:=match r with
 | .ok (.ret v)=>Q v s'
 | .ok _=>False
 | .error e=>E e s'
noncomputable def bp (V:aD) (k:Nat) (a:Addr) (as:List ab) (kw:List (Str×PyData)) (G:List GObj) (rv:RV) (G':List GObj):Prop :=
 ∀ (A:Around) (w:W) (vs:List Value) (kvs:List (Str×Value)),dz k A->Bs V w G->qm w.γ w.B vs as->All2 (fun p q=>p.1=q.1/\Rd w.B p.2 q.2) kvs kw->∀ (Q E:Value->Shared->Prop),(∀ u w',Nx w w'->Bs V w' G'/\w'.F=w.F/\w'.vm=w.vm/\qn w' u rv->Q u w'.s)->codeAny (model V.prog V.w) A (.call (.ref a) ⟨vs,kvs⟩) (GQ Q E) w.s
theorem bp.call {as:List ab} {kw:List (Str×PyData)} {rv:RV} (h:bp V k a as kw G rv G'):cV V k (.ref a) as kw G rv G':=fun A w vs kvs room bs hvs hkw Q E hQ=>wpAny_call (h A w vs kvs room bs hvs hkw Q E hQ)
theorem ic {cl:List (Str×Addr)} {vm0:Str->Option Value} {ρ0:Rho} {as:List ab} {kw:List (Str×PyData)} {binds:List (Str×ab)} {b:List Stmt} {fl:Fl} (F:jt V.K a fd) (hb:fd.body=.stmts b) (hcl:fd.closure=cl) (bd:fT V fd as kw binds)
  (cap:∀ w:W,Bs V w G->tY fd.scope cl vm0 emp w.B/\∀ x s,af ρ0 x=some s->∃ v av,s=.val av/\vm0 x=some v/\VR w.γ w.B v av/\fd.scope.names.lookup x=some .free)
  (hk:∀ p∈binds,fd.scope.names.lookup p.1=some .local\/fd.scope.names.lookup p.1=some .cell) (hf:fl≠.cont) (body:fO V k fd b fd.scope ⟨bE ρ0 binds,G⟩ fl G'):bp V (k+1) a as kw G fl.rv G':=fun A w vs kvs room bs hvs hkw Q E hQ=>by
 obtain⟨o,ea,hd⟩:=F.at_
 obtain⟨cc,hc1,hc2⟩:=F.code
 refine codeAny_call_function room.lt (bs.K _ _ ea) hd F.co F.gen hb (by rw [hc1];exact hc2.rec bs.K) ?_
 refine bd A.in1 w G vs kvs bs hvs hkw _ _ fun bnds w1 n1 z1=>?_
 obtain⟨b1,f1,v1,hb1⟩:=z1
 obtain⟨cap1,hv1⟩:=cap w1 b1
 refine lR (F.le b1.top.k) hcl room.in1 b1 cap1 hv1 hk hb1 fun w2 h1 n vm n2 r2=>?_
 have r2':aq V k fd.scope ⟨A.deeper (fS fd w1.h.objs.size a),fS fd w1.h.objs.size a,emp⟩ ⟨bE ρ0 binds,G⟩ w2:=⟨room.deeper _,r2.bs,r2.cr,{ r2.fr with }⟩
 refine⟨r2.bs.top.nl r2.bs.ok.b,codeAny_func (body _ w2 (mF _ _ rfl) r2' _ _ fun f w3 n3 z3=>?_)⟩
 obtain⟨r3,x3⟩:=z3
 have n4:=n2.trans n3
 have b4:=b1.leave r3 (n4.r)
 have fin:∀ u,qn (w1.ret w3) u fl.rv->Q u w3.s:=fun u hu=>hQ u (w1.ret w3) (n1.trans n4.leave) (a7 b4 f1 v1 hu)
 cases fl with
 | next=>obtain rfl:f=.next:=x3;exact fin .none Rd.none
 | cont=>exact absurd rfl hf
 | ret av=>obtain⟨u,rfl,hu⟩:=x3;exact fin u hu
theorem vJ {cl:List (Str×Addr)} {vm0:Str->Option Value} {ρ0:Rho} {as:List ab} {kw:List (Str×PyData)} {binds:List (Str×ab)} {e:Expr} {av:ab} {st':St} (hb:fd.body=.expr e) (hcl:fd.closure=cl) (bd:fT V fd as kw binds)
  (hk:∀ p∈binds,fd.scope.names.lookup p.1=some .local\/fd.scope.names.lookup p.1=some .cell) (body:eK V k e fd.scope ⟨bE ρ0 binds,G⟩ av st') {w:W} {vs:List Value} {kvs:List (Str×Value)} (room:dz (k+1) A) (bs:Bs V w G) (hvs:qm w.γ w.B vs as) (hkw:All2 (fun p q=>p.1=q.1/\Rd w.B p.2 q.2) kvs kw)
  (F:jt w.B a fd) (cap:∀ w':W,Nx w w'->tY fd.scope cl vm0 emp w'.B/\∀ x s,af ρ0 x=some s->∃ v av,s=.val av/\vm0 x=some v/\VR w'.γ w'.B v av/\fd.scope.names.lookup x=some .free) :
  Do V A (call (.ref a) vs kvs) w fun u w'=>Bs V w' st'.G/\w'.F=w.F/\w'.vm=w.vm/\VR w'.γ w'.B u av:=fun Q E hQ=>by
 obtain⟨o,ea,hd⟩:=F.at_
 obtain⟨cc,hc1,hc2⟩:=F.code
 refine wpAny_call (kla_callFunE room.lt (bs.ok.b _ _ ea) hd F.co F.gen hb (by rw [hc1];exact hc2.rec bs.ok.b) ?_)
 refine bd A.in1 w G vs kvs bs hvs hkw _ _ fun bnds w1 n1 z1=>?_
 obtain⟨b1,f1,v1,hb1⟩:=z1
 obtain⟨cap1,hv1⟩:=cap w1 n1
 refine lR (F.le n1.b) hcl room.in1 b1 cap1 hv1 hk hb1 fun w2 h1 n vm n2 r2=>?_
 have r2':aq V k fd.scope ⟨A.deeper (fS fd w1.h.objs.size a),fS fd w1.h.objs.size a,emp⟩ ⟨bE ρ0 binds,G⟩ w2:=⟨room.deeper _,r2.bs,r2.cr,{ r2.fr with }⟩
 refine⟨r2.bs.top.nl r2.bs.ok.b,kla_codeExpr (body _ w2 r2' _ _ fun u w3 n3 z3=>?_)⟩
 have n4:=n2.trans n3
 exact hQ u (w1.ret w3) (n1.trans n4.leave) (a7 (b1.leave z3.rel.bs n4.r) f1 v1 z3.x)
theorem j6 {cl:List (Str×Addr)} {B:PM} (h:∀ p∈fd.scope.names,p.2≠.free):tY fd.scope cl (fun ι=>none) emp B/\∀ x s,af [] x=some s->∃ v av,s=.val av/\(none:Option Value)=some v/\VR w.γ w.B v av/\fd.scope.names.lookup x=some .free :=
 ⟨⟨fun x e=>absurd rfl (h _ (mem_of_lookup e)),fun x y ι e ι ι ι=>absurd rfl (h _ (mem_of_lookup e))⟩,fun x s e=>nomatch e⟩
variable {st1:St} {es:List Expr} {as:List ab} {p pos:Pos} {f:Str} {v:Value} {rv:RV}
theorem aq.keeper {f:Value} (hk:bQ V f) (s:Shared) (w':W) (e:w'.s=s) (r:aq V k sc c st w') (E:Value->Shared->Prop):wpAny (model V.prog V.w) c.A (keeperOf f) (fun ι s₂=>s₂=s) E s:=by
 subst e;exact wpAny_mono (hk c.A w' _ r.bs) (fun ι ι e=>e) fun ι ι e=>e.elim
theorem vK (F:jt V.K a fd):bQ V (.ref a):=fun A w G b=>by
 obtain⟨o,e,hd⟩:=F.at_
 unfold keeperOf
 refine wpAny_bind (wpAny_load (b.K _ _ e) ?_)
 rw [hd]
 exact wpAny_pure rfl
theorem r8 {Z:Value->W->Prop} (ha:EvsA V k es sc st as st1) (hc:eV V k v as st1.G rv G') (hk:bQ V v) (r:aq V k sc c st w):Do V c.A (callWith pos v [] (backTo pos (starEach es c.env)) []) w fun u w'=>iR V k sc c w ⟨st1.ρ,G'⟩ (fun w'=>qn w' u rv) w' :=
 ca ha r (fun s w' e r' E=>aq.keeper hk s w' e r' E) fun vs w2 n2 z2=>(hc c.A w2 vs [] z2.rel.room z2.rel.bs z2.x .nil).mono fun u w3 n3 y15039=>k0_4 y15039 fun b f vm x=>⟨vm.trans z2.vm,z2.rel.after n3 b f vm,x⟩
theorem CW (hg:dO sc f=true) (hf:V.mg f=some v) (ha:EvsA V k es sc st as st1) (hc:eV V k v as st1.G rv G') (hk:bQ V v):Ev V k (.Call (.Name f p) es [] pos) sc st rv ⟨st1.ρ,G'⟩:=fun c w r Q E hQ =>
 PyProof.Rows.Call_Name rfl (aZ r hg (.inl hf) (Z:=fun u w'=>u=v/\w'=w) ⟨rfl,rfl⟩ _ E fun u w' n z=>by
  obtain⟨rfl,zq⟩:=z;rw [zq]
  exact r8 (Z:=fun ι ι=>True) ha hc hk r Q E hQ)
theorem zj (hx:af st.ρ f=some (.val (.raw v))) (ha:EvsA V k es sc st as st1) (hc:eV V k v as st1.G rv G') (hk:bQ V v):Ev V k (.Call (.Name f p) es [] pos) sc st rv ⟨st1.ρ,G'⟩:=fun c w r Q E hQ=>by
 obtain⟨v0,hv,hs⟩:=r.slot hx
 obtain rfl:v0=v:=hs
 refine PyProof.Rows.Call_Name rfl (Do.nameV r hx hv _ E fun u w' n z=>?_)
 obtain⟨rfl,zq⟩:=z;rw [zq]
 exact r8 (Z:=fun ι ι=>True) ha hc hk r Q E hQ
end
section
variable {V:aD} {k:Nat} {sc:Scope} {c:Cx} {st st1 st2:St} {w w':W} {A:Around} {e:Expr} {es:List Expr} {p pos:Pos} {f:Str} {fv:Value} {rv:RV}
noncomputable def Bi (V:aD) (f:Str) (fv:Value):Prop:=V.mg f=none/\V.mb f=some fv
theorem j7 {α:Type} {R:W->Value->α->Prop} {as:List α} {Z:Value->W->Prop} (hg:dO sc f=true) (hb:Bi V f fv) (hn:∀ a,fv≠.ref a) (ha:vh R V k es sc st as st1) (r:aq V k sc c st w)
  (h:∀ vs w',Nx w w'->iR V k sc c w st1 (fun w'=>All2 (R w') vs as) w'->Do V c.A (call fv vs) w' Z):Do V c.A (eval (.Call (.Name f p) es [] pos) c.env) w Z:=fun Q E hQ =>
 PyProof.Rows.Call_Name rfl (aZ r hg (.inr hb) (Z:=fun u w'=>u=fv/\w'=w) ⟨rfl,rfl⟩ _ E fun u w' n z=>by
  obtain⟨rfl,zq⟩:=z;rw [zq]
  exact ca (first:=[]) ha r (fun s w' e r' E=>aA hn) h Q E hQ)
theorem GR {ds:List PyData} (hg:dO sc f=true) (hb:Bi V f fv) (hn:∀ a,fv≠.ref a) (ha:EvsD V k es sc st ds st1)
  (h:∀ (A:Around) (w:W) vs G,A.handled=none->Bs V w G->cP w.B vs ds->Gv V A (call fv vs) w rv):Ev V k (.Call (.Name f p) es [] pos) sc st rv st1:=fun c w r =>
 j7 hg hb hn ha r fun vs w' n z=>(h c.A w' vs _ z.rel.room.h z.rel.bs z.x).mono fun u w'' n' q=>⟨q.1.vm.trans z.vm,q.1.rel z.rel,q.2⟩
theorem Gv.kept {t:Sem Value} {d:PyData} (h:∀ (Q E:Value->Shared->Prop),(∀ u h' n,(∀ b o,w.h.get? b=some o->h'.get? b=some o)->Rd w.B u d->Q u (w.to h' n).s)->wpAny (model V.prog V.w) A t Q E w.s):Gv V A t w (.val (.dat d)) :=
 fun Q E hQ=>h Q E fun u h' n kp r=>hQ u (w.to h' n) (Nx.to ..) ⟨(ba h' n rfl (Kp.all kp)),r⟩
theorem vL {B:PM} {l:List Int}:∀ {vs:List Value},cP B vs (l.map .int)->∃ xs:List (Int×Tok),vs=xs.map (fun p=>Value.int p.1 p.2)/\xs.map (·.1)=l:=by
 induction l with
 | nil=>intro vs h;cases h;exact (aa ([]) rfl rfl)
 | cons x l ih =>
  intro vs h
  cases h with
  | cons a r =>
   obtain⟨t,zq⟩:=a.isInt;rw [zq]
   obtain⟨xs,zq,h2⟩:=ih r;rw [zq]
   exact (aa ((x,t)::xs) rfl (by rw [<- h2];rfl))
theorem GS {l:List Int} (hg:dO sc ("sum":Str)=true) (hb:Bi V "sum" (.builtin "sum")) (ha:EvsD V k es sc st [.list (l.map .int)] st1):bH V k (.Call (.Name "sum" p) es [] pos) sc st (.int l.sum) st1 :=
 Ev.d <| GR hg hb nofun ha fun A w vs G hh b hv=>by
  cases hv with
  | cons x y =>
   cases y
   obtain⟨a,us,n,zq,e,rs⟩:=x.isList;rw [zq]
   obtain⟨xs,zq,hx⟩:=vL rs;clear rs;subst zq
   have hl:w.h.IsList a (intItems xs.toArray):=(aB _ (b.in _ _ e) rfl ⟨n,by simp [intItems]⟩)
   refine Gv.kept fun Q E hQ=>sum_intListG hh hl fun h2 tk t' hk=>?_
   have e2:preSum (numAt xs.toArray) xs.toArray.size=l.sum:=by
    rw [preSum_eq,List.take_of_length_le (by simp),<- hx]
   rw [e2]
   exact hQ _ h2 tk hk (.int _ _)
theorem GT {i j:Int} (hg:dO sc ("min":Str)=true) (hb:Bi V "min" (.builtin "min")) (ha:EvsD V k es sc st [.int i,.int j] st1):bH V k (.Call (.Name "min" p) es [] pos) sc st (.int (if j<i then j else i)) st1 :=
 Ev.d <| GR hg hb nofun ha fun A w vs G hh b hv=>by
  cases hv with
  | cons x y=>cases y with
   | cons y z =>
    cases z
    obtain⟨t,zq⟩:=x.isInt;rw [zq]
    obtain⟨t',zq⟩:=y.isInt;rw [zq]
    refine Gv.kept fun Q E hQ=>min_two_ints hh fun h2 tk hk=>?_
    split
    ·rename_i q;rw [if_pos q] at hQ;exact hQ _ h2 tk hk (.int _ _)
    ·rename_i q;rw [if_neg q] at hQ;exact hQ _ h2 tk hk (.int _ _)
theorem vM {i j:Int} (hg:dO sc ("divmod":Str)=true) (hb:Bi V "divmod" (.builtin "divmod")) (ha:EvsD V k es sc st [.int i,.int j] st1) (h0:j≠0) (h1:Builtin.Int.intBits j<=9000):bH V k (.Call (.Name "divmod" p) es [] pos) sc st (.tuple [.int (i.fdiv j),.int (i.fmod j)]) st1:=fun c w r =>
 j7 hg hb nofun ha r fun vs w' n z Q E hQ=>by
  have zx:=z.x
  cases zx with
  | cons x y=>cases y with
   | cons y q =>
    cases q
    obtain⟨t,zq⟩:=Rd.isInt x;rw [zq]
    obtain⟨t',zq⟩:=Rd.isInt y;rw [zq]
    refine divmod_int h0 ?_ (.inl (CB h1))
    obtain⟨w2,n2,vm,s,rel,e⟩:=z.rel.newB (ob:=bo [.int (i.fdiv j) w'.s.toks,.int (i.fmod j) (w'.s.toks+1)]) rfl (w'.s.toks+2)
    have q:=hQ _ w2 n2 ⟨vm.trans z.vm,rel,Rd.tup e (.cons (.int _ _) (.cons (.int _ _) .nil))⟩
    rw [s] at q;exact q
theorem BA {a:Expr} {d:PyData} {m:Nat} (hg:dO sc ("len":Str)=true) (hb:Bi V "len" (.builtin "len")) (h:Pe V k a sc st d) (hl:m<=lim) (hd:(∃ ds,d=.list ds/\ds.length=m)\/(∃ x,d=.str x/\x.length=m)) (hp:bu a=true:=by rfl) :
  bH V k (.Call (.Name "len" p) [a] [] pos) sc st (.int m) st:=fun c w r Q E hQ =>
 PyProof.Rows.Call_Name rfl (aZ r hg (.inr hb) (Z:=fun u w'=>u=.builtin "len"/\w'=w) ⟨rfl,rfl⟩ _ E fun u w' n z=>by
  obtain⟨zq,zq⟩:=z;clear n;subst zq;rw [zq]
  have hm:(m:Int)<2 ^ 63:=by have:lim=1000000:=rfl;omega
  refine aQ (bI (es:=[a]) c.env pos (by rw [List.all_cons,hp];rfl)).1 rfl ?_
  rw [aP hp]
  refine PySem.Calls.evalArgs_plain (PySem.Calls.spliced_cons (h c w' r _ E fun v w1 n1 z1=>PySem.Calls.spliced_nil ⟨aA nofun,?_⟩))
  rcases hd with ⟨ds,rfl,e⟩ | ⟨x,rfl,e⟩
  ·obtain⟨a1,vs,n2,zq,e1,rs⟩:=z1.x.1.lst z1.rel.bs.in;rw [zq]
   have el:(vs.toArray.size:Int)=m:=by rw [List.size_toArray,rs.len,e]
   refine call_len_list (s:=w1.s) (aB _ e1 rfl ⟨n2,rfl⟩) (by rw [el];exact hm) ?_
   rw [el]
   exact hQ _ (w1.tk _) (n1.trans (Nx.tk _ _)) ⟨z1.vm,z1.rel.tk _,.int _ _⟩
  ·obtain⟨t,zq⟩:=z1.x.1.str;rw [zq]
   clear hl;subst e
   exact SBL.len hm (hQ _ (w1.tk _) (n1.trans (Nx.tk _ _)) ⟨z1.vm,z1.rel.tk _,.int _ _⟩))
theorem CX {a:Expr} {ds:List PyData} (hg:dO sc ("len":Str)=true) (hb:Bi V "len" (.builtin "len")) (h:Pe V k a sc st (.list ds)) (hl:ds.length<=lim) (hp:bu a=true:=by rfl):bH V k (.Call (.Name "len" p) [a] [] pos) sc st (.int ds.length) st:=BA hg hb h hl (.inl (aa _ rfl rfl)) hp
theorem CY {a:Expr} {x:Str} (hg:dO sc ("len":Str)=true) (hb:Bi V "len" (.builtin "len")) (h:Pe V k a sc st (.str x)) (hl:x.length<=lim) (hp:bu a=true:=by rfl):bH V k (.Call (.Name "len" p) [a] [] pos) sc st (.int x.length) st:=BA hg hb h hl (.inr (aa _ rfl rfl)) hp
theorem jd {n:Int} (h:n<=lim) (h':0<=n):Builtin.Range.small 0 n 1=true/\Builtin.Range.rangeSize 0 n 1=(n.toNat:Int):=by
 have hl:(lim:Int)=1000000:=rfl
 have e':Builtin.Range.rangeSize 0 n 1=(n.toNat:Int):=by rw [rangeSize_nat 0 n];simp
 refine⟨?_,e'⟩
 unfold Builtin.Range.small
 rw [e']
 simp only [Builtin.Range.rangeFitsLong,Bool.and_eq_true,Bool.or_eq_true,decide_eq_true_eq,beq_iff_eq]
 simp
 omega
noncomputable def zk (n:Nat):List PyData:=(List.range n).map fun k=>.int (Int.ofNat k)
theorem t5 {B:PM} {acc:Array Value} {n:Nat} (h:ItemsOf (fun i v=>∃ t,v=.int (0+(i:Nat)*1) t) acc n):cP B acc.toList (zk n):=by
 obtain⟨h1,h2⟩:=h
 have gen:∀ (l:List Value) (j:Nat),(∀ i v,l[i]?=some v->∃ t,v=Value.int ((j+i:Nat):Int) t)->cP B l ((List.range' j l.length).map fun k=>PyData.int (Int.ofNat k)):=by
  intro l
  induction l with
  | nil=>intro j _;exact .nil
  | cons v l ih =>
   intro j hj
   obtain⟨t,e⟩:=hj 0 v rfl
   rw [List.length_cons,List.range'_succ,List.map_cons]
   rw [e]
   refine .cons (.int _ _) (ih (j+1) fun i v hv=>?_)
   obtain⟨t,e⟩:=hj (i+1) v hv
   exact⟨t,by rw [e,Nat.add_right_comm];rfl⟩
 have:=gen acc.toList 0 fun i v hv=>by
  obtain⟨t,e⟩:=h2 i v (by simpa using hv)
  exact⟨t,by rw [e];congr 1;simp⟩
 unfold zk
 rw [List.range_eq_range']
 simpa [h1] using this
theorem oy {n:Int} (hg:dO sc ("range":Str)=true) (hb:Bi V "range" (.type "range")) (ha:EvsD V k es sc st [.int n] st1) (r:aq V k sc c st w) :
  Do V c.A (eval (.Call (.Name "range" p) es [] pos) c.env) w fun v=>iR V k sc c w st1 fun w1=>∃ I t1 t2 t3,v=.ref I/\IsRange w1.h I 0 n 1 t1 t2 t3 :=
 j7 hg hb nofun ha r fun vs w1 n1 z1 Q E hQ=>by
  have zx:=z1.x
  cases zx with
  | cons x y =>
   cases y
   obtain⟨t,zq⟩:=Rd.isInt x;rw [zq]
   exact call_range_1 (hQ _ (w1.to (w1.h.push _) _) (Nx.to ..) ⟨z1.vm,z1.rel.to (Kp.push w1 _) _,_,_,_,_,rfl,IsRange.new ..⟩)
theorem oz {n:Int} {p' pos':Pos} (hg:dO sc ("list":Str)=true) (hb:Bi V "list" (.type "list")) (hg':dO sc ("range":Str)=true) (hb':Bi V "range" (.type "range")) (ha:EvsD V k es sc st [.int n] st1) (h0:0<=n) (h1:n<=lim) :
  Ev V k (.Call (.Name "list" p) [.Call (.Name "range" p') es [] pos'] [] pos) sc st (.own (zk n.toNat)) st1:=fun c w r Q E hQ =>
 PyProof.Rows.Call_Name rfl (aZ r hg (.inr hb) (Z:=fun u w'=>u=.type "list"/\w'=w) ⟨rfl,rfl⟩ _ E fun u w' n z=>by
  obtain⟨rfl,zq⟩:=z;rw [zq]
  refine aQ rfl rfl (PySem.Calls.evalArgs_plain (PySem.Calls.spliced_cons (oy hg' hb' ha r _ E fun v w1 n1 z1=>?_)))
  obtain⟨I,t1,t2,t3,zq,hr⟩:=z1.x;rw [zq]
  refine PySem.Calls.spliced_nil ⟨aA nofun,?_⟩
  obtain⟨s1,s2⟩:=jd h1 h0
  refine call_list_range (s:=w1.s) (A:=c.A) r.room.h hr s1 s2 (by have hl:(lim:Int)=1000000:=rfl;omega) fun h2 tk acc c' hk hS hacc=>?_
  have f:=z1.rel.bs.ok.free (Nat.le_refl _)
  exact hQ _ (w1.to h2 tk) (n1.trans (Nx.to ..)) ⟨z1.vm,z1.rel.to (Kp.all hk) tk,_,acc.toList,c',rfl,hS,⟨f.r,f.b,f.f,f.o⟩,t5 hacc⟩)
end
noncomputable def bP (wr:List Addr) (h h':Heap):Prop:=∀ b o,b∉wr->h.get? b=some o->h'.get? b=some o
theorem bP.refl (wr:List Addr) (h:Heap):bP wr h h:=fun ι ι ι e=>e
theorem bP.trans {wr:List Addr} {a b c:Heap} (x:bP wr a b) (y:bP wr b c):bP wr a c:=fun d o n e=>y d o n (x d o n e)
noncomputable def BB (B:PM) (h:Heap) (flag:Bool) (v:Value) (d:PyData):Prop:=match flag with
 | false=>Rd B v d
 | true=>∃ T vals row,v=.ref T/\d=.tuple row/\h.IsTuple T (List.toArray vals)/\cP B vals row
set_option backward.match.sparseCases false in
noncomputable def Lz:Expr->Bool
 | .Name ..=>true
 | .Tuple ..=>true
 | _=>false
set_option backward.match.sparseCases false in
noncomputable def vN:Expr->Bool
 | .Tuple ..=>true
 | _=>false
noncomputable def LA (t:Expr) (flag:Bool) (d:PyData):Prop:=Lz t=true/\(flag=true->vN t=true)/\(vN t=true->∃ row,d=.tuple row)
structure eY (V:aD) (flag:Bool) (items:List PyData) (B0:PM) where
 I:Addr
 wr:List Addr
 hd:List Addr
 sub:∀ b∈wr,b∈hd
 P:Nat->Heap->Prop
 alive:∀ i h,P i h->∀ b∈hd,∃ o,h.get? b=some o
 frame:∀ i h h',In B0 h->P i h->(∀ b o,(b∈hd\/B0 b=some o)->h.get? b=some o->h'.get? b=some o)->P i h'
 turn:∀ (A:Around) (s:Shared) (Q:Option Value->Shared->Prop) (E:Value->Shared->Prop) i d,A.handled=none->items[i]?=some d->P i s.heap ->
  (∀ v h' tk,bP wr s.heap h' ->
   (∀ (A':Around) (t:Expr) (Q':Unit->Shared->Prop) (E':Value->Shared->Prop),A'.handled=none->LA t flag d ->
    (∀ h'',bP wr h' h''->BB B0 h'' flag v d->P (i+1) h''->Q' () { s with heap:=h'',toks:=tk }) ->
    wpAny (model V.prog V.w) A' (letOwnedTupleGo t (.ref I) v) Q' E' { s with heap:=h',toks:=tk }) ->
   Q (some v) { s with heap:=h',toks:=tk })->wpAny (model V.prog V.w) A (pyNext (.ref I)) Q E s
 done:∀ (A:Around) (s:Shared) (Q:Option Value->Shared->Prop) (E:Value->Shared->Prop),A.handled=none->P items.length s.heap ->
  (∀ h' tk,bP wr s.heap h'->Q none { s with heap:=h',toks:=tk })->wpAny (model V.prog V.w) A (pyNext (.ref I)) Q E s
 self:∀ (A:Around) (s:Shared) (Q:Value->Shared->Prop) (E:Value->Shared->Prop) i,A.handled=none->P i s.heap->Q (.ref I) s->wpAny (model V.prog V.w) A (pyIter (.ref I)) Q E s
noncomputable def lB (h:Heap) (wr:List Addr):PM:=fun a=>if a∈wr then h.get? a else none
section
variable {V:aD} {k:Nat} {sc:Scope} {c:Cx} {st st1 st2:St} {w w':W} {A:Around} {e iter t:Expr} {es:List Expr} {p pos:Pos} {wr hd:List Addr} {h:Heap} {flag:Bool} {items ds:List PyData} {d:PyData} {ρ:Rho}
theorem r9 {b:Addr} (hb:b∈wr):lB h wr b=h.get? b:=if_pos hb
theorem oC {b:Addr} (hb:b∉wr):lB h wr b=none:=if_neg hb
theorem lS {b:Addr} {o:Obj} (e:lB h wr b=some o):b∈wr/\h.get? b=some o:=by
 by_cases hb:b∈wr
 ·exact⟨hb,(r9 hb).symm.trans e⟩
 ·rw [oC hb] at e;cases e
theorem aq.held (r:aq V k sc c st w) (f:∀ b∈hd,ai w b):aq V k sc c st (w.toR (lB w.h hd)) :=
 ⟨r.room,⟨r.bs.ok.toR fun a o e=>⟨f a (lS e).1,(lS e).2⟩,r.bs.top,r.bs.ob.move rfl rfl (Le.refl _) fun ι ι ι=>id⟩,fun b o q=>cX (q:=lB w.h hd) (r.cr b o q),r.fr.move (bD.refl _) (Le.refl _) rfl rfl⟩
theorem aq.unheld (r:aq V k sc c st w') (e:w'.R=un w.R (lB w.h hd)) (f:∀ b∈hd,ai w b) (cr:Le c.C w.R):aq V k sc c st (w'.inR w.R)/\∀ b o,b∈hd->w.h.get? b=some o->ai (w'.inR w.R) b/\w'.h.get? b=some o:=by
 obtain⟨ok,x⟩:=r.bs.ok.outR e fun a q=>by
  by_cases hb:a∈hd
  ·exact (f a hb).r
  ·exact absurd (oC hb) q
 exact⟨⟨r.room,⟨ok,r.bs.top,r.bs.ob.move rfl rfl (Le.refl _) fun ι ι ι=>id⟩,cr,r.fr.move (bD.refl _) (Le.refl _) rfl rfl⟩,fun b o hb q=>x b o ((r9 hb).trans q)⟩
theorem ai.to {a:Addr} (f:ai w a) (n:Nat):ai (w.to h n) a:=⟨f.r,f.b,f.f,f.o⟩
noncomputable def Bt (V:aD) (k:Nat) (flag:Bool) (t:Expr) (sc:Scope) (st:St) (d:PyData) (st':St):Prop:=LA t flag d/\∀ (c:Cx) (w:W) (v:Value),aq V k sc c st w->BB w.B w.h flag v d->Do V c.A (assign t c.env v) w fun ι w'=>aq V k sc c st' w'
theorem iV {x:Str} {sl:Slot} {v:Value} (hk:sc.names.lookup x=some .local\/sc.names.lookup x=some .cell) (r:aq V k sc c st w) (hv:cT w v sl) (ho:gF w x v st.ρ sl):Do V c.A (storeName c.env x v) w fun ι w'=>aq V k sc c ⟨aG st.ρ x sl,st.G⟩ w' :=
 hk.elim (fun e=>Do.store r e (.inl rfl) hv ho) fun e=>Do.store r e (.inr rfl) hv ho
theorem gF.val {x:Str} {v:Value} {av:ab}:gF w x v ρ (.val av):=fun ι ι e=>nomatch e
theorem zm {x:Str} (hk:sc.names.lookup x=some .local\/sc.names.lookup x=some .cell):Bt V k false (.Name x p) sc st d ⟨aG st.ρ x (.val (.dat d)),st.G⟩ :=
 ⟨(am rfl nofun nofun),fun c w v r hv Q E hQ=>wpAny_assign_Name (iV (sl:=.val (.dat d)) hk r hv gF.val Q E hQ)⟩
noncomputable def eZ:Rho->List Str->List ab->Rho
 | ρ,x::xs,v::vs=>eZ (aG ρ x (.val v)) xs vs
 | ρ,_,_=>ρ
theorem t6 {es:List Expr} {xs:List Str} (hes:All2 (fun e x=>∃ p,e=.Name x p) es xs) (hk:∀ x∈xs,sc.names.lookup x=some .local\/sc.names.lookup x=some .cell):∀ {st:St} {w:W} {vs:List Value} {as:List ab},aq V k sc c st w->qm w.γ w.B vs as->as.length=xs.length ->
  Do V c.A (assignInOrder ((assignEach es c.env).map (·.2)) vs) w fun ι w'=>aq V k sc c ⟨eZ st.ρ xs as,st.G⟩ w':=by
 induction hes with
 | nil =>
  intro st w vs as r hv hl
  cases hv with
  | nil=>exact fun Q E hQ=>wpAny_assignInOrder_none (hQ _ w (Nx.refl _) r)
  | cons _ _=>cases hl
 | @cons e x es xs he _ ih =>
  intro st w vs as r hv hl
  cases hv with
  | nil=>cases hl
  | @cons v a vs as h1 h2 =>
   obtain⟨p,zq⟩:=he;rw [zq]
   intro Q E hQ
   show wpAny _ c.A (assignInOrder (assign (.Name x p) c.env::(assignEach es c.env).map (·.2)) (_::_)) Q E w.s
   refine wpAny_assignInOrder_more (wpAny_assign_Name (iV (sl:=.val a) (hk x (List.mem_cons_self ..)) r h1 gF.val _ E fun ι w1 n1 r1=>?_))
   exact ih (fun y hy=>hk y (List.mem_cons_of_mem _ hy)) r1 (qm.le n1.g n1.b h2) (Nat.succ.inj hl) Q E fun u w2 n2 r2=>hQ u w2 (n1.trans n2) r2
theorem je {es:List Expr} {xs:List Str} (env:Env) (hes:All2 (fun e x=>∃ p,e=.Name x p) es xs):(assignEach es env).length=xs.length/\(assignEach es env).findIdx? (·.1)=none:=by
 induction hes with
 | nil=>exact⟨rfl,rfl⟩
 | @cons e x es xs he _ ih =>
  obtain⟨p,zq⟩:=he;rw [zq]
  refine⟨congrArg Nat.succ ih.1,?_⟩
  show ((false,assign (.Name x p) env)::assignEach es env).findIdx? (·.1)=none
  rw [List.findIdx?_cons,ih.2];rfl
theorem gU {es:List Expr} {xs:List Str} {i:Nat} {T:Addr} {vs:List Value} {as:List ab} (hes:All2 (fun e x=>∃ p,e=.Name x p) es xs) (hk:∀ x∈xs,sc.names.lookup x=some .local\/sc.names.lookup x=some .cell) (r:aq V k sc c st w) (ht:w.h.IsTuple T vs.toArray) (hv:qm w.γ w.B vs as) (hl:as.length=xs.length) :
  Do V c.A (assign (.Tuple es i p) c.env (.ref T)) w fun ι w'=>aq V k sc c ⟨eZ st.ρ xs as,st.G⟩ w':=fun Q E hQ=>by
 obtain⟨s1,s2⟩:=je c.env hes
 refine wpAny_assign_Tuple r.room.h ht (by rw [s1,<- hl,<- hv.len];rfl) s2 fun h' hx=>?_
 refine t6 hes hk (w:=w.to h' w.s.toks) (r.to (fun b o nf e=>hx b o (fun z=>?_) e) _) hv hl Q E fun u w2 n2 r2=>hQ u w2 ((Nx.to ..).trans n2) r2
 clear e;subst z
 exact nf (r.bs.ok.free (Nat.le_refl _))
theorem mJ {γ:List Addr} {B:PM} {vs:List Value} {row:List PyData} (x:cP B vs row):qm γ B vs (row.map .dat):=All2.mapR (x.imp fun ι ι r=>r)
theorem CZ {es:List Expr} {xs:List Str} {i:Nat} {row:List PyData} (hes:All2 (fun e x=>∃ p,e=.Name x p) es xs) (hk:∀ x∈xs,sc.names.lookup x=some .local\/sc.names.lookup x=some .cell) (hl:row.length=xs.length):Bt V k flag (.Tuple es i p) sc st (.tuple row) ⟨eZ st.ρ xs (row.map .dat),st.G⟩ :=
 ⟨(am rfl (fun ι=>rfl) (fun ι=>⟨row,rfl⟩)),fun c w v r hv=>by
  have hl':(row.map ab.dat).length=xs.length:=by rw [List.length_map];exact hl
  cases flag with
  | false =>
   obtain⟨a,vs,zq,e,rs⟩:=Rd.isTup hv;rw [zq]
   exact gU hes hk r (aB _ (r.bs.in _ _ e) rfl ⟨_,rfl⟩) (mJ rs) hl'
  | true =>
   obtain⟨T,vals,row',rfl,e,ht,rs⟩:=hv
   cases e
   exact gU hes hk r ht (mJ rs) hl'⟩
theorem j8 {B0:PM} (S:eY V flag items B0) {i:Nat} {Q:Option Value->Shared->Prop} {E:Value->Shared->Prop} (hi:items[i]?=some d) (hb:Bt V k flag t sc st d st1) (b0:Le B0 w.B) (r:aq V k sc c st w) (f:∀ b∈S.hd,ai w b) (hS:S.P i w.h)
  (hQ:∀ v s1,(∀ (K:Unit->Shared->Prop) (E' E'':Value->Shared->Prop),(∀ w0 w1,Nx w w0->w0.R=w.R->w0.F=w.F->w0.vm=w.vm->(∀ b∈S.hd,ai w0 b)->S.P (i+1) w0.h->(∀ b o,b∉S.wr->w.h.get? b=some o->w0.h.get? b=some o)->In w0.B w0.h->Nx (w0.toR (lB w0.h S.hd)) w1->aq V k sc c st1 w1->K () w1.s) ->
   wpAny (model V.prog V.w) c.A (letOwnedTupleGo t (.ref S.I) v) (fun ι s2=>wpAny (model V.prog V.w) c.A (assign t c.env v) K E' s2) E'' s1)->Q (some v) s1) :
  wpAny (model V.prog V.w) c.A (pyNext (.ref S.I)) Q E w.s:=by
 refine S.turn c.A w.s Q E i d r.room.h hi hS fun v h' tk hk go=>hQ v _ fun K E' E'' hK=>?_
 refine go c.A t _ E'' r.room.h hb.1 fun h'' hk' hv hS'=>?_
 have kb:=hk.trans hk'
 have kp:Kp w h'':=fun b o nf e=>kb b o (fun z=>nf (f b (S.sub b z))) e
 have r1:=r.to kp tk
 have f1:∀ b∈S.hd,ai (w.to h'' tk) b:=fun b hb'=>(f b hb').to tk
 have r2:=r1.held f1
 refine hb.2 c _ v r2 ?_ K E' fun ι w1 n1 r3=>hK (w.to h'' tk) w1 (Nx.to ..) rfl rfl rfl f1 hS' (fun b o hb' e=>kb b o hb' e) r1.bs.in n1 r3
 cases flag with
 | false=>exact Rd.le b0 hv
 | true=>obtain⟨T,vals,row,e1,e2,e3,e4⟩:=hv;exact (dy T vals row e1 e2 e3 (e4.le b0))
theorem eY.back {B0:PM} (S:eY V flag items B0) {i:Nat} {w0:W} (b0:Le B0 w0.B) (f:∀ b∈S.hd,ai w0 b) (hS:S.P i w0.h) (ib:In w0.B w0.h) (n:Nx (w0.toR (lB w0.h S.hd)) w') (r:aq V k sc c st w') (cr:Le c.C w0.R):aq V k sc c st (w'.inR w0.R)/\(∀ b∈S.hd,ai (w'.inR w0.R) b)/\S.P i w'.h/\∀ b o,b∈S.hd->w0.h.get? b=some o->w'.h.get? b=some o:=by
 obtain⟨r1,x⟩:=r.unheld n.r f cr
 refine (a7 r1 (fun b hb=>?_) (S.frame i _ _ (fun b o q=>ib b o (b0 _ _ q)) hS fun b o hb e=>?_) (fun b o hb e=>(x b o hb e).2))
 ·obtain⟨o,e⟩:=S.alive _ _ hS b hb
  exact (x b o hb e).1
 ·rcases hb with hb | hb
  ·exact (x b o hb e).2
  ·exact r.bs.ok.b _ _ (n.b _ _ (b0 _ _ hb))
noncomputable def oD (V:aD) (k:Nat) (flag:Bool) (sc:Scope) (t:Expr) (body:List Stmt) (l:List PyData):St->Fl->St->Prop :=
 List.rec (motive:=fun ι=>St->Fl->St->Prop) (fun σ fl σ'=>fl=.next/\σ'=σ) (fun d ι F σ fl σ'=>(∃ σ1 σ2,Bt V k flag t sc σ d σ1/\Ex V k body sc σ1 .next σ2/\F σ2 fl σ')\/∃ σ1 v,fl=.ret v/\Bt V k flag t sc σ d σ1/\Ex V k body sc σ1 (.ret v) σ') l
structure gG {B0:PM} (V:aD) (k:Nat) (sc:Scope) (c:Cx) (S:eY V flag items B0) (w:W) (i:Nat) (st:St) (w1:W):Prop where
 le:i<=items.length
 n:Nx w w1
 r:aq V k sc c st w1
 f:∀ b∈S.hd,ai w1 b
 s:S.P i w1.h
 k:∀ b o,b∈S.hd->b∉S.wr->w.h.get? b=some o->w1.h.get? b=some o
noncomputable def BC (V:aD) (c:Cx) (t:Expr) (body:List Stmt) (I:Addr) (N:Shared->Prop) (RR:Result->Shared->Prop) (w1:W):Prop:=∀ E:Value->Shared->Prop,
 wpAny (model V.prog V.w) c.A (pyNext (.ref I)) (fun r s₁=>match r with
   | none=>wpAny (model V.prog V.w) c.A (execs [] c.env) (fun f s₃=>RR (.ok f) s₃) E s₁
   | some v=>wpAny (model V.prog V.w) c.A (letOwnedTupleGo t (.ref I) v) (fun ι s₁' =>
     wpAny (model V.prog V.w) c.A (assign t c.env v) (fun ι s₂=>wpAny (model V.prog V.w) c.A (execs body c.env) (fun f s₃=>match f with
      | .next | .cont=>N s₃
      | .brk=>RR (.ok .next) s₃
      | .ret v=>RR (.ok (.ret v)) s₃) E s₂) E s₁') E s₁) E w1.s
theorem gG.back {B0:PM} {S:eY V flag items B0} {i:Nat} {w0 w1 w2:W} (L:gG V k sc c S w i st w1) (b0:Le B0 w.B) (hlt:i<items.length) (n0:Nx w1 w0) (e1:w0.R=w1.R) (f0:∀ b∈S.hd,ai w0 b) (hS0:S.P (i+1) w0.h) (kp0:∀ b o,b∉S.wr->w1.h.get? b=some o->w0.h.get? b=some o) (ib:In w0.B w0.h)
  (n2:Nx (w0.toR (lB w0.h S.hd)) w2) (r2:aq V k sc c st1 w2):gG V k sc c S w (i+1) st1 (w2.inR w0.R):=by
 obtain⟨r4,f4,hS4,kp4⟩:=S.back (b0.trans (L.n.b.trans n0.b)) f0 hS0 ib n2 r2 (by rw [e1];exact L.r.cr)
 exact⟨hlt,L.n.trans (n0.trans ⟨n2.g,n2.b,rfl,n2.s⟩),r4,f4,hS4,fun b o hb hw e=>kp4 b o hb (kp0 b o hw (L.k b o hb hw e))⟩
theorem vO {B0:PM} {S:eY V flag items B0} {i:Nat} {w1:W} {body:List Stmt} {fl:Fl} {N:Shared->Prop} {RR:Result->Shared->Prop} (L:gG V k sc c S w i st w1) (b0:Le B0 w.B) (h:oD V k flag sc t body (items.drop i) st fl st2)
  (hN:i<items.length->∀ st' w',gG V k sc c S w (i+1) st' w'->oD V k flag sc t body (items.drop (i+1)) st' fl st2->N w'.s)
  (hQ:∀ v w',Nx w w'->aq V k sc c st2 w'->yV v w' fl->(∀ b o,b∈S.hd->b∉S.wr->w.h.get? b=some o->ai w' b/\w'.h.get? b=some o)->RR (.ok v) w'.s):BC V c t body S.I N RR w1:=by
 by_cases hlt:i<items.length
 ·rw [List.drop_eq_getElem_cons hlt] at h
  rcases h with ⟨σ1,σ2,hb,hx,hds⟩ | ⟨σ1,v,rfl,hb,hx⟩
  ·exact fun E=>j8 S (List.getElem?_eq_getElem hlt) hb (b0.trans L.n.b) L.r L.f L.s fun v s2 go=>go _ _ _ fun w0 w2 n0 e1 e2 e3 f0 hS0 kp0 ib n2 r2=>hx c w2 r2 _ _ fun v w3 n3 z3=>by
    cases z3.2
    exact hN hlt σ2 (w3.inR w0.R) (L.back b0 hlt n0 e1 f0 hS0 kp0 ib (n2.trans n3) z3.1) hds
  ·exact fun E=>j8 S (List.getElem?_eq_getElem hlt) hb (b0.trans L.n.b) L.r L.f L.s fun v s2 go=>go _ _ _ fun w0 w2 n0 e1 e2 e3 f0 hS0 kp0 ib n2 r2=>hx c w2 r2 _ _ fun v w3 n3 z3=>by
    have L':=L.back b0 hlt n0 e1 f0 hS0 kp0 ib (n2.trans n3) z3.1
    have fin:=hQ v (w3.inR w0.R) L'.n L'.r z3.2 fun b o hb hw e=>⟨L'.f b hb,L'.k b o hb hw e⟩
    obtain⟨u,zq,_⟩:=z3.2;clear z3;subst zq
    exact fin
 ·obtain rfl:i=items.length:=Nat.le_antisymm L.le (Nat.le_of_not_lt hlt)
  rw [List.drop_length] at h
  obtain⟨rfl,rfl⟩:=h
  exact fun E=>S.done c.A _ _ _ L.r.room.h L.s fun h2 tk2 hk=>wpAny_pure (hQ _ (w1.to h2 tk2) (L.n.trans (Nx.to ..)) (L.r.to (fun b o nf e=>hk b o (fun z=>nf (L.f b (S.sub b z))) e) tk2) rfl fun b o hb hw e=>⟨(L.f b hb).to _,hk b o hw (L.k b o hb hw e)⟩)
theorem se {B0:PM} (S:eY V flag items B0) {body:List Stmt} {fl:Fl} {RR:Result->Shared->Prop} (h:oD V k flag sc t body items st fl st2) (b0:Le B0 w.B) (r:aq V k sc c st w) (f:∀ b∈S.hd,ai w b) (hS:S.P 0 w.h)
  (hQ:∀ v w',Nx w w'->aq V k sc c st2 w'->yV v w' fl->(∀ b o,b∈S.hd->b∉S.wr->w.h.get? b=some o->ai w' b/\w'.h.get? b=some o)->RR (.ok v) w'.s) :
  codeAny (model V.prog V.w) c.A (.forLoop t (.ref S.I) body [] c.env) RR w.s :=
 codeAny_forLoop_any (fun n s1=>∃ i st1 w1,n=items.length-i/\s1=w1.s/\gG V k sc c S w i st1 w1/\oD V k flag sc t body (items.drop i) st1 fl st2)
  (fun n s1 I=>by
   obtain⟨i,st1,w1,zq,rfl,L,hf⟩:=I;rw [zq]
   exact vO (N:=fun s=>∃ m,m<items.length-i/\∃ i st1 w1,m=items.length-i/\s=w1.s/\gG V k sc c S w i st1 w1/\oD V k flag sc t body (items.drop i) st1 fl st2) L b0 hf (fun hlt st' w' L' hf'=>(aa _ (Nat.sub_lt_sub_left hlt (Nat.lt_succ_self i)) (dy (i+1) st' w' rfl rfl L' hf'))) hQ _)
  (items.length-0) (dy 0 st w rfl rfl ⟨Nat.zero_le _,Nx.refl _,r,f,hS,fun ι ι ι ι=>id⟩ h)
end
section
variable {V:aD} {k:Nat} {sc:Scope} {c:Cx} {st st1 st2:St} {w w':W} {A:Around} {e iter t:Expr} {es:List Expr} {p pos:Pos} {items ds:List PyData} {d:PyData} {B0:PM} {I:Addr}
theorem sf {prog:Program} {wd:World} {A':Around} {v:Value} {s:Shared} {Q':Unit->Shared->Prop} {E':Value->Shared->Prop} (h1:Lz t=true) (h2:vN t=false) (h:Q' () s):wpAny (model prog wd) A' (letOwnedTupleGo t (.ref I) v) Q' E' s:=by
 cases t with
 | Name=>exact wpAny_pure h
 | Tuple=>exact absurd h2 nofun
 | _=>exact absurd h1 nofun
theorem qw {t:Expr} (h:vN t=true):∃ es i p,t=.Tuple es i p:=by
 cases t with
 | Tuple es i p=>exact (yP es i p rfl)
 | _=>exact absurd h nofun
noncomputable def eY.ofWalks {fp wr:List Addr} (hd:List Addr) {P:Nat->Value->Prop} {S:Nat->Heap->Prop} (n:Nat) (hn:n=items.length) (W:∀ A:Around,A.handled=none->Walks V.prog V.w A I fp wr n P S) (sub:∀ b∈wr,b∈hd)
  (al:∀ i h,S i h->∀ b∈hd,∃ o,h.get? b=some o) (hfp:∀ b∈fp,b∈hd\/∃ o,B0 b=some o) (hval:∀ i v d,P i v->items[i]?=some d->Rd B0 v d)
  (hgo:∀ (A':Around) elts j pos i v row (s:Shared) (Q:Unit->Shared->Prop) (E:Value->Shared->Prop),items[i]?=some (.tuple row)->P i v->S (i+1) s.heap->Q () s->wpAny (model V.prog V.w) A' (letOwnedTupleGo (.Tuple elts j pos) (.ref I) v) Q E s):eY V false items B0 where
 I:=I
 wr:=wr
 hd:=hd
 sub:=sub
 P:=S
 alive:=al
 frame:=fun i h h' ib hs hk=>(W {} rfl).frame i h h' hs fun b hb o e=>by
  rcases hfp b hb with z | ⟨o1,z⟩
  ·exact hk b o (.inl z) e
  ·have q:=ib b o1 z
   rw [q] at e;obtain rfl:=(Option.some.inj e).symm;exact hk b o (.inr z) q
 turn:=fun A s Q E i d hA hi hs hQ=>by
  refine (W A hA).item i s Q E (by rw [hn];exact (List.getElem?_eq_some_iff.mp hi).1) hs fun v h' tk hP hs' hk=>hQ v h' tk hk fun A' t Q' E' hA' ht hK=>?_
  have fin:=hK h' (bP.refl _ _) (hval i v d hP hi) hs'
  cases q:vN t with
  | false=>exact sf ht.1 q fin
  | true =>
   obtain⟨row,rfl⟩:=ht.2.2 q
   obtain⟨es,j,p,rfl⟩:=qw q
   exact hgo A' _ _ _ i v row { s with heap:=h',toks:=tk } Q' E' hi hP hs' fin
 done:=fun A s Q E hA hs hQ=>(W A hA).done s Q E (hn▸hs) fun h' tk hk=>hQ h' tk hk
 self:=fun A s Q E i hA hs h=>(W A hA).self i s Q E hs h
noncomputable def eY.ofWalksT {fp wr:List Addr} (hd:List Addr) {Pt:Nat->Array Value->Prop} {S:Nat->Heap->Prop} {Mid:Nat->Addr->Heap->Prop} (n:Nat) (hn:n=items.length) (W:∀ A:Around,A.handled=none->WalksT V.prog V.w A I fp wr n Pt S Mid) (sub:∀ b∈wr,b∈hd)
  (al:∀ i h,S i h->∀ b∈hd,∃ o,h.get? b=some o) (hfp:∀ b∈fp,b∈hd\/∃ o,B0 b=some o)
  (hval:∀ i vals d,Pt i vals->items[i]?=some d->∃ row,d=.tuple row/\cP B0 vals.toList row):eY V true items B0 where
 I:=I
 wr:=hd
 hd:=hd
 sub:=fun ι=>id
 P:=S
 alive:=al
 frame:=fun i h h' ib hs hk=>(W {} rfl).frame i h h' hs fun b hb o e=>by
  rcases hfp b hb with z | ⟨o1,z⟩
  ·exact hk b o (.inl z) e
  ·have q:=ib b o1 z
   rw [q] at e;obtain rfl:=(Option.some.inj e).symm;exact hk b o (.inr z) q
 turn:=fun A s Q E i d hA hi hs hQ=>by
  refine (W A hA).item i s Q E (by rw [hn];exact (List.getElem?_eq_some_iff.mp hi).1) hs fun T vals h' tk hP hT ht hm hk=>?_
  obtain⟨row,rfl,rv⟩:=hval i vals d hP hi
  have hTw:T∉hd:=fun hm=>by
   obtain⟨o,e⟩:=al i _ hs T hm
   exact absurd (Heap.lt_size e) (Nat.not_lt.mpr hT)
  refine hQ (.ref T) h' tk (fun b o hb e=>hk b o (fun hb'=>hb (sub b hb')) e) fun A' t Q' E' hA' ht' hK=>?_
  obtain⟨es,j,p,rfl⟩:=qw (ht'.2.1 rfl)
  refine (W A' hA').go _ _ _ i T { s with heap:=h',toks:=tk } Q' E' hm fun h'' hs'' hk''=>?_
  have kb:bP hd h' h'':=fun b o hb e=>hk'' b o (fun hb'=>hb (sub b hb')) e
  obtain⟨oT,eT,rT⟩:=ht
  exact hK h'' kb (dy T vals.toList row rfl rfl (aa oT (kb _ _ hTw eT) rT) rv) hs''
 done:=fun A s Q E hA hs hQ=>(W A hA).done s Q E (hn▸hs) fun h' tk hk=>hQ h' tk fun b o hb e=>hk b o (fun hb'=>hb (sub b hb')) e
 self:=fun A s Q E i hA hs h=>(W A hA).self i s Q E hs h
noncomputable def gV (V:aD) (k:Nat) (iter:Expr) (sc:Scope) (st:St) (flag:Bool) (items:List PyData) (st1:St):Prop:=∀ (c:Cx) (w:W),aq V k sc c st w->∀ (K E:Value->Shared->Prop),
 (∀ w' (S:eY V flag items w'.B),Nx w w'->iR V k sc c w st1 (fun w'=>(∀ b∈S.hd,ai w' b)/\S.P 0 w'.h) w'->K (.ref S.I) w'.s) ->
 wpAny (model V.prog V.w) c.A (eval iter c.env) (fun x s1=>wpAny (model V.prog V.w) c.A (pyIter x) K E s1) E w.s
theorem aq.fresh (r:aq V k sc c st w) {a:Addr} (h:w.h.objs.size<=a):ai w a:=r.bs.ok.free h
noncomputable def eY.list {a:Addr} {vs:List Value} (hd:List Addr) (rs:cP B0 vs ds) (hI:I∈hd) (hsub:∀ b∈hd,b=I\/b=a) (hB:a∈hd\/∃ o,B0 a=some o) (ne:a≠I):eY V false ds B0 :=
 eY.ofWalks (I:=I) hd vs.toArray.size (by rw [List.size_toArray];exact rs.len) (fun A hA=>Walks.list hA I a ne vs.toArray) (fun b hb=>List.mem_singleton.mp hb▸hI)
  (fun i h hs b hb=>by
   rcases hsub b hb with rfl | rfl
   ·obtain⟨o,e,_⟩:=hs.1;exact⟨o,e⟩
   ·obtain⟨o,e,_⟩:=hs.2;exact⟨o,e⟩)
  (fun b hb=>by
   rcases List.mem_cons.mp hb with rfl | hb
   ·exact .inl hI
   ·rw [List.mem_singleton.mp hb];exact hB)
  (fun i v d hP hi=>rs.at (by simpa using hP) hi)
  (fun A' elts j pos i v row s Q E hi hP hs hQ=>by
   obtain⟨a,us,rfl,_⟩:=Rd.isTup (rs.at (a:=v) (by simpa using hP) hi)
   exact wpAny_letOwnedTupleGo_listiter hs.1 hQ)
theorem C0 (h:bH V k iter sc st (.list ds) st1):gV V k iter sc st false ds st1:=fun c w r K E hK=>h c w r _ E fun v w1 n1 z1=>by
 obtain⟨a,vs,n,zq,e,rs⟩:=Rd.isList z1.x;rw [zq]
 have f:=z1.rel.bs.in _ _ e
 have l:w1.h.IsList a vs.toArray:=(aB _ f rfl ⟨n,rfl⟩)
 refine wpAny_pyIter_list l ?_
 have ne:a≠w1.h.objs.size:=Nat.ne_of_lt (Heap.lt_size f)
 refine hK (w1.to (w1.h.push _) w1.s.toks) (eY.list (I:=w1.h.objs.size) (a:=a) [w1.h.objs.size] rs (List.mem_singleton.mpr rfl) (fun b hb=>.inl (List.mem_singleton.mp hb)) (.inr ⟨_,e⟩) ne) (n1.trans (Nx.to ..)) ⟨z1.vm,z1.rel.to (Kp.push w1 _) _,fun b hb=>?_,(aB _ (Heap.get?_push_size _ rfl) rfl rfl),l.push _⟩
 rw [List.mem_singleton.mp hb];exact (z1.rel.fresh (Nat.le_refl _)).to _
theorem GU {x:Str} (h:bH V k iter sc st (.str x) st1):gV V k iter sc st false (x.cps.toList.map fun q=>.str ⟨#[q]⟩) st1:=fun c w r K E hK=>h c w r _ E fun v w1 n1 z1=>by
 obtain⟨t,zq⟩:=Rd.isStr z1.x;rw [zq]
 refine wpAny_pyIter_strU ?_
 have W:∀ A:Around,A.handled=none->Walks V.prog V.w A w1.h.objs.size [w1.h.objs.size] [w1.h.objs.size] x.cps.size (SignAt x) (fun i h=>h.IsStrIter w1.h.objs.size (strIterType x) x t i):=by
  intro A hA
  unfold strIterType
  cases x.cps.all (·<128) with
  | true=>exact Walks.strAscii hA _ x t
  | false=>exact Walks.strWide hA _ x t
 have item:∀ {i:Nat} {d:PyData},(x.cps.toList.map fun q=>PyData.str ⟨#[q]⟩)[i]?=some d->∃ q,x.cps.toList[i]?=some q/\d=.str ⟨#[q]⟩:=fun hi=>by
  rw [List.getElem?_map] at hi
  obtain⟨q,h1,h2⟩:=Option.map_eq_some_iff.mp hi
  exact (aa q h1 h2.symm)
 refine hK (w1.to (w1.h.push _) w1.s.toks) (eY.ofWalks (I:=w1.h.objs.size) [w1.h.objs.size] x.cps.size (by simp) W (fun ι=>id) (fun i h hs b hb=>?_) (fun b hb=>.inl hb) (fun i v d hP hi=>?_) (fun A' elts j pos i v row s' Q' E' hi=>?_)) (n1.trans (Nx.to ..)) ⟨z1.vm,z1.rel.to (Kp.push w1 _) _,fun b hb=>?_,(aB _ (Heap.get?_push_size _ rfl) rfl rfl)⟩
 ·rw [List.mem_singleton.mp hb]
  obtain⟨o,e,_⟩:=hs;exact⟨o,e⟩
 ·obtain⟨q,h1,zq⟩:=item hi;rw [zq]
  obtain⟨q',u,h2,rfl⟩:=hP
  rw [Array.getElem?_toList] at h1
  rw [h1] at h2;cases h2;exact .str _ _
 ·obtain⟨q,_,e⟩:=item hi;exact nomatch e
 ·rw [List.mem_singleton.mp hb];exact (z1.rel.fresh (Nat.le_refl _)).to _
theorem zn {n:Int} (hg:dO sc ("range":Str)=true) (hb:Bi V "range" (.type "range")) (ha:EvsD V k es sc st [.int n] st1) (h0:0<=n) (h1:n<=lim):gV V k (.Call (.Name "range" p) es [] pos) sc st false (zk n.toNat) st1:=fun c w r K E hK =>
 oy hg hb ha r _ E fun v w1 n1 z1=>by
  obtain⟨J,t1,t2,t3,zq,hr⟩:=z1.x;rw [zq]
  obtain⟨s1,s2⟩:=jd h1 h0
  refine wpAny_pyIter_range hr s1 ?_
  have item:∀ {i:Nat} {d:PyData},(zk n.toNat)[i]?=some d->d=.int (Int.ofNat i):=fun hi=>by
   unfold zk at hi
   have hlt:=(List.getElem?_eq_some_iff.mp hi).1
   simp only [List.length_map,List.length_range] at hlt
   rw [List.getElem?_map,List.getElem?_range hlt] at hi
   cases hi;rfl
  have W:∀ (I:Addr) (A:Around),A.handled=none->Walks V.prog V.w A I [I] [I] n.toNat (fun i v=>∃ t,v=.int (0+(i:Nat)*1) t) (fun i h=>IsRangeIter h I (0+(i:Nat)*1) ((n.toNat:Int)-(i:Nat)) 1):=fun I A hA=>Walks.range hA I 0 1 n.toNat
  refine hK (w1.to (w1.h.push _) _) (eY.ofWalks (I:=w1.h.objs.size) [w1.h.objs.size] n.toNat (by simp [zk]) (W _) (fun ι=>id) (fun i h hs b hb=>?_) (fun b hb=>.inl hb) (fun i v d hP hi=>?_) (fun A' elts j pos i v row s' Q' E' hi=>?_)) (n1.trans (Nx.to ..)) ⟨z1.vm,z1.rel.to (Kp.push w1 _) _,fun b hb=>?_,?_⟩
  ·rw [List.mem_singleton.mp hb];exact⟨_,hs⟩
  ·obtain⟨t,rfl⟩:=hP
   rw [item hi,show (0:Int)+(i:Nat)*1=Int.ofNat i by simp];exact .int _ _
  ·cases item hi
  ·rw [List.mem_singleton.mp hb];exact (z1.rel.fresh (Nat.le_refl _)).to _
  ·show IsRangeIter _ _ _ _ _
   rw [<- s2.trans (by simp:(n.toNat:Int)=(n.toNat:Int)-((0:Nat):Int))]
   exact Heap.get?_push_size _ rfl
end
section
variable {V:aD} {k:Nat} {sc:Scope} {c:Cx} {st st1 st2:St} {w w':W} {A:Around} {e iter t:Expr} {es:List Expr} {p pos:Pos} {items ds:List PyData} {d:PyData} {B0:PM} {I:Addr}
noncomputable def gI (ds:List PyData):List PyData:=ds.mapIdx fun k d=>.tuple [.int (Int.ofNat k),d]
theorem vP {i:Nat} (h:(gI ds)[i]?=some d):∃ d',ds[i]?=some d'/\d=.tuple [.int (Int.ofNat i),d']:=by
 unfold gI at h
 rw [List.getElem?_mapIdx] at h
 obtain⟨d',h1,h2⟩:=Option.map_eq_some_iff.mp h
 exact (aa d' h1 h2.symm)
theorem oE {it ei:Addr} {fp:List Addr} {n:Nat} {P:Nat->Value->Prop} {S:Nat->Heap->Prop} (hn:n=ds.length) (D:∀ A:Around,A.handled=none->Draws V.prog V.w A.in1 it fp n P S) (h1:ei≠it) (h2:ei∉fp) (h3:it∈fp) (hfp:∀ b∈fp,b=it\/∃ o,B0 b=some o)
  (hv:∀ i y d,P i y->ds[i]?=some d->Rd B0 y d):∃ X:eY V true (gI ds) B0,X.I=ei/\X.hd=[ei,it]/\X.P=fun (i:Nat) h=>(∃ old,IsEnum h ei it i old)/\S i h :=
 (aB (eY.ofWalksT (I:=ei) [ei,it] n (by rw [hn];simp [gI]) (fun A hA=>WalksT.enumerateD (D A hA) ei h1 h2 h3) (fun b hb=>hb) (fun i h hs b hb=>by
   obtain⟨⟨old,h3⟩,h4⟩:=hs
   rcases List.mem_cons.mp hb with rfl | hb
   ·exact⟨_,h3⟩
   ·rw [List.mem_singleton.mp hb];exact (D {} rfl).live i h h4)
  (fun b hb=>by
   rcases List.mem_cons.mp hb with rfl | hb
   ·exact .inl (List.mem_cons_self ..)
   ·refine (hfp b hb).imp (fun z=>?_) id
    rw [z];exact List.mem_cons_of_mem _ (List.mem_singleton.mpr rfl))
  (fun i vals d hP hi=>by
   obtain⟨t,y,hy,zq⟩:=hP;rw [zq]
   obtain⟨d',hd',zq⟩:=vP hi;rw [zq]
   exact (aa _ rfl (.cons (.int _ _) (.cons (hv i y d' hy hd') .nil))))) rfl rfl rfl)
theorem oG {w1:W} {h2:Heap} {n:Nat} {S:Nat->Heap->Prop} {K:Value->Shared->Prop} (z1:aq V k sc c st1 w1) (vm:w1.vm=w.vm) (n1:Nx w w1) (hk:∀ b o,w1.h.get? b=some o->h2.get? b=some o) (X:eY V true (gI ds) w1.B) (e1:X.I=w1.h.objs.size+1) (e2:X.hd=[w1.h.objs.size+1,w1.h.objs.size])
  (e3:X.P=fun (i:Nat) h=>(∃ old,IsEnum h (w1.h.objs.size+1) w1.h.objs.size i old)/\S i h) (he:IsEnum h2 (w1.h.objs.size+1) w1.h.objs.size 0 .none) (hi:S 0 h2) (hK:∀ w' (S:eY V true (gI ds) w'.B),Nx w w'->iR V k sc c w st1 (fun w'=>(∀ b∈S.hd,ai w' b)/\S.P 0 w'.h) w'->K (.ref S.I) w'.s) :
  K (.ref (w1.h.objs.size+1)) (w1.to h2 n).s:=by
 have q:=hK (w1.to h2 n) X (n1.trans (Nx.to ..)) ⟨vm,z1.to (Kp.all hk) n,fun b hb=>?_,?_⟩
 ·rw [e1] at q;exact q
 ·rw [e2] at hb
  rcases List.mem_cons.mp hb with rfl | hb
  ·exact (z1.fresh (Nat.le_succ _)).to n
  ·rw [List.mem_singleton.mp hb];exact (z1.fresh (Nat.le_refl _)).to n
 ·rw [e3];exact⟨⟨_,he⟩,hi⟩
theorem zo (hg:dO sc ("enumerate":Str)=true) (hb:Bi V "enumerate" (.type "enumerate")) (ha:EvsD V k es sc st [.list ds] st1):gV V k (.Call (.Name "enumerate" p) es [] pos) sc st true (gI ds) st1:=fun c w r K E hK =>
 j7 (Z:=fun v w'=>wpAny (model V.prog V.w) c.A (pyIter v) K E w'.s) hg hb nofun ha r (fun vs w1 n1 z1 Q E hQ=>by
  have zx:=z1.x
  cases zx with
  | cons x y =>
   cases y
   obtain⟨a,us,n,zq,e,rs⟩:=Rd.isList x;rw [zq]
   have f:=z1.rel.bs.in _ _ e
   have lt:=Heap.lt_size f
   refine call_enumerate_list (aB _ f rfl ⟨n,rfl⟩) fun h2 he hi hsz hk=>hQ _ (w1.to h2 w1.s.toks) (Nx.to ..) (wpAny_pyIter_enum he ?_)
   obtain⟨X,e1,e2,e3⟩:=oE (V:=V) (B0:=w1.B) (ei:=w1.h.objs.size+1) (by rw [List.size_toArray];exact rs.len) (fun A hA=>Draws.list (A:=A.in1) hA w1.h.objs.size a (Nat.ne_of_lt lt) us.toArray) (Nat.succ_ne_self _) (by
    simp only [List.mem_cons,List.not_mem_nil,or_false,not_or]
    exact⟨Nat.succ_ne_self _,Nat.ne_of_gt (Nat.lt_succ_of_lt lt)⟩) (by simp) (fun b hb=>by
    rcases List.mem_cons.mp hb with z | z
    ·exact .inl z
    ·rw [List.mem_singleton.mp z];exact .inr ⟨_,e⟩) (fun i y d hy hd=>rs.at (by simpa using hy) hd)
   exact oG z1.rel z1.vm n1 hk X e1 e2 e3 he ⟨hi,(aB _ (hk _ _ f) rfl ⟨n,rfl⟩)⟩ hK) _ E fun ι ι ι=>id
theorem zp {x:Str} (hg:dO sc ("enumerate":Str)=true) (hb:Bi V "enumerate" (.type "enumerate")) (ha:EvsD V k es sc st [.str x] st1):gV V k (.Call (.Name "enumerate" p) es [] pos) sc st true (gI (x.cps.toList.map fun q=>.str ⟨#[q]⟩)) st1:=fun c w r K E hK =>
 j7 (Z:=fun v w'=>wpAny (model V.prog V.w) c.A (pyIter v) K E w'.s) hg hb nofun ha r (fun vs w1 n1 z1 Q E hQ=>by
  have zx:=z1.x
  cases zx with
  | cons q y =>
   cases y
   obtain⟨t,zq⟩:=Rd.isStr q;rw [zq]
   refine call_enumerate_str fun h2 he hi hsz hk=>hQ _ (w1.to h2 w1.s.toks) (Nx.to ..) (wpAny_pyIter_enum he ?_)
   obtain⟨X,e1,e2,e3⟩:=oE (V:=V) (B0:=w1.B) (ds:=x.cps.toList.map fun q=>.str ⟨#[q]⟩) (ei:=w1.h.objs.size+1) (it:=w1.h.objs.size) (fp:=[w1.h.objs.size]) (n:=x.cps.size) (P:=fun i v=>∃ c u,x.cps[i]?=some c/\v=.str ⟨#[c]⟩ u) (S:=fun i h=>h.IsStrIter w1.h.objs.size (strIterType x) x t i) (by simp) (fun A hA=>by
    unfold strIterType
    cases x.cps.all (·<128) with
    | true=>exact Draws.strAscii (A:=A.in1) hA _ x t
    | false=>exact Draws.strWide (A:=A.in1) hA _ x t) (Nat.succ_ne_self _) (by simp) (by simp) (fun b hb=>.inl (List.mem_singleton.mp hb)) (fun i y d hy hd=>by
    obtain⟨q,u,h1,rfl⟩:=hy
    rw [List.getElem?_map,Array.getElem?_toList,h1] at hd
    cases hd;exact .str _ _)
   exact oG z1.rel z1.vm n1 hk X e1 e2 e3 he hi hK) _ E fun ι ι ι=>id
theorem GV (hg:dO sc ("reversed":Str)=true) (hb:Bi V "reversed" (.type "reversed")) (ha:EvsD V k es sc st [.list ds] st1) (hnt:∀ d∈ds,∀ row,d≠.tuple row):gV V k (.Call (.Name "reversed" p) es [] pos) sc st false ds.reverse st1:=fun c w r K E hK =>
 j7 (Z:=fun v w'=>wpAny (model V.prog V.w) c.A (pyIter v) K E w'.s) hg hb nofun ha r (fun vs w1 n1 z1 Q E hQ=>by
  have zx:=z1.x
  cases zx with
  | cons x y =>
   cases y
   obtain⟨a,us,n,zq,e,rs⟩:=Rd.isList x;rw [zq]
   have f:=z1.rel.bs.in _ _ e
   have l:w1.h.IsList a us.toArray:=(aB _ f rfl ⟨n,rfl⟩)
   have ne:a≠w1.h.objs.size:=Nat.ne_of_lt (Heap.lt_size f)
   refine call_reversed_list l (hQ _ (w1.to (w1.h.push _) w1.s.toks) (Nx.to ..) ?_)
   have hit:(w1.h.push (revObj a ((us.toArray.size:Int)-1))).IsRevIter w1.h.objs.size a ((us.toArray.size:Int)-1):=(aB _ (Heap.get?_push_size _ rfl) rfl rfl)
   refine wpAny_pyIter_revIter hit ?_
   have item:∀ {i:Nat} {d:PyData},ds.reverse[i]?=some d->ds[ds.length-1-i]?=some d:=fun hi=>by
    have hlt:=(List.getElem?_eq_some_iff.mp hi).1
    rw [List.length_reverse] at hlt
    rwa [List.getElem?_reverse hlt] at hi
   refine hK (w1.to (w1.h.push _) w1.s.toks) (eY.ofWalks (I:=w1.h.objs.size) [w1.h.objs.size] us.toArray.size (by simp [rs.len]) (fun A hA=>Walks.listRev hA _ a ne us.toArray) (fun ι=>id) (fun i h hs b hb=>?_) (fun b hb=>?_) (fun i v d hP hi=>?_) (fun A' elts j pos i v row s' Q' E' hi=>?_)) (n1.trans (Nx.to ..)) ⟨z1.vm,z1.rel.to (Kp.push w1 _) _,fun b hb=>?_,(am (Nat.zero_le _) (by have q:=hit;simp only [Int.ofNat_zero,Int.sub_zero] at q ⊢;exact q) (l.push _))⟩
   ·rw [List.mem_singleton.mp hb]
    obtain⟨o,e,_⟩:=hs.2.1;exact⟨o,e⟩
   ·rcases List.mem_cons.mp hb with rfl | hb
    ·exact .inl (List.mem_singleton.mpr rfl)
    ·rw [List.mem_singleton.mp hb];exact .inr ⟨_,e⟩
   ·have q:=hP
    rw [List.size_toArray,rs.len,List.getElem?_toArray] at q
    exact rs.at q (item hi)
   ·exact absurd rfl (hnt _ (List.mem_of_getElem? (item hi)) row)
   ·rw [List.mem_singleton.mp hb];exact (z1.rel.fresh (Nat.le_refl _)).to _) _ E fun ι ι ι=>id
theorem J7 {j:Nat} {G:List GObj} (b:Bs V w G) (hg:G[j]?=some (.lst ds)) {a:Addr} (ha:w.γ[j]?=some a):∃ w',Nx w w'/\w'.s=w.s/\w'.F=w.F/\w'.vm=w.vm/\w'.γ=w.γ/\w'.B=w.B/\Bs V w' (G.set j .gone)/\ai w' a:=by
 obtain⟨a',h1,h2,vs,n,h3,h4⟩:=b.ob.at_ j _ hg
 rw [ha] at h1;cases h1
 obtain⟨_,f1,f2,f3⟩:=b.ok.o a (by rw [h2];exact nofun)
 refine (FT ({ w with own:=fun x=>if x=a then none else w.own x }) ⟨bD.refl _,Le.refl _,rfl,w.s.heap,w.s.toks,rfl⟩ rfl rfl rfl rfl rfl ⟨⟨b.ok.r,b.ok.b,b.ok.f,b.ok.rb,b.ok.rf,b.ok.bf,fun x q=>b.ok.o x fun z=>q ?_⟩,b.top,b.ob.pin,by rw [List.length_set];exact b.ob.len,fun i ob hi=>?_⟩ ⟨f1,f2,f3,if_pos rfl⟩)
 ·show (if x=a then none else w.own x)=none
  rw [z];exact ite_self _
 ·rw [List.getElem?_set] at hi
  by_cases q:j=i
  ·subst q
   rw [if_pos rfl,if_pos (List.getElem?_eq_some_iff.mp hg).1] at hi
   cases hi;exact (aa a ha trivial)
  ·rw [if_neg q] at hi
   obtain⟨a2,g1,g2⟩:=b.ob.at_ i ob hi
   exact (aa a2 g1 (g2.move (bD.refl _) (Le.refl _) fun y hy=>⟨(if_neg fun z=>q (by clear ha h3 a_1 f1 f2 f3;subst z;rw [h2] at hy;exact Option.some.inj hy)).trans hy,fun ι=>id⟩))
theorem vQ {j:Nat} {G:List GObj} (b:Bs V w G) (hg:G[j]?=some .gone) {a:Addr} {vs:List Value} {n:Nat} (ha:w.γ[j]?=some a) (f:ai w a) (e:w.h.get? a=some (ae vs n)) (rs:cP w.B vs ds):∃ w',Nx w w'/\w'.s=w.s/\w'.F=w.F/\w'.vm=w.vm/\(∀ b,ai w b->b≠a->ai w' b)/\w'.B=w.B/\Bs V w' (G.set j (.lst ds)):=by
 refine (FS ({ w with own:=fun x=>if x=a then some j else w.own x }) ⟨bD.refl _,Le.refl _,rfl,w.s.heap,w.s.toks,rfl⟩ rfl rfl rfl (fun b f n=>⟨f.r,f.b,f.f,(if_neg n).trans f.o⟩) rfl ⟨⟨b.ok.r,b.ok.b,b.ok.f,b.ok.rb,b.ok.rf,b.ok.bf,fun x q=>?_⟩,b.top,b.ob.pin,by rw [List.length_set];exact b.ob.len,fun i ob hi=>?_⟩)
 ·by_cases z:x=a
  ·rw [z];exact (a7 ⟨_,e⟩ f.r f.b f.f)
  ·exact b.ok.o x fun z'=>q ((if_neg z).trans z')
 ·rw [List.getElem?_set] at hi
  by_cases q:j=i
  ·subst q
   rw [if_pos rfl,if_pos (List.getElem?_eq_some_iff.mp hg).1] at hi
   cases hi;exact (aB a ha (if_pos rfl) (ba vs n e rs))
  ·rw [if_neg q] at hi
   obtain⟨a2,g1,g2⟩:=b.ob.at_ i ob hi
   exact (aa a2 g1 (g2.move (bD.refl _) (Le.refl _) fun y hy=>⟨(if_neg fun z=>by clear ha e;subst z;rw [f.o] at hy;cases hy).trans hy,fun ι=>id⟩))
end
structure ZL where
 it:Addr
 l:Addr
 vs:List Value
structure FI (z TI TO:Addr) (L:List ZL):Prop where
 to:TO≠z
 ti:TI≠z/\TI≠TO
 it:∀ p∈L,p.it≠z/\p.it≠TO/\p.it≠TI/\p.l≠z/\p.l≠TO
 li:∀ p∈L,∀ q∈L,p.l≠q.it
 nd:∀ (m m':Nat) p q,L[m]?=some p->L[m']?=some q->p.it=q.it->m=m'
noncomputable def FJ (z TO:Addr) (L:List ZL) (b:Addr):Prop:=b≠z/\b≠TO/\∀ p∈L,b≠p.it
structure t7 (z TI TO:Addr) (L:List ZL) (i j:Nat) (vals:List Value) (h0 h:Heap):Prop where
 zip:IsZip h z TI TO .ellipsis
 to:h.get? TO=some (bo vals)
 len:vals.length=L.length
 val:∀ (m:Nat) p,m<j->L[m]?=some p->vals[m]?=p.vs[i]?
 its:∀ (m:Nat) p,L[m]?=some p->h.IsListIter p.it p.l (if m<j then i+1 else i)/\h.IsList p.l p.vs.toArray
 kp:∀ b o,FJ z TO L b->h0.get? b=some o->h.get? b=some o
 sz:h.objs.size=h0.objs.size
section
variable {V:aD} {A:Around} {s:Shared} {z TI TO:Addr} {L:List ZL} {i j:Nat} {vals:List Value} {h0 h h':Heap} {prog:Program} {wd:World}
theorem t7.step (X:FI z TI TO L) (I:t7 z TI TO L i j vals h0 h) {p:ZL} {x:Value} (hp:L[j]?=some p) (hx:p.vs[i]?=some x) (hi:h'.IsListIter p.it p.l (i+1)) (hs:Heap.SameBut p.it h h') :
  t7 z TI TO L i (j+1) (vals.set j x) h0 (h'.update TO (Obj.mapSeq fun xs=>xs.setIfInBounds j x)):=by
 have mp:=List.mem_of_getElem? hp
 obtain⟨a1,a2,a3,a4,a5⟩:=X.it p mp
 have e':h'.get? TO=some (bo vals):=(hs.2 _ a2.symm).trans I.to
 have hu:Heap.SameBut TO h' (h'.update TO (Obj.mapSeq fun xs=>xs.setIfInBounds j x)):=Heap.SameBut.update ..
 have k2:∀ b o,b≠p.it->b≠TO->h.get? b=some o->(h'.update TO (Obj.mapSeq fun xs=>xs.setIfInBounds j x)).get? b=some o:=fun b o n1 n2 e=>(hu.2 b n2).trans ((hs.2 b n1).trans e)
 refine⟨k2 _ _ a1.symm X.to.symm I.zip,?_,by rw [List.length_set];exact I.len,fun m q hm hq=>?_,fun m q hq=>?_,fun b o nb e=>k2 b o (nb.2.2 p mp) nb.2.1 (I.kp b o nb e),by rw [hu.1,hs.1];exact I.sz⟩
 ·rw [Heap.get?_update_self _ e' rfl]
  have q:vals.toArray.setIfInBounds j x=(vals.set j x).toArray:=by simp
  show some (Obj.mapSeq (fun xs=>xs.setIfInBounds j x) (bo vals))=_
  have sz:((vals.set j x).toArray.size==vals.toArray.size)=true:=by simp
  simp only [Obj.mapSeq,bo,q,sz,if_true]
 ·by_cases e:m=j
  ·subst e
   rw [hp] at hq;cases hq
   rw [List.getElem?_set_self (by rw [I.len];exact (List.getElem?_eq_some_iff.mp hp).1),hx]
  ·rw [List.getElem?_set_ne (Ne.symm e)]
   exact I.val m q (Nat.lt_of_le_of_ne (Nat.le_of_lt_succ hm) e) hq
 ·have mq:=List.mem_of_getElem? hq
  obtain⟨g1,g2⟩:=I.its m q hq
  obtain⟨b1,b2,b3,b4,b5⟩:=X.it q mq
  refine⟨?_,g2.at fun o e=>k2 _ o (X.li q mq p mp) b5 e⟩
  by_cases e:m=j
  ·clear mq g2 b1 b2 b3 b4 b5 g1;subst e
   rw [hp] at hq;cases hq
   rw [if_pos (Nat.lt_succ_self m)]
   exact hi.at fun o e=>(hu.2 _ a2).trans e
  ·have q1:(m<j+1)=(m<j):=propext ⟨fun q=>Nat.lt_of_le_of_ne (Nat.le_of_lt_succ q) e,fun q=>Nat.lt_succ_of_lt q⟩
   rw [show (if m<j+1 then i+1 else i)=if m<j then i+1 else i by simp only [q1]]
   exact g1.at fun o q'=>k2 _ o (fun z=>e (X.nd m j q _ hq hp z)) b2 q'
theorem vR {β:Type} {r0:β} {f:Value×Nat->β->Sem (ForInStep β)} {Q:β->Shared->Prop} {E:Value->Shared->Prop} (hh:A.handled=none) (X:FI z TI TO L)
  (hf:∀ (it:Addr) (k:Nat) (s:Shared) (Q:ForInStep β->Shared->Prop) (E:Value->Shared->Prop),wpAny (model prog wd) A (Builtin.SmallTypes.nextOf (.ref it)) (fun x s1=>∃ vals,s1.heap.get? TO=some (bo vals)/\vals.length<=10/\Q (.yield r0) { s1 with heap:=s1.heap.update TO (Obj.mapSeq fun xs=>xs.setIfInBounds k x) })
   (fun e s1=>wpAny (model prog wd) A (setField (.ref z) 0 .none) (fun ι s2=>E e s2) E s1) s->wpAny (model prog wd) A (f (.ref it,k) r0) Q E s) (hz:L.length<=10) :
  ∀ (l:List ZL) (j:Nat) (s:Shared) (vals:List Value),L.drop j=l->t7 z TI TO L i j vals h0 s.heap ->
   ((∀ p∈l,i<p.vs.length)->∀ h' vals',t7 z TI TO L i L.length vals' h0 h'->Q r0 { s with heap:=h' }) ->
   ((∃ p∈l,p.vs.length<=i)->∀ h' e,(∀ b o,FJ z TO L b->h0.get? b=some o->h'.get? b=some o)->(∃ o,h'.get? e=some o/\o.cls=.type "StopIteration")->E (.ref e) { s with heap:=h' }) ->
   wpAny (model prog wd) A (forIn ((l.map fun p=>Value.ref p.it).zipIdx j) r0 f) Q E s:=by
 intro l
 induction l with
 | nil =>
  intro j s vals hl I hQ hE
  rw [List.map_nil,List.zipIdx_nil,List.forIn_nil]
  have:L.length<=j:=List.drop_eq_nil_iff.mp hl
  exact wpAny_pure (hQ (fun ι q=>nomatch q) s.heap vals { I with
   val:=fun m p hm hp=>I.val m p (Nat.lt_of_lt_of_le hm this) hp
   its:=fun m p hp=>by
    have hm:=(List.getElem?_eq_some_iff.mp hp).1
    rw [if_pos hm]
    have:=I.its m p hp
    rwa [if_pos (Nat.lt_of_lt_of_le hm ‹_›)] at this })
 | cons p l ih =>
  intro j s vals hl I hQ hE
  have hp:L[j]?=some p:=by rw [<- List.head?_drop,hl];rfl
  have hl':L.drop (j+1)=l:=by rw [<- List.tail_drop,hl];rfl
  obtain⟨g1,g2⟩:=I.its j p hp
  rw [if_neg (Nat.lt_irrefl j)] at g1
  have mp:=List.mem_of_getElem? hp
  obtain⟨a1,a2,a3,a4,a5⟩:=X.it p mp
  rw [List.map_cons,List.zipIdx_cons,List.forIn_cons]
  refine wpAny_bind (hf p.it j s _ E ?_)
  by_cases hx:i<p.vs.length
  ·have hx':=List.getElem?_eq_getElem hx
   refine wpAny_nextOf_list_item g1 g2 (x:=p.vs[i]) (by simpa using hx') fun h' hi hs=>(aB vals ((hs.2 _ a2.symm).trans I.to) (by rw [I.len];exact hz) ?_)
   exact ih (j+1) _ _ hl' (I.step X hp hx' hi hs) (fun q=>hQ fun p' hp'=>by
    rcases List.mem_cons.mp hp' with rfl | hp'
    ·exact hx
    ·exact q p' hp') fun y6656=>k1_2 y6656 fun p' q1 q2=>hE (aa p' (List.mem_cons_of_mem _ q1) q2)
  ·have hx':p.vs.toArray[i]?=none:=by simpa using Nat.le_of_not_lt hx
   refine wpAny_nextOf_list_end hh g1 g2 hx' fun h' e hk he=>?_
   have hz':IsZip h' z TI TO .ellipsis:=hk _ _ a1.symm I.zip
   obtain⟨oe,hoe,hce⟩:=he
   have hez:e≠z:=fun x=>by clear X hf ih I hQ hE a1 a4;subst x;rw [hz'] at hoe;cases hoe;simp at hce
   refine wpAny_setField_rec hz' (by simp) fun h3 ι hs3=>hE (aa p (List.mem_cons_self ..) (Nat.le_of_not_lt hx)) h3 e (fun b o nb q=>(hs3.2 b nb.1).trans (hk b o (nb.2.2 p mp) (I.kp b o nb q))) (aa oe ((hs3.2 e hez).trans hoe) hce)
structure GW (z TI TO:Addr) (L:List ZL) (f0:Value) (i:Nat) (h:Heap):Prop where
 zip:IsZip h z TI TO f0
 ti:h.get? TI=some (bo (L.map fun p=>.ref p.it))
 to:∃ vals,h.get? TO=some (bo vals)/\vals.length=L.length
 its:∀ p∈L,h.IsListIter p.it p.l i/\h.IsList p.l p.vs.toArray
theorem vS {Q:Fin->Shared->Prop} {E:Value->Shared->Prop} (hh:A.handled=none) (X:FI z TI TO L) (hz:L.length<=10) (hne:L≠[]) (S:GW z TI TO L .none i s.heap)
  (hQ:(∀ p∈L,i<p.vs.length)->∀ h' vals,GW z TI TO L (rawInt s.heap.objs.size) (i+1) h'->h'.get? s.heap.objs.size=some (bo vals)->vals.length=L.length->(∀ (m:Nat) p,L[m]?=some p->vals[m]?=p.vs[i]?)->(∀ b o,FJ z TO L b->s.heap.get? b=some o->h'.get? b=some o)->Q (.done (.ret (.ref s.heap.objs.size))) { s with heap:=h' })
  (hE:(∃ p∈L,p.vs.length<=i)->∀ h' e,(∀ b o,FJ z TO L b->s.heap.get? b=some o->h'.get? b=some o)->(∃ o,h'.get? e=some o/\o.cls=.type "StopIteration")->E (.ref e) { s with heap:=h' }) :
  wpAny (model prog wd) A (Builtin.«zip.__next__» ⟨[.ref z],[]⟩) Q E s:=by
 obtain⟨vals,hTO,hlen⟩:=S.to
 show wpAny _ _ (field (.ref z) 2 >>= _) _ _ _
 refine wpAny_bind (wpAny_field S.zip rfl (x:=.bool false) rfl ?_)
 show wpAny _ _ (field (.ref z) 3 >>= _) _ _ _
 refine wpAny_bind (wpAny_field S.zip rfl (x:=.ref TI) rfl ?_)
 refine wpAny_bind (wpAny_seqItems S.ti rfl ?_)
 have he:(L.map fun p=>Value.ref p.it).toArray.isEmpty=false:=by cases L with
  | nil=>exact absurd rfl hne
  | cons _ _=>rfl
 simp only [he,Bool.false_eq_true,if_false]
 show wpAny _ _ (Builtin.SmallTypes.ownedTupleIsFree (.ref z) >>= _) _ _ _
 refine wpAny_bind ?_
 unfold Builtin.SmallTypes.ownedTupleIsFree
 refine wpAny_bind (wpAny_field S.zip rfl (x:=.none) rfl (wpAny_pure ?_))
 simp only [if_true]
 refine wpAny_bind (wpAny_rule ?_)
 refine wpAny_bind (wpAny_field S.zip rfl (x:=.ref TO) rfl ?_)
 refine wpAny_bind (wpAny_setField_rec S.zip (by simp) fun g0 hz0 hs0=>?_)
 replace hz0:IsZip g0 z TI TO .ellipsis:=hz0
 refine wpAny_bind ?_
 have I0:t7 z TI TO L i 0 vals s.heap g0:=⟨hz0,(hs0.2 _ X.to).trans hTO,hlen,fun m p hm=>absurd hm (Nat.not_lt_zero m),fun m p hp=>by
  rw [if_neg (Nat.not_lt_zero m)]
  have mp:=List.mem_of_getElem? hp
  obtain⟨a1,a2,a3,a4,a5⟩:=X.it p mp
  obtain⟨g1,g2⟩:=S.its p mp
  exact⟨g1.at fun o e=>(hs0.2 _ a1).trans e,g2.at fun o e=>(hs0.2 _ a4).trans e⟩,fun b o nb e=>(hs0.2 b nb.1).trans e,hs0.1⟩
 refine vR (L:=L) hh X (fun it k s' Q' E' h'=>?_) hz L 0 _ vals rfl I0 (fun hall h' vals' I=>?_) hE
 ·refine wpAny_bind (wpAny_onRaise ?_)
  show wpAny _ _ (Builtin.SmallTypes.nextOf (.ref it) >>= _) _ _ _
  refine wpAny_bind (wpAny_mono h' (fun x s1 h1=>wpAny_pure ?_) fun ι ι x=>x)
  obtain⟨vals1,e1,e2,e3⟩:=h1
  have hl:(10:Nat)<=sizeLine:=by rw [sizeLine_eq];decide
  refine wpAny_bind (wpAny_seqItems e1 rfl ?_)
  refine wpAny_bind (wpAny_updateSeq e1 rfl ?_ (by rw [List.size_toArray];exact Nat.le_trans e2 hl) (by rw [Array.size_setIfInBounds,List.size_toArray];exact Nat.le_succ_of_le (Nat.le_trans e2 hl)))
  exact wpAny_bind (wpAny_letGo (wpAny_pure e3))
 ·show wpAny _ _ (seqItems? (.ref TO) >>= _) _ _ _
  refine wpAny_bind (wpAny_seqItems I.to rfl ?_)
  have hl:(10:Nat)<=sizeLine:=by rw [sizeLine_eq];decide
  refine wpAny_bind (wpAny_newTuple ?_ (by rw [I.len];exact Nat.le_trans hz hl))
  show wpAny _ _ (Builtin.SmallTypes.ownedTupleHandOut (.ref z) (.ref h'.objs.size) >>= _) _ _ _
  refine wpAny_bind ?_
  unfold Builtin.SmallTypes.ownedTupleHandOut
  have hz6:IsZip (h'.push { cls:=.type "tuple",data:=.seq vals'.toArray }) z TI TO .ellipsis:=Heap.get?_push_of_some _ I.zip
  refine wpAny_bind (wpAny_setField_rec hz6 (by simp) fun h7 hz7 hs7=>?_)
  replace hz7:IsZip h7 z TI TO (rawInt h'.objs.size):=hz7
  refine wpAny_setField_rec hz7 (by simp) fun h8 hz8 hs8=>?_
  replace hz8:IsZip h8 z TI TO (rawInt h'.objs.size):=hz8
  have up:∀ b o,b≠z->h'.get? b=some o->h8.get? b=some o:=fun b o c1 e=>(hs8.2 b c1).trans ((hs7.2 b c1).trans (Heap.get?_push_of_some _ e))
  have hT8:h8.get? h'.objs.size=some (bo vals'):=(hs8.2 _ (Nat.ne_of_gt (Heap.lt_size I.zip))).trans ((hs7.2 _ (Nat.ne_of_gt (Heap.lt_size I.zip))).trans (Heap.get?_push_size _ rfl))
  have fin:=hQ hall h8 vals' ⟨by rw [<- I.sz];exact hz8,up _ _ X.ti.1 (I.kp _ _ (am X.ti.1 X.ti.2 (fun p mp e=>(X.it p mp).2.2.1 e.symm)) S.ti),(aa vals' (up _ _ X.to I.to) I.len),fun p mp=>?_⟩ (by rw [<- I.sz];exact hT8) I.len (fun m p hp=>I.val m p (List.getElem?_eq_some_iff.mp hp).1 hp) fun b o nb e=>up b o nb.1 (I.kp b o nb e)
  ·rw [<- I.sz] at fin
   exact wpAny_pure fin
  ·obtain⟨m,hm⟩:=List.mem_iff_getElem?.mp mp
   obtain⟨g1,g2⟩:=I.its m p hm
   rw [if_pos (List.getElem?_eq_some_iff.mp hm).1] at g1
   obtain⟨a1,a2,a3,a4,a5⟩:=X.it p mp
   exact⟨g1.at fun o e=>up _ o a1 e,g2.at fun o e=>up _ o a4 e⟩
end
noncomputable def fU (Ds:List (List PyData)) (items:List PyData):Prop:=(∀ (i:Nat) d,items[i]?=some d->∃ row,d=.tuple row/\All2 (fun D x=>D[i]?=some x) Ds row)/\∃ D∈Ds,D.length<=items.length
theorem fU.done {Ds:List (List PyData)} (h:[]∈Ds):fU Ds []:=⟨fun i d e=>(nomatch e),(aa _ h (Nat.le_refl _))⟩
theorem fU.cons {Ds:List (List PyData)} {ps:List (PyData×List PyData)} {items:List PyData} (h:All2 (fun D p=>D=p.1::p.2) Ds ps) (ih:fU (ps.map (·.2)) items):fU Ds (.tuple (ps.map (·.1))::items):=by
  obtain⟨ih1,D,hD,hl⟩:=ih
  refine⟨fun i d e=>?_,?_⟩
  ·cases (i) with
   | zero=>cases e;exact (aa _ rfl (All2.mapR (h.imp fun D p e=>by rw [e];rfl)))
   | succ i =>
    obtain⟨row,rfl,x⟩:=ih1 i d e
    refine (aa row rfl ?_)
    clear ih1 hD hl e
    induction h generalizing row with
    | nil=>cases x;exact .nil
    | cons h1 _ ih2 =>
     cases x with
     | cons x1 x2=>exact .cons (by rw [h1];exact x1) (ih2 _ x2)
  ·clear ih1
   induction h with
   | nil=>cases hD
   | @cons D' p' l m h1 _ ih2 =>
    rcases List.mem_cons.mp hD with rfl | hD
    ·exact (aa D' (List.mem_cons_self ..) (by rw [h1];exact Nat.succ_le_succ hl))
    ·obtain⟨D2,m2,e2⟩:=ih2 hD
     exact (aa D2 (List.mem_cons_of_mem _ m2) e2)
section
variable {V:aD} {k:Nat} {sc:Scope} {c:Cx} {st st1 st2:St} {w w':W} {A:Around} {es:List Expr} {p pos:Pos} {items:List PyData} {d:PyData} {B0:PM} {z TI TO:Addr} {L:List ZL} {Ds:List (List PyData)} {s:Shared} {i:Nat} {Q:Option Value->Shared->Prop} {E:Value->Shared->Prop}
theorem oH (hh:A.handled=none) (X:FI z TI TO L) (hz:L.length<=10) (hne:L≠[]) (S:GW z TI TO L .none i s.heap)
  (hQ:(∀ p∈L,i<p.vs.length)->∀ h' vals,GW z TI TO L (rawInt s.heap.objs.size) (i+1) h'->h'.get? s.heap.objs.size=some (bo vals)->vals.length=L.length->(∀ (m:Nat) p,L[m]?=some p->vals[m]?=p.vs[i]?)->(∀ b o,FJ z TO L b->s.heap.get? b=some o->h'.get? b=some o)->Q (some (.ref s.heap.objs.size)) { s with heap:=h' })
  (hE:(∃ p∈L,p.vs.length<=i)->∀ h',(∀ b o,FJ z TO L b->s.heap.get? b=some o->h'.get? b=some o)->Q none { s with heap:=h' }):wpAny (model V.prog V.w) A (pyNext (.ref z)) Q E s:=by
 have hT:s.TypeIs (.ref z) "zip":=(aa _ S.zip rfl)
 unfold pyNext
 refine wpAny_bind (wpAny_attempt (wpAny_callSpecial?_slot (name:=Str.ofString "__next__") hT F.slot_zip_next (wpAny_call_entry F.slot_zip_next hT F.entry_zip_next
   (vS hh X hz hne S (fun a h' vals b1 b2 b3 b4 b5=>(aa _ rfl (wpAny_pure (hQ a h' vals b1 b2 b3 b4 b5)))) fun a h' e hk he=>?_) (F.args_zip_next_1 _))))
 obtain⟨o,ho,hc⟩:=he
 refine wpAny_bind (wpAny_isInstance (T:="StopIteration") (b:=true) (aa o ho hc) isSubtype_stop ?_)
 exact wpAny_pure (hE a _ hk)
noncomputable def GX (z TI TO:Addr) (L:List ZL):List Addr:=z::TO::TI::L.map (·.it)
noncomputable def eY.zip (X:FI z TI TO L) (hz:L.length<=10) (hne:L≠[]) (hB:∀ p∈L,∃ n,B0 p.l=some (ae p.vs n)) (hR:All2 (fun (p:ZL) D=>cP B0 p.vs D) L Ds) (hi:fU Ds items):eY V true items B0 where
 I:=z
 wr:=GX z TI TO L
 hd:=GX z TI TO L
 sub:=fun ι=>id
 P:=GW z TI TO L .none
 alive:=fun i h S b hb=>by
  unfold GX at hb
  rcases List.mem_cons.mp hb with rfl | hb
  ·exact⟨_,S.zip⟩
  ·rcases List.mem_cons.mp hb with rfl | hb
   ·obtain⟨v,e,_⟩:=S.to;exact⟨_,e⟩
   ·rcases List.mem_cons.mp hb with rfl | hb
    ·exact⟨_,S.ti⟩
    ·obtain⟨p,hp,rfl⟩:=List.mem_map.mp hb
     obtain⟨o,e,_⟩:=(S.its p hp).1;exact⟨o,e⟩
 frame:=fun i h h' ib S hk=>by
  have m:∀ b o,b∈GX z TI TO L->h.get? b=some o->h'.get? b=some o:=fun b o hb e=>hk b o (.inl hb) e
  obtain⟨v,e,e'⟩:=S.to
  refine⟨m _ _ (.head _) S.zip,m _ _ (.tail _ (.tail _ (.head _))) S.ti,(aa v (m _ _ (.tail _ (.head _)) e) e'),fun p hp=>⟨(S.its p hp).1.at fun o e=>m _ o (.tail _ (.tail _ (.tail _ (List.mem_map_of_mem hp)))) e,?_⟩⟩
  obtain⟨n,e⟩:=hB p hp
  exact (aB _ (hk _ _ (.inr e) (ib _ _ e)) rfl ⟨n,rfl⟩)
 turn:=fun A s Q E i d hA hid S hQ=>by
  obtain⟨row,rfl,hr⟩:=hi.1 i d hid
  refine oH hA X hz hne S (fun hall h' vals S' hT hl hv hk=>?_) fun y5090=>k1_2 y5090 fun p hp hle=>?_
  ·have kb:bP (GX z TI TO L) s.heap h':=fun b o nb e=>hk b o (am (fun q=>nb (q▸.head _)) (fun q=>nb (q▸.tail _ (.head _))) (fun p hp q=>nb (q▸.tail _ (.tail _ (.tail _ (List.mem_map_of_mem hp)))))) e
   refine hQ _ h' s.toks kb fun A' t Q' E' hA' ht hK=>?_
   obtain⟨es,j,p,rfl⟩:∃ es j p,t=.Tuple es j p:=qw (ht.2.1 rfl)
   refine wpAny_letOwnedTupleGo_zip S'.zip fun h'' hz'' hs''=>?_
   have up:∀ b o,b≠z->h'.get? b=some o->h''.get? b=some o:=fun b o nb e=>(hs''.2 b nb).trans e
   have hzs:s.heap.objs.size≠z:=Nat.ne_of_gt (Heap.lt_size S.zip)
   obtain⟨v,e,e'⟩:=S'.to
   refine hK h'' (fun b o nb e=>up b o (fun q=>nb (q▸.head _)) e) (dy _ vals row rfl rfl (aB _ (up _ _ hzs hT) rfl ⟨_,rfl⟩) ?_) ⟨hz'',up _ _ X.ti.1 S'.ti,(aa v (up _ _ X.to e) e'),fun p hp=>?_⟩
   ·
    clear hK hQ S S' hT kb hk hz'' hs'' up hzs hall e hB X hz hne ht hid
    have gen:∀ {L:List ZL} {Ds:List (List PyData)} {row:List PyData} {vals:List Value},All2 (fun (p:ZL) D=>cP B0 p.vs D) L Ds->All2 (fun D x=>D[i]?=some x) Ds row->vals.length=L.length->(∀ (m:Nat) p,L[m]?=some p->vals[m]?=p.vs[i]?)->cP B0 vals row:=by
     intro L Ds row vals h1
     induction h1 generalizing row vals with
     | nil=>intro h2 h3 _;cases h2;cases vals with
      | nil=>exact .nil
      | cons _ _=>cases h3
     | @cons p D L Ds a _ ih =>
      intro h2 h3 h4
      cases h2 with
      | cons x1 x2 =>
       cases vals with
       | nil=>cases h3
       | cons v vals =>
        have:=h4 0 p rfl
        exact .cons (a.at this.symm x1) (ih x2 (Nat.succ.inj h3) fun m q hm=>h4 (m+1) q hm)
    exact gen hR hr hl hv
   ·obtain⟨g1,g2⟩:=S'.its p hp
    obtain⟨a1,_,_,a4,_⟩:=X.it p hp
    exact⟨g1.at fun o e=>up _ o a1 e,g2.at fun o e=>up _ o a4 e⟩
  ·exfalso
   have gen:∀ {L:List ZL} {Ds:List (List PyData)} {row:List PyData},All2 (fun (p:ZL) D=>cP B0 p.vs D) L Ds->All2 (fun D x=>D[i]?=some x) Ds row->p∈L->i<p.vs.length:=by
    intro L Ds row h1
    induction h1 generalizing row with
    | nil=>intro _ h;cases h
    | @cons q D L Ds a _ ih =>
     intro h2 hm
     cases h2 with
     | cons x1 x2 =>
      rcases List.mem_cons.mp hm with rfl | hm
      ·rw [a.len];exact (List.getElem?_eq_some_iff.mp x1).1
      ·exact ih x2 hm
   exact absurd (gen hR hr hp) (Nat.not_lt.mpr hle)
 done:=fun A s Q E hA S hQ=>by
  obtain⟨D,hD,hl⟩:=hi.2
  have hp:∃ p∈L,p.vs.length<=items.length:=by
   clear hQ S hB X hz hne hi
   induction hR with
   | nil=>cases hD
   | @cons q D' L Ds a _ ih =>
    rcases List.mem_cons.mp hD with rfl | hD
    ·exact (aa q (List.mem_cons_self ..) (by rw [a.len];exact hl))
    ·obtain⟨p,m,e⟩:=ih hD;exact (aa p (List.mem_cons_of_mem _ m) e)
  obtain⟨p,mp,hle⟩:=hp
  refine oH hA X hz hne S (fun hall=>absurd (hall p mp) (Nat.not_lt.mpr hle)) fun ι h' hk=>?_
  exact hQ h' s.toks fun b o nb e=>hk b o (am (fun q=>nb (q▸.head _)) (fun q=>nb (q▸.tail _ (.head _))) (fun p hp q=>nb (q▸.tail _ (.tail _ (.tail _ (List.mem_map_of_mem hp)))))) e
 self:=fun A s Q E i hA S h=>wpAny_pyIter_zip S.zip h
end
noncomputable abbrev vT (l:Addr):Obj:={ cls:=.type "list_iterator",data:=.fields #[.ref l,.int 0 0] }
noncomputable abbrev dC (h:Heap) (its:List Value):Heap:=(((h.push { cls:=.type "tuple",data:=.seq its.toArray }).push { cls:=.type "tuple",data:=.seq (its.map fun ι=>Value.none).toArray }).push { cls:=.type "zip",data:=.fields #[.none,.bool false,.bool false,.ref h.objs.size,.ref (h.objs.size+1)] })
theorem mK (as:List Value):Builtin.SmallTypes.newClass "zip" ⟨.type "zip"::as,[]⟩=pure (.type "zip",as):=by
 unfold Builtin.SmallTypes.newClass
 simp only [isType,sub_zip,pure_bind,Bool.not_true,Bool.false_eq_true,if_false]
section
variable {prog:Program} {wd:World} {A:Around} {E:Value->Shared->Prop} {s:Shared}
theorem zr {as:List Value} {Q:Value->Shared->Prop} (h:wpAny (model prog wd) A (Builtin.SmallTypes.iterAll as) (fun its s1=>its.length<=10/\Q (.ref (s1.heap.objs.size+2)) { s1 with heap:=dC s1.heap its }) E s) :
  wpAny (model prog wd) A (Builtin.«zip.__new__» ⟨.type "zip"::as,[]⟩) (fun fin s'=>∃ v,fin=.done (.ret v)/\Q v s') E s:=by
 delta Builtin.«zip.__new__»
 refine wpAny_bind (wpAny_of_eq (mK as) ?_)
 simp only [List.length_nil,Nat.not_lt_zero,gt_iff_lt,if_false]
 refine wpAny_bind (wpAny_mono h (fun l s1 h1=>?_) fun ι ι e=>e)
 obtain⟨hz,hq⟩:=h1
 have hl:(10:Nat)<=sizeLine:=by rw [sizeLine_eq];decide
 refine wpAny_bind (wpAny_newTuple ?_ (Nat.le_trans hz hl))
 refine wpAny_bind (wpAny_newTuple ?_ (by rw [List.length_map];exact Nat.le_trans hz hl))
 refine wpAny_bind ?_
 delta Builtin.SmallTypes.newRecord
 dsimp only
 refine wpAny_newObj_type ?_ (by show (Array.size _)<=sizeLine+2;rw [sizeLine_eq];simp [Builtin.SmallTypes.ownedTupleFields])
 refine wpAny_pure (aa _ rfl ?_)
 simp only [Heap.size_push,Builtin.SmallTypes.ownedTupleFields,List.cons_append,List.nil_append]
 exact hq
theorem vU {as:List Value} {Q:Value->Shared->Prop} (hct:checkTypeCall "zip" ⟨as,[]⟩=pure ()) (hcn:checkBuiltinCall "zip.__new__" ⟨.type "zip"::as,[]⟩=pure ()) (hok:∀ obj,argsOk "object.__init__" ⟨obj::as,[]⟩)
  (h:∀ (A:Around) (K:List Value->Shared->Prop) (E:Value->Shared->Prop),(∀ its s1,its.length<=10->Q (.ref (s1.heap.objs.size+2)) { s1 with heap:=dC s1.heap its }->K its s1)->wpAny (model prog wd) A (Builtin.SmallTypes.iterAll as) K E s) :
  wpAny (model prog wd) A (call (.type "zip") as) Q E s:=by
 refine callType_newIn (S:=fun A R s=>wpAny (model prog wd) A.in1 (Builtin.SmallTypes.iterAll as) (fun its s1=>its.length<=10/\R (.ok (.ret (.ref (s1.heap.objs.size+2)))) { s1 with heap:=dC s1.heap its }) (fun e s'=>R (.error e) s') s)
  PySem.F.called_zip (by decide) hct hcn hok PySem.F.entry_zip_new (MeetsIn.of_wp fun A R s hs=>zr (Q:=fun v s'=>R (.ok (.ret v)) s') hs) ?_
 refine h _ _ _ fun its s1 hl hq=>⟨hl,⟨(aa ({ cls:=.type "zip",data:=.fields #[.none,.bool false,.bool false,.ref s1.heap.objs.size,.ref (s1.heap.objs.size+1)] }) ?_ rfl),hq⟩⟩
 have e:s1.heap.objs.size+2=((s1.heap.push { cls:=.type "tuple",data:=.seq its.toArray }).push { cls:=.type "tuple",data:=.seq (its.map fun ι=>Value.none).toArray }).objs.size:=by rw [Heap.size_push,Heap.size_push]
 rw [e];exact Heap.get?_push_size _ rfl
noncomputable def C6:Nat->List (Addr×List Value)->List ZL
 | _,[]=>[]
 | n,p::r=>⟨n,p.1,p.2⟩::C6 (n+1) r
noncomputable def dX:Heap->List (Addr×List Value)->Heap
 | h,[]=>h
 | h,p::r=>dX (h.push (vT p.1)) r
theorem mL:∀ (ps:List (Addr×List Value)) (h:Heap),(dX h ps).objs.size=h.objs.size+ps.length:=by
 intro ps
 induction ps with
 | nil =>
  intro h
  exact rfl
 | cons p r ih =>
  intro h
  show (dX (h.push (vT p.1)) r).objs.size=_;rw [ih,Heap.size_push,List.length_cons,Nat.add_right_comm];rfl
theorem ie:∀ (ps:List (Addr×List Value)) (h:Heap) (b:Addr) (o:Obj),h.get? b=some o->(dX h ps).get? b=some o:=by
 intro ps
 induction ps with
 | nil =>
  intro h b o e
  exact e
 | cons p r ih =>
  intro h b o e
  exact ih _ b o (Heap.get?_push_of_some _ e)
theorem zt:∀ (ps:List (Addr×List Value)) (n:Nat),(C6 n ps).length=ps.length:=by
 intro ps
 induction ps with
 | nil =>
  intro ι
  exact rfl
 | cons ι r ih =>
  intro n
  exact congrArg Nat.succ (ih (n+1))
theorem jD:∀ (ps:List (Addr×List Value)) (n m:Nat) (p:ZL),(C6 n ps)[m]?=some p->p.it=n+m/\m<ps.length/\(p.l,p.vs)∈ps
 | [],n,m,p,e=>by cases e
 | q::r,n,0,p,e=>by cases e;exact (am rfl (Nat.succ_pos _) (List.mem_cons_self ..))
 | q::r,n,m+1,p,e=>by
  obtain⟨h1,h2,h3⟩:=jD r (n+1) m p e
  exact (am (by rw [h1,Nat.add_assoc,Nat.add_comm 1]) (Nat.succ_lt_succ h2) (List.mem_cons_of_mem _ h3))
theorem j9:∀ (ps:List (Addr×List Value)) (h:Heap) (m:Nat) (p:ZL),(C6 h.objs.size ps)[m]?=some p->(dX h ps).get? p.it=some (vT p.l)
 | [],h,m,p,e=>by cases e
 | q::r,h,0,p,e=>by cases e;exact ie r _ _ _ (Heap.get?_push_size _ rfl)
 | q::r,h,m+1,p,e=>j9 r (h.push (vT q.1)) m p (by rw [Heap.size_push];exact e)
theorem t8 {f:Value->Array Value->Sem (ForInStep (Array Value))} (hf:∀ x acc,f x acc=(do let v <- holding acc.toList (pyIter x);pure (.yield (acc.push v)))):∀ (ps:List (Addr×List Value)) (acc:Array Value) (s:Shared) (K:Array Value->Shared->Prop),(∀ p∈ps,∃ n,s.heap.get? p.1=some (ae p.2 n)) ->
  (∀ arr,arr.toList=acc.toList++(C6 s.heap.objs.size ps).map (fun p=>Value.ref p.it)->K arr { s with heap:=dX s.heap ps })->wpAny (model prog wd) A (forIn (ps.map fun p=>Value.ref p.1) acc f) K E s:=by
 intro ps
 induction ps with
 | nil =>
  intro acc s K ι h
  rw [List.map_nil,List.forIn_nil]
  exact wpAny_pure (h acc (List.append_nil _).symm)
 | cons p r ih =>
  intro acc s K hp h
  rw [List.map_cons,List.forIn_cons,hf]
  obtain⟨n,e⟩:=hp p (List.mem_cons_self ..)
  refine wpAny_bind (wpAny_bind (wpAny_holding (wpAny_pyIter_list (items:=p.2.toArray) (aB _ e rfl ⟨n,rfl⟩) (wpAny_pure ?_))))
  refine ih _ _ K (fun q hq=>?_) fun arr ha=>h arr ?_
  ·obtain⟨n,e⟩:=hp q (List.mem_cons_of_mem _ hq)
   exact⟨n,Heap.get?_push_of_some _ e⟩
  ·rw [ha,Array.toList_push,List.append_assoc,Heap.size_push];rfl
end
section
variable {V:aD} {k:Nat} {sc:Scope} {st st1:St} {es:List Expr} {p pos:Pos} {items:List PyData} {Ds:List (List PyData)}
theorem C7 {w:W} {G} (b:Bs V w G):∀ {Ds:List (List PyData)} {vs:List Value},cP w.B vs (Ds.map .list)->∃ ps:List (Addr×List Value),vs=ps.map (fun p=>.ref p.1)/\All2 (fun p D=>(∃ n,w.B p.1=some (ae p.2 n))/\cP w.B p.2 D) ps Ds:=by
 intro Ds
 induction Ds with
 | nil =>
  intro ι h
  cases h;exact (aa ([]) rfl .nil)
 | cons D Ds ih =>
  intro ι h
  cases h with
  | cons x y =>
   obtain⟨ps,zq,h2⟩:=ih y;clear y;subst zq
   obtain⟨a,us,n,zq,e,rs⟩:=x.isList;clear x;subst zq
   exact (aa ((a,us)::ps) rfl (.cons ⟨⟨n,e⟩,rs⟩ h2))
theorem zu {R:Addr×List Value->List PyData->Prop} {R':ZL->List PyData->Prop} (hR:∀ p n D,R p D->R' ⟨n,p.1,p.2⟩ D):∀ {ps:List (Addr×List Value)} {Ds:List (List PyData)} (n:Nat),All2 R ps Ds->All2 R' (C6 n ps) Ds:=by
 intro ps Ds n x
 induction x generalizing n with
 | nil=>exact .nil
 | cons a _ ih=>exact .cons (hR _ _ _ a) (ih (n+1))
theorem BD (hg:dO sc ("zip":Str)=true) (hb:Bi V "zip" (.type "zip")) (ha:EvsD V k es sc st (Ds.map .list) st1) (hi:fU Ds items) (hz:Ds.length<=10) (hne:Ds≠[])
  (hct:∀ as:List Value,as.length=Ds.length->checkTypeCall "zip" ⟨as,[]⟩=pure ()/\checkBuiltinCall "zip.__new__" ⟨.type "zip"::as,[]⟩=pure ()/\∀ obj,argsOk "object.__init__" ⟨obj::as,[]⟩):gV V k (.Call (.Name "zip" p) es [] pos) sc st true items st1:=fun c w r K E hK =>
 j7 (Z:=fun v w'=>wpAny (model V.prog V.w) c.A (pyIter v) K E w'.s) hg hb nofun ha r (fun vs w1 n1 z1 Q E hQ=>by
  obtain⟨ps,rfl,hps⟩:=C7 z1.rel.bs z1.x
  have hl:=hps.len
  obtain⟨c1,c2,c3⟩:=hct (ps.map fun p=>Value.ref p.1) (by rw [List.length_map];exact hl)
  have inB:∀ p∈ps,∃ n,w1.B p.1=some (ae p.2 n):=fun p hp=>by
   obtain⟨m,hm⟩:=List.mem_iff_getElem?.mp hp
   obtain⟨D,_,h,_⟩:=hps.get' hm
   exact h
  refine vU c1 c2 c3 fun A2 K2 E2 fin=>?_
  have it:wpAny (model V.prog V.w) A2 (Builtin.SmallTypes.iterAll (ps.map fun p=>Value.ref p.1)) K2 E2 w1.s:=by
   delta Builtin.SmallTypes.iterAll
   refine wpAny_bind (t8 (fun ι ι=>rfl) ps #[] w1.s _ (fun p hp=>(inB p hp).imp fun n e=>z1.rel.bs.in _ _ e) fun arr har=>wpAny_pure ?_)
   rw [har]
   refine fin _ _ (by simp [zt,hl,hz]) ?_
   generalize hN:w1.h.objs.size=N
   have sz:(dX w1.h ps).objs.size=N+ps.length:=by rw [mL,hN]
   generalize hH:dX w1.s.heap ps=H3
   have sz':H3.objs.size=N+ps.length:=by rw [<- hH];exact sz
   generalize hL:C6 N ps=L
   have gets:∀ p∈L,N<=p.it/\p.it<N+ps.length/\p.l<N/\(∃ n,w1.B p.l=some (ae p.vs n))/\H3.get? p.it=some (vT p.l):=fun p hp=>by
    obtain⟨m,hm⟩:=List.mem_iff_getElem?.mp hp
    rw [<- hL] at hm
    obtain⟨h1,h2,h3⟩:=jD ps N m p hm
    obtain⟨n,e⟩:=inB _ h3
    exact (lu (by rw [h1];exact Nat.le_add_right _ _) (by rw [h1];exact Nat.add_lt_add_left h2 _) (by rw [<- hN];exact Heap.lt_size (z1.rel.bs.in _ _ e)) ⟨n,e⟩ (by rw [<- hH];exact j9 ps w1.s.heap m p (by rw [show w1.s.heap.objs.size=N from hN];exact hm)))
   have up3:∀ b o,w1.h.get? b=some o->H3.get? b=some o:=fun b o e=>by rw [<- hH];exact ie ps _ b o e
   have up4:∀ b o,H3.get? b=some o->(dC H3 (([]:List Value)++L.map fun p=>Value.ref p.it)).get? b=some o:=fun b o e=>Heap.get?_push_of_some _ (Heap.get?_push_of_some _ (Heap.get?_push_of_some _ e))
   have s1:=(Heap.size_push H3 { cls:=.type "tuple",data:=.seq (([]:List Value)++L.map fun p=>Value.ref p.it).toArray })
   have hTI:(dC H3 (([]:List Value)++L.map fun p=>Value.ref p.it)).get? H3.objs.size=some (bo (L.map fun p=>.ref p.it)):=Heap.get?_push_of_some _ (Heap.get?_push_of_some _ (Heap.get?_push_size _ rfl))
   have hTO:(dC H3 (([]:List Value)++L.map fun p=>Value.ref p.it)).get? (H3.objs.size+1)=some (bo ((([]:List Value)++L.map fun p=>Value.ref p.it).map fun ι=>Value.none)):=Heap.get?_push_of_some _ (by rw [<- s1];exact Heap.get?_push_size _ rfl)
   have hzz:IsZip (dC H3 (([]:List Value)++L.map fun p=>Value.ref p.it)) (H3.objs.size+2) H3.objs.size (H3.objs.size+1) .none:=by
    have s2:=(Heap.size_push (H3.push { cls:=.type "tuple",data:=.seq (([]:List Value)++L.map fun p=>Value.ref p.it).toArray }) { cls:=.type "tuple",data:=.seq ((([]:List Value)++L.map fun p=>Value.ref p.it).map fun ι=>Value.none).toArray })
    rw [s1] at s2
    show (dC H3 _).get? (H3.objs.size+1+1)=_
    rw [<- s2];exact Heap.get?_push_size _ rfl
   generalize dC H3 (([]:List Value)++L.map fun p=>Value.ref p.it)=H4 at *
   have X:FI (H3.objs.size+2) H3.objs.size (H3.objs.size+1) L:=by
    refine⟨Nat.ne_of_lt (Nat.lt_succ_self _),⟨Nat.ne_of_lt (Nat.lt_add_of_pos_right (by decide)),Nat.ne_of_lt (Nat.lt_succ_self _)⟩,fun p hp=>?_,fun p hp q hq=>?_,fun m m' p q hm hm' e=>?_⟩
    ·obtain⟨g1,g2,g3,_⟩:=gets p hp
     rw [<- sz'] at g2
     have g4:p.l<H3.objs.size:=Nat.lt_of_lt_of_le g3 (by rw [sz'];exact Nat.le_add_right _ _)
     exact (lu (Nat.ne_of_lt (Nat.lt_add_right 2 g2)) (Nat.ne_of_lt (Nat.lt_add_right 1 g2)) (Nat.ne_of_lt g2) (Nat.ne_of_lt (Nat.lt_add_right 2 g4)) (Nat.ne_of_lt (Nat.lt_add_right 1 g4)))
    ·exact Nat.ne_of_lt (Nat.lt_of_lt_of_le (gets p hp).2.2.1 (gets q hq).1)
    ·rw [<- hL] at hm hm'
     have h1:=(jD ps N m p hm).1
     have h2:=(jD ps N m' q hm').1
     rw [h1,h2] at e
     exact Nat.add_left_cancel e
   refine hQ _ (w1.to H4 w1.s.toks) (Nx.to ..) (wpAny_pyIter_zip hzz ?_)
   have hR:All2 (fun (p:ZL) D=>cP w1.B p.vs D) L Ds:=by rw [<- hL];exact zu (fun p n D h=>h.2) N hps
   have big:∀ b,N<=b->ai w1 b:=fun b hb=>z1.rel.fresh (by rw [hN];exact hb)
   have hsz:N<=H3.objs.size:=by rw [sz'];exact Nat.le_add_right _ _
   refine hK (w1.to H4 w1.s.toks) (eY.zip X (by rw [hR.len];exact hz) (fun e=>hne (by have q:=hR.len;rw [e] at q;exact List.eq_nil_of_length_eq_zero q.symm)) (fun p hp=>(gets p hp).2.2.2.1) hR hi) (n1.trans (Nx.to ..)) ⟨z1.vm,z1.rel.to (Kp.all fun b o e=>up4 b o (up3 b o e)) _,fun b hb=>?_,hzz,hTI,(aa _ hTO (by simp)),fun p hp=>?_⟩
   ·refine (big b ?_).to _
    rcases List.mem_cons.mp hb with rfl | hb
    ·exact Nat.le_add_right_of_le hsz
    ·rcases List.mem_cons.mp hb with rfl | hb
     ·exact Nat.le_add_right_of_le hsz
     ·rcases List.mem_cons.mp hb with rfl | hb
      ·exact hsz
      ·obtain⟨p,hp,zq⟩:=List.mem_map.mp hb;clear hb;subst zq
       exact (gets p hp).1
   ·obtain⟨_,_,_,⟨n,e⟩,g5⟩:=gets p hp
    exact⟨(aB _ (up4 _ _ g5) rfl rfl),(aB _ (up4 _ _ (up3 _ _ (z1.rel.bs.in _ _ e))) rfl ⟨n,rfl⟩)⟩
  exact it) _ E fun ι ι ι=>id
theorem lT (n:Nat) (as:List Value) (h:as.length=n) (hn:n=2\/n=3):checkTypeCall "zip" ⟨as,[]⟩=pure ()/\checkBuiltinCall "zip.__new__" ⟨.type "zip"::as,[]⟩=pure ()/\∀ obj,argsOk "object.__init__" ⟨obj::as,[]⟩:=by
 rcases hn with rfl | rfl
 ·obtain⟨a,as1,rfl,h1⟩:=lO h
  obtain⟨b,as2,rfl,h2⟩:=lO h1
  obtain rfl:=List.eq_nil_of_length_eq_zero h2
  exact (am (F.typeCall_zip_2 _ _) (F.newCall_zip_2 _ _) (fun obj=>F.args_object_init_3 obj _ _))
 ·obtain⟨a,as1,rfl,h1⟩:=lO h
  obtain⟨b,as2,rfl,h2⟩:=lO h1
  obtain⟨c,as3,rfl,h3⟩:=lO h2
  have zq:=List.eq_nil_of_length_eq_zero h3;clear h3 h2 h1 h;subst zq
  ·refine (am (by kernel_rfl) (by kernel_rfl) (fun obj=>?_))
   unfold argsOk;rw [signature?_of (id:="object.__init__") (n:=['_','_','t','i','n','i','_','_']) (o:=['t','c','e','j','b','o']) (by kernel_rfl) PySem.F.owner_object];kernel_rfl
end
theorem qx {env:Env} {names:List (Str×NameKind)}:∀ {acc:List (Str×Addr)},(∀ x,(x,NameKind.free)∈names->∃ c,env.cells.lookup x=some c) ->
  ∃ cl,(forIn names acc fun (p:Str×NameKind) cs=>if p.2==.free then (do let a <- cellOf env p.1;pure (ForInStep.yield ((p.1,a)::cs))) else pure (ForInStep.yield cs):Sem (List (Str×Addr)))=pure cl /\
   ∀ x,((x,NameKind.free)∈names\/acc.lookup x=env.cells.lookup x)->cl.lookup x=env.cells.lookup x:=by
 induction names with
 | nil=>exact fun h=>(aa _ List.forIn_nil (fun x hx=>hx.resolve_left List.not_mem_nil))
 | cons p r ih =>
  intro acc h
  obtain⟨n,kd⟩:=p
  rw [List.forIn_cons]
  have hr:∀ x,(x,NameKind.free)∈r->∃ c,env.cells.lookup x=some c:=fun x hx=>h x (List.mem_cons_of_mem _ hx)
  by_cases hk:kd=.free
  ·subst hk
   obtain⟨c,hc⟩:=h n (List.mem_cons_self ..)
   obtain⟨cl,e1,e2⟩:=ih (acc:=(n,c)::acc) hr
   have look:∀ x,(x=n\/acc.lookup x=env.cells.lookup x)->((n,c)::acc).lookup x=env.cells.lookup x:=fun x hx=>by
    rw [List.lookup_cons]
    cases q:x==n with
    | true=>rw [eq_of_beq q,hc]
    | false =>
     refine hx.resolve_left fun e=>?_
     clear h hc e1 e2 hx;subst e;rw [beq_self_eq_true] at q;exact nomatch q
   refine (aa cl ?_ (fun x hx=>e2 x ?_))
   ·simp only [beq_self_eq_true,if_true,cellOf,hc,pure_bind]
    exact e1
   ·rcases hx with hx | hx
    ·rcases List.mem_cons.mp hx with e | hx
     ·clear h hc e1 e2 hx;cases e;exact .inr (look _ (.inl rfl))
     ·exact .inl hx
    ·exact .inr (look _ (.inr hx))
  ·obtain⟨cl,e1,e2⟩:=ih (acc:=acc) hr
   have hk':(kd==.free)=false:=by cases kd<;>first | rfl | exact absurd rfl hk
   refine (aa cl ?_ (fun x hx=>e2 x ?_))
   ·simp only [hk',Bool.false_eq_true,if_false,pure_bind]
    exact e1
   ·refine hx.imp (fun hx=>?_) id
    rcases List.mem_cons.mp hx with e | hx
    ·clear h hk' hx;cases e;exact absurd rfl hk
    ·exact hx
theorem ez {scope:Scope} {env:Env} (h:∀ x,(x,NameKind.free)∈scope.names->∃ c,env.cells.lookup x=some c):∃ cl,closureFor scope env=pure cl/\∀ x,(x,NameKind.free)∈scope.names->cl.lookup x=env.cells.lookup x:=by
 obtain⟨cl,e1,e2⟩:=qx (acc:=[]) h
 refine (aa cl ?_ (fun x hx=>e2 x (.inl hx)))
 unfold closureFor
 have:(forIn scope.names ([]:List (Str×Addr)) fun (p:Str×NameKind) cs=>if p.2==.free then (do let a <- cellOf env p.1;pure (ForInStep.yield ((p.1,a)::cs))) else pure (ForInStep.yield cs):Sem (List (Str×Addr)))=pure cl:=e1
 simp only [bind_pure_comp,Functor.map] at this ⊢
 first | exact this | (rw [this];rfl) | (simp only [this]) | skip
theorem jf (φ:Str->NameKind->NameKind) (x:Str) (names:List (Str×NameKind)):(names.map fun p=>(p.1,φ p.1 p.2)).lookup x=(names.lookup x).map (φ x):=by
 induction names with
 | nil=>rfl
 | cons p r ih =>
  obtain⟨n,kd⟩:=p
  rw [List.map_cons,List.lookup_cons,List.lookup_cons]
  cases q:x==n with
  | true=>cases eq_of_beq q;rfl
  | false=>exact ih
theorem mM (scope:Scope) (env:Env) (x:Str):(relabel scope env).names.lookup x=(scope.names.lookup x).map fun k=>if (k==.free&&env.scope.kind==.function&&env.kindOf x==some .cell) then .cell else k:=by
 have e:(relabel scope env).names=scope.names.map fun p=>(p.1,if (p.2==.free&&env.scope.kind==.function&&env.kindOf p.1==some .cell) then .cell else p.2):=by
  unfold relabel
  apply List.map_congr_left
  intro p _
  obtain⟨n,kd⟩:=p
  show (if _ then _ else _)=_
  split
  ·rename_i c;simp only [c,if_true]
  ·rename_i c;simp only [c,if_false]
 rw [e]
 exact jf (fun n k=>if (k==.free&&env.scope.kind==.function&&env.kindOf n==some .cell) then .cell else k) x scope.names
noncomputable def vj (ρ ρ':Rho):Prop:=∀ P:Rho->Prop,P ρ'->(∀ ρ x ds,af ρ x=some (.lst ds)->P (aG ρ x (.val (.dat (.list ds))))->P ρ)->P ρ
section
variable {V:aD} {k:Nat} {sc:Scope} {c:Cx} {st st1 st2:St} {w w':W} {A:Around} {e iter t elt:Expr} {ifs:List Expr} {pos:Pos} {flag:Bool} {items ds:List PyData} {d:PyData} {B0:PM} {G:List GObj}
theorem aq.frz {ρ ρ':Rho} (h:vj ρ ρ'):∀ {w:W},aq V k sc c ⟨ρ,G⟩ w->∃ w',Nx w w'/\w'.vm=w.vm/\w'.s=w.s/\aq V k sc c ⟨ρ',G⟩ w'/\∀ b,ai w b->ai w' b:=by
 refine fun {w}=>h (fun ρ=>∀ w,aq V k sc c ⟨ρ,G⟩ w->∃ w',Nx w w'/\w'.vm=w.vm/\w'.s=w.s/\aq V k sc c ⟨ρ',G⟩ w'/\∀ b,ai w b->ai w' b) (fun w r=>(lv w (Nx.refl _) rfl rfl r (fun ι=>id))) (fun ρ x ds hx ih w r=>?_) w
 ·obtain⟨w1,n1,v1,s1,r1,f1⟩:=r.freeze hx
  obtain⟨w2,n2,v2,s2,r2,f2⟩:=ih w1 r1
  exact (lv w2 (n1.trans n2) (v2.trans v1) (s2.trans s1) r2 (fun b f=>f2 b (f1 b f)))
noncomputable abbrev vV (ifs:List Expr) (env:Env):Sem Bool:=forIn ifs true fun c r=>if r=true then do let ok <- isTrue c env (eval c env);pure (ForInStep.yield ok) else pure (ForInStep.yield r)
noncomputable def lU (V:aD) (k:Nat) (ifs:List Expr) (sc:Scope) (st:St) (b:Bool) (st':St):Prop:=vf V k (vV ifs) sc st st' fun v ι=>v=b
theorem C8:lU V k [] sc st true st:=fun c w r=>Do.pure ⟨rfl,r,rfl⟩
theorem C9 {b:Bool} (h:Cd V k e sc st b st1):lU V k [e] sc st b st1:=fun c w r=>by
 show Do V c.A (forIn [e] true _) w _
 rw [List.forIn_cons]
 refine Do.bind (Y:=fun v w'=>v=ForInStep.yield b/\iR V k sc c w st1 (fun ι=>True) w') (Do.bind (h c w r) fun v w1 n1 z1=>?_) fun v w1 n1 z1=>?_
 ·obtain rfl:v=b:=z1.x
  exact Do.pure ⟨rfl,⟨z1.vm,z1.rel,trivial⟩⟩
 ·obtain⟨zq,z⟩:=z1;rw [zq]
  exact Do.pure ⟨z.vm,z.rel,rfl⟩
noncomputable def kc (V:aD) (k:Nat) (flag:Bool) (sc:Scope) (t:Expr) (ifs:List Expr) (elt:Expr) (l:List PyData):St->List PyData->St->Prop :=
 List.rec (motive:=fun ι=>St->List PyData->St->Prop) (fun σ out σ'=>out=[]/\σ'=σ) (fun d ι F σ out σ'=>∃ σ1 σ2,Bt V k flag t sc σ d σ1/\((∃ x out' σ3,out=x::out'/\lU V k ifs sc σ1 true σ2/\bH V k elt sc σ2 x σ3/\F σ3 out' σ')\/(lU V k ifs sc σ1 false σ2/\F σ2 out σ'))) l
theorem lV {wr:List Addr} {h h':Heap} {D:Addr} (hk:bP wr h h') (hD:D∉wr) (e:∃ o,h.get? D=some o):∃ o,h'.get? D=some o:=e.imp fun o q=>hk D o hD q
noncomputable def eY.plus (S:eY V flag items B0) (D:Addr) (hD:D∉S.wr):eY V flag items B0 where
 I:=S.I
 wr:=S.wr
 hd:=D::S.hd
 sub:=fun b hb=>List.mem_cons_of_mem _ (S.sub b hb)
 P:=fun i h=>S.P i h/\∃ o,h.get? D=some o
 alive:=fun i h hp b hb=>(List.mem_cons.mp hb).elim (fun e=>e▸hp.2) (S.alive i h hp.1 b)
 frame:=fun i h h' ib hp hk=>⟨S.frame i h h' ib hp.1 fun b o hb e=>hk b o (hb.imp (List.mem_cons_of_mem _) id) e,hp.2.imp fun o e=>hk D o (.inl (List.mem_cons_self ..)) e⟩
 turn:=fun A s Q E i d hA hi hp hQ=>S.turn A s Q E i d hA hi hp.1 fun v h' tk hk go=>hQ v h' tk hk fun A' t Q' E' hA' ht hK=>go A' t Q' E' hA' ht fun h'' hk' hv hs=>hK h'' hk' hv ⟨hs,lV hk' hD (lV hk hD hp.2)⟩
 done:=fun A s Q E hA hp hQ=>S.done A s Q E hA hp.1 hQ
 self:=fun A s Q E i hA hp h=>S.self A s Q E i hA hp.1 h
theorem qy {prog:Program} {wd:World} {s:Shared} {Q E:Value->Shared->Prop} {a:Addr} {vs:List Value} {n:Nat} {u:Value} (e:s.heap.get? a=some (ae vs n)) (hz:vs.length<=lim)
  (hQ:∀ n' h',Heap.SameBut a s.heap h'->h'.get? a=some (ae (vs++[u]) n')->Q .none { s with heap:=h' }):wpAny (model prog wd) A (call (.builtin "list.append") [.ref a,u]) Q E s:=by
 refine call_meets PySem.F.slot_list_append (aa _ e rfl) PySem.F.entry_list_append (PySem.F.args_list_append_2 _ _) (PySem.list_append a vs.toArray n _ (by rw [List.size_toArray];exact Nat.le_trans hz (by decide))) ⟨e,?_⟩
 refine hQ (if ((vs++[u]).toArray.size==vs.toArray.size)=true then n else n+1) _ (Heap.SameBut.update ..) ?_
 rw [Heap.get?_update_self _ e (by rfl)]
 have e':vs.toArray.push u=(vs++[u]).toArray:=by simp
 show some (Obj.mapSeq (fun xs=>xs.push u) (ae vs n))=some (ae (vs++[u]) _)
 simp only [Obj.mapSeq,ae,e']
noncomputable def BE (V:aD) (c:Cx) (t elt:Expr) (ifs:List Expr) (I D:Addr) (N:Shared->Prop) (RR:Result->Shared->Prop) (w1:W):Prop :=
 wpAny (model V.prog V.w) c.A (pyNext (.ref I)) (fun r s₁=>match r with
   | none=>RR (.ok .next) s₁
   | some v=>wpAny (model V.prog V.w) c.A (letOwnedTupleGo t (.ref I) v) (fun ι s₁'=>wpAny (model V.prog V.w) c.A (assign t c.env v) (fun ι s₂ =>
     wpAny (model V.prog V.w) c.A (vV ifs c.env) (fun ok s₃ =>
      if ok=true then wpAny (model V.prog V.w) c.A (eval elt c.env) (fun x s₄ =>
       wpAny (model V.prog V.w) c.A (call (.builtin "list.append") [.ref D,x]) (fun ι s₅=>N s₅) (notedBy (model V.prog V.w) c.A c.env fun e s'=>RR (.error e) s') s₄) (notedBy (model V.prog V.w) c.A c.env fun e s'=>RR (.error e) s') s₃
      else N s₃) (notedBy (model V.prog V.w) c.A c.env fun e s'=>RR (.error e) s') s₂) (notedBy (model V.prog V.w) c.A c.env fun e s'=>RR (.error e) s') s₁') (notedBy (model V.prog V.w) c.A c.env fun e s'=>RR (.error e) s') s₁) (notedBy (model V.prog V.w) c.A c.env fun e s'=>RR (.error e) s') w1.s
theorem mO {scope:Scope} {I D:Addr} {RR:Result->Shared->Prop} (J:Nat->W->Prop) (turn:∀ n w1,J n w1->BE V c t elt ifs I D (fun s=>∃ m,m<n/\∃ w2,s=w2.s/\J m w2) RR w1) (n:Nat) (h:J n w) :
  codeAny (model V.prog V.w) c.A (.compLoop (.ListComp elt [⟨t,iter,ifs,0⟩] scope pos) 0 (.ref I) (.ref D) c.env) RR w.s:=by
 refine codeAny_loop rfl (fun n s=>∃ w1,s=w1.s/\J n w1) (fun n s hI=>?_) n (aa w rfl h)
 obtain⟨w1,zq,hJ⟩:=hI;rw [zq]
 show wpAny _ c.A ((compTurn (.ListComp elt [⟨t,iter,ifs,0⟩] scope pos) 0 (.ref I) (.ref D) c.env).onRaise (fun x=>do noteFrame x c.env;theTreesLotGoes x)) _ _ w1.s
 refine wpAny_noted ?_
 rw [compTurn_list]
 refine wpAny_bind (wpAny_standAt (wpAny_bind (wpAny_mono (turn n w1 hJ) (fun r s₁ h₁=>?_) fun ι ι h'=>h')))
 cases r with
 | none=>exact wpAny_pure h₁
 | some v =>
  refine wpAny_bind (wpAny_mono h₁ (fun ι s₁' h₁'=>?_) fun ι ι h'=>h')
  refine wpAny_bind (wpAny_mono h₁' (fun ι s₂ h₂=>wpAny_bind (wpAny_mono h₂ (fun ok s₃ h₃=>?_) fun ι ι h'=>h')) fun ι ι h'=>h')
  cases ok with
  | false=>exact wpAny_pure ⟨rfl,h₃⟩
  | true =>
   exact wpAny_bind (wpAny_bind (wpAny_mono h₃ (fun x s₄ h₄=>wpAny_bind (wpAny_mono h₄ (fun ι s₅ h₅=>wpAny_pure (wpAny_pure ⟨rfl,h₅⟩)) fun ι ι h'=>h')) fun ι ι h'=>h'))
structure lW (V:aD) (k:Nat) (sc:Scope) (c:Cx) (t elt:Expr) (ifs:List Expr) (S:eY V flag items B0) (D:Addr) (w:W) (ds:List PyData) (st2:St) (i:Nat) (w1:W):Prop where
 ex:∃ st1 acc out vs n,gG V k sc c S w i st1 w1/\ai w1 D/\w1.h.get? D=some (ae vs n)/\cP w1.B vs acc/\acc.length<=i/\ds=acc++out/\kc V k flag sc t ifs elt (items.drop i) st1 out st2
variable {S:eY V flag items B0} {D:Addr} {i:Nat} {w0 w1 w2:W}
theorem lW.back (hD:D∉S.wr) (L:gG V k sc c S w i st w1) (b0:Le B0 w.B) (hlt:i<items.length) (n0:Nx w1 w0) (e1:w0.R=w1.R) (f0:∀ b∈(S.plus D hD).hd,ai w0 b) (hS0:(S.plus D hD).P (i+1) w0.h) (kp0:∀ b o,b∉S.wr->w1.h.get? b=some o->w0.h.get? b=some o) (ib:In w0.B w0.h)
  (n2:Nx (w0.toR (lB w0.h (S.plus D hD).hd)) w2) (r2:aq V k sc c st1 w2):gG V k sc c S w (i+1) st1 (w2.inR w0.R)/\Nx w1 (w2.inR w0.R)/\ai (w2.inR w0.R) D/\∀ o,w1.h.get? D=some o->w2.h.get? D=some o:=by
 obtain⟨r4,f4,hS4,kp4⟩:=(S.plus D hD).back (b0.trans (L.n.b.trans n0.b)) f0 hS0 ib n2 r2 (by rw [e1];exact L.r.cr)
 have n:Nx w1 (w2.inR w0.R):=n0.trans ⟨n2.g,n2.b,rfl,n2.s⟩
 exact (a7 ⟨hlt,L.n.trans n,r4,fun b hb=>f4 b (List.mem_cons_of_mem _ hb),hS4.1,fun b o hb hw e=>kp4 b o (List.mem_cons_of_mem _ hb) (kp0 b o hw (L.k b o hb hw e))⟩ n (f4 D (List.mem_cons_self ..)) (fun o e=>kp4 D o (List.mem_cons_self ..) (kp0 D o hD e)))
theorem t9 {N:Shared->Prop} {RR:Result->Shared->Prop} (hD:D∉S.hd) (b0:Le B0 w.B) (hlim:items.length<=lim) (I:lW V k sc c t elt ifs S D w ds st2 i w1)
  (hN:∀ w',i<items.length->lW V k sc c t elt ifs S D w ds st2 (i+1) w'->N w'.s)
  (hQ:∀ w' vs n,Nx w w'->aq V k sc c st2 w'->(∀ b∈S.hd,ai w' b)->ai w' D->w'.h.get? D=some (ae vs n)->cP w'.B vs ds->(∀ b o,b∈S.hd->b∉S.wr->w.h.get? b=some o->w'.h.get? b=some o)->RR (.ok .next) w'.s):BE V c t elt ifs S.I D N RR w1:=by
 obtain⟨st,acc,out,vs,n,L,fD,eD,rs,hal,hds,h⟩:=I
 have hDw:D∉S.wr:=fun z=>hD (S.sub _ z)
 by_cases hlt:i<items.length
 ·rw [List.drop_eq_getElem_cons hlt] at h
  have f':∀ b∈(S.plus D hDw).hd,ai w1 b:=fun b hb=>(List.mem_cons.mp hb).elim (fun e=>e▸fD) (L.f b)
  have hvl:vs.length<=lim:=by rw [rs.len];exact Nat.le_trans hal (Nat.le_trans (Nat.le_of_lt hlt) hlim)
  obtain⟨σ1,σ2,hb,h⟩:=h
  refine j8 (S.plus D hDw) (List.getElem?_eq_getElem hlt) hb (b0.trans L.n.b) L.r f' ⟨L.s,⟨_,eD⟩⟩ fun v s2 go=>go _ _ _ fun w0 w2 n0 e1 e2 e3 f0 hS0 kp0 ib n2 r2=>?_
  rcases h with ⟨x,out',σ3,rfl,ht,he,hc⟩ | ⟨ht,hc⟩
  ·refine ht c w2 r2 _ _ fun ok w3 n3 z3=>?_
   obtain rfl:ok=true:=z3.x
   refine (if_pos rfl).mpr (he c w3 z3.rel _ _ fun u w4 n4 z4=>?_)
   obtain⟨L5,n5,f5,k5⟩:=lW.back hDw L b0 hlt n0 e1 f0 hS0 kp0 ib ((n2.trans n3).trans n4) z4.rel
   refine qy (s:=w4.s) (k5 _ eD) hvl fun n' h' hs e'=>?_
   have kp:Kp (w4.inR w0.R) h':=fun b o nf e=>(hs.2 b fun z=>nf (z▸f5)).trans e
   refine hN ((w4.inR w0.R).to h' w4.s.toks) hlt ⟨σ3,acc++[x],out',vs++[u],n',⟨L5.le,L5.n.trans (Nx.to ..),L5.r.to kp _,fun b hb=>(L5.f b hb).to _,S.frame _ _ _ (fun a o q=>?_) L5.s fun b o hb e=>(hs.2 b fun z=>?_).trans e,fun b o hb hw e=>(hs.2 b fun z=>hD (z▸hb)).trans (L5.k b o hb hw e)⟩,f5.to _,e',(rs.le n5.b).snoc z4.x,?_,?_,hc⟩
   ·exact L5.r.bs.in _ _ (L5.n.b _ _ (b0 _ _ q))
   ·clear hN hQ fD eD f' go f0 hS0 kp0 n2 k5 hs e';subst z
    rcases hb with hb | hb
    ·exact hD hb
    ·have:=L5.n.b _ _ (b0 _ _ hb);rw [f5.b] at this;cases this
   ·rw [List.length_append];exact Nat.succ_le_succ hal
   ·rw [hds,List.append_assoc];rfl
  ·refine ht c w2 r2 _ _ fun ok w3 n3 z3=>?_
   obtain rfl:ok=false:=z3.x
   obtain⟨L5,n5,f5,k5⟩:=lW.back hDw L b0 hlt n0 e1 f0 hS0 kp0 ib (n2.trans n3) z3.rel
   exact (if_neg Bool.false_ne_true).mpr (hN (w3.inR w0.R) hlt ⟨σ2,acc,out,vs,n,L5,f5,k5 _ eD,rs.le n5.b,Nat.le_succ_of_le hal,hds,hc⟩)
 ·obtain rfl:i=items.length:=Nat.le_antisymm L.le (Nat.le_of_not_lt hlt)
  rw [List.drop_length] at h
  obtain⟨zq,rfl⟩:=h;clear hal;subst zq
  rw [List.append_nil] at hds
  subst hds
  exact S.done c.A _ _ _ L.r.room.h L.s fun h2 tk2 hk=>hQ (w1.to h2 tk2) vs n (L.n.trans (Nx.to ..)) (L.r.to (fun b o nf e=>hk b o (fun z=>nf (L.f b (S.sub b z))) e) tk2) (fun b hb=>(L.f b hb).to _) (fD.to _) (hk D _ hDw eD) rs fun b o hb hw e=>hk b o hw (L.k b o hb hw e)
end
noncomputable def Da (ρ:Rho) (scope:Scope) (ρ0:Rho):Prop:=∀ x s,af ρ0 x=some s->∃ av,s=.val av/\af ρ x=some (.val av)/\scope.names.lookup x=some .free
noncomputable def eA (sc scope:Scope):Bool:=qv scope&&scope.names.all fun p=>p.2 != .free||sc.names.lookup p.1==some .cell||sc.names.lookup p.1==some .free
theorem oI {sc scope:Scope} (h:eA sc scope=true) {x:Str} (hx:(x,NameKind.free)∈scope.names):sc.names.lookup x=some .cell\/sc.names.lookup x=some .free:=by
 have q:=List.all_eq_true.mp (Bool.and_eq_true_iff.mp h).2 _ hx
 have e:∀ {k:NameKind},(sc.names.lookup x==some k)=true->sc.names.lookup x=some k:=fun {k} e=>by
  cases z:sc.names.lookup x with
  | none=>rw [z] at e;cases e
  | some k'=>rw [z] at e;rw [jZ e]
 rcases Bool.or_eq_true_iff.mp q with q | q
 ·rcases Bool.or_eq_true_iff.mp q with q | q
  ·cases q
  ·exact .inl (e q)
 ·exact .inr (e q)
theorem oJ {M:Model} {A:Around} {E:Value->Shared->Prop} {s:Shared} {scope:Scope} {env:Env} {cl:List (Str×Addr)} {Q:Env->Shared->Prop}
  (hQ:∀ tk,Q { scope:=scope,locals:=s.heap.objs.size,globals:=env.globals,cells:=cellsFrom (s.heap.objs.size+1) scope.names cl,qual:=env.qual,func:=none,code:=env.code,frame:=env.frame,builtins:=env.builtins }
   { s with heap:=pushCells (s.heap.push { cls:=.type "dict",data:=.dict #[] }) scope.names,toks:=tk }) :
  wpAny M A (newFunctionEnv scope env.globals cl [] env.qual none .none (some env)) Q E s:=by
 simp only [newFunctionEnv,Option.isSome_some,if_true]
 refine wpAny_bind (wpAny_alloc ?_)
 refine wpAny_bind (wpAny_layCells _ (fun name kind cells=>by cases hkc:kind==NameKind.cell<;>simp [hkc]) _ _ _ _ ?_)
 rw [List.forIn_nil]
 refine wpAny_bind (wpAny_pure (wpAny_pure ?_))
 rw [show ({ s with heap:=s.heap.push { cls:=.type "dict",data:=.dict #[] } }:Shared).heap.objs.size=s.heap.objs.size+1 from Heap.size_push ..]
 exact hQ s.toks
section
variable {V:aD} {k:Nat} {sc:Scope} {c:Cx} {st st1 st2:St} {w w':W} {A:Around} {e iter t elt:Expr} {ifs:List Expr} {pos:Pos} {flag:Bool} {items ds:List PyData} {d:PyData} {B0:PM} {G:List GObj} {scope:Scope} {ρ0 ρ1 ρ':Rho} {G':List GObj}
noncomputable def qz (scope:Scope) (env:Env) (L:Addr) (cl:List (Str×Addr)):Env:={ scope:=relabel scope env,locals:=L,globals:=env.globals,cells:=cellsFrom (L+1) scope.names cl,qual:=env.qual,func:=none,code:=env.code,frame:=env.frame,builtins:=env.builtins }
theorem ua {env:Env} {L:Addr} {cl:List (Str×Addr)}:vH scope (qz scope env L cl):=by
 have kof:∀ x,(qz scope env L cl).kindOf x=(scope.names.lookup x).map fun k=>if (k==.free&&env.scope.kind==.function&&env.kindOf x==some .cell) then .cell else k:=fun x=>mM scope env x
 refine⟨fun x k h n=>?_,fun x h=>?_,fun x k h=>?_⟩
 ·rw [kof,h]
  cases k<;>first | rfl | exact absurd rfl n
 ·rw [kof,h]
  by_cases q:(env.scope.kind==.function&&env.kindOf x==some .cell)=true
  ·left;show some (if _ then _ else _)=_;rw [if_pos];exact q
  ·right;show some (if _ then _ else _)=_;rw [if_neg];exact q
 ·rw [kof] at h
  obtain⟨k',h1,h2⟩:=Option.map_eq_some_iff.mp h
  refine (aa k' h1 ?_)
  by_cases q:(k'==.free&&env.scope.kind==.function&&env.kindOf x==some .cell)=true
  ·exact .inl (jZ (Bool.and_eq_true_iff.mp (Bool.and_eq_true_iff.mp q).1).1)
  ·rw [if_neg q] at h2;exact .inr h2
theorem iS.out {ρ:Rho} (f:iS sc c ρ w) (ho:eA sc scope=true) {x:Str} (hx:(x,NameKind.free)∈scope.names):c.env.kindOf x=some .cell\/c.env.kindOf x=some .free :=
 (oI ho hx).elim (fun e=>.inl (f.knd x _ e nofun)) fun e=>f.knf x e
theorem iS.cap {ρ:Rho} (f:iS sc c ρ w) (ho:eA sc scope=true) (ok:Ok w) (cr:Le c.C w.R) {cl:List (Str×Addr)} (hcl:∀ x,(x,NameKind.free)∈scope.names->cl.lookup x=c.env.cells.lookup x):tY scope cl w.vm (un c.C w.F) w.B :=
 ⟨fun x hx=>by
  have hm:=mem_of_lookup hx
  obtain⟨a,o,h1,h2,h3⟩:=f.cl x (f.out ho hm)
  refine (aF a o ((hcl x hm).trans h1) h2 ?_)
  rcases h3 with h3 | ⟨h3 | h3,_⟩
  ·exact .inl (hY (cr.non (ok.rf.r h3)) h3)
  ·exact .inl (cX h3)
  ·exact .inr h3,fun x y a hx hy ex ey=>by
  have mx:=mem_of_lookup hx
  have my:=mem_of_lookup hy
  exact f.inj x y a (f.out ho mx) (f.out ho my) ((hcl x mx).symm.trans ex) ((hcl y my).symm.trans ey)⟩
theorem aq.comp (r:aq V k sc c ⟨ρ1,G⟩ w) (ho:eA sc scope=true) (hc:Da ρ1 scope ρ0) {cl:List (Str×Addr)} (hcl:∀ x,(x,NameKind.free)∈scope.names->cl.lookup x=c.env.cells.lookup x) (n:Nat) :
  aq V k scope ⟨c.A,qz scope c.env w.h.objs.size cl,un c.C w.F⟩ ⟨ρ0,G⟩ (w.call (pushCells (w.h.push { cls:=.type "dict",data:=.dict #[] }) scope.names) n fun x=>if scope.names.lookup x=some .free then w.vm x else none):=by
 have so:=eX (Bool.and_eq_true_iff.mp ho).1
 have iC:In (un c.C w.F) w.h:=fun b o q=>(jB q).elim (fun z=>r.bs.ok.r _ _ (r.cr _ _ z)) (r.bs.ok.f b o)
 refine⟨r.room,r.bs.call fun bb o e=>pushCells_keeps _ _ _ _ (Heap.get?_push_of_some _ e),fun b o q=>?_,iS.new (c:=⟨c.A,qz scope c.env w.h.objs.size cl,un c.C w.F⟩) so ua so.kind r.fr.glb r.fr.blt rfl rfl rfl rfl (r.fr.cap ho r.bs.ok r.cr hcl) iC r.bs.ok.b fun x s hx=>?_⟩
 ·rcases jB q with z | z
  ·exact cX (r.cr _ _ z)
  ·exact hY (r.bs.ok.rf.r z) z
 ·obtain⟨av,zq,h1,h2⟩:=hc _ _ hx;rw [zq]
  obtain⟨v,e,s⟩:=r.slot h1
  exact (cQ v av rfl e s h2)
theorem ai.call {b:Addr} {h:Heap} {n:Nat} {vm:Str->Option Value} (f:ai w b) (e:∃ o,w.h.get? b=some o):ai (w.call h n vm) b:=⟨cY.mpr ⟨f.r,f.f⟩,f.b,if_neg (Nat.not_le.mpr (e.elim fun ι e=>Heap.lt_size e)),f.o⟩
theorem ai.ret {b:Addr} (f:ai w' b) (e:w'.R=un w.R w.F):ai (w.ret w') b:=by
 have q:=f.r
 rw [e] at q
 exact⟨(cY.mp q).1,f.b,(cY.mp q).2,f.o⟩
noncomputable def Db (V:aD) (k:Nat) (iter:Expr) (sc:Scope) (st:St) (flag:Bool) (items:List PyData) (st1:St) (Y:∀ w':W,eY V flag items w'.B->Prop):Prop:=∀ (c:Cx) (w:W),aq V k sc c st w->∀ (K E:Value->Shared->Prop),
 (∀ w' (S:eY V flag items w'.B),Nx w w'->iR V k sc c w st1 (fun w'=>(∀ b∈S.hd,ai w' b)/\S.P 0 w'.h) w'->Y w' S->K (.ref S.I) w'.s) ->
 wpAny (model V.prog V.w) c.A (eval iter c.env) (fun x s1=>wpAny (model V.prog V.w) c.A (pyIter x) K E s1) E w.s
theorem gV.any (h:gV V k iter sc st flag items st1):Db V k iter sc st flag items st1 fun ι ι=>True:=fun c w r K E hK=>h c w r K E fun w' S n z=>hK w' S n z trivial
structure J8 (Y:∀ w':W,eY V flag items w'.B->Prop) (D L:Addr) (w':W):Prop where
 ex:∃ (w1:W) (S:eY V flag items w1.B),Nx w1 w'/\Y w1 S/\(∀ b∈S.hd,ai w' b)/\(∀ b o,b∈S.hd->b∉S.wr->w1.h.get? b=some o->w'.h.get? b=some o)/\D∉S.hd/\L∉S.hd
theorem qA {Y:∀ w':W,eY V flag items w'.B->Prop} {use:Option (Value->Sem Unit)} {ipos:Pos} {Q E:Value->Shared->Prop} (hs:Db V k iter sc st flag items st1 Y) (hp:∀ env x,foldedSetIterable iter env x=pure x) (hz:vj st1.ρ ρ1) (ho:eA sc scope=true) (hc:Da ρ1 scope ρ0)
  (hC:kc V k flag scope t ifs elt items ⟨ρ0,st1.G⟩ ds ⟨ρ',G'⟩) (hl:items.length<=lim) (r:aq V k sc c st w)
  (hQ:∀ w' D L vs n oL m,Nx w w'->w'.vm=w.vm->aq V k sc c ⟨ρ1,G'⟩ w'->ai w' D->w'.h.get? D=some (ae vs n)->cP w'.B vs ds->ai w' L->w'.h.get? L=some oL->vv oL m->L≠D->J8 Y D L w'->compPost (model V.prog V.w) c.A E use Q (.ref D) L (.ok .next) w'.s) :
  wpAny (model V.prog V.w) c.A (comprehension (.ListComp elt [⟨t,iter,ifs,0⟩] scope pos) scope c.env ipos (newList []) false (eval iter c.env) use) Q E w.s:=by
 have so:=eX (Bool.and_eq_true_iff.mp ho).1
 obtain⟨cl,hcl0,hcl⟩:=ez (scope:=scope) (env:=c.env) fun x hx=>by
  obtain⟨a,o,g1,_⟩:=r.fr.cl x (r.fr.out ho hx)
  exact⟨a,g1⟩
 refine wpAny_comprehension_free rfl (hp _) hcl0 so.kind (fun x hx hl=>?_) ?_
 ·obtain⟨n,kd⟩:=x
  obtain rfl:kd=.local:=hl
  exact ew so.nd hx
 refine hs c w r _ E fun w1 S n1 z1 y1=>?_
 obtain⟨w2,n2,vm2,s2,r2,f2⟩:=aq.frz (G:=st1.G) hz z1.rel
 rw [<- s2]
 refine wpAny_newObj_type ?_
 have fD:=r2.fresh (Nat.le_refl _)
 have e2:w2.h=w1.h:=congrArg Shared.heap s2
 have r3:=r2.to (Kp.push w2 (ae [] 0)) w2.s.toks
 have eD:(w2.to (w2.h.push (ae [] 0)) w2.s.toks).h.get? w2.h.objs.size=some (ae [] 0):=Heap.get?_push_size _ rfl
 refine oJ fun tk=>?_
 have r4:=r3.comp ho hc hcl tk
 have s0:=z1.x.2
 have al:∀ b∈S.hd,∃ o,w2.h.get? b=some o:=fun b hb=>by rw [e2];exact S.alive 0 _ s0 b hb
 have nD:w2.h.objs.size∉S.hd:=fun hb=>by
  obtain⟨o,e⟩:=al _ hb;exact Nat.lt_irrefl _ (Heap.lt_size e)
 have up:∀ b o,w2.h.get? b=some o->(w2.h.push (ae [] 0)).get? b=some o:=fun b o e=>Heap.get?_push_of_some _ e
 have up4:∀ b o,(w2.h.push (ae [] 0)).get? b=some o->(pushCells ((w2.h.push (ae [] 0)).push { cls:=.type "dict",data:=.dict #[] }) scope.names).get? b=some o:=fun b o e=>pushCells_keeps _ _ _ _ (Heap.get?_push_of_some _ e)
 have sP:=S.frame 0 _ _ z1.rel.bs.in s0 fun b o ι e=>up4 b o (up b o (by rw [e2];exact e))
 have hL:(w2.to (w2.h.push (ae [] 0)) w2.s.toks).h.objs.size=w2.h.objs.size+1:=Heap.size_push ..
 have ne:(w2.to (w2.h.push (ae [] 0)) w2.s.toks).h.objs.size≠w2.h.objs.size:=by rw [hL];exact Nat.succ_ne_self _
 generalize hw3:w2.to (w2.h.push (ae [] 0)) w2.s.toks=w3 at *
 have h3:w3.h=w2.h.push (ae [] 0):=by rw [<- hw3];rfl
 have n3:Nx w2 w3:=by rw [<- hw3];exact Nx.to ..
 have v3:w3.vm=w2.vm:=by rw [<- hw3];rfl
 have f3:∀ b,ai w2 b->ai w3 b:=fun b f=>by rw [<- hw3];exact f.to _
 have s3:w3.s={ w2.s with heap:=w2.h.push (ae [] 0) }:=by rw [<- hw3];rfl
 rw [<- h3] at up4 sP up
 generalize hw4:w3.call (pushCells (w3.h.push { cls:=.type "dict",data:=.dict #[] }) scope.names) tk (fun x=>if scope.names.lookup x=some .free then w3.vm x else none)=w4 at *
 have h4:w4.h=pushCells (w3.h.push { cls:=.type "dict",data:=.dict #[] }) scope.names:=by rw [<- hw4];rfl
 have f4:∀ b,ai w3 b->(∃ o,w3.h.get? b=some o)->ai w4 b:=fun b f e=>by rw [<- hw4];exact f.call e
 have b4:w4.B=w2.B:=by rw [<- hw4,<- hw3];rfl
 rw [<- h4] at sP up4
 have fD4:ai w4 w2.h.objs.size:=f4 _ (f3 _ fD) ⟨_,eD⟩
 have fhd4:∀ b∈S.hd,ai w4 b:=fun b hb=>f4 b (f3 b (f2 b (z1.x.1 b hb))) ((al b hb).imp fun o e=>up b o e)
 have loop:codeAny (model V.prog V.w) c.A (.compLoop (.ListComp elt [⟨t,iter,ifs,0⟩] scope pos) 0 (.ref S.I) (.ref w2.h.objs.size) (qz scope c.env w3.h.objs.size cl)) (compPost (model V.prog V.w) c.A E use Q (.ref w2.h.objs.size) w3.h.objs.size) w4.s:=by
  refine mO (c:=⟨c.A,qz scope c.env w3.h.objs.size cl,un c.C w3.F⟩) (fun n w'=>∃ i,n=items.length-i/\lW V k scope ⟨c.A,qz scope c.env w3.h.objs.size cl,un c.C w3.F⟩ t elt ifs S w2.h.objs.size w4 ds ⟨ρ',G'⟩ i w') (fun n w' hJ=>?_) (items.length-0) (aa 0 rfl ⟨_,[],ds,[],0,⟨Nat.zero_le _,Nx.refl _,r4,fhd4,sP,fun ι ι ι ι=>id⟩,fD4,up4 _ _ eD,.nil,Nat.le_refl _,rfl,hC⟩)
  obtain⟨i,zq,hI⟩:=hJ;rw [zq]
  refine t9 nD (by rw [b4];exact n2.b) hl hI (fun w' hlt hI'=>(aa _ (Nat.sub_lt_sub_left hlt (Nat.lt_succ_self i)) (aa w' rfl (aa (i+1) rfl hI')))) fun w' vs n n' r' fh fD' eD' rs' kk=>?_
  rw [<- hw4] at n'
  have eR:w'.R=un w3.R w3.F:=n'.r
  obtain⟨oL,m,eL,nL,_⟩:=r'.fr.ns
  have fl:=r3.fresh (Nat.le_refl _)
  have fL:ai (w3.ret w') w3.h.objs.size:=⟨fl.r,r'.bs.ok.bf.r eL,fl.f,by
   cases z:w'.own w3.h.objs.size with
   | none=>exact z
   | some q=>have:=(r'.bs.ok.o w3.h.objs.size (by rw [z];exact nofun)).2.2.2;rw [show w'.F w3.h.objs.size=some oL from eL] at this;exact nomatch this⟩
  exact hQ (w3.ret w') w2.h.objs.size w3.h.objs.size vs n oL m (n1.trans (n2.trans (n3.trans n'.leave))) (v3.trans (vm2.trans z1.vm)) (r3.after n'.leave (r3.bs.leave r'.bs eR) rfl rfl) (fD'.ret eR) eD' rs' fL (r'.bs.ok.f _ _ eL) nL ne ⟨w1,S,n2.trans (n3.trans n'.leave),y1,fun b hb=>(fh b hb).ret eR,fun b o hb hw e=>kk b o hb hw (up4 b o (up b o (by rw [e2];exact e))),nD,fun hb=>by
   obtain⟨o,e⟩:=al _ hb
   exact Nat.lt_irrefl _ (Heap.lt_size (up _ _ e))⟩
 have e4:w4.s={ w3.s with heap:=pushCells (w3.h.push { cls:=.type "dict",data:=.dict #[] }) scope.names,toks:=tk }:=by rw [<- hw4];rfl
 rw [e4,h3,s3] at loop
 rw [h4,h3] at sP
 exact codeAny_compStart_list loop (S.self c.A _ _ _ 0 r.room.h sP loop)
theorem vW (hs:gV V k iter sc st flag items st1) (hz:vj st1.ρ ρ1) (hc:Da ρ1 scope ρ0) (hC:kc V k flag scope t ifs elt items ⟨ρ0,st1.G⟩ ds ⟨ρ',G'⟩) (hl:items.length<=lim) (ho:eA sc scope=true:=by rfl) (hp:∀ env x,foldedSetIterable iter env x=pure x:=by exact fun ι ι=>rfl) :
  Ev V k (.ListComp elt [⟨t,iter,ifs,0⟩] scope pos) sc st (.own ds) ⟨ρ1,G'⟩:=fun c w r Q E hQ=>by
 rw [eval_ListComp]
 show wpAny _ c.A (comprehension (.ListComp elt [⟨t,iter,ifs,0⟩] scope pos) scope c.env _ (newList []) false (eval iter c.env) none) Q E w.s
 refine qA hs.any hp hz ho hc hC hl r fun w' D L vs n oL m nx vm rel fD eD rs fL eL nL ne ι=>(aa m (nL.ns eL) (fun h hs=>?_))
 have kp:Kp w' h:=fun b o nf e=>(hs.2 b fun z=>nf (z▸fL)).trans e
 exact hQ (.ref D) (w'.to h w'.s.toks) (nx.trans (Nx.to ..)) ⟨vm,rel.to kp _,D,vs,n,rfl,(hs.2 D ne.symm).trans eD,fD.to _,rs⟩
end
section
variable {V:aD} {k:Nat} {sc:Scope} {c:Cx} {st st' st1 st2 st3:St} {w w':W} {A:Around} {e iter t elt i:Expr} {s:Stmt} {ss body:List Stmt} {p pos xp ip:Pos} {flag:Bool} {items ds:List PyData} {d a b:PyData} {fl:Fl} {av:ab} {rv:RV} {x:Str}
theorem si:Ex V k [] sc st .next st:=fun c w r Q E hQ=>by
 rw [execs_nil];exact wpAny_pure (hQ .next w (Nx.refl _) ⟨r,rfl⟩)
theorem fV (h:eM V k s sc st .next st1) (h':Ex V k ss sc st1 fl st2):Ex V k (s::ss) sc st fl st2:=fun c w r Q E hQ=>by
 rw [execs_cons]
 refine wpAny_bind (h c w r _ E fun v w1 n1 z1=>?_)
 obtain rfl:v=.next:=z1.2
 exact h' c w1 z1.1 Q E fun v w2 n2 z2=>hQ v w2 (n1.trans n2) z2
theorem oK (h:eM V k s sc st (.ret av) st1):Ex V k (s::ss) sc st (.ret av) st1:=fun c w r Q E hQ=>by
 rw [execs_cons]
 refine wpAny_bind (h c w r _ E fun v w1 n1 z1=>?_)
 have fin:=hQ v w1 n1 z1
 obtain⟨u,zq,_⟩:=z1.2;clear z1;subst zq
 exact wpAny_pure fin
theorem oM (h:eK V k e sc st av st1):eM V k (.Return (some e) p) sc st (.ret av) st1:=fun c w r Q E hQ=>wpAny_Return_some (h c w r _ E fun v w1 n1 z1=>hQ _ w1 n1 ⟨z1.rel,(aa v rfl z1.x)⟩)
theorem lC:eM V k (.Return none p) sc st (.ret (.dat .none)) st:=fun c w r Q E hQ=>wpAny_Return_none (hQ _ w (Nx.refl _) ⟨r,(aa .none rfl Rd.none)⟩)
noncomputable def flat:PyData->Bool
 | .list _=>false
 | .tuple _=>false
 | .dict _=>false
 | _=>true
theorem Rd.flat {B:PM} {v:Value} (h:Rd B v d) (hd:Internal.flat d=true):∀ a,v≠.ref a:=fun a z=>by
 subst z;cases h<;>cases hd
theorem Dc (h:bH V k e sc st d st1) (hd:flat d=true:=by rfl) (hs:∀ env,swapsWith e none p.line env=pure false:=by exact fun ι=>rfl):eM V k (.Expr e p) sc st .next st1:=fun c w r Q E hQ =>
 wpAny_Expr (h c w r _ E fun v w1 n1 z1=>by
  have q:=z1.x.flat hd
  have fin:=hQ .next w1 n1 ⟨z1.rel,rfl⟩
  cases v<;>first | exact fin | exact absurd rfl (q _)) (by unfold interactive;rw [r.fr.kind];rfl) (hs _)
theorem Dd:eM V k (.Pass p) sc st .next st:=fun c w r Q E hQ=>wpAny_Pass (hQ _ w (Nx.refl _) ⟨r,rfl⟩)
theorem vX {a b:List Stmt} (h:Cd V k t sc st true st1) (h':Ex V k a sc st1 fl st2):eM V k (.If t a b p) sc st fl st2:=fun c w r Q E hQ =>
 wpAny_If (h c w r _ E fun v w1 n1 z1=>by cases z1.x;exact h' c w1 z1.rel Q E fun v w2 n2 z2=>hQ v w2 (n1.trans n2) z2)
theorem qB {a b:List Stmt} (h:Cd V k t sc st false st1) (h':Ex V k b sc st1 fl st2):eM V k (.If t a b p) sc st fl st2:=fun c w r Q E hQ =>
 wpAny_If (h c w r _ E fun v w1 n1 z1=>by cases z1.x;exact h' c w1 z1.rel Q E fun v w2 n2 z2=>hQ v w2 (n1.trans n2) z2)
noncomputable def gW (V:aD) (k:Nat) (sc:Scope) (t:Expr) (body:List Stmt) (n:Nat):St->Fl->St->Prop :=
 Nat.rec (motive:=fun ι=>St->Fl->St->Prop) (fun ι ι ι=>False) (fun ι F σ fl σ'=>(fl=.next/\Cd V k t sc σ false σ')\/(∃ σ1 σ2,Cd V k t sc σ true σ1/\Ex V k body sc σ1 .next σ2/\F σ2 fl σ')\/∃ σ1 v,fl=.ret v/\Cd V k t sc σ true σ1/\Ex V k body sc σ1 (.ret v) σ') n
noncomputable def GY (V:aD) (c:Cx) (t:Expr) (body:List Stmt) (N:Shared->Prop) (RR:Result->Shared->Prop) (w1:W):Prop:=∀ E:Value->Shared->Prop,
 wpAny (model V.prog V.w) c.A (isTrue t c.env (eval t c.env)) (fun b s₂ =>
  if b then wpAny (model V.prog V.w) c.A (execs body c.env) (fun f s₃=>match f with
    | .next | .cont=>N s₃
    | .brk=>RR (.ok .next) s₃
    | .ret v=>RR (.ok (.ret v)) s₃) E s₂
  else wpAny (model V.prog V.w) c.A (execs [] c.env) (fun f s₃=>RR (.ok f) s₃) E s₂) E w1.s
theorem qC {n:Nat} {N:Shared->Prop} {RR:Result->Shared->Prop} (h:gW V k sc t body n st fl st2) (r:aq V k sc c st w) (hN:∀ m st' w',m<n->Nx w w'->aq V k sc c st' w'->gW V k sc t body m st' fl st2->N w'.s)
  (hQ:∀ v w',Nx w w'->aq V k sc c st2 w'->yV v w' fl->RR (.ok v) w'.s):GY V c t body N RR w:=by
 cases n with
 | zero=>exact h.elim
 | succ n =>
 rcases h with ⟨rfl,h1⟩ | ⟨σ1,σ2,h1,h2,h3⟩ | ⟨σ1,v,rfl,h1,h2⟩
 ·exact fun E=>h1 c w r _ E fun v w1 n1 z1=>by
   obtain rfl:v=false:=z1.x
   exact (if_neg Bool.false_ne_true).mpr (by rw [execs_nil];exact wpAny_pure (hQ .next w1 n1 z1.rel rfl))
 ·exact fun E=>h1 c w r _ E fun v w1 n1 z1=>by
   obtain rfl:v=true:=z1.x
   exact (if_pos rfl).mpr (h2 c w1 z1.rel _ E fun v w2 n2 z2=>by
    obtain rfl:v=.next:=z2.2
    exact hN n σ2 w2 (Nat.lt_succ_self n) (n1.trans n2) z2.1 h3)
 ·exact fun E=>h1 c w r _ E fun b w1 n1 z1=>by
   obtain rfl:b=true:=z1.x
   exact (if_pos rfl).mpr (h2 c w1 z1.rel _ E fun f w2 n2 z2=>by
    have fin:=hQ f w2 (n1.trans n2) z2.1 z2.2
    obtain⟨u,zq,_⟩:=z2.2;clear z2;subst zq
    exact fin)
theorem ub {n:Nat} {RR:Result->Shared->Prop} (h:gW V k sc t body n st fl st1) (r:aq V k sc c st w) (hQ:∀ v w',Nx w w'->aq V k sc c st1 w'->yV v w' fl->RR (.ok v) w'.s):codeAny (model V.prog V.w) c.A (.whileLoop t body [] c.env) RR w.s :=
 codeAny_whileLoop (fun n s1=>∃ st1' w1,s1=w1.s/\Nx w w1/\aq V k sc c st1' w1/\gW V k sc t body n st1' fl st1) (fun n s1 I=>by
  obtain⟨st1',w1,zq,n1,r1,hw⟩:=I;rw [zq]
  exact qC hw r1 (N:=fun s=>∃ m,m<n/\∃ st1' w1,s=w1.s/\Nx w w1/\aq V k sc c st1' w1/\gW V k sc t body m st1' fl st1) (RR:=RR) (fun m st' w' hm n' r' h'=>(aa m hm (cQ st' w' rfl (n1.trans n') r' h'))) (fun v w' n' r' x'=>hQ v w' (n1.trans n') r' x') _) n (cQ st w rfl (Nx.refl _) r h)
theorem zv {n:Nat} (h:gW V k sc t body n st fl st1):eM V k (.While t body [] p) sc st fl st1:=fun c w r Q E hQ =>
 wpAny_While (ub h r fun v w' n' r' x'=>hQ v w' n' ⟨r',x'⟩)
theorem GZ (hs:gV V k iter sc st flag items st1) (h:oD V k flag sc t body items st1 fl st2) (hp:∀ env x,foldedSetIterable iter env x=pure x:=by exact fun ι ι=>rfl):eM V k (.For t iter body [] p) sc st fl st2:=fun c w r Q E hQ =>
 wpAny_For (hs c w r _ E fun w1 S n1 z1=>se S h (Le.refl _) z1.rel z1.x.1 z1.x.2 fun v w2 n2 r2 x2 ι=>hQ v w2 (n1.trans n2) ⟨r2,x2⟩) (hp _)
theorem aq.toF {a:Addr} {ob:Obj} (r:aq V k sc c st w) (f:ai w a) (e:w.h.get? a=some ob):aq V k sc c st (w.toF a ob):=by
 have l:Le w.F (put w.F a ob):=Le.put f.f
 refine⟨r.room,⟨⟨r.bs.ok.r,r.bs.ok.b,r.bs.ok.f.put e,r.bs.ok.rb,r.bs.ok.rf.putR f.r,r.bs.ok.bf.putR f.b,fun b q=>?_⟩,r.bs.top,r.bs.ob.move rfl rfl (Le.refl _) fun ι ι ι=>id⟩,r.cr,r.fr.lists (Le.refl _) rfl rfl (fun b o q ι=>l b o q) (fun y s hy=>?_) fun y ds hy=>⟨ds,hy⟩⟩
 ·obtain⟨h1,h2,h3,h4⟩:=r.bs.ok.o b q
  exact (a7 h1 h2 h3 (fR h4 fun z=>q (z▸f.o)))
 ·obtain⟨u,kk,g1,g2,g3⟩:=r.fr.vals y s hy
  exact (aF u kk g1 (g2.move (bD.refl _) (Le.refl _) fun ι ι ι q=>l _ _ q) g3)
noncomputable def bW (sc:Scope) (x:Str):Prop:=sc.names.lookup x=some .local\/sc.names.lookup x=some .cell
theorem Do.storeR {v:Value} (hk:bW sc x) (r:aq V k sc c st w) (y:qn w v rv):Do V c.A (storeName c.env x v) w fun ι w'=>aq V k sc c ⟨aG st.ρ x rv.slot,st.G⟩ w':=by
 cases rv with
 | val av=>exact iV hk r y gF.val
 | own ds =>
  obtain⟨a,vs,n,zq,e,f,rs⟩:=y;rw [zq]
  refine Do.to (w':=w.toF a (ae vs n)) (iV (sl:=.lst ds) hk (r.toF f e) (cA a vs n rfl (aK ..) rs) fun a' ds1 e1 e2 y ds' hy hyl hv=>?_) ⟨bD.refl _,Le.refl _,rfl,w.s.heap,w.s.toks,rfl⟩ rfl
  cases e2
  obtain⟨b,us,m,q1,q2,_⟩:=r.slotv hyl hv
  cases q1
  rw [f.f] at q2;cases q2
theorem oN (h:Ev V k e sc st rv st1) (hk:bW sc x) (hs:∀ env,swapsWith e (some (.Name x xp)) p.line env=pure false:=by exact fun ι=>rfl):eM V k (.Assign [.Name x xp] e p) sc st .next ⟨aG st1.ρ x rv.slot,st1.G⟩:=fun c w r Q E hQ =>
 wpAny_Assign_Name (h c w r _ E fun v w1 n1 z1=>Do.storeR hk z1.rel z1.x _ E fun ι w2 n2 r2=>hQ _ w2 (n1.trans n2) ⟨r2,rfl⟩) (hs _)
theorem uc (h:eK V k e sc st av st1) (hk:bW sc x) (hs:∀ env,swapsWith e (some (.Name x xp)) p.line env=pure false:=by exact fun ι=>rfl):eM V k (.Assign [.Name x xp] e p) sc st .next ⟨aG st1.ρ x (.val av),st1.G⟩:=oN h.v hk hs
theorem ud {ifs:List Expr} {scope:Scope} {ρ0 ρ1 ρ':Rho} {G':List GObj} (hs:gV V k iter sc st flag items st1) (hz:vj st1.ρ ρ1) (hc:Da ρ1 scope ρ0) (hC:kc V k flag scope t ifs elt items ⟨ρ0,st1.G⟩ ds ⟨ρ',G'⟩) (hl:items.length<=lim) (hk:bW sc x) (ho:eA sc scope=true:=by rfl)
  (hp:∀ env x,foldedSetIterable iter env x=pure x:=by exact fun ι ι=>rfl):eM V k (.Assign [.Name x xp] (.ListComp elt [⟨t,iter,ifs,0⟩] scope pos) p) sc st .next ⟨aG ρ1 x (.lst ds),G'⟩:=fun c w r Q E hQ=>by
 obtain⟨b,hsw⟩:∃ b,swapsWith (.ListComp elt [⟨t,iter,ifs,0⟩] scope pos) (some (.Name x xp)) p.line c.env=pure b:=⟨_,rfl⟩
 cases b with
 | false=>exact wpAny_Assign_Name (vW hs hz hc hC hl ho hp c w r _ E fun v w1 n1 z1=>Do.storeR hk z1.rel z1.x _ E fun ι w2 n2 r2=>hQ _ w2 (n1.trans n2) ⟨r2,rfl⟩) hsw
 | true =>
  rw [exec_Assign_Name_used _ _ _ _ hsw]
  refine wpAny_bind (wpAny_standAt (wpAny_bind ?_))
  show wpAny _ c.A (do let _ <- comprehension (.ListComp elt [⟨t,iter,ifs,0⟩] scope pos) scope c.env _ (newList []) false (eval iter c.env) (some (assign (.Name x xp) c.env))) _ _ w.s
  refine wpAny_bind (wpAny_mono (qA (use:=some (assign (.Name x xp) c.env)) (Q:=fun ι s'=>Q .next s') hs.any hp hz ho hc hC hl r fun w1 D L vs n oL m n1 vm rel fD eD rs fL eL nL ne ι=>?_) (fun ι s' hq=>wpAny_pure (wpAny_pure hq)) fun ι ι e=>e)
  show wpAny _ c.A (assign (.Name x xp) c.env (.ref D)) _ _ _
  have hT:∀ a o,one L oL a=some o->ai w1 a/\w1.h.get? a=some o:=fun a o q=>by
   by_cases z:a=L
   ·clear ne ι;subst z;rw [da] at q;rw [<- q];exact⟨fL,eL⟩
   ·rw [eW z] at q;cases q
  have r1:aq V k sc c ⟨ρ1,G'⟩ (w1.toR (one L oL)):=⟨rel.room,⟨rel.bs.ok.toR hT,rel.bs.top,rel.bs.ob.move rfl rfl (Le.refl _) fun ι ι ι=>id⟩,fun b o q=>cX (q:=one L oL) (rel.cr b o q),rel.fr.move (bD.refl _) (Le.refl _) rfl rfl⟩
  refine wpAny_assign_Name ((Do.storeR (w:=w1.toR (one L oL)) (rv:=.own ds) hk r1 (dy D vs n rfl eD ⟨cY.mpr ⟨fD.r,eW ne.symm⟩,fD.b,fD.f,fD.o⟩ rs)) _ E fun ι w2 n2 r2=>?_)
  obtain⟨ok2,h2⟩:=r2.bs.ok.outR n2.r fun b q=>by
   by_cases z:b=L
   ·rw [z];exact fL.r
   ·exact absurd (eW z) q
  obtain⟨f2,e2⟩:=h2 L oL (da _ _)
  refine (aa m (nL.ns e2) (fun h3 hs3=>?_))
  have rel2:aq V k sc c ⟨aG ρ1 x (.lst ds),G'⟩ (w2.inR w1.R):=⟨r2.room,⟨ok2,r2.bs.top,r2.bs.ob.move rfl rfl (Le.refl _) fun ι ι ι=>id⟩,rel.cr,r2.fr.move (bD.refl _) (Le.refl _) rfl rfl⟩
  exact hQ .next ((w2.inR w1.R).to h3 w2.s.toks) (n1.trans ⟨n2.g,n2.b,rfl,by
   obtain⟨h',n',e'⟩:=n2.s
   exact (mF h3 w2.s.toks (by show ({ w2.s with heap:=h3,toks:=w2.s.toks }:Shared)=_;rw [e'];rfl))⟩) ⟨rel2.to (fun b o nf e=>(hs3.2 b fun z=>nf (z▸f2)).trans e) _,rfl⟩
end
inductive gC:W->List Value->List RV->Prop
 | nil {w:W}:gC w [] []
 | val {w:W} {v:Value} {av:ab} {vs:List Value} {rs:List RV}:VR w.γ w.B v av->gC w vs rs->gC w (v::vs) (.val av::rs)
 | own {w:W} {a:Addr} {us vs:List Value} {n:Nat} {ds:List PyData} {rs:List RV}:w.h.get? a=some (ae us n)->ai w a->cP w.B us ds->gC (w.toR (one a (ae us n))) vs rs->gC w (.ref a::vs) (.own ds::rs)
theorem gC.len {w:W} {vs rs} (h:gC w vs rs):vs.length=rs.length:=by
 induction h with
 | nil=>rfl
 | val _ _ ih=>exact congrArg Nat.succ ih
 | own _ _ _ _ ih=>exact congrArg Nat.succ ih
theorem gC.to {w:W} {vs rs} (h:gC w vs rs) {h':Heap} (k:∀ b o,w.h.get? b=some o->h'.get? b=some o) (n:Nat):gC (w.to h' n) vs rs:=by
 induction h with
 | nil=>exact .nil
 | val a _ ih=>exact .val a (ih k)
 | own e f r _ ih=>exact .own (k _ _ e) (f.to n) r (ih k)
structure oO (w:W) (ρ:Rho) (l:List (Value×Slot)):Prop where
 r:∀ p∈l,cT w p.1 p.2
 o:∀ p∈l,∀ ds,p.2=.lst ds->∀ y ds',af ρ y=some (.lst ds')->w.vm y≠some p.1
 d:l.Pairwise fun p q=>∀ ds ds',p.2=.lst ds->q.2=.lst ds'->p.1≠q.1
noncomputable def oP:Rho->List Str->List Slot->Rho
 | ρ,x::xs,v::vs=>oP (aG ρ x v) xs vs
 | ρ,_,_=>ρ
noncomputable def qD (V:aD) (k:Nat) (es:List Expr) (sc:Scope) (st:St) (rs:List RV) (st':St):Prop :=
 es.all bu=true/\∀ (c:Cx) (w:W) (pos:Pos),aq V k sc c st w->Do V c.A (spliced (backTo pos (starEach es c.env))) w fun vs=>iR V k sc c w st' fun w'=>gC w' vs rs
section
variable {V:aD} {k:Nat} {sc:Scope} {c:Cx} {st st' st1 st2 st3:St} {w w':W} {A:Around} {e i:Expr} {es ts:List Expr} {p pos xp ip p1 p2:Pos} {ds:List PyData} {d a b:PyData} {av:ab} {rv:RV} {rs:List RV} {x:Str} {xs:List Str} {i1 i2:Nat}
theorem aq.toR1 {a:Addr} {o:Obj} (r:aq V k sc c st w) (f:ai w a) (e:w.h.get? a=some o):aq V k sc c st (w.toR (one a o)) :=
 ⟨r.room,⟨r.bs.ok.toR (fun b ob q=>by
  by_cases z:b=a
  ·subst z;rw [da] at q;rw [<- q];exact⟨f,e⟩
  ·rw [eW z] at q;cases q),r.bs.top,r.bs.ob.move rfl rfl (Le.refl _) fun ι ι ι=>id⟩,fun b ob q=>cX (q:=one a o) (r.cr b ob q),r.fr.move (bD.refl _) (Le.refl _) rfl rfl⟩
theorem aq.outR1 {a:Addr} {o:Obj} (r:aq V k sc c st w') (e:w'.R=un w.R (one a o)) (f:w.R a=none) (cr:Le c.C w.R):aq V k sc c st (w'.inR w.R)/\ai (w'.inR w.R) a/\w'.h.get? a=some o:=by
 obtain⟨ok,h⟩:=r.bs.ok.outR e fun b q=>by
  by_cases z:b=a
  ·rw [z];exact f
  ·exact absurd (eW z) q
 obtain⟨f1,e1⟩:=h a o (da _ _)
 exact (am ⟨r.room,⟨ok,r.bs.top,r.bs.ob.move rfl rfl (Le.refl _) fun ι ι ι=>id⟩,cr,r.fr.move (bD.refl _) (Le.refl _) rfl rfl⟩ f1 e1)
theorem zw {T:PM} (e:w'.R=un w.R T):(w'.inR w.R).toR T=w':=by
 delta W.inR W.toR
 rw [<- e]
theorem De:qD V k [] sc st [] st:=⟨rfl,fun c w pos r Q E hQ=>PySem.Calls.spliced_nil (hQ [] w (Nx.refl _) ⟨rfl,r,.nil⟩)⟩
theorem zy (h:Ev V k e sc st rv st1) (h':qD V k es sc st1 rs st2) (hp:bu e=true:=by rfl):qD V k (e::es) sc st (rv::rs) st2 :=
 ⟨by rw [List.all_cons,hp];exact h'.1,fun c w pos r Q E hQ=>by
  rw [aP hp]
  refine PySem.Calls.spliced_cons (h c w r _ E fun v w1 n1 z1=>?_)
  have x1:=z1.x
  cases rv with
  | val av=>exact h'.2 c w1 pos z1.rel _ E fun vs w2 n2 z2=>hQ (v::vs) w2 (n1.trans n2) ⟨z2.vm.trans z1.vm,z2.rel,.val (VR.le n2.g n2.b x1) z2.x⟩
  | own ds =>
   obtain⟨a,us,n,zq,ea,fa,rd⟩:=x1;rw [zq]
   refine h'.2 c (w1.toR (one a (ae us n))) pos (z1.rel.toR1 fa ea) _ E fun vs w2 n2 z2=>?_
   obtain⟨r3,f3,e3⟩:=z2.rel.outR1 n2.r fa.r z1.rel.cr
   exact hQ (.ref a::vs) (w2.inR w1.R) (n1.trans ⟨n2.g,n2.b,rfl,n2.s⟩) ⟨z2.vm.trans z1.vm,r3,.own e3 f3 (rd.le n2.b) (by rw [zw n2.r];exact z2.x)⟩⟩
theorem gC.toF {vs:List Value} (h:gC w vs rs):aq V k sc c st w->∃ w',Nx w w'/\w'.s=w.s/\w'.vm=w.vm/\(∀ a o,w.F a=some o->w'.F a=some o)/\aq V k sc c st w'/\oO w' st.ρ (vs.zip (rs.map RV.slot)):=by
 induction h with
 | nil=>exact fun r=>(og _ (Nx.refl _) rfl rfl (fun ι ι=>id) r ⟨fun ι h=>(nomatch h),fun ι h=>(nomatch h),.nil⟩)
 | @val w v av vs rs hv _ ih =>
  intro r
  obtain⟨w',n,s,vm,kf,r',row⟩:=ih r
  refine (og w' n s vm kf r' ⟨fun p hp=>?_,fun p hp=>?_,.cons (fun q ι ds ds' e=>(nomatch e)) row.d⟩)
  ·rcases List.mem_cons.mp hp with rfl | hp
   ·exact VR.le n.g n.b hv
   ·exact row.r p hp
  ·rcases List.mem_cons.mp hp with rfl | hp
   ·exact fun ds e=>nomatch e
   ·exact row.o p hp
 | @own w a us vs m ds rs e f rd _ ih =>
  intro r
  obtain⟨w',n,s,vm,kf,r',row⟩:=ih (r.toR1 f e)
  obtain⟨r3,f3,e3⟩:=r'.outR1 n.r f.r r.cr
  have l:Le w'.F (put w'.F a (ae us m)):=Le.put f3.f
  have na:∀ y ds',af _ y=some (.lst ds')->w'.vm y≠some (.ref a):=fun y ds' hy hv=>by
   obtain⟨b,us',m',q1,q2,_⟩:=r3.slotv hy hv
   cases q1
   rw [f3.f] at q2;exact nomatch q2
  refine (og ((w'.inR w.R).toF a (ae us m)) ⟨n.g,n.b,rfl,n.s⟩ s vm (fun b o q=>l b o (kf b o q)) (r3.toF f3 e3) ⟨fun p hp=>?_,fun p hp=>?_,.cons (fun q hq ds1 ds2 e1 e2 e4=>?_) row.d⟩)
  ·rcases List.mem_cons.mp hp with rfl | hp
   ·exact (cA a us m rfl (aK ..) (rd.le n.b))
   ·exact (row.r p hp).move (bD.refl _) (Le.refl _) fun b vs n q=>l b _ q
  ·rcases List.mem_cons.mp hp with rfl | hp
   ·exact fun ds ι y ds' hy=>na y ds' hy
   ·exact row.o p hp
  ·have q':=row.r q hq
   rw [e2] at q'
   obtain⟨b,us',m',g1,g2,_⟩:=q'
   have e4':Value.ref a=q.1:=e4
   rw [g1] at e4';clear g1;cases e4'
   have:=f3.f;rw [show (w'.inR w.R).F a=some (ae us' m') from g2] at this;exact nomatch this
noncomputable def vY (V:aD) (env:Env) (t:Value->Sem Unit) (x:Str):Prop:=∀ (A:Around) (v:Value) (s:Shared) (Q:Unit->Shared->Prop) (E:Value->Shared->Prop),wpAny (model V.prog V.w) A (storeName env x v) Q E s->wpAny (model V.prog V.w) A (t v) Q E s
theorem Do.storeN' {sl:Slot} {v:Value} (hk:bW sc x) (r:aq V k sc c st w) (hs:cT w v sl) (ho:gF w x v st.ρ sl):Do V c.A (storeName c.env x v) w fun ι w'=>aq V k sc c ⟨aG st.ρ x sl,st.G⟩ w'/\J0 w w' x v :=
 hk.elim (fun e=>Do.storeX r e (.inl rfl) hs ho) fun e=>Do.storeX r e (.inr rfl) hs ho
theorem oO.step {ρ:Rho} {v:Value} {sl:Slot} {l:List (Value×Slot)} (h:oO w ρ ((v,sl)::l)) (s:J0 w w' x v):oO w' (aG ρ x sl) l :=
 ⟨fun p hp=>(h.r p (List.mem_cons_of_mem _ hp)).move (by rw [s.g];exact bD.refl _) (by rw [s.b];exact Le.refl _) s.f,fun p hp ds e y ds' hy hv=>by
  rw [s.v] at hv
  rw [cC] at hy
  by_cases z:y=x
  ·rw [if_pos z] at hy
   simp only [z,if_true] at hv
   cases hy
   exact (List.pairwise_cons.mp h.d).1 p hp ds' ds rfl e (Option.some.inj hv)
  ·rw [if_neg z] at hy
   simp only [z,if_false] at hv
   exact h.o p (List.mem_cons_of_mem _ hp) ds e y ds' hy hv,(List.pairwise_cons.mp h.d).2⟩
theorem oQ {tt:List (Value->Sem Unit)} (ht:All2 (vY V c.env) tt xs) (hk:∀ x∈xs,bW sc x):∀ {st:St} {w:W} {l:List (Value×Slot)},aq V k sc c st w->oO w st.ρ l->l.length=xs.length ->
  Do V c.A (assignInOrder tt (l.map (·.1))) w fun ι w'=>aq V k sc c ⟨oP st.ρ xs (l.map (·.2)),st.G⟩ w':=by
 induction ht with
 | nil =>
  intro st w l r hl hn
  cases l with
  | nil=>exact fun Q E hQ=>wpAny_assignInOrder_none (hQ _ w (Nx.refl _) r)
  | cons _ _=>exact nomatch hn
 | @cons t x tt xs h1 _ ih =>
  intro st w l r hl hn
  cases l with
  | nil=>cases hn
  | cons pr l =>
   obtain⟨v,sl⟩:=pr
   intro Q E hQ
   refine wpAny_assignInOrder_more (h1 c.A v _ _ E (Do.storeN' (hk x (List.mem_cons_self ..)) r (hl.r _ (List.mem_cons_self ..)) (fun a ds e1 e2 y ds' hy hyl hv=>hl.o _ (List.mem_cons_self ..) ds e1 y ds' hyl (by rw [hv,<- e2])) _ E fun ι w1 n1 z1=>?_))
   exact ih (fun y hy=>hk y (List.mem_cons_of_mem _ hy)) z1.1 (hl.step z1.2) (Nat.succ.inj hn) Q E fun u w2 n2 r2=>hQ u w2 (n1.trans n2) r2
theorem ue {env:Env} (hes:All2 (fun e x=>∃ p,e=.Name x p) ts xs):All2 (vY V env) ((assignEach ts env).map (·.2)) xs:=by
 induction hes with
 | nil=>exact .nil
 | @cons e x es xs he _ ih =>
  obtain⟨p,zq⟩:=he;rw [zq]
  exact .cons (fun A v s Q E h=>wpAny_assign_Name h) ih
theorem zA {env:Env}:All2 (vY V env) (xs.map fun n=>bindName env n) xs:=by
 induction xs with
 | nil=>exact .nil
 | cons x xs ih=>exact .cons (fun A v s Q E h=>by
   show wpAny (model V.prog V.w) A (bindName env x v) Q E s
   unfold bindName
   exact wpAny_bind (wpAny_holding (wpAny_point (wpAny_bind (wpAny_mono h (fun ι ι h'=>wpAny_point h') fun ι ι e=>e))))) ih
theorem mP {α β:Type}:∀ {l:List α} {m:List β},l.length=m.length->(l.zip m).map (·.1)=l:=by
 intro l
 induction l with
 | nil =>
  intro m
  cases (m) with
  | nil =>
   intro ι
   exact rfl
  | cons ι ι =>
   intro h
   exact nomatch h
 | cons a l ih =>
  intro m
  cases (m) with
  | cons b m =>
   intro h
   exact congrArg (a::·) (ih (Nat.succ.inj h))
  | nil =>
   intro h
   exact nomatch h
theorem mQ {α β:Type}:∀ {l:List α} {m:List β},l.length=m.length->(l.zip m).map (·.2)=m
 | [],[],_=>rfl
 | a::l,b::m,h=>congrArg (b::·) (mQ (Nat.succ.inj h))
 | [],_::_,h=>nomatch h
 | _::_,[],h=>nomatch h
theorem qE {vs:List Value} {tt:List (Value->Sem Unit)} (ht:All2 (vY V c.env) tt xs) (hk:∀ x∈xs,bW sc x) (hl:rs.length=xs.length) (r:aq V k sc c st w) (ho:gC w vs rs):Do V c.A (assignInOrder tt vs) w fun ι w'=>aq V k sc c ⟨oP st.ρ xs (rs.map RV.slot),st.G⟩ w':=by
 obtain⟨w',n,s,vm,_,r',row⟩:=ho.toF r
 have e:vs.length=(rs.map RV.slot).length:=ho.len.trans (List.length_map ..).symm
 have q:=oQ ht hk r' row (by rw [List.length_zip,<- e,Nat.min_self,ho.len];exact hl)
 rw [mP e,mQ e] at q
 exact Do.to q n s
theorem oO.rev {ρ:Rho} {l:List (Value×Slot)} (h:oO w ρ l):oO w ρ l.reverse :=
 ⟨fun p hp=>h.r p (List.mem_reverse.mp hp),fun p hp=>h.o p (List.mem_reverse.mp hp),List.pairwise_reverse.mpr (h.d.imp fun h ds ds' e1 e2 e3=>h ds' ds e2 e1 e3.symm)⟩
theorem oR {vs:List Value} {tt:List (Value->Sem Unit)} (ht:All2 (vY V c.env) tt xs.reverse) (hk:∀ x∈xs,bW sc x) (hl:rs.length=xs.length) (r:aq V k sc c st w) (ho:gC w vs rs):Do V c.A (assignInOrder tt vs.reverse) w fun ι w'=>aq V k sc c ⟨oP st.ρ xs.reverse (rs.map RV.slot).reverse,st.G⟩ w':=by
 obtain⟨w',n,s,vm,_,r',row⟩:=ho.toF r
 have e:vs.length=(rs.map RV.slot).length:=ho.len.trans (List.length_map ..).symm
 have q:=oQ ht (fun x hx=>hk x (List.mem_reverse.mp hx)) r' row.rev (by rw [List.length_reverse,List.length_reverse,List.length_zip,<- e,Nat.min_self,ho.len];exact hl)
 rw [List.map_reverse,List.map_reverse,mP e,mQ e] at q
 exact Do.to q n s
noncomputable def kg (sc:Scope):Env:={ scope:=sc,locals:=0,globals:=0,cells:=[] }
theorem uf {env:Env} (hs:sc.kind=.function) (hb:env.scope.kind=.function) (hk:∀ x p,Expr.Name x p∈ts->(env.kindOf x==some .local)=(sc.names.lookup x==some .local)):swappedStores [.Tuple ts i1 p1] (.Tuple es i2 p2) env=swappedStores [.Tuple ts i1 p1] (.Tuple es i2 p2) (kg sc):=by
 have b1:env.blockKind=.function:=by unfold Env.blockKind;rw [hb];rfl
 have b2:(kg sc).blockKind=.function:=by delta Env.blockKind kg;dsimp only;rw [hs];rfl
 have hk':∀ x p,Expr.Name x p∈ts->(env.kindOf x==some .local)=((kg sc).kindOf x==some .local):=hk
 unfold swappedStores
 rw [b1,b2]
 have hm:∀ (line:Nat) (l:List Expr),(∀ x p,Expr.Name x p∈l->(env.kindOf x==some .local)=((kg sc).kindOf x==some .local))->(l.filterMap fun
   | .Name id pos=>if env.kindOf id==some .local&&pos.line==line then some id else none
   | _=>none)=l.filterMap fun
   | .Name id pos=>if (kg sc).kindOf id==some .local&&pos.line==line then some id else none
   | _=>none:=by
  intro line l
  induction l with
  | nil=>exact fun ι=>rfl
  | cons e l ih =>
   intro hl
   have ih':=ih fun x p hx=>hl x p (List.mem_cons_of_mem _ hx)
   rw [List.filterMap_cons,List.filterMap_cons,ih']
   cases e with
   | Name x p=>simp only [hl x p (List.mem_cons_self ..)]
   | _=>rfl
 have hm':=hm ((ts.head?.map (·.pos.line)).getD 0) ts hk'
 dsimp only
 generalize hnm:List.filterMap _ ts=nm
 generalize hnm2:List.filterMap _ ts=nm2
 have e:=hnm.symm.trans (hm'.trans hnm2)
 clear hnm2;subst e
 rfl
theorem iS.swp {ρ:Rho} (f:iS sc c ρ w) (hs:sc.kind=.function) (hes:All2 (fun e x=>∃ p,e=.Name x p) ts xs) (hk:∀ x∈xs,bW sc x):swappedStores [.Tuple ts i1 p1] (.Tuple es i2 p2) c.env=swappedStores [.Tuple ts i1 p1] (.Tuple es i2 p2) (kg sc):=by
 refine uf hs f.kind fun x p hx=>?_
 obtain⟨j,hj⟩:=List.getElem?_of_mem hx
 obtain⟨y,hy,q,e⟩:=hes.get' hj
 cases e
 rcases hk x (List.mem_of_getElem? hy) with e | e<;>rw [f.knd x _ e nofun,e]
theorem kh (ts:List Expr) (i:Nat) (p:Pos) (e:Expr) (l:Nat) (env:Env):swapsWithSole [.Tuple ts i p] e l env=pure false:=by
 cases e<;>rfl
theorem oS (hr:qD V k es sc st rs st1) (hz:rs.length<=lim) (r:aq V k sc c st w) {K E:Value->Shared->Prop} (hK:∀ w' T vs,Nx w w'->aq V k sc c st1 w'->gC w' vs rs->w'.h.IsTuple T vs.toArray->K (.ref T) w'.s):wpAny (model V.prog V.w) c.A (eval (.Tuple es i2 p2) c.env) K E w.s :=
 wpAny_Tuple (hr.2 c w _ r _ E fun vs w1 n1 z1=>⟨aT (by rw [z1.x.len];exact hz),hK (w1.to (w1.h.push (bo vs)) w1.s.toks) _ vs (n1.trans (Nx.to ..)) (z1.rel.to (Kp.push w1 _) _) (z1.x.to (fun ι ι e=>Heap.get?_push_of_some _ e) _) (aB _ (Heap.get?_push_size _ rfl) rfl ⟨0,rfl⟩)⟩)
theorem sk {h h':Heap} (hx:Heap.ExtBut h.objs.size h h'):∀ b o,h.get? b=some o->h'.get? b=some o:=fun b o e=>hx b o (Nat.ne_of_lt (Heap.lt_size e)) e
theorem G4 (hr:qD V k es sc st rs st1) (hes:All2 (fun e x=>∃ p,e=.Name x p) ts xs) (hk:∀ x∈xs,bW sc x) (hl:rs.length=xs.length) (hz:rs.length<=lim) (hs:sc.kind=.function) (hw:swappedStores [.Tuple ts i1 p1] (.Tuple es i2 p2) (kg sc)=pure none) :
  eM V k (.Assign [.Tuple ts i1 p1] (.Tuple es i2 p2) p) sc st .next ⟨oP st1.ρ xs (rs.map RV.slot),st1.G⟩:=fun c w r Q E hQ =>
 Assign_Tuple (oS hr hz r fun w1 T vs n1 r1 ho ht=>by
  obtain⟨s1,s2⟩:=je c.env hes
  refine wpAny_assign_Tuple r1.room.h ht (by rw [s1,<- hl,<- ho.len];rfl) s2 fun h' hx=>?_
  have up:=sk hx
  exact qE (ue hes) hk hl (r1.to (Kp.all up) w1.s.toks) (ho.to up _) _ E fun ι w2 n2 r2=>hQ _ w2 (n1.trans ((Nx.to ..).trans n2)) ⟨r2,rfl⟩) (kh ..) ((r.fr.swp hs hes hk).trans hw)
theorem Df (hr:qD V k es sc st rs st1) (hes:All2 (fun e x=>∃ p,e=.Name x p) ts xs) (hk:∀ x∈xs,bW sc x) (hl:rs.length=xs.length) (hz:rs.length<=lim) (hs:sc.kind=.function) (hw:swappedStores [.Tuple ts i1 p1] (.Tuple es i2 p2) (kg sc)=pure (some xs)) :
  eM V k (.Assign [.Tuple ts i1 p1] (.Tuple es i2 p2) p) sc st .next ⟨oP st1.ρ xs.reverse (rs.map RV.slot).reverse,st1.G⟩:=fun c w r Q E hQ =>
 Assign_Tuple_swapped (oS hr hz r fun w1 T vs n1 r1 ho ht=>by
  have e1:xs.length=vs.toArray.size:=by rw [List.size_toArray,ho.len,hl]
  rw [e1]
  refine wpAny_unpackItems_tuple r1.room.h ht fun h' hx=>?_
  have up:=sk hx
  exact oR zA hk hl (r1.to (Kp.all up) w1.s.toks) (ho.to up _) _ E fun ι w2 n2 r2=>hQ _ w2 (n1.trans ((Nx.to ..).trans n2)) ⟨r2,rfl⟩) (kh ..) ((r.fr.swp hs hes hk).trans hw)
end
noncomputable def J9 (x:PyData ⊕ Nat):ab:=Sum.elim ab.dat ab.obj x
inductive vZ:ab->List ab->Prop
 | dat {row:List PyData}:vZ (.dat (.tuple row)) (row.map .dat)
 | tup {l:List (PyData ⊕ Nat)}:vZ (.tup l) (l.map J9)
section
variable {V:aD} {k:Nat} {sc:Scope} {c:Cx} {st st' st1 st2 st3:St} {w w':W} {A:Around} {e i:Expr} {es ts:List Expr} {p pos xp ip tp:Pos} {ds ds0 ys:List PyData} {d a b:PyData} {av:ab} {rv:RV} {as:List ab} {x:Str} {xs:List Str} {n:Nat} {j:Int} {op:Operator} {G:List GObj}
theorem Dg {γ:List Addr} {B:PM} {v:Value} {y:PyData ⊕ Nat} (h:V0 γ B v y):VR γ B v (J9 y):=by
 cases y with
 | inl d=>exact h
 | inr k=>exact h
theorem vZ.run (h:vZ av as) (b:Bs V w G) {v:Value} (x:VR w.γ w.B v av):∃ T vs,v=.ref T/\w.h.IsTuple T vs.toArray/\qm w.γ w.B vs as:=by
 cases h with
 | dat =>
  obtain⟨T,vs,zq,e,rs⟩:=Rd.isTup x;rw [zq]
  exact (aF T vs rfl (aB _ (b.in _ _ e) rfl ⟨_,rfl⟩) (mJ rs))
 | tup =>
  obtain⟨T,vs,zq,e,rs⟩:=x;rw [zq]
  exact (aF T vs rfl (aB _ (b.in _ _ e) rfl ⟨_,rfl⟩) (All2.mapR (rs.imp fun ι ι=>Dg)))
theorem oU (h:eK V k e sc st av st1) (hv:vZ av as) (hes:All2 (fun e x=>∃ p,e=.Name x p) ts xs) (hk:∀ x∈xs,bW sc x) (hl:as.length=xs.length) (hw:∀ env,swappedStores [.Tuple ts n tp] e env=pure none:=by exact fun ι=>rfl) :
  eM V k (.Assign [.Tuple ts n tp] e p) sc st .next ⟨eZ st1.ρ xs as,st1.G⟩:=fun c w r Q E hQ =>
 Assign_Tuple (h c w r _ E fun v w1 n1 z1=>by
  obtain⟨T,vs,zq,ht,hvs⟩:=hv.run z1.rel.bs z1.x;rw [zq]
  exact gU hes hk z1.rel ht hvs hl _ E fun ι w2 n2 r2=>hQ _ w2 (n1.trans n2) ⟨r2,rfl⟩) (kh ..) (hw _)
theorem gJ {prog:Program} {wd:World} {A:Around} {s:Shared} {E:Value->Shared->Prop} {l:Addr} {vs:List Value} {n:Nat} {k:Int} {t:Tok} {v:Value} {Q:Unit->Shared->Prop} (ho:s.heap.get? l=some (ae vs n))
  (h0:0<=k) (hfit:k<2 ^ 63) (hn:k<vs.length) (hQ:∀ h' n',h'.get? l=some (ae (vs.set k.toNat v) n')->Heap.SameBut l s.heap h'->Q () { s with heap:=h' }) :
  wpAny (model prog wd) A (setItem (.ref l) (.int k t) v) Q E s:=by
 have hl:s.heap.IsList l vs.toArray:=(aB _ ho rfl ⟨n,rfl⟩)
 have hd:(ae vs n).data=.seq vs.toArray n:=rfl
 delta setItem
 try with_reducible refine wpAny_holding ?_
 first | refine wpAny_bind (wpAny_pure ?_) | skip
 refine wpAny_bind (wpAny_sequenceKey hl.typeIs (by decide) ?_)
 refine wpAny_bind (wpAny_callSpecial?_slot (name:=Str.ofString "__setitem__") hl.typeIs slot_list_setitem
  (wpAny_call_entry slot_list_setitem hl.typeIs entry_list_setitem ?_ (args_list_setitem _ _ _)))
 show wpAny _ _ (Builtin.List.listSubscript? (.int k t) >>= _) _ _ s
 refine wpAny_bind (wpAny_listSubscript_int (fitsIndex_of h0 hfit) ?_)
 clear hfit
 obtain⟨j,zq⟩:=Int.eq_ofNat_of_zero_le h0;clear h0;subst zq
 have hj:j<vs.toArray.size:=by simp;omega
 have hx':vs.toArray[j]?=some vs.toArray[j]:=Array.getElem?_eq_getElem hj
 show wpAny _ _ ((seqItemAt l j >>= fun r=>pure (r.map (j,·))) >>= _) _ _ s
 refine wpAny_bind (wpAny_bind (wpAny_seqItemAt ho hd (wpAny_pure ?_)))
 rw [hx']
 show wpAny _ _ (setSeqItemAt l j v >>= _) _ _ s
 obtain⟨n',hfin⟩:=gr (w:={ γ:=[],own:=fun ι=>none,R:=emp,B:=emp,F:=emp,vm:=fun ι=>none,s:=s }) (f:=fun xs=>xs.setIfInBounds j v) (vs':=vs.set j v) ho (by simp)
 refine wpAny_bind (wpAny_setSeqItemAt ho hd ?_)
 first
  | exact wpAny_bind (wpAny_pure (wpAny_pure (aa .none rfl (wpAny_pure (hQ _ n' hfin (Heap.SameBut.update ..))))))
  | exact wpAny_pure (aa .none rfl (wpAny_pure (hQ _ n' hfin (Heap.SameBut.update ..))))
theorem BF {j:Int} {vs:List Value} (h1:j<ds.length) (hz:ds.length<=lim) (hl:vs.length=ds.length):j<2 ^ 63/\j<vs.length:=by
 have:lim=1000000:=rfl
 constructor<;>omega
theorem gK {o i:Expr} {l:Nat} (env:Env):swapsWith e (some (.Subscript o i ip)) l env=pure false:=by cases e<;>rfl
set_option tactic.hygienic true in
theorem Dh (h:bH V k e sc st d st1) (hx:af st1.ρ x=some (.lst ds0)) (hi:bH V k i sc st1 (.int j) st2) (hx':af st2.ρ x=some (.lst ds)) (h0:0<=j) (h1:j<ds.length) (hz:ds.length<=lim):eM V k (.Assign [.Subscript (.Name x xp) i ip] e p) sc st .next ⟨aG st2.ρ x (.lst (ds.set j.toNat d)),st2.G⟩:=fun c w r Q E hQ =>
 wpAny_Assign_Subscript (h c w r _ E fun v w1 n1 z1=>by
  obtain⟨u,hu,_⟩:=z1.rel.slot hx
  refine Do.nameV z1.rel hx hu _ E fun u' w1' n1' zz=>?_
  obtain⟨zq,rfl⟩:=zz;rw [zq]
  refine hi c w1' z1.rel _ E fun iv w2 n2 z2=>?_
  obtain⟨t,zq⟩:=z2.x.isInt;rw [zq]
  have hv:=z2.vm▸hu
  obtain⟨a,vs,m,zq,ea,rs⟩:=z2.rel.lstOf hx' hv;clear n1';subst zq
  obtain⟨f1,f2⟩:=BF h1 hz rs.len
  exact gJ (s:=w2.s) ea h0 f1 f2 fun h' n' e' hs=>hQ .next (w2.toFF h' w2.s.toks (put w2.F a (ae (vs.set j.toNat v) n'))) (n1.trans (n2.trans ⟨bD.refl _,Le.refl _,rfl,h',w2.s.toks,rfl⟩)) ⟨z2.rel.setList hx' hv hs e' (rs.set j.toNat (z1.x.le n2.b)) _,rfl⟩) (gK _)
theorem Di {o:Expr} {q:Nat} (h:bH V k e sc st d st1) (ho:eK V k o sc st1 (.obj q) st2) (hi:bH V k i sc st2 (.int j) st3) (hg:st3.G[q]?=some (.lst ds)) (h0:0<=j) (h1:j<ds.length) (hz:ds.length<=lim):eM V k (.Assign [.Subscript o i ip] e p) sc st .next ⟨st3.ρ,st3.G.set q (.lst (ds.set j.toNat d))⟩:=fun c w r Q E hQ =>
 wpAny_Assign_Subscript (h c w r _ E fun v w1 n1 z1=>ho c w1 z1.rel _ E fun ov w2 n2 z2=>by
  obtain⟨a0,zq,ha⟩:=z2.x;rw [zq]
  refine hi c w2 z2.rel _ E fun iv w3 n3 z3=>?_
  obtain⟨t,zq⟩:=z3.x.isInt;rw [zq]
  have ha':=n3.g _ _ ha
  obtain⟨a,vs,m,q1,ea,rs⟩:=z3.rel.bs.ob.lst hg ha'
  cases q1
  obtain⟨f1,f2⟩:=BF h1 hz rs.len
  exact gJ (s:=w3.s) ea h0 f1 f2 fun h' n' e' hs=>hQ .next (w3.to h' w3.s.toks) (n1.trans (n2.trans (n3.trans (Nx.to ..)))) ⟨z3.rel.after (Nx.to ..) (z3.rel.bs.setLst hg ha' hs e' (rs.set j.toNat (z1.x.le (n2.b.trans n3.b)))) rfl rfl,rfl⟩) (gK _)
theorem G6 (hx:af st.ρ x=some (.val (.dat a))) (h:bH V k e sc st b st1) (ho:vg V op a b rv) (hk:bW sc x):eM V k (.AugAssign (.Name x xp) op e p) sc st .next ⟨aG st1.ρ x rv.slot,st1.G⟩:=fun c w r Q E hQ =>
 wpAny_AugAssign_Name (by
  obtain⟨u,hu,hs⟩:=r.slot hx
  refine Do.load r hx hu (Z:=fun u' w'=>u'=u/\w'=w) (fun ι=>⟨rfl,rfl⟩) _ E fun u' w' n' zz=>?_
  obtain⟨zq,rfl⟩:=zz;clear n' hu;subst zq
  refine h c w' r _ E fun v w1 n1 z1=>ho c.A w1 u' v _ z1.rel.bs (Rd.le n1.b hs) z1.x _ E fun y w2 n2 z2=>?_
  exact Do.storeR hk (z2.1.rel z1.rel) z2.2 _ E fun ι w3 n3 r3=>hQ .next w3 (n1.trans (n2.trans n3)) ⟨r3,rfl⟩)
theorem G7 {y z:Str} (h:y.length+z.length<=lim):vg V .Add (.str y) (.str z) (.val (.dat (.str (y++z)))):=fun A w u v G r hu hv=>by
 obtain⟨t,zq⟩:=hu.isStr;rw [zq]
 obtain⟨t',zq⟩:=hv.isStr;rw [zq]
 exact Gv.str fun Q E hQ=>PyProof.Rows.iadd_str (fun t' tk=>hQ _ _) (Nat.le_trans h (by decide))
theorem ug {prog:Program} {wd:World} {A:Around} {s:Shared} {E:Value->Shared->Prop} {a b:Addr} {vs us:List Value} {n m:Nat} {Q:Value->Shared->Prop} (ha:s.heap.get? a=some (ae vs n)) (hb:s.heap.get? b=some (ae us m)) (hz:vs.length+us.length<=lim)
  (hQ:∀ h' n' tk,h'.get? a=some (ae (vs++us) n')->Heap.SameBut a s.heap h'->Q (.ref a) { s with heap:=h',toks:=tk }):wpAny (model prog wd) A (inplaceOp .Add (.ref a) (.ref b)) Q E s:=by
 have hTa:s.TypeIs (.ref a) "list":=(aa _ ha rfl)
 have hTb:s.TypeIs (.ref b) "list":=(aa _ hb rfl)
 have hlook:typeLookup (.type "list") (dunderI "add")=pure (some (.builtin "list.__iadd__")):=PySem.F.slot_list_iadd.lookup
 have hss:isSeqSlot (some (.builtin "list.__iadd__"))=true:=by decide +kernel
 have hl:(lim:Nat)=1000000:=rfl
 have hc:wpAny (model prog wd) A (call (.builtin "list.__iadd__") [.ref a,.ref b]) Q E s:=by
  refine call_meets PySem.F.slot_list_iadd hTa PySem.F.entry_list_iadd (PySem.F.args_list_iadd_2 _ _) (AutoSeq1.list___iadd___list_list_0 a vs.toArray n b us.toArray m (by
   show ¬ ((!vs.toArray.isEmpty&&decide (_>sizeLine))=true)
   rw [Bool.and_eq_true,decide_eq_true_eq,sizeLine_eq]
   simp only [List.size_toArray]
   omega) (by rw [List.size_toArray,sizeLine_eq];omega) (by rw [List.size_toArray,List.size_toArray,sizeLine_eq];omega)) (am ha hb ?_)
  obtain⟨n',e'⟩:=gr (w:={ γ:=[],own:=fun ι=>none,R:=emp,B:=emp,F:=emp,vm:=fun ι=>none,s:=s }) (f:=fun x=>x++us.toArray) (vs':=vs++us) ha (by simp)
  exact hQ _ n' _ e' (Heap.SameBut.update ..)
 delta inplaceOp
 refine wpAny_holding ?_
 have hfi:fillsInplaceSlot (.type "list") "add" (Operator.Add==.Add)=pure false:=by
  delta fillsInplaceSlot
  show (typeLookup (.type "list") (dunderI "add") >>= fun fi=>pure (fi.isSome&&!isSeqSlot fi))=pure false
  rw [hlook]
  show (pure ((some (Value.builtin "list.__iadd__")).isSome&&!isSeqSlot (some (.builtin "list.__iadd__"))):Sem Bool)=pure false
  rw [hss];rfl
 have hsi:seqSlot? (.type "list") (dunderI "add")=pure (some (.builtin "list.__iadd__")):=PySem.seqSlot_of hlook hss
 refine wpAny_bind (wpAny_typeOf hTa (wpAny_bind (wpAny_of_eq hfi ?_)))
 show wpAny (model prog wd) A (if false=true then _ else _) Q E s
 rw [if_neg Bool.false_ne_true]
 refine wpAny_bind (wpAny_binaryOp1_none (nm:="add") hTa hTb noFill_list_add ?_)
 refine wpAny_bind (wpAny_of_eq hsi ?_)
 exact wpAny_bind (wpAny_rule hc)
theorem qF {ρ:Rho} {s t:Slot}:aG (aG ρ x s) x t=aG ρ x t:=by
 induction ρ with
 | nil=>exact if_pos (beq_self_eq_true x)
 | cons q r ih =>
  obtain⟨y,u⟩:=q
  by_cases h:(x==y)=true
  ·rw [show aG ((y,u)::r) x s=(y,s)::r from if_pos h,show aG ((y,u)::r) x t=(y,t)::r from if_pos h];exact if_pos h
  ·rw [show aG ((y,u)::r) x s=(y,u)::aG r x s from if_neg h,show aG ((y,u)::r) x t=(y,u)::aG r x t from if_neg h,<- ih];exact if_neg h
theorem Dk (hx:af st.ρ x=some (.lst ds0)) (h:bH V k e sc st (.list ys) st1) (hx':af st1.ρ x=some (.lst ds)) (hz:ds.length+ys.length<=lim) (hk:bW sc x):eM V k (.AugAssign (.Name x xp) .Add e p) sc st .next ⟨aG st1.ρ x (.lst (ds++ys)),st1.G⟩:=fun c w r Q E hQ =>
 wpAny_AugAssign_Name (by
  obtain⟨u,hu,hs⟩:=r.slot hx
  refine Do.load r hx hu (Z:=fun u' w'=>u'=u/\w'=w) (fun ι=>⟨rfl,rfl⟩) _ E fun u' w' n' zz=>?_
  obtain⟨zq,rfl⟩:=zz;rw [zq]
  refine h c w' r _ E fun v w1 n1 z1=>?_
  have hv:=z1.vm▸hu
  obtain⟨a,vs,n,zq,ea,rs⟩:=z1.rel.lstOf hx' hv;clear n';subst zq
  obtain⟨b,us,m,zq,eb,rb⟩:=z1.x.isList;rw [zq]
  refine ug (s:=w1.s) ea (z1.rel.bs.in _ _ eb) (by rw [rs.len,rb.len];exact hz) fun h' n' tk e' hs'=>?_
  have r2:=z1.rel.setList hx' hv hs' e' (rs.app rb) tk
  have q2:af (aG st1.ρ x (.lst (ds++ys))) x=some (.lst (ds++ys)):=by rw [cC,if_pos rfl]
  have D:=iV (sl:=.lst (ds++ys)) hk r2 (r2.slotv q2 hv) fun a' ds1 e1 e2 y ds' hy hyl hvy=>hy (r2.fr.own y x ds' _ a' hyl q2 hvy (hv.trans (congrArg some e2)))
  refine D _ E fun ι w3 n3 r3=>hQ .next w3 (n1.trans (Nx.trans (b:=w1.toFF h' tk (put w1.F a (ae (vs++us) n'))) ⟨bD.refl _,Le.refl _,rfl,h',tk,rfl⟩ n3)) ⟨?_,rfl⟩
  have r3':aq V k sc c ⟨aG (aG st1.ρ x (.lst (ds++ys))) x (.lst (ds++ys)),st1.G⟩ w3:=r3
  rw [qF] at r3';exact r3')
end
structure Dl (K:PM) (C N:Addr) (mN:Str->Option Value):Prop where
 obj:∃ nm q bs sn sub col dd k0 k1 k2 k3 k5,K C=some (excClassObj nm q C N bs [.type "object"] true sn sub false col dd k0 k1 k2 k3 k5 "object.__new__")
 ns:∃ o,K N=some o/\vv o mN
theorem Dl.at {K:PM} {C N:Addr} {mN} (X:Dl K C N mN) {h:Heap} (i:In K h):ClsAt h C N mN :=
 k5_1 X.obj fun nm q bs sn sub y=>k5_1 y fun col dd k0 k1 k2 y=>k2_1 y fun k3 k5 e =>
 k1_2 X.ns fun o e2 n =>
 ⟨(tS nm q bs sn sub col dd (yQ k0 k1 k2 k3 k5 (i _ _ e))),n.ns (i _ _ e2)⟩
structure bK (V:aD) (c:Nat) (mN:Str->Option Value):Prop where
 cls:∃ N,Dl V.K (V.cls c) N mN
 ga:mN "__getattribute__"=none
 gt:mN "__getattr__"=none
 sa:mN "__setattr__"=none
noncomputable def v7:ab->Bool
 | .raw _=>false
 | _=>true
noncomputable def dE (name:Str):Prop:=typeLookup (.type "object") name=pure none
section
variable {V:aD} {k j cl q:Nat} {sc:Scope} {c:Cx} {st st' st1 st2 st3:St} {w w':W} {A:Around} {e o i:Expr} {es:List Expr} {p pos xp apos:Pos} {ds:List PyData} {d a b:PyData} {av:ab} {rv:RV} {as:List ab} {x name:Str} {G G':List GObj} {attrs:List (Str×ab)} {mN:Str->Option Value} {f:Addr} {fd:FuncData}
theorem v8 {γ:List Addr} {B:PM} {v:Value} (h:VR γ B v av) (hr:v7 av=true):handedOut v=pure v:=by
 cases av with
 | dat d=>cases h<;>rfl
 | obj k=>obtain⟨a,rfl,_⟩:=h;rfl
 | raw u=>cases hr
 | tup l=>obtain⟨a,vs,rfl,_⟩:=h;rfl
theorem Bs.inst {a:Addr} (b:Bs V w G) (hg:G[j]?=some (.inst cl attrs)) (ha:w.γ[j]?=some a):w.own a=some j/\∃ dx mA,w.own dx=some j/\InstAt w.h a dx (V.cls cl) mA/\fI w.γ w.B mA attrs:=by
 obtain⟨a',h1,h2⟩:=b.ob.at_ j _ hg
 rw [ha] at h1;cases h1;exact h2
theorem fI.get {γ:List Addr} {B:PM} {mA:Str->Option Value} (h:fI γ B mA attrs) (hx:attrs.lookup x=some av):∃ v,mA x=some v/\VR γ B v av:=by
 have:=h x
 rw [hx] at this;exact this
theorem fI.non {γ:List Addr} {B:PM} {mA:Str->Option Value} (h:fI γ B mA attrs) (hx:attrs.lookup x=none):mA x=none:=by
 have:=h x
 rw [hx] at this;exact this
theorem uh {prog:Program} {wd:World} {s:Shared} {C x f N:Addr} {mN mA:Str->Option Value} {name:Str} {of:Obj} {y:Option Value} {pl:Sem Bool} {Q:Value×List Value->Shared->Prop} {E:Value->Shared->Prop} (X:ClsAt s.heap C N mN) (h1:mN "__getattribute__"=none) (h2:mN "__getattr__"=none) (I:s.heap.Inst x C mA)
  (hf:mN name=some (.ref f)) (fo:s.heap.get? f=some of) (fc:of.cls=.type "function") (hB:typeLookup (.type "object") name=pure y) (hs:mA name=none) (h:Q (.ref f,[.ref x]) s):wpAny (model prog wd) A (getMethod (.ref x) name pl) Q E s:=by
 obtain⟨hp,g,d,t,os⟩:=s
 obtain⟨nm,q,bs,sn,sub,col,dd,k0,k1,k2,k3,k5,e⟩:=X.obj
 exact method_of e X.ns h1 h2 hf fo fc hB I hs h
theorem lX {prog:Program} {wd:World} {s:Shared} {C x N:Addr} {mN mA:Str->Option Value} {name:Str} {v:Value} {expr:Bool} {Q:Value->Shared->Prop} {E:Value->Shared->Prop} (X:ClsAt s.heap C N mN) (h1:mN "__getattribute__"=none) (hn:mN name=none) (I:s.heap.Inst x C mA)
  (hB:dE name) (hv:mA name=some v) (hh:handedOut v=pure v) (h:Q v { s with toks:=s.toks+1 }):wpAny (model prog wd) A (getAttr (.ref x) name expr) Q E s:=by
 obtain⟨hp,g,d,t,os⟩:=s
 obtain⟨nm,q,bs,sn,sub,col,dd,k0,k1,k2,k3,k5,e⟩:=X.obj
 exact load_attr e X.ns h1 hn hB I hv hh h
structure ki (V:aD) (G:List GObj) (j:Nat) (name:Str) (av:ab):Prop where
 ex:∃ cl attrs mN,G[j]?=some (.inst cl attrs)/\bK V cl mN/\mN name=none/\dE name/\attrs.lookup name=some av/\v7 av=true
theorem jE {a:Addr} {E:Value->Shared->Prop} {Q:Value->Shared->Prop} {b:Bool} (K:ki V G j name av) (bs:Bs V w G) (ha:w.γ[j]?=some a) (h:∀ v,VR w.γ w.B v av->Q v (w.tk (w.s.toks+1)).s):wpAny (model V.prog V.w) A (getAttr (.ref a) name b) Q E w.s:=by
 obtain⟨cl,attrs,mN,hg,X,hn,hB,hv,hr⟩:=K.ex
 obtain⟨_,dx,mA,_,hI,hA⟩:=bs.inst hg ha
 obtain⟨N,ck⟩:=X.cls
 obtain⟨v,hv1,hv2⟩:=hA.get hv
 exact lX (ck.at bs.K) X.ga hn hI.inst hB hv1 (v8 hv2 hr) (h v hv2)
noncomputable def G8 (o:Expr) (name:Str) (p:Pos):Prop:=∀ env,eval (.Attribute o name p) env=(do
   let v <- eval o env
   standAt p.atName
   let r <- holding [v] (getAttr v name true)
   letTemporaryGo o v r
   pure r)
theorem Dm (h:eK V k o sc st (.obj j) st1) (K:ki V st1.G j name av) (he:G8 o name p:=by exact fun ι=>rfl):eK V k (.Attribute o name p) sc st av st1:=fun c w r Q E hQ=>by
 refine Attribute_any_ (h c w r _ E fun v w1 n1 z1=>?_) (he _)
 obtain⟨a,zq,ha⟩:=z1.x;rw [zq]
 exact jE K z1.rel.bs ha fun v hv=>hQ v (w1.tk _) (n1.trans (Nx.tk _ _)) ⟨z1.vm,z1.rel.tk _,hv⟩
theorem Dn (hx:af st.ρ x=some (.val (.obj j))) (K:ki V st.G j name (.obj q)) (hg:st.G[q]?=some (.lst ds)):Pe V k (.Attribute (.Name x xp) name p) sc st (.list ds) :=
 Bz (fun c w r=>by
  obtain⟨u,hu,hs⟩:=r.slot hx
  obtain⟨a,rfl,ha⟩:=hs
  intro Q E hQ
  refine Attribute_any_ (Do.nameV r hx hu _ E fun v w1 n1 z1=>?_)
  obtain⟨zq,zq⟩:=z1;clear hu n1;subst zq;rw [zq]
  exact jE K r.bs ha fun v hv=>hQ v (w1.tk _) (Nx.tk _ _) (aa _ rfl hv)) hg
structure kj (V:aD) (G:List GObj) (j:Nat) (name:Str) (f:Addr):Prop where
 ex:∃ cl attrs mN,G[j]?=some (.inst cl attrs)/\bK V cl mN/\mN name=some (.ref f)/\attrs.lookup name=none
 fn:∃ o fd,V.K f=some o/\o.cls=.type "function"/\o.data=.func fd
 nb:∃ y,typeLookup (.type "object") name=pure y
theorem kj.keep (M:kj V G j name f):bQ V (.ref f):=fun A w G b=>by
 obtain⟨o,fd,e,_,hd⟩:=M.fn
 unfold keeperOf
 refine wpAny_bind (wpAny_load (b.K _ _ e) ?_)
 rw [hd]
 exact wpAny_pure rfl
theorem kj.get {a:Addr} {pl:Sem Bool} {Q:Value×List Value->Shared->Prop} {E:Value->Shared->Prop} (M:kj V G j name f) (bs:Bs V w G) (ha:w.γ[j]?=some a) (h:Q (.ref f,[.ref a]) w.s):wpAny (model V.prog V.w) A (getMethod (.ref a) name pl) Q E w.s:=by
 obtain⟨cl,attrs,mN,hg,X,hf,hv⟩:=M.ex
 obtain⟨o,fd,e,ec,_⟩:=M.fn
 obtain⟨y,hB⟩:=M.nb
 obtain⟨_,dx,mA,_,hI,hA⟩:=bs.inst hg ha
 obtain⟨N,ck⟩:=X.cls
 exact uh (ck.at bs.K) X.ga X.gt hI.inst hf (bs.K _ _ e) ec hB (hA.non hv) h
theorem zB (h:eK V k o sc st (.obj j) st1) (M:kj V st1.G j name f) (ha:EvsA V k es sc st1 as st2) (hc:eV V k (.ref f) (.obj j::as) st2.G rv G') (hf:dW es apos pos=true:=by rfl) (hb:∀ env,attributeBase o name env (eval o env)=eval o env:=by exact fun ι=>rfl) :
  Ev V k (.Call (.Attribute o name apos) es [] pos) sc st rv ⟨st2.ρ,G'⟩:=fun c w r=>by
 refine c9 hf (hb c.env) ha.1 (h c w r) fun v w1 n1 z1 Q E hQ pl=>?_
 obtain⟨a,zq,ea⟩:=z1.x;rw [zq]
 refine M.get z1.rel.bs ea (ca (Z:=fun u w'=>iR V k sc c w ⟨st2.ρ,G'⟩ (fun w'=>qn w' u rv) w') ha z1.rel (fun s w' e r' E=>aq.keeper M.keep s w' e r' E) (fun vs w2 n2 z2=>?_) Q E hQ)
 exact (hc c.A w2 (.ref a::vs) [] z2.rel.room z2.rel.bs (.cons (aa a rfl (n2.g _ _ ea)) z2.x) .nil).mono fun u w3 n3 y8204=>k0_4 y8204 fun b F vm xx=>⟨vm.trans (z2.vm.trans z1.vm),z2.rel.after n3 b F vm,xx⟩
theorem v9 {b:Bool} {i:Nat} {cp kp:Pos} {kn:Str} (h:eK V k o sc st (.obj j) st1) (M:kj V st1.G j name f) (he:eK V k e sc st1 av st2) (hc:cV V k (.ref f) [.obj j,av] [(kn,.bool b)] st2.G rv G') (hf:(apos.endLine==pos.line)=true:=by rfl) (hb:∀ env,attributeBase o name env (eval o env)=eval o env:=by exact fun ι=>rfl) (hp:bu e=true:=by rfl) :
  Ev V k (.Call (.Attribute o name apos) [e] [⟨some kn,.Constant (.bool b) i cp,kp⟩] pos) sc st rv ⟨st2.ρ,G'⟩:=fun c w r Q E hQ=>by
 have hst:starEach [e] c.env=[(false,eval e c.env)]:=aP hp
 refine r6 (hb c.env) (by rw [hst];rfl) (by rfl) (by simp) hf (h c w r _ E fun v w1 n1 z1 pl=>?_)
 obtain⟨a,zq,ea⟩:=z1.x;rw [zq]
 refine M.get z1.rel.bs ea (aQ (by rw [hst];rfl) (by rfl) (evalArgs_kw2 (by rfl) ?_ hst))
 rw [hst]
 refine PySem.Calls.spliced_cons (he c w1 z1.rel _ E fun v w2 n2 z2=>PySem.Calls.spliced_nil ?_)
 refine kwAll_cons (wpAny_pure (kwAll_nil ?_))
 refine⟨aq.keeper M.keep _ w2 rfl z2.rel E,?_⟩
 exact hc c.A w2 [.ref a,v] [(kn,.bool b)] z2.rel.room z2.rel.bs (.cons (aa a rfl (n2.g _ _ ea)) (.cons z2.x .nil)) (.cons ⟨rfl,.bool _⟩ .nil) Q E fun u w3 n3 y9575=>k0_4 y9575 fun bb F vm xx=>hQ u w3 (n1.trans (n2.trans n3)) ⟨vm.trans (z2.vm.trans z1.vm),z2.rel.after n3 bb F vm,xx⟩
end
noncomputable def ju:List (Str×ab)->Str->ab->List (Str×ab)
 | [],x,s=>[(x,s)]
 | (y,t)::r,x,s=>if x==y then (y,s)::r else (y,t)::ju r x s
theorem wb (l:List (Str×ab)) (x y:Str) (s:ab):(ju l x s).lookup y=if y=x then some s else l.lookup y:=by
 induction l with
 | nil =>
  show List.lookup y [(x,s)]=_
  rw [List.lookup_cons,List.lookup_nil]
  by_cases h:y=x
  ·subst h;rw [beq_self_eq_true,if_pos rfl]
  ·rw [show (y==x)=false by simpa using h,if_neg h]
 | cons p r ih =>
  obtain⟨z,t⟩:=p
  show List.lookup y (if x==z then (z,s)::r else (z,t)::ju r x s)=_
  by_cases hx:x=z
  ·subst hx
   rw [if_pos (beq_self_eq_true x),List.lookup_cons,List.lookup_cons]
   by_cases h:y=x
   ·clear ih;subst h;rw [beq_self_eq_true,if_pos rfl]
   ·rw [show (y==x)=false by simpa using h,if_neg h]
  ·rw [if_neg (by simpa using hx),List.lookup_cons,List.lookup_cons,ih]
   by_cases h:y=z
   ·subst h
    rw [beq_self_eq_true];exact (if_neg fun e=>hx e.symm).symm
   ·rw [show (y==z)=false by simpa using h]
section
variable {V:aD} {k j cl q:Nat} {sc:Scope} {c:Cx} {st st' st1 st2 st3:St} {w w':W} {A:Around} {e o i:Expr} {es:List Expr} {p pos xp tp apos:Pos} {ds:List PyData} {d a b:PyData} {av:ab} {rv:RV} {as:List ab} {x name:Str} {G G':List GObj} {attrs:List (Str×ab)} {mN:Str->Option Value} {f:Addr} {fd:FuncData} {h:Heap} {n:Nat}
theorem Bs.updO {ob ob':GObj} {a:Addr} (x:Bs V w G) (hg:G[j]?=some ob) (ha:w.γ[j]?=some a) (hk:∀ b o,w.own b≠some j->w.h.get? b=some o->h.get? b=some o) (al:∀ b,w.own b=some j->∃ o,h.get? b=some o) (hn:gE V (w.to h n) j ob' a):Bs V (w.to h n) (G.set j ob'):=by
 have ok:=x.ok
 have ne:∀ {P:PM} {b o},(∀ y,w.own y≠none->P y=none)->P b=some o->w.own b≠some j:=fun hP e z=>by
  rw [hP _ (by rw [z];exact nofun)] at e;cases e
 refine⟨⟨fun b o e=>hk b o (ne (fun y q=>(ok.o y q).2.1) e) (ok.r b o e),fun b o e=>hk b o (ne (fun y q=>(ok.o y q).2.2.1) e) (ok.b b o e),fun b o e=>hk b o (ne (fun y q=>(ok.o y q).2.2.2) e) (ok.f b o e),ok.rb,ok.rf,ok.bf,fun b q=>?_⟩,x.top,x.ob.pin,by rw [List.length_set];exact x.ob.len,fun i ob2 hi=>?_⟩
 ·obtain⟨⟨o,g0⟩,g⟩:=ok.o b q
  refine⟨?_,g⟩
  by_cases z:w.own b=some j
  ·exact al b z
  ·exact⟨o,hk b o z g0⟩
 ·rw [List.getElem?_set] at hi
  by_cases z:j=i
  ·subst z
   rw [if_pos rfl,if_pos (List.getElem?_eq_some_iff.mp hg).1] at hi
   cases hi;exact (aa a ha hn)
  ·rw [if_neg z] at hi
   obtain⟨a2,g1,g2⟩:=x.ob.at_ i ob2 hi
   exact (aa a2 g1 (g2.move (bD.refl _) (Le.refl _) fun y hy=>⟨hy,fun o e=>hk y o (fun z'=>z (by rw [hy] at z';exact (Option.some.inj z').symm)) e⟩))
theorem fI.set {γ:List Addr} {B:PM} {mA:Str->Option Value} {v:Value} (h:fI γ B mA attrs) (hv:VR γ B v av):fI γ B (fun y=>if y=x then some v else mA y) (ju attrs x av):=fun y=>by
 rw [wb]
 by_cases z:y=x
 ·rw [if_pos z];exact (aa v (if_pos z) hv)
 ·rw [if_neg z];have:=h y;simp only [if_neg z];exact this
structure qG (V:aD) (G:List GObj) (j cl:Nat) (attrs:List (Str×ab)) (name:Str):Prop where
 g:G[j]?=some (.inst cl attrs)
 c:∃ mN,bK V cl mN/\mN name=none
 nb:dE name
 l:attrs.length<=lim
theorem oV {l:List (Str×ab)} {y:Str} (h:l.lookup y≠none):y∈l.map (·.1):=by
 cases e:l.lookup y with
 | none=>exact absurd e h
 | some v=>exact List.mem_map.mpr (aa _ (mem_of_lookup e) rfl)
theorem kl {a:Addr} {v:Value} (K:qG V G j cl attrs name) (bs:Bs V w G) (ha:w.γ[j]?=some a) (hv:VR w.γ w.B v av):Do V A (setAttr (.ref a) name v) w fun ι w'=>w'.F=w.F/\w'.vm=w.vm/\Bs V w' (G.set j (.inst cl (ju attrs name av))):=fun Q E hQ=>by
 obtain⟨mN,X,hn⟩:=K.c
 obtain⟨oa,dx,mA,od,hI,hA⟩:=bs.inst K.g ha
 obtain⟨N,ck⟩:=X.cls
 have cx:=ck.at bs.K
 obtain⟨nm0,q0,bs0,sn0,sub0,col0,dd0,k00,k10,k20,k30,k50,eC⟩:=ck.obj
 have hi:=hI.inst
 obtain⟨ox,odx,e1,e2,e3,e4,e5,e6,e7⟩:=id hI
 have hxC:a≠V.cls cl:=fun z=>by
  have:=(bs.ok.o a (by rw [oa];exact nofun)).2.2.1
  rw [z,bs.top.k _ _ eC] at this;cases this
 obtain⟨γ0,own0,R0,B0,F0,vm0,hp,g,dr,t,os⟩:=w
 obtain⟨nm',q',bs',sn',sub',col',dd',k0',k1',k2',k3',k5',eC'⟩:=cx.obj
 refine store_attr (ns:=attrs.map (·.1)) PySem.F.store_object eC' cx.ns X.sa hn K.nb hxC hi (fun h' tk' hi' hk hsame=>?_) (fun y hy=>oV fun z=>hy (hA.non z)) (by rw [List.length_map];exact aT K.l)
 obtain⟨o₁,g1,g2,g3,g4,g5⟩:=hsame _ e1
 have hd:=g5 _ e4
 obtain⟨o₂,f1,f2,f3,f4⟩:=hi'
 rw [g1] at f1;cases f1
 have hns:h'.Ns1 dx (fun y=>if y=name then some v else mA y):=by
  rcases f4 with ⟨f4,_⟩ | ⟨d',f4,_,f5⟩
  ·rw [hd] at f4;cases f4
  ·rw [hd] at f4;clear a_1;cases f4;exact f5
 obtain⟨od',g6,g7⟩:=rW hns
 have kp:∀ b o,own0 b≠some j->hp.get? b=some o->h'.get? b=some o:=fun b o nb e=>hk b o (fun z=>nb (z▸oa)) (fun o₀ dx' q1 q2=>by
  rw [e1] at q1;cases q1
  rw [e4] at q2;cases q2
  exact fun z=>nb (z▸od)) e
 refine hQ () (W.to ⟨γ0,own0,R0,B0,F0,vm0,⟨hp,g,dr,t,os⟩⟩ h' tk') (Nx.to ..) ⟨rfl,rfl,Bs.updO bs K.g ha kp (fun b hb=>?_) ⟨oa,dx,_,od,(oh o₁ od' g1 f2 f3 hd e5 g6 g7),hA.set hv⟩⟩
 by_cases z1:b=a
 ·exact⟨_,z1▸g1⟩
 ·by_cases z2:b=dx
  ·exact⟨_,z2▸g6⟩
  ·obtain⟨⟨o,g0⟩,_⟩:=bs.ok.o b (by rw [hb];exact nofun)
   exact⟨o,hk b o z1 (fun o₀ dx' q1 q2=>by
    rw [show hp.get? a=some ox from e1] at q1;cases q1
    rw [e4] at q2;cases q2
    exact z2) g0⟩
theorem cD {o:Expr} {l:Nat} (env:Env):swapsWith e (some (.Attribute o name tp)) l env=pure false:=by cases e<;>rfl
theorem ui (he:eK V k e sc st av st1) (hx:af st1.ρ x=some (.val (.obj j))) (K:qG V st1.G j cl attrs name):eM V k (.Assign [.Attribute (.Name x xp) name tp] e p) sc st .next ⟨st1.ρ,st1.G.set j (.inst cl (ju attrs name av))⟩:=fun c w r Q E hQ =>
 plainObj_wpAny_Assign_Attribute (he c w r _ E fun v w1 n1 z1=>by
  obtain⟨u,hu,hs⟩:=z1.rel.slot hx
  obtain⟨a,rfl,ha⟩:=hs
  refine Do.nameV z1.rel hx hu _ E fun u w1' n1' zz=>?_
  obtain⟨rfl,zq⟩:=zz;rw [zq]
  exact kl K z1.rel.bs ha z1.x _ E fun ι w2 n2 y7267=>k0_3 y7267 fun f vm b=>hQ .next w2 (n1.trans n2) ⟨z1.rel.after n2 b f vm,rfl⟩) (cD _)
theorem qH (he:Ev V k e sc st (.own ds) st1) (hx:af st1.ρ x=some (.val (.obj j))) (K:qG V (st1.G++[.lst ds]) j cl attrs name):eM V k (.Assign [.Attribute (.Name x xp) name tp] e p) sc st .next ⟨st1.ρ,(st1.G++[GObj.lst ds]).set j (.inst cl (ju attrs name (.obj st1.G.length)))⟩:=fun c w r Q E hQ =>
 plainObj_wpAny_Assign_Attribute (he c w r _ E fun v w1 n1 z1=>by
  obtain⟨w2,n2,vm2,F2,s2,b2,v2⟩:=z1.rel.bs.addLst z1.x
  have r2:=z1.rel.after n2 b2 F2 vm2
  obtain⟨u,hu,hs⟩:=r2.slot (x:=x) hx
  obtain⟨a,rfl,ha⟩:=hs
  rw [<- s2]
  refine Do.nameV r2 hx hu _ E fun u w1' n1' zz=>?_
  obtain⟨rfl,zq⟩:=zz;rw [zq]
  exact kl K b2 ha v2 _ E fun ι w3 n3 y8132=>k0_3 y8132 fun f vm b=>hQ .next w3 (n1.trans (n2.trans n3)) ⟨r2.after n3 b f vm,rfl⟩) (cD _)
theorem qI {y:Str} {yp:Pos} (hy:af st.ρ y=some (.lst ds)) (hx:af (aG st.ρ y (.val (.obj st.G.length))) x=some (.val (.obj j))) (K:qG V (st.G++[.lst ds]) j cl attrs name) :
  eM V k (.Assign [.Attribute (.Name x xp) name tp] (.Name y yp) p) sc st .next ⟨aG st.ρ y (.val (.obj st.G.length)),(st.G++[GObj.lst ds]).set j (.inst cl (ju attrs name (.obj st.G.length)))⟩:=fun c w r Q E hQ=>by
 obtain⟨w1,n1,vm1,s1,r1⟩:=r.share hy
 rw [<- s1]
 refine plainObj_wpAny_Assign_Attribute ?_ (cD _)
 have e:af (aG st.ρ y (.val (.obj st.G.length))) y=some (.val (.obj st.G.length)):=by rw [cC,if_pos rfl]
 obtain⟨v,hv,hvs⟩:=r1.slot e
 refine Do.nameV r1 e hv _ E fun v' w1' n1' zz=>?_
 obtain⟨rfl,zq⟩:=zz;rw [zq]
 obtain⟨u,hu,hs⟩:=r1.slot hx
 obtain⟨a,rfl,ha⟩:=hs
 refine Do.nameV r1 hx hu _ E fun u w1'' n1'' zz=>?_
 obtain⟨rfl,zq⟩:=zz;rw [zq]
 exact kl (av:=.obj st.G.length) K r1.bs ha hvs _ E fun ι w3 n3 y9328=>k0_3 y9328 fun f vm b=>hQ .next w3 (n1.trans n3) ⟨r1.after n3 b f vm,rfl⟩
theorem Dp {op:Operator} {b r':PyData} (hx:af st.ρ x=some (.val (.obj j))) (K1:ki V st.G j name (.dat a)) (he:bH V k e sc st b st1) (ho:vg V op a b (.val (.dat r'))) (K:qG V st1.G j cl attrs name) (hx':af st1.ρ x=some (.val (.obj j))) :
  eM V k (.AugAssign (.Attribute (.Name x xp) name tp) op e p) sc st .next ⟨st1.ρ,st1.G.set j (.inst cl (ju attrs name (.dat r')))⟩:=fun c w r Q E hQ =>
 wpAny_AugAssign_AttributeAny (by
  obtain⟨u,hu,hs⟩:=r.slot hx
  obtain⟨a1,rfl,ha⟩:=hs
  refine Do.nameV r hx hu _ E fun u w1' n1' zz=>?_
  obtain⟨rfl,zq⟩:=zz;clear hu n1';subst zq
  refine jE K1 r.bs ha fun v hv=>he c (w1'.tk _) (r.tk _) _ E fun v2 w2 n2 z2=>ho c.A w2 v v2 _ z2.rel.bs (Rd.le n2.b hv) z2.x _ E fun y w3 n3 z3=>?_
  have r3:=z3.1.rel z2.rel
  exact kl (av:=.dat r') K r3.bs (n3.g _ _ (n2.g _ _ ha)) z3.2 _ E fun ι w4 n4 y10342=>k0_3 y10342 fun f vm b=>hQ .next w4 ((Nx.tk _ _).trans (n2.trans (n3.trans n4))) ⟨r3.after n4 b f vm,rfl⟩)
theorem mR {p:PM} {h:Heap} (i:In p h) {a:Addr} (e:h.get? a=none):p a=none:=by
 cases z:p a with
 | none=>rfl
 | some o=>rw [i a o z] at e;cases e
theorem Ok.new (x:Ok w) {a:Addr} (e:w.h.get? a=none):ai w a:=⟨mR x.r e,mR x.b e,mR x.f e,by
 cases z:w.own a with
 | none=>rfl
 | some k=>obtain⟨⟨o,q⟩,_⟩:=x.o a (by rw [z];exact nofun);rw [e] at q;cases q⟩
theorem dz.under {C:Addr} {rest:List Value} (h:dz (k+1) A):dz k (A.under (.builtin "type.__call__" ⟨.ref C::rest,[]⟩)):=⟨by have:=h.d;show A.depth+1+k+50<_;omega,by have:=h.u;show A.units+1+8*k+300<_;omega,h.h⟩
theorem oW (X:bK V cl mN) (hi:mN "__init__"=some (.ref f)) (fn:∃ o,V.K f=some o/\o.cls=.type "function") (hc:eV V k (.ref f) (.obj G.length::as) (G++[.inst cl []]) (.val (.dat .none)) G'):eV V (k+1) (.ref (V.cls cl)) as G (.val (.obj G.length)) G':=fun A w vs kvs room bs hvs hkw Q E hQ=>by
 cases hkw
 obtain⟨N,ck⟩:=X.cls
 have cx:=ck.at bs.K
 obtain⟨o,e1,e2⟩:=fn
 have fo:=bs.K _ _ e1
 obtain⟨γ0,own0,R0,B0,F0,vm0,hp,g,dr,t,os⟩:=w
 obtain⟨nm',q',bs',sn',sub',col',dd',k0',k1',k2',k3',k5',eC'⟩:=cx.obj
 refine wpAny_call_obj_init PySem.F.objNew eC' cx.ns hi fo e2 fun h' x dx Mk=>?_
 have fx:ai ⟨γ0,own0,R0,B0,F0,vm0,⟨hp,g,dr,t,os⟩⟩ x:=bs.ok.new Mk.newX
 have fd':ai ⟨γ0,own0,R0,B0,F0,vm0,⟨hp,g,dr,t,os⟩⟩ dx:=bs.ok.new Mk.newD
 obtain⟨ox,hx,hcx,hncx,hdx⟩:=Mk.inst
 have hdd:=Mk.dict ox hx
 have hnsd:h'.Ns1 dx fun ι=>none:=by
  rcases hdx with ⟨hn0,_⟩ | ⟨d',hd',_,hns'⟩
  ·rw [hn0] at hdd;cases hdd
  ·have zq:=Option.some.inj (hd'.symm.trans hdd);clear Mk fd' hdd;subst zq;exact hns'
 have hne:dx≠x:=by
  rcases hdx with ⟨hn0,_⟩ | ⟨d',hd',hne',_⟩
  ·rw [hn0] at hdd;cases hdd
  ·have zq:=Option.some.inj (hd'.symm.trans hdd);clear Mk fd' hdd hnsd;subst zq;exact hne'
 obtain⟨od,ho,hno⟩:=rW hnsd
 have b1:=bs.to (h:=h') (fun b o ι e=>Mk.keeps b o e) t
 have own1:∀ y∈[x,dx],ai (W.to ⟨γ0,own0,R0,B0,F0,vm0,⟨hp,g,dr,t,os⟩⟩ h' t) y/\∃ o,h'.get? y=some o:=fun y hy=>by
  rcases List.mem_cons.mp hy with rfl | hy
  ·exact⟨fx.to t,⟨_,hx⟩⟩
  ·rw [List.mem_singleton.mp hy];exact⟨fd'.to t,⟨_,ho⟩⟩
 have lenG:γ0.length=G.length:=bs.ob.len
 have b2:Bs V ((W.to ⟨γ0,own0,R0,B0,F0,vm0,⟨hp,g,dr,t,os⟩⟩ h' t).add x [x,dx]) (G++[.inst cl []]):=b1.add own1 ⟨(if_pos (List.mem_cons_self ..)).trans (congrArg some lenG),(aF dx (fun ι=>none) ((if_pos (List.mem_cons_of_mem _ (List.mem_singleton.mpr rfl))).trans (congrArg some lenG)) (oh ox od hx hcx hncx hdd hne ho hno) (fun y=>rfl))⟩
 have gx:(γ0++[x])[G.length]?=some x:=by rw [<- lenG,List.getElem?_append_right (Nat.le_refl _),Nat.sub_self];rfl
 refine hc _ ((W.to ⟨γ0,own0,R0,B0,F0,vm0,⟨hp,g,dr,t,os⟩⟩ h' t).add x [x,dx]) (.ref x::vs) [] room.under b2 (.cons (aa x rfl gx) (hvs.le (bD.append _ _) (Le.refl _))) .nil _ E fun u w3 n3 y13734=>k0_4 y13734 fun b3 f3 vm3 x3=>⟨Rd.isNone x3,hQ (.ref x) w3 ((Nx.to ..).trans ((Nx.add ..).trans n3)) (a7 b3 f3 vm3 (aa x rfl (n3.g _ _ gx)))⟩
theorem oX (X:bK V cl mN):bQ V (.ref (V.cls cl)):=fun A w G b=>by
 obtain⟨N,ck⟩:=X.cls
 obtain⟨nm,q,bs,sn,sub,col,dd,k0,k1,k2,k3,k5,e⟩:=(ck.at b.K).obj
 have f1:=tc_lookup
 obtain⟨γ0,own0,R0,B0,F0,vm0,hp,g,dr,t,os⟩:=w
 have hT:(⟨hp,g,dr,t,os⟩:Shared).TypeIs (.ref (V.cls cl)) "type":=(aa _ e rfl)
 delta keeperOf specialOf
 repeat (any_goals (first | assumption | with_reducible refine wpAny_loadPart_at e ?_ | with_reducible refine wpAny_load' e ?_ | wp_step))
 rfl
end
section
variable {V:aD} {k j q:Nat} {sc:Scope} {c:Cx} {st st' st1 st2 st3:St} {w w':W} {A:Around} {e iter t elt:Expr} {es:List Expr} {p pos xp:Pos} {ds items:List PyData} {d a b:PyData} {av:ab} {rv:RV} {as:List ab} {x name:Str} {G G':List GObj} {body:List Stmt} {fl:Fl}
noncomputable def G9 (q:Nat) (items:List PyData) (w:W) (S:eY V false items w.B):Prop:=∃ a vs n,w.γ[q]?=some a/\a∈S.hd/\a∉S.wr/\w.h.get? a=some (ae vs n)/\cP w.B vs items
theorem BG (h:eK V k iter sc st (.obj q) st1) (hg:st1.G[q]?=some (.lst ds)):Db V k iter sc st false ds ⟨st1.ρ,st1.G.set q .gone⟩ (G9 q ds):=fun c w r K E hK=>h c w r _ E fun v w1 n1 z1=>by
 obtain⟨a,zq,ha⟩:=z1.x;rw [zq]
 obtain⟨a',vs,n,e0,e,rs⟩:=z1.rel.bs.ob.lst hg ha
 cases e0
 obtain⟨w2,n2,s2,F2,vm2,g2,B2,b2,f2⟩:=J7 z1.rel.bs hg ha
 have r2:=z1.rel.after n2 b2 F2 vm2
 rw [<- s2]
 have e2:w2.h.get? a=some (ae vs n):=by show w2.s.heap.get? a=_;rw [s2];exact e
 have l:w2.h.IsList a vs.toArray:=(aB _ e2 rfl ⟨n,rfl⟩)
 refine wpAny_pyIter_list l ?_
 have ne:a≠w2.h.objs.size:=Nat.ne_of_lt (Heap.lt_size e2)
 have up:(w2.h.push { cls:=.type "list_iterator",data:=.fields #[.ref a,.int 0 0] }).get? a=some (ae vs n):=Heap.get?_push_of_some _ e2
 refine hK (w2.to (w2.h.push _) w2.s.toks) (eY.list (I:=w2.h.objs.size) (a:=a) [w2.h.objs.size,a] (by rw [show (w2.to (w2.h.push _) w2.s.toks).B=w1.B from B2];exact rs) (List.mem_cons_self ..) (fun b hb=>(List.mem_cons.mp hb).imp id List.mem_singleton.mp) (.inl (List.mem_cons_of_mem _ (List.mem_singleton.mpr rfl))) ne) (n1.trans (n2.trans (Nx.to ..))) ⟨vm2.trans z1.vm,r2.to (Kp.push w2 _) _,fun b hb=>?_,(aB _ (Heap.get?_push_size _ rfl) rfl rfl),l.push _⟩ (oi a vs n (by rw [show (w2.to (w2.h.push _) w2.s.toks).γ=w1.γ from g2];exact ha) (List.mem_cons_of_mem _ (List.mem_singleton.mpr rfl)) (fun hb=>ne (List.mem_singleton.mp hb)) up (by rw [show (w2.to (w2.h.push _) w2.s.toks).B=w1.B from B2];exact rs))
 rcases List.mem_cons.mp hb with rfl | hb
 ·exact (r2.fresh (Nat.le_refl _)).to _
 ·rw [List.mem_singleton.mp hb];exact f2.to _
theorem aq.unlent {w1:W} {S:eY V false items w1.B} {ρ:Rho} (r:aq V k sc c ⟨ρ,G⟩ w) (hg:G[q]?=some .gone) (n:Nx w1 w) (y:G9 q items w1 S) (f:∀ b∈S.hd,ai w b) (kp:∀ b o,b∈S.hd->b∉S.wr->w1.h.get? b=some o->w.h.get? b=some o) :
  ∃ w',Nx w w'/\w'.s=w.s/\w'.vm=w.vm/\w'.B=w.B/\(∀ b,ai w b->b∉S.hd->ai w' b)/\aq V k sc c ⟨ρ,G.set q (.lst items)⟩ w':=by
 obtain⟨a,vs,m,g,h1,h2,e,rs⟩:=y
 obtain⟨w',n',s',F',vm',fr,B',b'⟩:=vQ r.bs hg (n.g _ _ g) (f a h1) (kp a _ h1 h2 e) (rs.le n.b)
 exact (og w' n' s' vm' B' (fun b fb hb=>fr b fb fun z=>hb (z▸h1)) (r.after n' b' F' vm'))
theorem Dq (h:eK V k iter sc st (.obj q) st1) (hg:st1.G[q]?=some (.lst ds)) (hf:oD V k false sc t body ds ⟨st1.ρ,st1.G.set q .gone⟩ fl st2) (hg':st2.G[q]?=some .gone) (hp:∀ env x,foldedSetIterable iter env x=pure x:=by exact fun ι ι=>rfl) :
  eM V k (.For t iter body [] p) sc st fl ⟨st2.ρ,st2.G.set q (.lst ds)⟩:=fun c w r Q E hQ =>
 wpAny_For (BG h hg c w r _ E fun w1 S n1 z1 y1=>se S hf (Le.refl _) z1.rel z1.x.1 z1.x.2 fun v w2 n2 r2 x2 kp=>by
  obtain⟨a,vs,m,g,h1,h2,e,rs⟩:=y1
  obtain⟨f2,e2⟩:=kp a _ h1 h2 e
  obtain⟨w3,n3,s3,F3,vm3,_,B3,b3⟩:=vQ r2.bs hg' (n2.g _ _ g) f2 e2 (rs.le n2.b)
  have fin:=hQ v w3 (n1.trans (n2.trans n3)) ⟨r2.after n3 b3 F3 vm3,by
   cases fl with
   | next=>exact x2
   | cont=>exact x2
   | ret av=>obtain⟨u,zq,hu⟩:=x2;rw [zq];exact (aa u rfl (hu.le n3.g n3.b))⟩
  rw [s3] at fin;exact fin) (hp _)
theorem zC {ifs:List Expr} {scope:Scope} {ρ0 ρ1 ρ':Rho} (h:eK V k iter sc st (.obj q) st1) (hg:st1.G[q]?=some (.lst items)) (hz:vj st1.ρ ρ1) (hc:Da ρ1 scope ρ0) (hC:kc V k false scope t ifs elt items ⟨ρ0,st1.G.set q .gone⟩ ds ⟨ρ',G'⟩) (hg':G'[q]?=some .gone) (hl:items.length<=lim) (ho:eA sc scope=true:=by rfl)
  (hp:∀ env x,foldedSetIterable iter env x=pure x:=by exact fun ι ι=>rfl):Ev V k (.ListComp elt [⟨t,iter,ifs,0⟩] scope pos) sc st (.own ds) ⟨ρ1,G'.set q (.lst items)⟩:=fun c w r Q E hQ=>by
 rw [eval_ListComp]
 show wpAny _ c.A (comprehension (.ListComp elt [⟨t,iter,ifs,0⟩] scope pos) scope c.env _ (newList []) false (eval iter c.env) none) Q E w.s
 refine qA (BG h hg) hp hz ho hc hC hl r fun w' D L vs n oL m nx vm rel fD eD rs fL eL nL ne lf=>(aa m (nL.ns eL) (fun h hs=>?_))
 obtain⟨w1,S,n1,y1,f1,k1,nD,nL'⟩:=lf
 have kp:Kp w' h:=fun b o nf e=>(hs.2 b fun z=>nf (z▸fL)).trans e
 obtain⟨w2,n2,s2,vm2,B2,fr2,r2⟩:=aq.unlent (w:=w'.to h w'.s.toks) (rel.to kp _) hg' (n1.trans (Nx.to ..)) y1 (fun b hb=>(f1 b hb).to _) fun b o hb hw e=>(hs.2 b fun z=>nL' (z▸hb)).trans (k1 b o hb hw e)
 have fin:=hQ (.ref D) w2 (nx.trans ((Nx.to ..).trans n2)) ⟨vm2.trans vm,r2,D,vs,n,rfl,by show w2.s.heap.get? D=_;rw [s2];exact (hs.2 D ne.symm).trans eD,fr2 D (fD.to _) nD,by rw [B2];exact rs⟩
 rw [s2] at fin;exact fin
end
section
open PySem.Builtin PySem.Builtin.Re
noncomputable def cE:Array Nat:=#[14,10,4,1,1,22,0,31,16,127,0,13,7,22,0,31,16,127,0,1]
noncomputable def bZ:Array Nat:=#[14,14,4,1,1,9,4294966783,0,0,2147483648,0,0,0,0,0,13,11,9,4294966783,0,0,2147483648,0,0,0,0,0,1]
noncomputable def bL (c:Nat):Bool:=32<=c&&c != 127
noncomputable def cU (x:Str):Bool:=x.cps.toList.all bL
theorem qJ {c:Nat} (h:bL c=true) (seen:Sre.Seen):∃ seen',Sre.inSet cE c cE.size 5 true seen=.ok (false,seen'):=by
 unfold bL at h
 simp only [Bool.and_eq_true,decide_eq_true_eq,bne_iff_ne,ne_eq] at h
 refine⟨((seen.add 22).add 16).add 0,?_⟩
 refine (show _=if 0<=c&&c<=31 then .ok (true,seen.add 22) else if c==127 then .ok (true,(seen.add 22).add 16) else .ok (false,((seen.add 22).add 16).add 0) from ?_).trans ?_
 ·kernel_rfl
 rw [if_neg (by simp;omega),if_neg (by simp;omega)]
theorem Ka {c:Nat} (h:bL c=true):(c<256&&(bZ.getD (5+(1+c / 32)) 0).testBit (c%32))=false:=by
 unfold bL at h
 simp only [Bool.and_eq_true,decide_eq_true_eq,bne_iff_ne,ne_eq] at h
 by_cases q:c<256
 ·have key:∀ c<256,32<=c->c≠127->(c<256&&(bZ.getD (5+(1+c / 32)) 0).testBit (c%32))=false:=by decide +kernel
  exact key c q h.1 h.2
 ·simp [q]
theorem uj {c:Nat} (h:bL c=true) (seen:Sre.Seen):∃ seen',Sre.inSet bZ c bZ.size 5 true seen=.ok (false,seen'):=by
 have b:=Ka h
 refine⟨(seen.add 9).add 0,?_⟩
 refine (show _=if (c<256&&(bZ.getD (5+(1+c / 32)) 0).testBit (c%32)) then .ok (true,seen.add 9) else .ok (false,(seen.add 9).add 0) from ?_).trans ?_
 ·kernel_rfl
 rw [b,if_neg (by decide)]
theorem Ma {m:Sre.M} (hc:m.code=cE\/m.code=bZ) (hl:m.lim<=m.text.size) (h:∀ i<m.text.size,bL (m.text.getD i 0)=true) (fuel:Nat):∀ (s:Nat) (seen:Sre.Seen),∃ seen',Sre.M.admitted m fuel s seen=.ok (none,seen'):=by
 induction fuel with
 | zero=>exact fun s seen=>⟨seen,rfl⟩
 | succ fuel ih =>
  intro s seen
  rw [show Sre.M.admitted m (fuel+1) s seen=if s>=m.lim then .ok (none,seen) else _ from rfl]
  by_cases q:s>=m.lim
  ·rw [if_pos q];exact⟨_,rfl⟩
  ·rw [if_neg q]
   have hs:=h s (Nat.lt_of_lt_of_le (Nat.lt_of_not_le q) hl)
   have e:∃ seen',Sre.inSet m.code (m.text.getD s 0) m.code.size 5 true seen=.ok (false,seen'):=by
    rcases hc with hc | hc<;>rw [hc]
    ·exact qJ hs seen
    ·exact uj hs seen
   obtain⟨s1,e1⟩:=e
   rw [e1]
   exact ih (s+1) s1
noncomputable def mS (m:Sre.M):Prop:=m.answer=some false/\m.frames=[]/\m.outcome=none
theorem wc {m:Sre.M} (hc:m.code=cE\/m.code=bZ) (hl:m.lim<=m.text.size) (h:∀ i<m.text.size,bL (m.text.getD i 0)=true) (hf:m.frames=[]) (ho:m.outcome=none) (p:Nat) (b:Bool):mS (m.attemptFrom p b):=by
 have hh:m.hasFirstSet=true:=by delta Sre.M.hasFirstSet;rcases hc with hc | hc<;>rw [hc]<;>rfl
 obtain⟨s',e⟩:=Ma hc hl h (m.lim+1-p) p m.seen
 delta Sre.M.attemptFrom
 rw [hh,e]
 exact (am rfl hf ho)
theorem uk {code text:Array Nat} (hc:code=cE\/code=bZ) (h:∀ i<text.size,bL (text.getD i 0)=true):mS (Sre.forSearch code text 0 (min 0 text.size) (min (2 ^ 63-1) text.size) false):=by
 show mS (if _ then _ else _)
 split
 ·exact (am rfl rfl rfl)
 ·exact wc hc (Nat.min_le_right _ _) h rfl rfl _ _
theorem we {m:Sre.M} (h:mS m):∃ m',m.runFor reTurnSteps=m'/\(m'.outcome.isSome=true)/\m'.outcome=some .failed:=by
 obtain⟨h1,h2,h3⟩:=h
 have e:m.step={ m with outcome:=some .failed }:=by
  delta Sre.M.step
  rw [h3,h1,h2]
  rfl
 have:m.runFor reTurnSteps={ m with outcome:=some .failed }:=by
  show (if m.outcome.isSome then m else Sre.M.runFor 3 m.step)=_
  rw [h3,e]
  rfl
 exact (aB _ this rfl rfl)
theorem Mb {n:Nat} {m m':Sre.M} (e:m.runFor reTurnSteps=m') (h:m'.outcome.isSome=true):reDrive (n+1) m=pure m':=by
 show (if (m.runFor reTurnSteps).outcome.isSome then pure (m.runFor reTurnSteps) else _)=_
 rw [e,if_pos h]
theorem ul {M:Model} {A:Around} {s:Shared} {E:Value->Shared->Prop}:∀ (l:List Nat) (f:Nat->PUnit->Sem (ForInStep PUnit)) (Q:PUnit->Shared->Prop),
  (∀ i u (Q:ForInStep PUnit->Shared->Prop),Q (.yield ⟨⟩) s->wpAny M A (f i u) Q E s)->Q ⟨⟩ s->wpAny M A (forIn l (⟨⟩:PUnit) f) Q E s:=by
 intro l
 induction l with
 | nil =>
  intro f Q ι h
  rw [List.forIn_nil];exact wpAny_pure h
 | cons i l ih =>
  intro f Q hf h
  rw [List.forIn_cons]
  exact wpAny_bind (hf i _ _ (ih f Q hf h))
theorem jg:PySem.Slot "re.Pattern" "search" "re.Pattern.search":=.of (owner:="re.Pattern") (n:="search") (by rw [typeLookup_type,builtinLookup_eq_fast];kernel_rfl) (by decide +kernel) (by decide +kernel) (by decide +kernel)
  (by first | exact .inl (by decide +kernel) | exact .inr (by decide +kernel)) (by rw [isSubtype_type];kernel_rfl)
theorem mT:entryFor table "re.Pattern.search"=some Builtin.«re.Pattern.search»:=entryFor_of_tree (by kernel_rfl)
theorem oY (a b:Value):argsOk "re.Pattern.search" ⟨[a,b],[]⟩:=by unfold argsOk;kernel_rfl
theorem lE:PlainAttrs "re.Pattern" :=
 ⟨(aa ("object.__getattribute__") (by rw [typeLookup_type,builtinLookup_eq_fast];kernel_rfl) (by decide +kernel)),by rw [typeLookup_type,builtinLookup_eq_fast];kernel_rfl⟩
theorem oZ:typeOf (.builtin "re.Pattern.search")=pure (.type "method_descriptor"):=by kernel_rfl
theorem o0 {prog:Program} {w:World} {A:Around} {s:Shared} {Q E:Value->Shared->Prop} {pa:Addr} {o:Obj} {K:Frag} {code:Array Nat} {x:Str} {t:Tok} (iK:K.In s.heap) (ho:K.lookup pa=some o) (hcls:o.cls=.type "re.Pattern")
  (hpk:PySem.W.peek K ⟨prog,w.params⟩ (reTarget "re.Pattern.search" "search" ⟨[.ref pa,.str x t],[]⟩)=some ⟨.ref pa,.str x t,code,x.cps,0,0,min 0 x.cps.size,min (2 ^ 63-1) x.cps.size⟩) (hc:code=cE\/code=bZ)
  (hx:cU x=true) (h:Q .none s):wpAny (model prog w) A (call (.builtin "re.Pattern.search") [.ref pa,.str x t]) Q E s:=by
 refine wpAny_call_entry jg (aa o (iK _ _ ho) hcls) mT ?_ (oY _ _)
 unfold Builtin.«re.Pattern.search»
 refine wpAny_bind ((Looks.of_peek (M:=model prog w) iK hpk).here ?_)
 have hs:=uk (text:=x.cps) hc fun i hi=>by
  have:=List.all_eq_true.mp hx (x.cps[i]) (by simp)
  simpa [Array.getD,hi] using this
 obtain⟨m',e1,e2,e3⟩:=we hs
 show wpAny (model prog w) A.in1 (reAnswer _ (Sre.forSearch code x.cps 0 (min 0 x.cps.size) (min (2 ^ 63-1) x.cps.size) false)) _ E s
 delta reAnswer reRunToEnd
 have e4:(2:Nat) ^ 64=(2 ^ 64-1)+1:=by decide
 rw [e4,Mb e1 e2]
 refine wpAny_bind (wpAny_bind (wpAny_pure (wpAny_bind (ul _ _ _ (fun i u Q hq=>?_) ?_))))
 ·split
  ·exact wpAny_bind (wpAny_rule (wpAny_pure hq))
  ·exact wpAny_pure hq
 ·rw [e3]
  exact wpAny_pure (wpAny_pure (aa _ rfl h))
end
section
open PySem.Builtin PySem.Builtin.Re
section
variable {V:aD} {k j m q:Nat} {sc:Scope} {c:Cx} {st st' st1 st2 st3:St} {w w':W} {A:Around} {e o a:Expr} {es:List Expr} {p pos xp rp ap apos:Pos} {ds:List PyData} {d:PyData} {av:ab} {rv:RV} {as:List ab} {x rx name:Str} {G G':List GObj} {f:Addr} {n:Int}
structure gu (V:aD) (k m:Nat) (as:List ab) (G:List GObj) (rv:RV) (G':List GObj):Prop where
 run:∀ (A:Around) (w:W) (a:Addr) (vs:List Value),dz k A->Bs V w G->w.γ[m]?=some a->qm w.γ w.B vs as->Do V A (call (.ref a) vs) w fun u w'=>Bs V w' G'/\w'.F=w.F/\w'.vm=w.vm/\qn w' u rv
 keep:∀ (A:Around) (w:W) (a:Addr) (E:Value->Shared->Prop),Bs V w G->w.γ[m]?=some a->wpAny (model V.prog V.w) A (keeperOf (.ref a)) (fun ι s=>s=w.s) E w.s
theorem wf {prog:Program} {wd:World} {s:Shared} {C x N:Addr} {mN mA:Str->Option Value} {name:Str} {v:Value} {pl:Sem Bool} {Q:Value×List Value->Shared->Prop} {E:Value->Shared->Prop} (X:ClsAt s.heap C N mN) (h1:mN "__getattribute__"=none) (h2:mN "__getattr__"=none) (hn:mN name=none) (I:s.heap.Inst x C mA)
  (hB:dE name) (hv:mA name=some v) (hh:handedOut v=pure v) (h:∀ tk,Q (v,[]) { s with toks:=tk }):wpAny (model prog wd) A (getMethod (.ref x) name pl) Q E s:=by
 have I0:=I
 obtain⟨hp,g,d,t,os⟩:=s
 obtain⟨nm,q,bs,sn,sub,col,dd,k0,k1,k2,k3,k5,hC⟩:=X.obj
 obtain⟨o,hx,hc,hnc,hd⟩:=I
 have hns:=X.ns
 have sp:∀ (nm:Str) (y:Option Value) (Q:Option Value->Shared->Prop),mN nm=none->typeLookup (.type "object") nm=pure y->Q y ⟨hp,g,d,t,os⟩->wpAny (model prog wd) A (specialOf (.ref x) nm) Q E ⟨hp,g,d,t,os⟩:=by
  intro nm y Q e1 e2 hq
  unfold specialOf
  refine wpAny_bind ?_
  simp only [typeOf]
  refine wpAny_bind (wpAny_load hx (wpAny_pure ?_))
  rw [hc]
  refine wpAny_typeLookup_exc hC hns PySem.F.mro_object e2 ?_
  rw [e1];exact hq
 unfold getMethod
 refine wpAny_bind (sp _ _ _ h1 PySem.F.lk_object_ga ?_)
 show wpAny _ A (if (Manifest.canonical "object.__getattribute__" != "object.__getattribute__")=true then _ else _) Q E _
 rw [PySem.F.canon_object_ga,if_neg Bool.false_ne_true]
 refine wpAny_bind (sp _ _ _ h2 PySem.F.lk_object_getattr ?_)
 refine wpAny_bind (sp _ _ _ hn hB ?_)
 show wpAny _ A (getAttr (.ref x) name >>= fun v=>pure (v,[])) Q E _
 refine wpAny_bind ?_
 exact lX (s:=⟨hp,g,d,t,os⟩) ⟨(tS nm q bs sn sub col dd (yQ k0 k1 k2 k3 k5 hC)),hns⟩ h1 hn I0 hB hv hh (wpAny_pure (h _))
theorem zD (h:eK V k o sc st (.obj j) st1) (K:ki V st1.G j name (.obj m)) (ha:EvsA V k es sc st1 as st2) (hc:gu V k m as st2.G rv G') (hf:dW es apos pos=true:=by rfl) (hb:∀ env,attributeBase o name env (eval o env)=eval o env:=by exact fun ι=>rfl) :
  Ev V k (.Call (.Attribute o name apos) es [] pos) sc st rv ⟨st2.ρ,G'⟩:=fun c w r=>by
 refine c9 hf (hb c.env) ha.1 (h c w r) fun v w1 n1 z1 Q E hQ pl=>?_
 obtain⟨a,zq,ea⟩:=z1.x;rw [zq]
 obtain⟨cl,attrs,mN,hg,X,hn,hB,hv,hr⟩:=K.ex
 obtain⟨_,dx,mA,_,hI,hA⟩:=z1.rel.bs.inst hg ea
 obtain⟨N,ck⟩:=X.cls
 obtain⟨v,hv1,hv2⟩:=hA.get hv
 have hh:=v8 hv2 hr
 obtain⟨b,rfl,eb⟩:=hv2
 refine wf (ck.at z1.rel.bs.K) X.ga X.gt hn hI.inst hB hv1 hh fun tk=>?_
 have r1:=z1.rel.tk tk
 refine aQ (bI (es:=es) c.env pos ha.1).1 rfl (ha.args c (w1.tk tk) (.ref b) pos r1 _ E fun vs w2 n2 z2=>⟨hc.keep c.A w2 b E z2.rel.bs (n2.g _ _ eb),?_⟩)
 exact hc.run c.A w2 b vs z2.rel.room z2.rel.bs (n2.g _ _ eb) z2.x Q E fun u w3 n3 y4200=>k0_4 y4200 fun b3 f3 vm3 x3=>hQ u w3 ((Nx.tk _ _).trans (n2.trans n3)) ⟨vm3.trans (z2.vm.trans z1.vm),z2.rel.after n3 b3 f3 vm3,x3⟩
theorem Dr (hg:dO sc ("len":Str)=true) (hb:Bi V "len" (.builtin "len")) (h:eK V (k+1) a sc st (.obj j) st1) (M:kj V st1.G j "__len__" f) (hc:eV V k (.ref f) [.obj j] st1.G (.val (.dat (.int n))) G') (h0:0<=n) (h1:n<2 ^ 63) (hp:bu a=true:=by rfl) :
  bH V (k+1) (.Call (.Name "len" p) [a] [] pos) sc st (.int n) ⟨st1.ρ,G'⟩:=fun c w r Q E hQ =>
 PyProof.Rows.Call_Name rfl (aZ r hg (.inr hb) (Z:=fun u w'=>u=.builtin "len"/\w'=w) ⟨rfl,rfl⟩ _ E fun u w' n' z=>by
  obtain⟨zq,zq⟩:=z;clear n';subst zq;rw [zq]
  refine aQ (bI (es:=[a]) c.env pos (by rw [List.all_cons,hp];rfl)).1 rfl ?_
  rw [aP hp]
  refine PySem.Calls.evalArgs_plain (PySem.Calls.spliced_cons (h c w' r _ E fun v w1 n1 z1=>PySem.Calls.spliced_nil ⟨aA nofun,?_⟩))
  obtain⟨x,zq,ex⟩:=z1.x;rw [zq]
  obtain⟨cl,attrs,mN,hg,X,hf,hv⟩:=M.ex
  obtain⟨oF,fd,e1,ec,_⟩:=M.fn
  obtain⟨y,hB⟩:=M.nb
  obtain⟨_,dx,mA,_,hI,hA⟩:=z1.rel.bs.inst hg ex
  obtain⟨N,ck⟩:=X.cls
  have cx:=ck.at z1.rel.bs.K
  obtain⟨ox,od,i1,i2,_⟩:=id hI
  obtain⟨nm,q,bs,sn,sub,col,dd,k0,k1,k2,k3,k5,eC⟩:=cx.obj
  have fo:=z1.rel.bs.K _ _ e1
  have run:=hc c.A.in1 w1 [.ref x] [] z1.rel.room.in1 z1.rel.bs (.cons (aa x rfl ex) .nil) .nil
  have rel1:=z1.rel
  have vm1:=z1.vm
  refine len_own (h:=w1.s.heap) (B:="object") (C:=V.cls cl) (f:=f) (tS ox oF nm q N bs ([.type "object"]) (tS true sn sub false col dd k0 (JU k1 k2 k3 k5 _ mN y i1 i2 eC cx.ns hf fo ec PySem.F.mro_object hB))) ?_
  refine run _ E fun u w2 n2 y6083=>k0_4 y6083 fun b2 f2 vm2 x2=>?_
  obtain⟨t,zq⟩:=Rd.isInt x2;rw [zq]
  exact (cQ n t rfl h0 h1 (hQ _ (w2.tk _) (n1.trans (n2.trans (Nx.tk _ _))) ⟨vm2.trans vm1,(rel1.after n2 b2 f2 vm2).tk _,.int _ _⟩)))
theorem o5 {T:Value} (hg:dO sc name=true) (hb:Bi V name T):eK V k (.Name name p) sc st (.raw T) st:=fun c w r=>aZ r hg (.inr hb) ⟨rfl,r,rfl⟩
theorem wg {T:String} {sl:Slot} (hg:dO sc ("type":Str)=true) (hb:Bi V "type" (.type "type")) (hx:af st.ρ x=some sl) (ht:∀ (w:W) v,Bs V w st.G->cT w v sl->In w.F w.h->w.s.TypeIs v T) (hnb:(Value.type T==Value.type "builtin_function_or_method")=false):eK V k (.Call (.Name "type" p) [.Name x xp] [] pos) sc st (.raw (.type T)) st:=fun c w r Q E hQ =>
 PyProof.Rows.Call_Name rfl (aZ r hg (.inr hb) (Z:=fun u w'=>u=.type "type"/\w'=w) ⟨rfl,rfl⟩ _ E fun u w' n' z=>by
  obtain⟨rfl,zq⟩:=z;rw [zq]
  obtain⟨u,hu,hs⟩:=r.slot hx
  refine aQ rfl rfl (PySem.Calls.evalArgs_plain (PySem.Calls.spliced_cons (Do.nameV r hx hu _ E fun v w1 n1 zz=>PySem.Calls.spliced_nil ?_)))
  obtain⟨zq,rfl⟩:=zz;clear n' zq hu;subst zq
  exact⟨aA nofun,call_type_of (ht w1 v r.bs hs r.bs.ok.f) hnb (hQ _ w1 n1 ⟨rfl,r,rfl⟩)⟩)
theorem Dt {y:Str} {G:List GObj}:∀ (w:W) v,Bs V w G->cT w v (.val (.dat (.str y)))->In w.F w.h->w.s.TypeIs v "str":=fun w v ι h ι=>by
 obtain⟨t,zq⟩:=Rd.isStr h;rw [zq];rfl
theorem Du {G:List GObj}:∀ (w:W) v,Bs V w G->cT w v (.lst ds)->In w.F w.h->w.s.TypeIs v "list":=fun w v ι h i=>by
 obtain⟨a,vs,n,zq,e,_⟩:=h;rw [zq];exact (aa _ (i _ _ e) rfl)
theorem Ha {T:Value} (h1:eK V k e sc st (.raw T) st1) (h2:eK V k o sc st1 (.raw T) st2) (hp:plainIs T T=true) (hm:behindInMarks .Is o=false:=by rfl):Cd V k (.Compare e [.Is] [o] p) sc st true st2 :=
 qo (fun c w r Q E hQ=>h1 c w r _ E fun u w1 n1 z1=>h2 c w1 z1.rel _ E fun v w2 n2 z2=>by
  obtain rfl:u=T:=z1.x
  obtain rfl:v=u:=z2.x
  exact wpAny_is_self hp (hQ w2 (n1.trans n2) ⟨z2.vm.trans z1.vm,z2.rel,trivial⟩)) hm
theorem zE {T:Value} (h1:eK V k e sc st (.raw T) st1) (h2:eK V k o sc st1 (.raw T) st2) (hp:plainIs T T=true) (hm:behindInMarks .IsNot o=false:=by rfl):Cd V k (.Compare e [.IsNot] [o] p) sc st false st2 :=
 qo (fun c w r Q E hQ=>h1 c w r _ E fun u w1 n1 z1=>h2 c w1 z1.rel _ E fun v w2 n2 z2=>by
  obtain rfl:u=T:=z1.x
  obtain rfl:v=u:=z2.x
  exact wpAny_isNot_self hp (hQ w2 (n1.trans n2) ⟨z2.vm.trans z1.vm,z2.rel,trivial⟩)) hm
theorem wh:Tr V .none false:=fun A w u G Q E r x hQ=>by
 cases (x.rd fun ι=>nofun).isNone;exact truthy_none (hQ w.s.toks)
structure Hb (V:aD) (ra:Addr):Prop where
 ex:∃ (K:Frag) (ro:Obj) (code:Array Nat),(∀ a o,K.lookup a=some o->V.K a=some o)/\K.lookup ra=some ro/\ro.cls=.type "re.Pattern"/\ro.dict=none/\(code=cE\/code=bZ) /\
  ∀ x t,PySem.W.peek K ⟨V.prog,V.w.params⟩ (reTarget "re.Pattern.search" "search" ⟨[.ref ra,.str x t],[]⟩)=some ⟨.ref ra,.str x t,code,x.cps,0,0,min 0 x.cps.size,min (2 ^ 63-1) x.cps.size⟩
theorem um {y:Str} (hr:af st.ρ rx=some (.val (.raw (.ref f)))) (hx:af st.ρ x=some (.val (.dat (.str y)))) (K:Hb V f) (hc:cU y=true) (hf:dW [.Name x xp] apos pos=true:=by rfl) :
  Cd V k (.Call (.Attribute (.Name rx rp) "search" apos) [.Name x xp] [] pos) sc st false st :=
 GJ (d:=.none) (fun c w r=>by
  obtain⟨ur,hur,hsr⟩:=r.slot hr
  obtain rfl:ur=.ref f:=hsr
  refine c9 hf rfl rfl (Do.nameV r hr hur) fun v w1 n1 z1 Q E hQ pl=>?_
  obtain⟨zq,rfl⟩:=z1;clear hur n1;subst zq
  obtain⟨K,ro,code,iK,e1,e2,e3,e4,e5⟩:=K.ex
  have fK:K.In w1.s.heap:=fun a o e=>r.bs.K a o (iK a o e)
  refine getMethod_builtin (s:=w1.s) (aa _ (fK _ _ e1) e2) lE jg oZ (fun b q=>by cases q;exact (aa _ (fK _ _ e1) e3)) ?_
  obtain⟨u,hu,hs⟩:=r.slot hx
  refine aQ rfl rfl (PySem.Calls.evalArgs_plain (PySem.Calls.spliced_cons (Do.nameV r hx hu _ E fun v w2 n2 zz=>PySem.Calls.spliced_nil ?_)))
  obtain⟨zq,rfl⟩:=zz;clear hu;subst zq
  obtain⟨t,zq⟩:=Rd.isStr hs;rw [zq]
  exact⟨aA nofun,o0 (s:=w2.s) fK e1 e2 (e5 _ _) e4 hc (hQ _ w2 n2 ⟨rfl,r,Rd.none⟩)⟩) wh fun ι ι=>rfl
theorem uo {B:PM} {x:Str} {acc:Array Value} (h:ItemsOf (SignAt x) acc x.cps.size):cP B acc.toList (x.cps.toList.map fun c=>.str ⟨#[c]⟩):=by
 have gen:∀ {vs:List Value} {ds:List PyData},vs.length=ds.length->(∀ (i:Nat) v d,vs[i]?=some v->ds[i]?=some d->Rd B v d)->cP B vs ds:=by
  intro vs
  induction vs with
  | nil=>intro ds hl _;cases ds with
   | nil=>exact .nil
   | cons _ _=>cases hl
  | cons v vs ih=>intro ds hl h;cases ds with
   | nil=>cases hl
   | cons d ds=>exact .cons (h 0 v d rfl rfl) (ih (Nat.succ.inj hl) fun i v d h1 h2=>h (i+1) v d h1 h2)
 refine gen (by simp [h.1]) fun i v d h1 h2=>?_
 obtain⟨c,u,e1,zq⟩:=h.2 i v (by simpa using h1);rw [zq]
 rw [List.getElem?_map] at h2
 have e2:x.cps.toList[i]?=some c:=by simpa using e1
 rw [e2] at h2
 cases h2
 exact .str _ _
theorem zF {y:Str} (hg:dO sc ("list":Str)=true) (hb:Bi V "list" (.type "list")) (h:bH V k a sc st (.str y) st1) (hl:y.length<=lim) (hp:bu a=true:=by rfl):Ev V k (.Call (.Name "list" p) [a] [] pos) sc st (.own (y.cps.toList.map fun c=>.str ⟨#[c]⟩)) st1:=fun c w r Q E hQ =>
 PyProof.Rows.Call_Name rfl (aZ r hg (.inr hb) (Z:=fun u w'=>u=.type "list"/\w'=w) ⟨rfl,rfl⟩ _ E fun u w' n' z=>by
  obtain⟨zq,zq⟩:=z;clear n';subst zq;rw [zq]
  refine aQ (bI (es:=[a]) c.env pos (by rw [List.all_cons,hp];rfl)).1 rfl ?_
  rw [aP hp]
  refine PySem.Calls.evalArgs_plain (PySem.Calls.spliced_cons (h c w' r _ E fun v w1 n1 z1=>PySem.Calls.spliced_nil ⟨aA nofun,?_⟩))
  obtain⟨t,zq⟩:=Rd.isStr z1.x;rw [zq]
  refine call_list_str (s:=w1.s) z1.rel.room.h y _ (fun h2 tk acc c' hk hS hacc=>?_) (Nat.le_trans hl (by decide))
  have f:=z1.rel.fresh (Nat.le_refl _)
  exact hQ _ (w1.to h2 tk) (n1.trans (Nx.to ..)) ⟨z1.vm,z1.rel.to (Kp.all hk) tk,_,acc.toList,c',rfl,(by
   have e:ae acc.toList c'={ cls:=.type "list",data:=.seq acc c' }:=by simp only [ae,Array.toArray_toList]
   rw [e];exact hS),f.to tk,uo hacc⟩)
theorem wi {k1 k2:Str} {p1 p2 p3 p4 p5 p6 p7:Pos} {i:Nat} {body:List Stmt} (hx:af st.ρ x=some (.val (.dat (.dict [])))) (hline:(p5.endLine==p6.line)=true:=by rfl) :
  eM V k (.For (.Tuple [.Name k1 p1,.Name k2 p2] i p3) (.Call (.Attribute (.Name x p4) "items" p5) [] [] p6) body [] p7) sc st .next st:=fun c w r Q E hQ=>by
 refine wpAny_For ?_ (fun ι=>rfl)
 obtain⟨v,hv,hs⟩:=r.slot hx
 obtain⟨d,rfl,hdS,e⟩:∃ d,v=.ref d/\(d==sysModules)=false/\w.B d=some { cls:=.type "dict",data:=.dict #[] }:=by
  cases hs with | dict0 n e=>exact (aB _ rfl n e)
 have hm:w.h.DictAt (PySem.strKind V.prog V.w) d [] 0:=(tP _ (#[]) (r.bs.in _ _ e) (am rfl rfl rfl) rfl (fun x hx=>by simp at hx) .nil List.nodup_nil)
 refine PySem.wpAny_Call_items (knd:=PySem.strKind V.prog V.w) hdS hm.dictOf rfl hline (fun Q' hq=>Do.nameV r hx hv Q' E fun v w' n' zz=>by obtain⟨rfl,zq⟩:=zz;rw [zq];exact hq) ?_
 refine PySem.wpAny_pyIter_items (knd:=PySem.strKind V.prog V.w) (d:=d) (kvs:=[]) (ep:=0) (aB _ (Heap.get?_push_size _ rfl) rfl rfl) (hm.push _) ?_
 have r1:=r.to (Kp.push w { cls:=.type "dict_items",data:=.fields #[.ref d] }) w.s.toks
 have r2:=r1.to (Kp.push _ { cls:=.type "dict_itemiterator",data:=.fields #[.none,.bool false,.ref d,.int 0 0,.int (0:Nat) 0,.int (0:Nat) 0,.none,.none] }) w.s.toks
 refine codeAny_forLoop_any (fun ι s1=>s1={ w.s with heap:=(w.s.heap.push { cls:=.type "dict_items",data:=.fields #[.ref d] }).push { cls:=.type "dict_itemiterator",data:=.fields #[.none,.bool false,.ref d,.int 0 0,.int (0:Nat) 0,.int (0:Nat) 0,.none,.none] } }) ?_ 0 rfl
 rintro _ s1 rfl
 refine PySem.wpAny_pyNext_items_end (knd:=PySem.strKind V.prog V.w) (i:=0) (kvs:=[]) r.room.h (Heap.get?_push_size _ rfl) ((hm.push _).push _) rfl fun h' hk=>?_
 rw [execs_nil]
 refine wpAny_pure ?_
 have kp:=fun (b:Addr) (o:Obj) (nf:¬ ai _ b) e=>hk b o (fun q=>nf (q▸r1.fresh (Nat.le_refl _))) e
 exact hQ .next ((((w.to (w.h.push _) w.s.toks).to ((w.h.push _).push _) w.s.toks)).to h' w.s.toks) ((Nx.to ..).trans ((Nx.to ..).trans (Nx.to ..))) ⟨r2.to (fun b o nf e=>hk b o (fun q=>nf (by rw [q];exact (r1.fresh (Nat.le_refl _)).to _)) e) _,rfl⟩
end
end
theorem cF:PySem.Slot "callable_iterator" "__next__" "callable_iterator.__next__" :=
 .of (owner:="callable_iterator") (n:="__next__") (by rw [typeLookup_type,builtinLookup_eq_fast];kernel_rfl) (by decide +kernel) (by decide +kernel) (by decide +kernel)
  (by first | exact .inl (by decide +kernel) | exact .inr (by decide +kernel)) (by rw [isSubtype_type];kernel_rfl)
theorem gL:entryFor table "callable_iterator.__next__"=some Builtin.«callable_iterator.__next__»:=entryFor_of_tree (by kernel_rfl)
theorem ig (a:Value):argsOk "callable_iterator.__next__" ⟨[a],[]⟩:=by unfold argsOk;kernel_rfl
theorem ii:PySem.Slot "callable_iterator" "__iter__" "callable_iterator.__iter__" :=
 .of (owner:="callable_iterator") (n:="__iter__") (by rw [typeLookup_type,builtinLookup_eq_fast];kernel_rfl) (by decide +kernel) (by decide +kernel) (by decide +kernel)
  (by first | exact .inl (by decide +kernel) | exact .inr (by decide +kernel)) (by rw [isSubtype_type];kernel_rfl)
section
variable {prog:Program} {w:World} {A:Around} {s:Shared} {E:Value->Shared->Prop}
theorem gX {M:Model} {f:Value} {pos:List Value} {Q:Value->Shared->Prop} (hc:codeAny M A (.call f ⟨pos,[]⟩) (fun r s'=>match r with | .ok (.ret v)=>Q v s' | .ok _=>False | .error e=>E e s') s):wpAny M A (callBorrowed f pos) Q E s:=by
 intro Γ p hΓ
 refine wpCode_mono (fun r s' h=>?_) (hc _ p rfl (hΓ.enter (.call f ⟨pos,[]⟩) none p (by intro x;cases x)))
 cases r with
 | ok fl=>cases fl<;>first | exact h | exact h.elim
 | error e=>exact h
theorem ij {M:Model} {m f:Addr} {x:Value} {of:Obj} {fd:FuncData} {Q:Bool->Shared->Prop} (hm:s.heap.get? m=some (methodObj (.ref f) x)) (hf:s.heap.get? f=some of) (hd:of.data=.func fd) (h:Q true s):wpAny M A (borrowsExactly (.ref m)) Q E s:=by
 unfold borrowsExactly
 refine wpAny_bind (wpAny_load hm ?_)
 show wpAny M A (match (load f >>= fun o=>_:Sem Bool) with | t=>t) Q E s
 refine wpAny_bind (wpAny_load hf ?_)
 rw [hd]
 exact wpAny_pure h
theorem o6 {m f:Addr} {x:Value} {of:Obj} {fd:FuncData} {Q:Value->Shared->Prop} (hm:s.heap.get? m=some (methodObj (.ref f) x)) (hf:s.heap.get? f=some of) (hd:of.data=.func fd)
  (h:codeAny (model prog w) A (.call (.ref f) ⟨[x],[]⟩) (fun r s'=>match r with | .ok (.ret v)=>Q v s' | .ok _=>False | .error e=>E e s') s):wpAny (model prog w) A (callOutOfASlot (.ref m) []) Q E s:=by
 unfold callOutOfASlot
 refine wpAny_bind (ij hm hf hd ?_)
 exact gX (method_call hm h)
theorem lF:entryFor table "callable_iterator.__iter__"=some Builtin.«dict_keyiterator.__iter__» :=
 entryFor_alias (id':="dict_keyiterator.__iter__") (by kernel_rfl) (by first | rfl | decide +kernel | (unfold String.splitOn;simp +decide [String.splitOnAux])) (by decide +kernel) (by kernel_rfl)
theorem mU (a:Value):argsOk "callable_iterator.__iter__" ⟨[a],[]⟩:=by unfold argsOk;kernel_rfl
theorem lY {it:Addr} {vs:Array Value} {Q:Value->Shared->Prop} (hit:s.heap.get? it=some (dT vs)) (h:Q (.ref it) s):wpAny (model prog w) A (pyIter (.ref it)) Q E s:=by
 have hT:s.TypeIs (.ref it) "callable_iterator":=(aa _ hit rfl)
 refine wpAny_pyIter_slot hT ii (wpAny_call_entry ii hT lF ?_ (mU _))
 unfold Builtin.«dict_keyiterator.__iter__»
 refine wpAny_bind (wpAny_pure ?_)
 exact wpAny_pure (aa _ rfl (aF ("callable_iterator") _ (aa _ hit rfl) cF.lookup h))
theorem sr {α:Type} {P:α->Shared->Prop} {Q:Option Value->Shared->Prop} (hh:A.handled=none) (h:∀ h',(∀ b o,s.heap.get? b=some o->h'.get? b=some o)->Q none { s with heap:=h' }) :
  wpAny (model prog w) A.in1 (Builtin.SmallTypes.stopIteration (α:=α)) P (fun e s'=>wpAny (model prog w) A (do if <- isInstance e (.type "StopIteration") then pure none else throw e) Q E s') s:=by
 unfold Builtin.SmallTypes.stopIteration
 refine wpAny_bind ?_
 simp only [newExc,newTuple]
 refine wpAny_bind (wpAny_newObj_type ?_ (by size_fits))
 refine wpAny_bind (m:=firstArgMember _ _) (wpAny_of_eq (a:=Value.none) (by first | rfl | (simp only [firstArgMember];rfl)) ?_)
 refine wpAny_newObj_type ?_ (by size_fits)
 delta raiseNew
 refine wpAny_bind (wpAny_handled ?_)
 rw [show A.in1.handled=none from hh]
 refine wpAny_bind (wpAny_pure (wpAny_throw ?_))
 refine wpAny_bind (wpAny_isInstance (T:="StopIteration") (b:=true) (aa _ (Heap.get?_push_size _ rfl) rfl) isSubtype_stop ?_)
 exact wpAny_pure (h _ fun b o e=>Heap.get?_push_of_some _ (Heap.get?_push_of_some _ e))
theorem wj {it:Addr} {Q:Option Value->Shared->Prop} (hh:A.handled=none) (hit:s.heap.get? it=some (dT #[.none,.none,.bool true])) (h:∀ h',(∀ b o,s.heap.get? b=some o->h'.get? b=some o)->Q none { s with heap:=h' }) :
  wpAny (model prog w) A (pyNext (.ref it)) Q E s:=by
 have hT:s.TypeIs (.ref it) "callable_iterator":=(aa _ hit rfl)
 unfold pyNext
 refine wpAny_bind (wpAny_attempt (wpAny_callSpecial?_slot (name:=Str.ofString "__next__") hT cF
  (wpAny_call_entry cF hT gL ?_ (ig _))))
 unfold Builtin.«callable_iterator.__next__»
 refine wpAny_bind (wpAny_pure ?_)
 refine wpAny_bind (wpAny_field hit rfl (x:=.bool true) rfl ?_)
 refine wpAny_bind (wpAny_rule ?_)
 exact wpAny_bind (sr (Q:=Q) (E:=E) hh h)
theorem zG {it m f:Addr} {x:Value} {t:Tok} {of:Obj} {fd:FuncData} {Q:Option Value->Shared->Prop} (hh:A.handled=none) (hit:s.heap.get? it=some (dT #[.ref m,.str "" t,.bool false])) (hm:s.heap.get? m=some (methodObj (.ref f) x)) (hf:s.heap.get? f=some of) (hd:of.data=.func fd)
  (h:codeAny (model prog w) A.in1 (.call (.ref f) ⟨[x],[]⟩) (fun r s'=>match r with | .ok (.ret v)=>(∃ y u,v=.str y u/\s'.heap.get? it=some (dT #[.ref m,.str "" t,.bool false])/\s'.heap.get? m=some (methodObj (.ref f) x)/\s'.heap.get? f=some of /\
   ((y≠""/\Q (some v) s')\/(y=""/\∀ h' tk,h'.get? it=some (dT #[.none,.none,.bool true])->(∀ b o,b≠it->s'.heap.get? b=some o->h'.get? b=some o)->Q none { s' with heap:=h',toks:=tk }))) | _=>False) s) :
  wpAny (model prog w) A (pyNext (.ref it)) Q E s:=by
 have hT:s.TypeIs (.ref it) "callable_iterator":=(aa _ hit rfl)
 unfold pyNext
 refine wpAny_bind (wpAny_attempt (wpAny_callSpecial?_slot (name:=Str.ofString "__next__") hT cF
  (wpAny_call_entry cF hT gL ?_ (ig _))))
 delta Builtin.«callable_iterator.__next__»
 refine wpAny_bind (wpAny_pure ?_)
 refine wpAny_bind (wpAny_field hit rfl (x:=.bool false) rfl ?_)
 refine wpAny_bind (wpAny_field hit rfl (x:=.ref m) rfl ?_)
 refine wpAny_bind (wpAny_attempt (o6 hm hf hd (codeAny_mono h fun r s' hr=>?_)))
 cases r with
 | error e=>exact hr.elim
 | ok fl =>
  cases fl<;>first | (exact hr.elim) | skip
  obtain⟨y,u,rfl,e1,e2,e3,e4⟩:=hr
  refine wpAny_bind (wpAny_field e1 rfl (x:=.bool false) rfl ?_)
  refine wpAny_bind (wpAny_field e1 rfl (x:=.str "" t) rfl ?_)
  refine wpAny_bind (wpAny_holding (wpAny_eqBool_str ?_))
  rcases e4 with ⟨hy,hq⟩ | ⟨rfl,hq⟩
  ·rw [decide_eq_false (fun z=>hy z.symm)]
   exact wpAny_pure (aa _ rfl (wpAny_pure hq))
  ·rw [decide_eq_true rfl]
   refine wpAny_bind (wpAny_rule ?_)
   refine wpAny_bind (wpAny_bind (wpAny_field e1 rfl (x:=.ref m) rfl ?_))
   refine wpAny_bind ?_
   delta PySem.slotLetsGo
   refine wpAny_bind (ij e2 e3 hd ?_)
   refine wpAny_pure ?_
   refine wpAny_bind (wpAny_setField_rec e1 (by simp) fun h1 g1 s1=>?_)
   refine wpAny_bind (wpAny_setField_rec g1 (by simp) fun h2 g2 s2=>?_)
   refine wpAny_setField_rec g2 (by simp) fun h3 g3 s3=>?_
   refine sr (Q:=Q) (E:=E) hh fun h4 hk=>?_
   exact hq h4 _ (hk _ _ g3) fun b o hb e=>hk _ _ ((s3.2 b hb).trans ((s2.2 b hb).trans ((s1.2 b hb).trans e)))
end
theorem qK:entryFor table "iter"=some Builtin.«iter»:=entryFor_of_tree (by kernel_rfl)
theorem uq:builtinKind "iter"=none:=by decide +kernel
theorem qL:plainId "iter"=true:=by decide +kernel
theorem ut (a b:Value):argsOk "iter" ⟨[a,b],[]⟩:=by unfold argsOk;kernel_rfl
theorem uu:typeLookup (.type "method") "__call__"=pure (some (.builtin "method.__call__")):=by rw [typeLookup_type,builtinLookup_eq_fast];kernel_rfl
theorem uv {o:Obj} {m:Str->Option Value} {name:Str} (n:Cy o m) (h:m name=none):lookIn name o=some none:=by
 obtain⟨es,ep,hd,hk,_,hf⟩:=n
 unfold lookIn
 rw [hd]
 have e:es.toList.find? (·.key.isStr name)=none:=by
  have:=hf name
  rw [h] at this
  unfold nsFind findBy at this
  cases q:es.find? fun e=>e.key.isStr name with
  | some x=>rw [q] at this;cases this
  | none=>rw [<- Array.find?_toList] at q;exact q
 simp only [e]
 have e2:es.toList.any (·.refKey)=false:=by
  rw [List.any_eq_false]
  intro x hx
  obtain⟨n,t,e⟩:=hk x (by simpa using hx)
  unfold DictEntry.refKey
  rw [e];simp
 rw [e2];rfl
section
variable {V:aD} {k j q cl:Nat} {sc:Scope} {c:Cx} {st st' st1 st2 st3:St} {w w':W} {A:Around} {e o a:Expr} {es:List Expr} {p pos xp sp:Pos} {ds:List PyData} {d:PyData} {av:ab} {rv:RV} {x name y:Str} {G G1 G':List GObj} {f:Addr} {fl:Fl} {body:List Stmt}
noncomputable def W.unown (w:W) (a:Addr):W:={ w with own:=fun x=>if x=a then none else w.own x }
noncomputable def W.reown (w:W) (a:Addr) (q:Nat):W:={ w with own:=fun x=>if x=a then some q else w.own x }
theorem Nx.reown {a:Addr}:Nx w (w.reown a q):=⟨bD.refl _,Le.refl _,rfl,w.s.heap,w.s.toks,rfl⟩
theorem Bs.unown {ob:GObj} {a:Addr} (b:Bs V w G) (hg:G[q]?=some ob) (ha:w.γ[q]?=some a) (h2:w.own a=some q):Bs V (w.unown a) (G.set q .gone)/\ai (w.unown a) a/\∃ o,w.h.get? a=some o:=by
 obtain⟨h0,f1,f2,f3⟩:=b.ok.o a (by rw [h2];exact nofun)
 refine (am ⟨⟨b.ok.r,b.ok.b,b.ok.f,b.ok.rb,b.ok.rf,b.ok.bf,fun x z=>b.ok.o x fun z'=>z ?_⟩,b.top,b.ob.pin,by rw [List.length_set];exact b.ob.len,fun i ob hi=>?_⟩ ⟨f1,f2,f3,if_pos rfl⟩ h0)
 ·show (if x=a then none else w.own x)=none
  rw [z'];exact ite_self _
 ·rw [List.getElem?_set] at hi
  by_cases z:q=i
  ·subst z
   rw [if_pos rfl,if_pos (List.getElem?_eq_some_iff.mp hg).1] at hi
   cases hi;exact (aa a ha trivial)
  ·rw [if_neg z] at hi
   obtain⟨a2,g1,g2⟩:=b.ob.at_ i ob hi
   exact (aa a2 g1 (g2.move (bD.refl _) (Le.refl _) fun y hy=>⟨(if_neg fun z'=>z (by clear ha h0 f1 f2 f3;subst z';rw [h2] at hy;exact Option.some.inj hy)).trans hy,fun ι=>id⟩))
theorem Bs.reown {ob:GObj} {a:Addr} {o:Obj} (b:Bs V w G) (hg:G[q]?=some .gone) (ha:w.γ[q]?=some a) (f:ai w a) (e:w.h.get? a=some o) (hn:gE V (w.reown a q) q ob a):Bs V (w.reown a q) (G.set q ob):=by
 refine⟨⟨b.ok.r,b.ok.b,b.ok.f,b.ok.rb,b.ok.rf,b.ok.bf,fun x z=>?_⟩,b.top,b.ob.pin,by rw [List.length_set];exact b.ob.len,fun i ob2 hi=>?_⟩
 ·by_cases z':x=a
  ·clear ha hn z;subst z';exact (a7 ⟨_,e⟩ f.r f.b f.f)
  ·exact b.ok.o x fun z2=>z ((if_neg z').trans z2)
 ·rw [List.getElem?_set] at hi
  by_cases z:q=i
  ·subst z
   rw [if_pos rfl,if_pos (List.getElem?_eq_some_iff.mp hg).1] at hi
   cases hi;exact (aa a ha hn)
  ·rw [if_neg z] at hi
   obtain⟨a2,g1,g2⟩:=b.ob.at_ i ob2 hi
   exact (aa a2 g1 (g2.move (bD.refl _) (Le.refl _) fun y hy=>⟨(if_neg fun z'=>by clear ha e hn;subst z';rw [f.o] at hy;cases hy).trans hy,fun ι=>id⟩))
theorem Bs.toR1 {a:Addr} {o:Obj} (r:Bs V w G) (f:ai w a) (e:w.h.get? a=some o):Bs V (w.toR (one a o)) G :=
 ⟨r.ok.toR (fun b ob q=>by
  by_cases z:b=a
  ·subst z;rw [da] at q;rw [<- q];exact⟨f,e⟩
  ·rw [eW z] at q;cases q),r.top,r.ob.move rfl rfl (Le.refl _) fun ι ι ι=>id⟩
theorem Bs.outR1 {a:Addr} {o:Obj} (r:Bs V w' G) (e:w'.R=un w.R (one a o)) (f:w.R a=none):Bs V (w'.inR w.R) G/\ai (w'.inR w.R) a/\w'.h.get? a=some o:=by
 obtain⟨ok,h⟩:=r.ok.outR e fun b q=>by
  by_cases z:b=a
  ·rw [z];exact f
  ·exact absurd (eW z) q
 obtain⟨f1,e1⟩:=h a o (da _ _)
 exact (am ⟨ok,r.top,r.ob.move rfl rfl (Le.refl _) fun ι ι ι=>id⟩ f1 e1)
noncomputable def qM (V:aD):Prop:=∃ o fd,V.K V.rc=some o/\o.data=.func fd
theorem su {it:Addr} {Q:Option Value->Shared->Prop} {E:Value->Shared->Prop} (bs:Bs V w G) (room:dz (k+1) A) (hf:qM V) (hg:G[q]?=some (.citer j false)) (ha:w.γ[q]?=some it) (hc:bp V k V.rc [.obj j] [] (G.set q .gone) (.val (.dat (.str y))) G1) (hg1:G1[q]?=some .gone)
  (h1:y≠""->∀ v w',Nx w w'->w'.F=w.F->w'.vm=w.vm->Rd w'.B v (.str y)->Bs V w' (G1.set q (.citer j false))->Q (some v) w'.s)
  (h2:y=""->∀ w',Nx w w'->w'.F=w.F->w'.vm=w.vm->Bs V w' (G1.set q (.citer j true))->Q none w'.s):wpAny (model V.prog V.w) A (pyNext (.ref it)) Q E w.s:=by
 obtain⟨a',e0,ho,o,eo,hd⟩:=bs.ob.at_ q _ hg
 rw [ha] at e0;cases e0
 rcases hd with ⟨z,_⟩ | ⟨_,m,x,t,rfl,em,ex⟩
 ·exact nomatch z
 obtain⟨b1,f1,_⟩:=bs.unown hg ha ho
 have b2:=b1.toR1 f1 eo
 obtain⟨oF,fd,eF,dF⟩:=hf
 refine zG room.h eo (bs.in _ _ em) (bs.K _ _ eF) dF (codeAny_mono (hc A.in1 ((w.unown it).toR (one it (dT #[.ref m,.str "" t,.bool false]))) [.ref x] [] room.in1 b2 (.cons (aa x rfl ex) .nil) .nil (fun v s'=>∃ y' u,v=.str y' u/\s'.heap.get? it=some (dT #[.ref m,.str "" t,.bool false])/\s'.heap.get? m=some (methodObj (.ref V.rc) (.ref x))/\s'.heap.get? V.rc=some oF /\
   ((y'≠""/\Q (some v) s')\/(y'=""/\∀ h' tk,h'.get? it=some (dT #[.none,.none,.bool true])->(∀ b o,b≠it->s'.heap.get? b=some o->h'.get? b=some o)->Q none { s' with heap:=h',toks:=tk }))) (fun ι ι=>False) fun u w3 n3 z3=>?_) fun r s' hr=>?_)
 ·obtain⟨b3,F3,vm3,x3⟩:=z3
  obtain⟨u',rfl⟩:=Rd.isStr x3
  obtain⟨b4,f4,e4⟩:=b3.outR1 (w:=w.unown it) n3.r f1.r
  have n4:Nx w (w3.inR w.R):=⟨n3.g,n3.b,rfl,n3.s⟩
  have gi:(w3.inR w.R).γ[q]?=some it:=n3.g _ _ ha
  refine (tO y u' rfl e4 (b4.in _ _ (n3.b _ _ em)) (b4.K _ _ eF) ?_)
  by_cases hy:y=""
  ·refine .inr ⟨hy,fun h' tk eh hk=>?_⟩
   have b5:=b4.to (h:=h') (fun b ob nf eb=>hk b ob (fun z=>nf (z▸f4)) eb) tk
   exact h2 hy (((w3.inR w.R).to h' tk).reown it q) (n4.trans ((Nx.to ..).trans Nx.reown)) F3 vm3 (b5.reown hg1 gi (f4.to tk) eh ⟨if_pos rfl,(aa _ eh (.inl ⟨rfl,rfl⟩))⟩)
  ·exact .inl ⟨hy,h1 hy (.str y u') ((w3.inR w.R).reown it q) (n4.trans Nx.reown) F3 vm3 x3 (b4.reown hg1 gi f4 e4 ⟨if_pos rfl,(aa _ e4 (.inr ⟨rfl,(cA m x t rfl (n3.b _ _ em) (n3.g _ _ ex))⟩))⟩)⟩
 ·cases r with
  | error e=>exact hr.elim
  | ok f=>cases f<;>first | exact hr | exact hr.elim
theorem zH {it:Addr} {Q:Option Value->Shared->Prop} {E:Value->Shared->Prop} (bs:Bs V w G) (hh:A.handled=none) (hg:G[q]?=some (.citer j true)) (ha:w.γ[q]?=some it) (h:∀ h' n,(∀ b o,w.h.get? b=some o->h'.get? b=some o)->Q none (w.to h' n).s):wpAny (model V.prog V.w) A (pyNext (.ref it)) Q E w.s:=by
 obtain⟨a',e0,ho,o,eo,hd⟩:=bs.ob.at_ q _ hg
 rw [ha] at e0;clear ho;cases e0
 rcases hd with ⟨_,rfl⟩ | ⟨z,_⟩
 ·exact wj hh eo fun h' hk=>h h' w.s.toks hk
 ·cases z
noncomputable def qN (V:aD) (k:Nat) (sc:Scope) (q:Nat) (x:Str) (body:List Stmt) (n:Nat):St->Fl->St->Prop :=
 Nat.rec (motive:=fun ι=>St->Fl->St->Prop) (fun ι ι ι=>False) (fun ι F σ fl σ'=>(∃ j,σ.G[q]?=some (.citer j true)/\fl=.next/\σ'=σ)\/∃ j G1 y,σ.G[q]?=some (.citer j false)/\bp V k V.rc [.obj j] [] (σ.G.set q .gone) (.val (.dat (.str y))) G1/\G1[q]?=some .gone/\((y=""/\fl=.next/\σ'=⟨σ.ρ,G1.set q (.citer j true)⟩)\/(y≠""/\∃ f σ2,Ex V (k+1) body sc ⟨aG σ.ρ x (.val (.dat (.str y))),G1.set q (.citer j false)⟩ f σ2/\(((f=.next\/f=.cont)/\F σ2 fl σ')\/∃ v,f=.ret v/\fl=.ret v/\σ'=σ2)))) n
theorem wk {n:Nat} {it:Addr} {N:Shared->Prop} {RR:Result->Shared->Prop} (h:qN V k sc q x body n st fl st2) (hf:qM V) (hk:bW sc x) (r:aq V (k+1) sc c st w) (ha:w.γ[q]?=some it) (hN:∀ m st' w',m<n->Nx w w'->aq V (k+1) sc c st' w'->qN V k sc q x body m st' fl st2->N w'.s)
  (hQ:∀ v w',Nx w w'->aq V (k+1) sc c st2 w'->yV v w' fl->RR (.ok v) w'.s):BC V c (.Name x xp) body it N RR w:=by
 cases n with
 | zero=>exact h.elim
 | succ n =>
 rcases h with ⟨j,hg,rfl,rfl⟩ | ⟨j,G1,y,hg,hc,hg1,h⟩
 ·exact fun E=>zH r.bs r.room.h hg ha fun h' m kp=>by rw [execs_nil];exact wpAny_pure (hQ .next (w.to h' m) (Nx.to ..) (r.to (Kp.all kp) m) rfl)
 rcases h with ⟨rfl,rfl,rfl⟩ | ⟨hy,f,σ2,hb,h⟩
 ·exact fun E=>su r.bs r.room hf hg ha hc hg1 (fun z=>absurd rfl z) fun ι w1 n1 F1 v1 b1=>by rw [execs_nil];exact wpAny_pure (hQ .next w1 n1 (r.after n1 b1 F1 v1) rfl)
 ·exact fun E=>su r.bs r.room hf hg ha hc hg1 (fun ι v w1 n1 F1 v1 rd b1=>sf (by rfl) (by rfl) (wpAny_assign_Name (iV (sl:=.val (.dat (.str _))) hk (r.after n1 b1 F1 v1) rd gF.val _ _ fun ι w2 n2 r2=>hb c w2 r2 _ _ fun u w3 n3 z3=>by
   have n4:=n1.trans (n2.trans n3)
   rcases h with ⟨hfl,h'⟩ | ⟨v,rfl,rfl,rfl⟩
   ·have fin:=hN _ _ w3 (Nat.lt_succ_self _) n4 z3.1 h'
    rcases hfl with rfl | rfl
    ·obtain rfl:u=.next:=z3.2
     exact fin
    ·obtain rfl:u=.cont:=z3.2
     exact fin
   ·have fin:=hQ u w3 n4 z3.1 z3.2
    obtain⟨u',zq,_⟩:=z3.2;clear z3;subst zq
    exact fin))) fun z=>absurd z hy
theorem zI {n:Nat} {it:Addr} {RR:Result->Shared->Prop} (h:qN V k sc q x body n st fl st2) (hf:qM V) (hk:bW sc x) (r:aq V (k+1) sc c st w) (ha:w.γ[q]?=some it) (hQ:∀ v w',Nx w w'->aq V (k+1) sc c st2 w'->yV v w' fl->RR (.ok v) w'.s) :
  codeAny (model V.prog V.w) c.A (.forLoop (.Name x xp) (.ref it) body [] c.env) RR w.s :=
 codeAny_forLoop_any (fun n s1=>∃ st1 w1,s1=w1.s/\Nx w w1/\aq V (k+1) sc c st1 w1/\qN V k sc q x body n st1 fl st2) (fun n s1 I=>by
  obtain⟨st1,w1,zq,n1,r1,hw⟩:=I;rw [zq]
  exact wk hw hf hk r1 (n1.g _ _ ha) (N:=fun s=>∃ m,m<n/\∃ st1 w1,s=w1.s/\Nx w w1/\aq V (k+1) sc c st1 w1/\qN V k sc q x body m st1 fl st2) (RR:=RR) (fun m st' w' hm n' r' h'=>(aa m hm (cQ st' w' rfl (n1.trans n') r' h'))) (fun v w' n' r' x'=>hQ v w' (n1.trans n') r' x') _) n (cQ st w rfl (Nx.refl _) r h)
theorem Dv {n:Nat} {dn:Bool} (hx:af st.ρ y=some (.val (.obj q))) (hg:st.G[q]?=some (.citer j dn)) (h:qN V k sc q x body n st fl st2) (hf:qM V) (hk:bW sc x):eM V (k+1) (.For (.Name x xp) (.Name y sp) body [] p) sc st fl st2:=fun c w r Q E hQ=>by
 refine wpAny_For ?_ (fun ι=>rfl)
 obtain⟨u,hu,hs⟩:=r.slot hx
 obtain⟨it,rfl,ha⟩:=hs
 refine Do.nameV r hx hu _ E fun u w' n' zz=>?_
 obtain⟨rfl,zq⟩:=zz;rw [zq]
 obtain⟨a',e0,ho,o,eo,hd⟩:=r.bs.ob.at_ q _ hg
 rw [ha] at e0;clear ho;cases e0
 have run:=fun RR hQ'=>zI (RR:=RR) (xp:=xp) h hf hk r ha hQ'
 rcases hd with ⟨_,rfl⟩ | ⟨_,m,x',t,rfl,_⟩
 ·exact lY eo (run _ fun v w' n' r' x'=>hQ v w' n' ⟨r',x'⟩)
 ·exact lY eo (run _ fun v w' n' r' x'=>hQ v w' n' ⟨r',x'⟩)
structure km (V:aD) (cl:Nat) (name:Str) (f:Addr):Prop where
 ex:∃ K:Frag,(∀ a o,K.lookup a=some o->V.K a=some o)/\findIn K (.ref (V.cls cl)) "__getattribute__"=some (some (.builtin "object.__getattribute__"))/\findIn K (.ref (V.cls cl)) "__getattr__"=some none/\typeIn K (.ref f)=some (.type "function") /\
  ∀ od,lookIn name od=some none->findObj K (V.cls cl) (some od) name=some (.bind (.builtin "function.__get__") (.ref f))
theorem uw {a:Addr} {attrs:List (Str×ab)} {Q E:Value->Shared->Prop} (K:km V cl name f) (bs:Bs V w G) (hg:G[j]?=some (.inst cl attrs)) (hn:attrs.lookup name=none) (ha:w.γ[j]?=some a) (hQ:∀ n,Q (.ref w.h.objs.size) (w.to (w.h.push (methodObj (.ref f) (.ref a))) n).s):wpAny (model V.prog V.w) A (getAttr (.ref a) name true) Q E w.s:=by
 obtain⟨_,dx,mA,_,hI,hA⟩:=bs.inst hg ha
 obtain⟨ox,od,e1,e2,e3,e4,e5,e6,e7⟩:=hI
 obtain⟨K,iK,g1,g2,g3,g4⟩:=K.ex
 have X:K.In w.s.heap:=fun a o e=>bs.K a o (iK a o e)
 have IA:PySem.W.InstAt w.s.heap a ox (V.cls cl) (some od):=by
  refine⟨e1,e2,?_,?_⟩
  ·delta notCls
   revert e3
   cases ox.data<;>first | exact fun _=>rfl | exact fun e3=>absurd rfl (e3 _)
  ·rw [e4];exact e6
 exact get_bind (g:=.builtin "function.__get__") (K:=K) (od:=some od) (ox:=ox) X IA g1 (g4 od (uv e7 (hA.non hn))) g2 (wpAny_call (fn_get (s:={ w.s with toks:=w.s.toks+1 }) X g3 (handed_on rfl (hQ _))))
theorem Dw {attrs:List (Str×ab)} {ap p1 p2:Pos} {ci:Nat} (hi:dO sc ("iter":Str)=true) (hb:Bi V "iter" (.builtin "iter")) (hx:af st.ρ x=some (.val (.obj j))) (hg:st.G[j]?=some (.inst cl attrs)) (hn:attrs.lookup name=none) (K:km V cl name V.rc) :
  eK V k (.Call (.Name "iter" p) [.Attribute (.Name x xp) name ap,.Constant (.str "") ci p1] [] p2) sc st (.obj st.G.length) ⟨st.ρ,st.G++[.citer j false]⟩:=fun c w r Q E hQ =>
 PyProof.Rows.Call_Name rfl (aZ r hi (.inr hb) (Z:=fun u w'=>u=.builtin "iter"/\w'=w) ⟨rfl,rfl⟩ _ E fun u w' n z=>by
  obtain⟨rfl,zq⟩:=z;rw [zq]
  refine aQ rfl rfl (PySem.Calls.evalArgs_plain (PySem.Calls.spliced_cons ?_))
  obtain⟨u,hu,hs⟩:=r.slot hx
  obtain⟨a,rfl,ha⟩:=hs
  refine Attribute_any_ (Do.nameV r hx hu _ E fun u w1 n1 zz=>?_)
  obtain⟨zq,rfl⟩:=zz;clear n zq hu n1;subst zq
  refine uw K r.bs hg hn ha fun tk=>?_
  have f0:=r.fresh (Nat.le_refl _)
  have f1:ai (w1.to (w1.h.push (methodObj (.ref V.rc) (.ref a))) tk) w1.h.objs.size:=f0.to tk
  have e1:(w1.h.push (methodObj (.ref V.rc) (.ref a))).get? w1.h.objs.size=some (methodObj (.ref V.rc) (.ref a)):=Heap.get?_push_size _ rfl
  have r2:=(r.to (Kp.push w1 (methodObj (.ref V.rc) (.ref a))) tk).toB f1 e1
  generalize hw2:(w1.to (w1.h.push (methodObj (.ref V.rc) (.ref a))) tk).toB w1.h.objs.size (methodObj (.ref V.rc) (.ref a))=w2 at r2
  have n2:Nx w1 w2:=by rw [<- hw2];exact (Nx.to ..).trans (Nx.toB f1.b)
  have s2:w2.s=(w1.to (w1.h.push (methodObj (.ref V.rc) (.ref a))) tk).s:=by rw [<- hw2];rfl
  have v2:w2.vm=w1.vm:=by rw [<- hw2];rfl
  have b2:w2.B w1.h.objs.size=some (methodObj (.ref V.rc) (.ref a)):=by rw [<- hw2];exact aK ..
  rw [<- s2]
  refine PySem.Calls.spliced_cons (By (V:=V) (k:=k) (sc:=sc) (st:=st) (j:=ci) (p:=p1) c w2 r2 _ E fun v3 w3 n3 z3=>PySem.Calls.spliced_nil ⟨aA nofun,?_⟩)
  obtain⟨t3,rfl⟩:=Rd.isStr z3.x
  have r3:=z3.rel
  have b3:=n3.b _ _ b2
  refine call_function_entry uq qL qK (ut _ _) ?_
  unfold Builtin.«iter»
  refine wpAny_bind (wpAny_pure ?_)
  refine wpAny_bind (PySem.wpAny_specialOf (T:="method") (aa _ (r3.bs.in _ _ b3) rfl) uu ?_)
  refine wpAny_bind (wpAny_rule (wpAny_bind ?_))
  unfold PySem.newFields
  refine wpAny_newObj_type ?_ (by size_fits)
  refine wpAny_pure (aa _ rfl ?_)
  have r4:=r3.to (Kp.push w3 (dT #[.ref w1.h.objs.size,.str "" t3,.bool false])) w3.s.toks
  have e4:(w3.h.push (dT #[.ref w1.h.objs.size,.str "" t3,.bool false])).get? w3.h.objs.size=some (dT #[.ref w1.h.objs.size,.str "" t3,.bool false]):=Heap.get?_push_size _ rfl
  have f4:ai (w3.to (w3.h.push (dT #[.ref w1.h.objs.size,.str "" t3,.bool false])) w3.s.toks) w3.h.objs.size:=(r3.fresh (Nat.le_refl _)).to _
  have lg:w3.γ.length=st.G.length:=r3.bs.ob.len
  have b5:=r4.bs.add (a:=w3.h.objs.size) (l:=[w3.h.objs.size]) (ob:=.citer j false) (fun y hy=>by rw [List.mem_singleton.mp hy];exact⟨f4,⟨_,e4⟩⟩) ⟨(if_pos (List.mem_singleton.mpr rfl)).trans (congrArg some lg),(aa _ e4 (.inr ⟨rfl,(cA _ a t3 rfl b3 (bD.append _ _ _ _ (n3.g _ _ (n2.g _ _ ha))))⟩))⟩
  exact hQ _ ((w3.to (w3.h.push _) w3.s.toks).add w3.h.objs.size [w3.h.objs.size]) (n2.trans (n3.trans ((Nx.to ..).trans (Nx.add ..)))) ⟨z3.vm.trans v2,r4.after (Nx.add ..) b5 rfl rfl,w3.h.objs.size,rfl,by
   show (w3.γ++[w3.h.objs.size])[st.G.length]?=_
   rw [<- lg,List.getElem?_append_right (Nat.le_refl _),Nat.sub_self];rfl⟩)
end
noncomputable def aD.at (V:aD) (K:PM) (p:List Addr):aD:={ V with K:=K,pin:=p }
noncomputable def BH (sc:Scope) (x:Str):Scope:={ sc with names:=sc.names.map fun p=>(p.1,if p.1==x then .free else p.2) }
theorem o7 (sc:Scope) (x y:Str):(BH sc x).names.lookup y=if y=x then (sc.names.lookup y).map (fun ι=>.free) else sc.names.lookup y:=by
 show (sc.names.map fun p=>(p.1,if p.1==x then NameKind.free else p.2)).lookup y=_
 rw [jf (fun n k=>if n==x then NameKind.free else k) y sc.names]
 by_cases h:y=x
 ·subst h;rw [if_pos rfl];congr 1;funext k;exact if_pos (beq_self_eq_true y)
 ·rw [if_neg h]
  have:(y==x)=false:=by simpa using h
  rw [this]
  cases sc.names.lookup y<;>rfl
structure zJ (V:aD) (i:Nat) (cv:Value):Prop where
 bm:∃ bm ob,V.mg "__builtins__"=some (.ref bm)/\bm≠builtinsNs/\bm≠mainGlobals/\V.K bm=some ob/\ob.cls=.type "module"/\ob.dict=some builtinsNs/\ob.data=.plain
 hd:∃ c,cv=.ref c/\∀ h,In V.K h->CodeHd h c (V.tab i).at_
 ne:mainGlobals≠(V.tab i).at_
section
variable {V:aD} {k i g:Nat} {sc scope:Scope} {c:Cx} {st st' st1 st2:St} {w w':W} {A:Around} {e:Expr} {s:Stmt} {ss body:List Stmt} {p pos:Pos} {x name qual:Str} {G G1 G':List GObj} {fl:Fl} {av:ab} {fd:FuncData} {ρ:Rho} {params:Arguments} {K':PM} {p':List Addr}
theorem fO.cons (h:eM V k s sc st .next st1) (h':fO V k fd ss sc st1 fl G'):fO V k fd (s::ss) sc st fl G':=fun c w hc r Q E hQ=>by
 rw [execs_cons]
 refine wpAny_bind (h c w r _ E fun v w1 n1 z1=>?_)
 obtain rfl:v=.next:=z1.2
 exact h' c w1 hc z1.1 Q E fun v w2 n2 z2=>hQ v w2 (n1.trans n2) z2
theorem Bs.weak (b:Bs (V.at K' p') w G) (h:Le V.K K') (h':bD V.pin p'):Bs V w G:=⟨b.ok,⟨b.top.g,b.top.b,b.top.l,h.trans b.top.k⟩,h'.trans b.ob.pin,b.ob.len,fun k ob e=>by
 obtain⟨a,h1,h2⟩:=b.ob.at_ k ob e
 refine (aa a h1 ?_)
 cases ob<;>exact h2⟩
theorem Bs.strong (b:Bs V w G):Bs (V.at w.B w.γ) w G:=⟨b.ok,⟨b.top.g,b.top.b,b.top.l,Le.refl _⟩,bD.refl _,b.ob.len,fun k ob e=>by
 obtain⟨a,h1,h2⟩:=b.ob.at_ k ob e
 refine (aa a h1 ?_)
 cases ob<;>exact h2⟩
theorem aq.frzCell (r:aq V k sc c st w) (hk:sc.names.lookup x=some .cell):∃ w' a o,Nx w w'/\w'.s=w.s/\w'.vm=w.vm/\w'.γ=w.γ/\aq V k (BH sc x) c st w'/\c.env.cells.lookup x=some a/\w'.B a=some o/\o.data=.cell (w.vm x):=by
 have kx:=r.fr.knd x _ hk nofun
 obtain⟨a,o,h1,h2,h3⟩:=r.fr.cl x (.inl kx)
 have hF:w.F a=some o:=h3.elim id fun y=>by rw [hk] at y;exact absurd y.2 nofun
 have l:=Le.put (o:=o) (r.bs.ok.bf.r hF)
 have ne:∀ b ob,w.F b=some ob->b≠a->(w.frz a o).F b=some ob:=fun b ob e z=>(qj z).trans e
 have look:=o7 sc x
 have fr:=r.fr
 refine (FV (w.frz a o) a o ⟨bD.refl _,l,rfl,w.s.heap,w.s.toks,rfl⟩ rfl rfl rfl ⟨r.room,⟨r.bs.ok.freeze hF,r.bs.top.le l,r.bs.ob.move rfl rfl l fun ι ι ι=>id⟩,r.cr,{ fr with dbg:=?_,cdk:=?_,knd:=fun y kk h n=>?_,knf:=fun y h=>?_,ns:=?_,cl:=fun y hy=>?_,vals:=fun y s hy=>?_ }⟩ h1 (aK ..) h2)
 ·intro k hk'
  rw [look] at hk'
  by_cases z:("__debug__":Str)=x
  ·cases fr.dbg _ (z▸hk)
  ·rw [if_neg z] at hk';exact fr.dbg k hk'
 ·rw [look,fr.cdk];exact ite_self _
 ·rw [look] at h
  by_cases z:y=x
  ·rw [if_pos z] at h
   obtain⟨_,_,zq⟩:=Option.map_eq_some_iff.mp h;clear h;subst zq
   exact absurd rfl n
  ·rw [if_neg z] at h;exact fr.knd y kk h n
 ·rw [look] at h
  by_cases z:y=x
  ·rw [z];exact .inl kx
  ·rw [if_neg z] at h;exact fr.knf y h
 ·obtain⟨oL,m,n1,n2,n3⟩:=fr.ns
  refine (aF oL m (ne _ _ n1 fun z=>?_) n2 n3)
  rw [z,hF] at n1;cases n1
  obtain⟨es,ep,hd,_⟩:=n2
  rw [hd] at h2;exact nomatch h2
 ·by_cases z:y=x
  ·rw [z]
   exact (aF a o h1 h2 (.inr ⟨.inr (aK ..),by rw [look,if_pos rfl,hk];rfl⟩))
  ·obtain⟨a2,o2,g1,g2,g3⟩:=fr.cl y hy
   have na:a2≠a:=fun q=>z (fr.inj y x a hy (.inl kx) (q▸g1) h1)
   exact (aF a2 o2 g1 g2 (g3.imp (fun q=>ne _ _ q na) fun q=>⟨q.1.imp id (l _ _),by rw [look,if_neg z];exact q.2⟩))
 ·obtain⟨u,kk,g1,g2,g3,g4⟩:=fr.vals y s hy
  have hs:cT (w.frz a o) u s:=g2.move (bD.refl _) l fun b vs n q=>ne _ _ q fun z=>by
   rw [z,hF] at q;clear h3 hF l ne;cases q;exact nomatch h2
  by_cases z:y=x
  ·exact (cQ u .free g1 hs (by rw [look,if_pos z,g3];rfl) rfl)
  ·exact (cQ u kk g1 hs (by rw [look,if_neg z];exact g3) g4)
theorem aq.frzCells:∀ {xs:List Str} {sc:Scope} {w:W},aq V k sc c st w->xs.Nodup->(∀ x∈xs,sc.names.lookup x=some .cell)->∃ w',Nx w w'/\w'.s=w.s/\w'.vm=w.vm/\w'.γ=w.γ/\aq V k (xs.foldl BH sc) c st w'/\∀ x∈xs,∃ a o,c.env.cells.lookup x=some a/\w'.B a=some o/\o.data=.cell (w.vm x):=by
 intro xs
 induction xs with
 | nil=>exact fun {sc w} r _ _=>(og w (Nx.refl _) rfl rfl rfl r (fun ι h=>nomatch h))
 | cons x xs ih =>
  intro sc w r nd hk
  rw [List.nodup_cons] at nd
  obtain⟨w1,a,o,n1,s1,v1,g1,r1,e1,e2,e3⟩:=r.frzCell (hk x (List.mem_cons_self ..))
  obtain⟨w2,n2,s2,v2,g2,r2,f2⟩:=ih r1 nd.2 fun y hy=>by
   have ny:¬ y=x:=fun z=>nd.1 (by rw [<- z];exact hy)
   rw [o7,if_neg ny];exact hk y (List.mem_cons_of_mem _ hy)
  refine (og w2 (n1.trans n2) (s2.trans s1) (v2.trans v1) (g2.trans g1) r2 (fun y hy=>?_))
  rcases List.mem_cons.mp hy with rfl | hy
  ·exact (aF a o e1 (n2.b _ _ e2) e3)
  ·rw [<- v1];exact f2 y hy
theorem tY.le {sc:Scope} {cl:List (Str×Addr)} {vm0:Str->Option Value} {C B B':PM} (h:tY sc cl vm0 C B) (l:Le B B'):tY sc cl vm0 C B':=⟨fun x hx=>k2_3 (h.has x hx) fun a o h1 h2 h3=>(aF a o h1 h2 (h3.imp id (l _ _))),h.inj⟩
theorem Bs.setBack {ob ob':GObj} {a:Addr} (b:Bs V w (G.set g ob')) (hg:G[g]?=some ob) (ha:w.γ[g]?=some a) (hn:gE V w g ob a):Bs V w G:=⟨b.ok,b.top,b.ob.pin,by rw [b.ob.len,List.length_set],fun j ob2 hj=>by
 by_cases z:g=j
 ·subst z;rw [hg] at hj;cases hj;exact (aa a ha hn)
 ·obtain⟨a2,h1,h2⟩:=b.ob.at_ j ob2 (by rw [List.getElem?_set_ne z];exact hj)
  exact (aa a2 h1 h2)⟩
theorem made {M:Model} {Q E:Value->Shared->Prop} {env:Env} {cv:Value} {clos:List (Str×Addr)} {n:Nat} (bs:Bs V w G) (hg:G[g]?=some (.tab i)) (mk:zJ V i cv) (hcl:closureFor scope env=pure clos) (hge:env.globals=mainGlobals) (hcode:env.code=cv)
  (hQ:∀ f fo doc pm ctv c' w',Nx w w'->w'.F=w.F->w'.vm=w.vm->w'.γ=w.γ->Bs V w' G->w'.B f=some fo->fo.data=.func (fnX name (V.tab i).qual params body scope clos .none .none doc pm none (.ref c') ctv)->fo.cls=.type "function"->dI w'.B c' (V.tab i).qual->Q (.ref f) w'.s) :
  wpAny M A (makeFunction name (V.tab i).qual params (.stmts body) scope env [] [] [] (V.tab i).pos n) Q E w.s:=by
 obtain⟨bm,ob,m1,m2,m3,m4,m5,m6,m7⟩:=mk.bm
 obtain⟨cc,rfl,hd⟩:=mk.hd
 obtain⟨a,ha,ho,rfl,ht⟩:=bs.ob.at_ g _ hg
 have nbm:bm≠(V.tab i).at_:=fun q=>by
  have:=(bs.ok.o _ (by rw [ho];exact nofun)).2.2.1
  rw [<- q,bs.top.k _ _ m4] at this;cases this
 have iK:=bs.K
 have fin:∀ {w1:W} {fo:Obj} {doc pm ctv:Value} {c':Addr} {tk:Nat},Nx w w1->w1.F=w.F->w1.vm=w.vm->w1.γ=w.γ->Bs V w1 G->fo.isFreed=false->fo.data=.func (fnX name (V.tab i).qual params body scope clos .none .none doc pm none (.ref c') ctv)->fo.cls=.type "function"->dI w1.B c' (V.tab i).qual->Q (.ref w1.h.objs.size) { w1.s with heap:=w1.h.push fo,toks:=tk }:=by
  intro w1 fo doc pm ctv c' tk n1 f1 v1 g1 b1 hf hd hc cb
  have ff:=b1.ok.free (Nat.le_refl _)
  have f':ai (w1.to (w1.h.push fo) tk) w1.h.objs.size:=ff.to tk
  have e':(w1.h.push fo).get? w1.h.objs.size=some fo:=Heap.get?_push_size _ hf
  exact hQ _ fo doc pm ctv c' ((w1.to (w1.h.push fo) tk).toB w1.h.objs.size fo) (n1.trans ((Nx.to ..).trans (Nx.toB f'.b))) f1 v1 g1 ((b1.to (Kp.push w1 fo) tk).toB f' e') (aK ..) hd hc (cb.le (Le.put f'.b))
 rcases ht with e | ⟨c0,e,hc0⟩
 ·refine makeFunction_K (mg:=V.mg) hcl hge (bs.top.ng bs.in) hcode (hd _ iK) e trivial rfl mk.ne (tQ bm ob m1 m2 m3 nbm (iK _ _ m4) m5 m6 m7) fun c' ctv doc h' tk hx hge hlt hrec htb=>?_
  obtain⟨c₂,oc,ovs,ot,q0,hoc,hocd,hocq⟩:=hrec
  cases q0
  have hk:∀ b o,w.own b≠some g->w.h.get? b=some o->h'.get? b=some o:=fun b o nb eb=>hx b o (fun z=>nb (z▸ho)) eb
  have b1:Bs V (w.to h' tk) (G.set g .gone):=bs.updO hg ha hk (fun b hb=>by
   by_cases z:b=(V.tab i).at_
   ·exact⟨_,z▸htb⟩
   ·obtain⟨⟨o,g0⟩,_⟩:=bs.ok.o b (by rw [hb];exact nofun)
    exact⟨o,hx b o z g0⟩) trivial
  have fc:ai (w.to h' tk) c':=(bs.ok.free hge).to tk
  have b2:=b1.toB fc hoc
  have cb:dI ((w.to h' tk).toB c' oc).B c' (V.tab i).qual:=(cA oc ovs ot (aK ..) hocd hocq)
  have b3:Bs V ((w.to h' tk).toB c' oc) G:=b2.setBack hg ha (am ho rfl (.inr (aa c' htb cb)))
  exact fin (w1:=(w.to h' tk).toB c' oc) (fo:=fnMade name (V.tab i).qual params body scope clos doc ((V.mg "__name__").getD .none) c' ctv) ((Nx.to ..).trans (Nx.toB fc.b)) rfl rfl rfl b3 rfl rfl rfl cb
 ·have hf:codeAmong (V.tab i).pos (#[rawInt (V.tab i).pos.line,rawInt (V.tab i).pos.col,Value.ref c0]).toList=some (.ref c0):=by
   simp [codeAmong,rawInt]
  refine makeFunction_hit (mg:=V.mg) hcl hge (bs.top.ng bs.in) hcode (hd _ iK) e (by simp [TriplesOk,rawInt]) hf (tQ bm ob m1 m2 m3 nbm (iK _ _ m4) m5 m6 m7) fun ctv doc h' tk hk hsz=>?_
  exact fin (w1:=w.to h' tk) (fo:={ cls:=.type "function",data:=.func (fnX name (V.tab i).qual params body scope clos .none .none doc ((V.mg "__name__").getD .none) none (.ref c0) ctv) }) (Nx.to ..) rfl rfl rfl (bs.to (Kp.all hk) tk) rfl rfl rfl hc0
theorem Hc {xs:List Str} (hg:st.G[g]?=some (.tab i)) (mk:zJ V i fd.code) (hgl:fd.globals=mainGlobals) (hsc:tZ scope) (hco:scope.isCoroutine=false) (hgen:scope.isGenerator=false) (hp:(V.tab i).pos=pos) (hq:∀ L a,qualnameIn (fS fd L a) name name=(V.tab i).qual) (hd0:params.defaults=[]) (hk0:params.kw_defaults=[]) (ha:∀ env,annTrees params none env=[])
  (hn:bW sc name) (nd:xs.Nodup) (hxs:∀ x∈xs,sc.names.lookup x=some .cell) (hfree:∀ x,(x,NameKind.free)∈scope.names->x∈xs)
  (next:∀ (K':PM) (p':List Addr) (f:Addr) (fi:FuncData) (vm0:Str->Option Value),Le V.K K'->bD V.pin p'->jt K' f fi->fi.body=.stmts body->fi.params=params->fi.scope=scope->fi.defaults=.none->fi.kwdefaults=.none->fi.name=name->tY scope fi.closure vm0 emp K' ->
   (∀ x av,x∈xs->af (aG st.ρ name (.val (.raw (.ref f)))) x=some (.val av)->∃ v,vm0 x=some v/\VR p' K' v av)->fO (V.at K' p') k fd ss (xs.foldl BH sc) ⟨aG st.ρ name (.val (.raw (.ref f))),st.G⟩ fl G') :
  fO V k fd (.FunctionDef name params body [] none [] scope none name pos::ss) sc st fl G':=fun c w hc r Q E hQ=>by
 rw [execs_cons]
 obtain⟨clos,hcl0,hcl⟩:=ez (scope:=scope) (env:=c.env) fun x hx=>by
  obtain⟨a,o,g1,_⟩:=r.fr.cl x (.inl (r.fr.knd x _ (hxs x (hfree x hx)) nofun))
  exact⟨a,g1⟩
 obtain⟨L0,a0,hc⟩:=id hc
 have hqn:qualnameIn c.env name name=(V.tab i).qual:=by rw [hc];exact hq _ _
 refine wpAny_bind (nestDef_K hd0 hk0 (ha _) ?_)
 rw [hqn,<- hp]
 refine made r.bs hg mk hcl0 r.fr.glb (by rw [hc];rfl) fun f fo doc pm ctv c' w1 n1 F1 v1 g1 b1 ef ed ec cb=>?_
 have r1:=r.after n1 b1 F1 v1
 refine Do.storeR (rv:=.val (.raw (.ref f))) hn r1 rfl _ E fun ι w2 n2 r2=>?_
 obtain⟨w3,n3,s3,v3,g3,r3,cells⟩:=r2.frzCells nd hxs
 have fr3:=r3.fr
 have cap:tY scope clos w3.vm emp w3.B:=⟨fun x hx=>by
  have hm:=mem_of_lookup hx
  obtain⟨a,o,h1,h2,h3⟩:=cells x (hfree x hm)
  exact (aF a o ((hcl x hm).trans h1) (by rw [v3];exact h3) (.inr h2)),fun x y a hx hy ex ey=>by
  have mx:=mem_of_lookup hx
  have my:=mem_of_lookup hy
  exact r.fr.inj x y a (.inl (r.fr.knd x _ (hxs x (hfree x mx)) nofun)) (.inl (r.fr.knd y _ (hxs y (hfree y my)) nofun)) ((hcl x mx).symm.trans ex) ((hcl y my).symm.trans ey)⟩
 have l13:Le w1.B w3.B:=n2.b.trans n3.b
 have F:jt w3.B f (fnX name (V.tab i).qual params body scope clos .none .none doc pm none (.ref c') ctv):=⟨(aa fo (l13 _ _ ef) ed),rfl,rfl,(aa c' rfl (cb.le l13)),hsc,hco,hgen⟩
 have body:=next w3.B w3.γ f _ w3.vm r3.bs.top.k r3.bs.ob.pin F rfl rfl rfl rfl rfl rfl cap fun x av hx hv=>by
  obtain⟨v,e,s⟩:=r3.slot hv
  exact (aa v e s)
 have r3':aq (V.at w3.B w3.γ) k (xs.foldl BH sc) c ⟨aG st.ρ name (.val (.raw (.ref f))),st.G⟩ w3:=⟨r3.room,r3.bs.strong,r3.cr,r3.fr⟩
 rw [<- s3]
 exact body c w3 (mF L0 a0 hc) r3' Q E fun v w4 n4 z4=>hQ v w4 (n1.trans (n2.trans (n3.trans n4))) ⟨z4.1.weak r3.bs.top.k r3.bs.ob.pin,z4.2⟩
end
section
variable {V:aD} {k i g j cl sg:Nat} {sc scope:Scope} {c:Cx} {st st' st1 st2:St} {w w':W} {A:Around} {e body:Expr} {ss:List Stmt} {p pos tp xp lp:Pos} {x name qual:Str} {G G1 G' l:List GObj} {fl:Fl} {av:ab} {rv:RV} {fd:FuncData} {ρ:Rho} {params:Arguments} {attrs:List (Str×ab)} {as:List ab} {kw:List (Str×PyData)} {ds:List PyData} {d:PyData}
theorem He {M:Model} {Q E:Value->Shared->Prop} {env:Env} {cv:Value} {clos:List (Str×Addr)} {n:Nat} (bs:Bs V w G) (hg:G[g]?=some (.tab i)) (mk:zJ V i cv) (hcl:closureFor scope env=pure clos) (hge:env.globals=mainGlobals) (hcode:env.code=cv)
  (hQ:∀ f pm c' ctv w',Nx w w'->w'.F=w.F->w'.vm=w.vm->w'.γ=w.γ->Bs V w' G->w'.B f=some (kla_obj name (V.tab i).qual params body scope clos pm c' ctv)->dI w'.B c' (V.tab i).qual->Q (.ref f) w'.s) :
  wpAny M A (makeFunction name (V.tab i).qual params (.expr body) scope env [] [] [] (V.tab i).pos n) Q E w.s:=by
 obtain⟨bm,ob,m1,m2,m3,m4,m5,m6,m7⟩:=mk.bm
 obtain⟨cc,rfl,hd⟩:=mk.hd
 obtain⟨a,ha,ho,rfl,ht⟩:=bs.ob.at_ g _ hg
 have nbm:bm≠(V.tab i).at_:=fun q=>by
  have:=(bs.ok.o _ (by rw [ho];exact nofun)).2.2.1
  rw [<- q,bs.top.k _ _ m4] at this;cases this
 have iK:=bs.K
 have fin:∀ {w1:W} {pm ctv:Value} {c':Addr} {tk:Nat},Nx w w1->w1.F=w.F->w1.vm=w.vm->w1.γ=w.γ->Bs V w1 G->dI w1.B c' (V.tab i).qual->Q (.ref w1.h.objs.size) { w1.s with heap:=w1.h.push (kla_obj name (V.tab i).qual params body scope clos pm c' ctv),toks:=tk }:=by
  intro w1 pm ctv c' tk n1 f1 v1 g1 b1 cb
  have ff:=b1.ok.free (Nat.le_refl _)
  have f':ai (w1.to (w1.h.push (kla_obj name (V.tab i).qual params body scope clos pm c' ctv)) tk) w1.h.objs.size:=ff.to tk
  have e':(w1.h.push (kla_obj name (V.tab i).qual params body scope clos pm c' ctv)).get? w1.h.objs.size=some (kla_obj name (V.tab i).qual params body scope clos pm c' ctv):=Heap.get?_push_size _ rfl
  exact hQ _ pm c' ctv ((w1.to (w1.h.push (kla_obj name (V.tab i).qual params body scope clos pm c' ctv)) tk).toB w1.h.objs.size (kla_obj name (V.tab i).qual params body scope clos pm c' ctv)) (n1.trans ((Nx.to ..).trans (Nx.toB f'.b))) f1 v1 g1 ((b1.to (Kp.push w1 _) tk).toB f' e') (aK ..) (cb.le (Le.put f'.b))
 rcases ht with e | ⟨c0,e,hc0⟩
 ·refine kla_makeFunction (mg:=V.mg) hcl hge (bs.top.ng bs.in) hcode (hd _ iK) e trivial rfl mk.ne (tQ bm ob m1 m2 m3 nbm (iK _ _ m4) m5 m6 m7) fun c' ctv h' tk hx hge hlt hrec htb=>?_
  obtain⟨c₂,oc,ovs,ot,q0,hoc,hocd,hocq⟩:=hrec
  cases q0
  have hk:∀ b o,w.own b≠some g->w.h.get? b=some o->h'.get? b=some o:=fun b o nb eb=>hx b o (fun z=>nb (z▸ho)) eb
  have b1:Bs V (w.to h' tk) (G.set g .gone):=bs.updO hg ha hk (fun b hb=>by
   by_cases z:b=(V.tab i).at_
   ·exact⟨_,z▸htb⟩
   ·obtain⟨⟨o,g0⟩,_⟩:=bs.ok.o b (by rw [hb];exact nofun)
    exact⟨o,hx b o z g0⟩) trivial
  have fc:ai (w.to h' tk) c':=(bs.ok.free hge).to tk
  have b2:=b1.toB fc hoc
  have cb:dI ((w.to h' tk).toB c' oc).B c' (V.tab i).qual:=(cA oc ovs ot (aK ..) hocd hocq)
  have b3:Bs V ((w.to h' tk).toB c' oc) G:=b2.setBack hg ha (am ho rfl (.inr (aa c' htb cb)))
  exact fin (w1:=(w.to h' tk).toB c' oc) ((Nx.to ..).trans (Nx.toB fc.b)) rfl rfl rfl b3 cb
 ·have hf:codeAmong (V.tab i).pos (#[rawInt (V.tab i).pos.line,rawInt (V.tab i).pos.col,Value.ref c0]).toList=some (.ref c0):=by
   simp [codeAmong,rawInt]
  exact kla_makeFunctionHit (mg:=V.mg) hcl hge (bs.top.ng bs.in) hcode (hd _ iK) e (by simp [TriplesOk,rawInt]) hf (tQ bm ob m1 m2 m3 nbm (iK _ _ m4) m5 m6 m7) fun ctv h' tk hk hsz=>fin (w1:=w.to h' tk) (Nx.to ..) rfl rfl rfl (bs.to (Kp.all hk) tk) hc0
theorem Hf (hg:st.G[g]?=some (.tab i)) (mk:zJ V i fd.code) (hp:(V.tab i).pos=lp) (hq:∀ L a,(fS fd L a).qual++"<lambda>"=(V.tab i).qual) (hdf:∀ env,defaultsOf params env=([],[])) (hk:sc.names.lookup ("signs":Str)=some .cell) (hfree:∀ y,(y,NameKind.free)∈scope.names->y="signs") (hfm:(("signs":Str),NameKind.free)∈scope.names)
  (hlam:V.lam=⟨params,body,scope,(V.tab i).qual⟩) (hs:af st.ρ "signs"=some (.val (.obj sg))) (hx:af st.ρ x=some (.val (.obj j))) (K:qG V (st.G++[.clo sg]) j cl attrs name)
  (next:fO V k fd ss (BH sc "signs") ⟨st.ρ,(st.G++[GObj.clo sg]).set j (.inst cl (ju attrs name (.obj st.G.length)))⟩ fl G') :
  fO V k fd (.Assign [.Attribute (.Name x xp) name tp] (.Lambda params body scope lp) p::ss) sc st fl G':=fun c w hc r Q E hQ=>by
 rw [execs_cons]
 obtain⟨L0,a0,hc0⟩:=id hc
 obtain⟨w1,a,o,n1,s1,v1,g1,r1,e1,e2,e3⟩:=r.frzCell hk
 rw [<- s1]
 obtain⟨clos,hcl0,hcl⟩:=ez (scope:=scope) (env:=c.env) fun y hy=>by
  rw [hfree y hy];exact⟨a,e1⟩
 have hqn:c.env.qual++"<lambda>"=(V.tab i).qual:=by rw [hc0];exact hq _ _
 refine wpAny_bind (plainObj_wpAny_Assign_Attribute (kla_eval (hdf _) ?_) (cD _))
 rw [hqn,<- hp]
 refine He r1.bs hg mk hcl0 r.fr.glb (by rw [hc0];rfl) fun f pm c' ctv w2 n2 F2 v2 g2 b2 ef cb=>?_
 have r2:=r1.after n2 b2 F2 v2
 obtain⟨us,hus,hsl⟩:=r1.slot hs
 obtain⟨xs,rfl,gx⟩:=hsl
 have lg:w2.γ.length=st.G.length:=b2.ob.len
 have cellv:w.vm "signs"=some (.ref xs):=by rw [<- v1];exact hus
 have b3:=b2.add (a:=f) (l:=[]) (ob:=.clo sg) (fun y hy=>nomatch hy) (Cu pm c' ctv clos a o xs (by rw [hlam];exact ef) (by rw [hlam];exact cb) ((hcl _ hfm).trans e1) (n2.b _ _ e2) (by rw [e3,cellv]) (bD.append _ _ _ _ (n2.g _ _ gx)))
 have r3:=r2.after (Nx.add w2 f []) b3 rfl rfl
 obtain⟨ux,hux,hxl⟩:=r3.slot (x:=x) hx
 obtain⟨ax,rfl,gax⟩:=hxl
 refine Do.to (w':=w2.add f []) (w:=w2) (V:=V) (A:=c.A) (Z:=fun v w'=>v=.ref ax/\w'=w2.add f []) (Do.nameV r3 hx hux) (Nx.add w2 f []) rfl _ E fun u w4 n4 zz=>?_
 obtain⟨rfl,zq⟩:=zz;rw [zq]
 have hvf:VR (w2.add f []).γ (w2.add f []).B (.ref f) (.obj st.G.length):=(aa f rfl (by
  show (w2.γ++[f])[st.G.length]?=_
  rw [<- lg,List.getElem?_append_right (Nat.le_refl _),Nat.sub_self];rfl))
 exact kl K b3 gax hvf _ E fun ι w5 n5 y6986=>k0_3 y6986 fun f5 vm5 b5=>next c w5 hc (r3.after n5 b5 f5 vm5) Q E fun v w6 n6 z6=>hQ v w6 (n1.trans (n2.trans ((Nx.add w2 f []).trans (n5.trans n6)))) z6
noncomputable def zK (n:Nat):ab->Prop
 | .obj k=>k<n
 | .tup l=>∀ k,Sum.inr k∈l->k<n
 | _=>True
noncomputable def Hg (n:Nat):GObj->Prop
 | .inst _ attrs=>∀ x av,attrs.lookup x=some av->zK n av
 | .clo sg=>sg<n
 | .citer j dn=>dn=false->j<n
 | _=>True
noncomputable def vk (G:List GObj):Prop:=∀ (k:Nat) (ob:GObj),G[k]?=some ob->Hg G.length ob
theorem VR.in {γ:List Addr} {B:PM} {v:Value} (h:VR γ B v av):zK γ.length av:=by
 cases av with
 | dat d=>trivial
 | raw u=>trivial
 | obj k=>obtain⟨a,_,e⟩:=h;exact (List.getElem?_eq_some_iff.mp e).1
 | tup l =>
  obtain⟨a,vs,_,_,r⟩:=h
  intro k hk
  obtain⟨m,hm⟩:=List.getElem?_of_mem hk
  obtain⟨v,_,a,_,e⟩:=r.get hm
  exact (List.getElem?_eq_some_iff.mp e).1
theorem Bs.inG (b:Bs V w G):vk G:=fun k ob hk=>by
 obtain⟨a,_,h⟩:=b.ob.at_ k ob hk
 rw [<- b.ob.len]
 cases ob with
 | inst cl attrs =>
  obtain⟨_,dx,mA,_,_,hA⟩:=h
  intro x av hx
  obtain⟨v,_,r⟩:=hA.get hx
  exact r.in
 | clo sg=>obtain⟨_,_,_,_,_,_,x,_,_,_,_,_,e⟩:=h;exact (List.getElem?_eq_some_iff.mp e).1
 | citer j dn =>
  obtain⟨_,o,_,h⟩:=h
  intro hd
  rcases h with ⟨h,_⟩ | ⟨_,m,x,t,_,_,e⟩
  ·rw [hd] at h;cases h
  ·exact (List.getElem?_eq_some_iff.mp e).1
 | _=>trivial
theorem ik {γ γ0:List Addr} (g:bD γ0 γ) {k:Nat} {a:Addr} (h:γ[k]?=some a) (hk:k<γ0.length):γ0[k]?=some a:=by
 have e:=List.getElem?_eq_getElem hk
 have:=g _ _ e
 rw [h] at this;rw [e,this]
theorem VR.low {γ γ0:List Addr} {B:PM} {v:Value} (h:VR γ B v av) (g:bD γ0 γ) (hi:zK γ0.length av):VR γ0 B v av:=by
 cases av with
 | dat d=>exact h
 | raw u=>exact h
 | obj k=>obtain⟨a,e,q⟩:=h;exact (aa a e (ik g q hi))
 | tup l =>
  obtain⟨a,vs,e,q,r⟩:=h
  refine (aF a vs e q ?_)
  clear q e
  induction r with
  | nil=>exact .nil
  | @cons u d us l h _ ih =>
   refine .cons ?_ (ih fun k hk=>hi k (List.mem_cons_of_mem _ hk))
   cases d with
   | inl d=>exact h
   | inr k=>obtain⟨a,e,q⟩:=h;exact (aa a e (ik g q (hi k (List.mem_cons_self ..))))
noncomputable def W.low (w:W) (γ:List Addr):W:={ w with γ:=γ,own:=fun y=>(w.own y).filter (·<γ.length) }
theorem sv {γ:List Addr} {y:Addr} {i:Nat}:(w.low γ).own y=some i ↔ w.own y=some i/\i<γ.length:=by
 show (w.own y).filter _=some i ↔ _
 rw [Option.filter_eq_some_iff,decide_eq_true_eq]
theorem Bs.low {γ:List Addr} (b:Bs V w (G++l)) (hl:γ.length=G.length) (hg:bD γ w.γ) (hp:bD V.pin γ) (hi:vk G):Bs V (w.low γ) G:=by
 have sub:∀ y,(w.low γ).own y≠none->w.own y≠none:=fun y h e=>by
  obtain⟨i,hi⟩:=Option.ne_none_iff_exists'.mp h
  rw [(sv.mp hi).1] at e;cases e
 refine⟨⟨b.ok.r,b.ok.b,b.ok.f,b.ok.rb,b.ok.rf,b.ok.bf,fun y h=>b.ok.o y (sub y h)⟩,b.top,hp,hl,fun k ob hk=>?_⟩
 have hlt:=(List.getElem?_eq_some_iff.mp hk).1
 obtain⟨a,h1,h2⟩:=b.ob.at_ k ob (by rw [List.getElem?_append_left hlt];exact hk)
 have hk':k<γ.length:=by rw [hl];exact hlt
 have ow:∀ {y:Addr},w.own y=some k->(w.low γ).own y=some k:=fun h=>sv.mpr ⟨h,hk'⟩
 have hin:=hi k ob hk
 rw [<- hl] at hin
 refine (aa a (ik hg h1 hk') ?_)
 cases ob with
 | tab i=>obtain⟨q1,q2,q3⟩:=h2;exact (am (ow q1) q2 q3)
 | lst ds=>obtain⟨q1,q2⟩:=h2;exact⟨ow q1,q2⟩
 | gone=>trivial
 | inst cl attrs =>
  obtain⟨q1,dx,mA,q2,q3,q4⟩:=h2
  refine⟨ow q1,(aF dx mA (ow q2) q3 (fun y=>?_))⟩
  have t:=q4 y
  cases z:attrs.lookup y with
  | none=>rw [z] at t;exact t
  | some av=>rw [z] at t;obtain⟨v,e1,e2⟩:=t;exact (aa v e1 (e2.low hg (hin y av z)))
 | clo sg =>
  obtain⟨pm,cc,ct,clos,cl,o,z,e1,e2,e0,e3,e4,e5⟩:=h2
  exact (Cu pm cc ct clos cl o z e1 e2 e0 e3 e4 (ik hg e5 hin))
 | citer j dn =>
  obtain⟨q1,o,q2,q3⟩:=h2
  refine⟨ow q1,(aa o q2 (q3.imp id fun ⟨hd,m,x,t,e1,e2,e3⟩=>⟨hd,(cA m x t e1 e2 (ik hg e3 (hin hd)))⟩))⟩
noncomputable def Kb (n:Nat):RV->Prop
 | .val av=>zK n av
 | .own _=>True
theorem cV.drop {v:Value} (h:cV V k v as kw G rv (G'++l)) (hl:G'.length=G.length) (hi:vk G->vk G') (hr:Kb G.length rv):cV V k v as kw G rv G':=fun A w vs kvs room bs hvs hkw Q E hQ =>
 h A w vs kvs room bs hvs hkw Q E fun u w' n y11888=>k0_4 y11888 fun b f vm x=>hQ u (w'.low w.γ) ⟨bD.refl _,n.b,n.r,n.s⟩ (a7 (b.low (bs.ob.len.trans hl.symm) n.g bs.ob.pin (hi bs.inG)) f vm (by
  cases rv with
  | val av=>exact VR.low x n.g (by rw [show (w'.low w.γ).γ.length=G.length from bs.ob.len];exact hr)
  | own ds =>
   obtain⟨a,vs,m,e1,e2,e3,e4⟩:=x
   exact (dy a vs m e1 e2 ⟨e3.r,e3.b,e3.f,by show (w'.own a).filter _=none;rw [e3.o];rfl⟩ e4)))
theorem vk.set {ob:GObj} (h:vk G) (ho:Hg G.length ob):vk (G.set j ob):=fun k ob' hk=>by
 rw [List.length_set]
 rw [List.getElem?_set] at hk
 by_cases z:j=k
 ·rw [if_pos z] at hk
  by_cases q:j<G.length
  ·rw [if_pos q] at hk;cases hk;exact ho
  ·rw [if_neg q] at hk;cases hk
 ·rw [if_neg z] at hk;exact h k ob' hk
theorem zL {q:Nat} (hx:af st.ρ x=some (.val (.obj q))) (hg:st.G[q]?=some (.lst ds)):Pe V k (.Name x p) sc st (.list ds):=Bz (fun c w r=>by
 obtain⟨u,hu,hs⟩:=r.slot hx
 exact (Do.nameV r hx hu).mono fun v w' n zz=>by
  obtain⟨zq,zq⟩:=zz;clear r hu n;subst zq;rw [zq]
  exact (aa w'.s.toks rfl hs)) hg
theorem Dx (hz:ds.length<=lim):Tr V (.list ds) (!ds.isEmpty):=fun A w u G Q E r x hQ=>by
 obtain⟨a,vs,n,zq,e,rs⟩:=x.lst r.in;rw [zq]
 have hl:lim=1000000:=rfl
 have el:=rs.len
 refine wpAny_truthy_list (s:=w.s) (aB _ e rfl ⟨n,rfl⟩) (by rw [List.size_toArray,el];omega) ?_
 have eb:(!vs.toArray.isEmpty)=!ds.isEmpty:=by cases vs<;>cases ds<;>first | rfl | exact nomatch el
 rw [eb];exact hQ _
theorem qO (hz:ds.length<lim):iU V "pop" (ds++[d]) [] d ds:=(aa ("list.pop") (fun w v ds h=>cW h PySem.F.slot_list_pop PySem.F.type_list_pop) (fun A w Q E a vs us n e rs hus hQ=>by
  cases hus
  obtain⟨v,hv,rv⟩:=rs.get (i:=ds.length) (b:=d) (by rw [List.getElem?_append_right (Nat.le_refl _),Nat.sub_self];rfl)
  have el:vs.length=ds.length+1:=by rw [rs.len,List.length_append];rfl
  have hl:lim=1000000:=rfl
  have hn:vs.toArray.size-1=ds.length:=by rw [List.size_toArray,el];rfl
  refine call_meets PySem.F.slot_list_pop (aa _ e rfl) PySem.F.entry_list_pop (PySem.F.args_list_pop_1 _) (PySem.MeetsSeq.list_pop_last a vs.toArray n v (by rw [hn];simpa using hv) (by
   have e4:=sizeLine_eq
   rw [List.size_toArray,el];omega)) ⟨e,?_⟩
  rw [hn]
  have hlt:ds.length<vs.length:=by omega
  obtain⟨n',en⟩:=gr (f:=fun xs=>xs.eraseIdxIfInBounds ds.length) (vs':=vs.eraseIdx ds.length) e (by simp [Array.eraseIdxIfInBounds,hlt])
  refine hQ v _ n' _ w.s.toks (Heap.SameBut.update ..) en ?_ rv
  have:=rs.erase ds.length
  rw [List.eraseIdx_append_of_length_le (Nat.le_refl _),Nat.sub_self] at this
  simpa using this))
end
noncomputable abbrev Ctr:=List ab->List GObj->(RV->List GObj->Prop)->Prop
structure Wk where
 ev:Scope->Expr->St->(RV->St->Prop)->Prop
 cd:Scope->Expr->St->(Bool->St->Prop)->Prop
 ex:Scope->List Stmt->St->(Fl->St->Prop)->Prop
structure Gl where
 val:List (Str×ab)
 tbl:List (Str×List DictEntry)
 fn:List (Str×Ctr)
 lf:List (Str×Value×Ctr)
 me:List (Nat×Str×Ctr)
 mkw:List (Nat×Str×Ctr)
 fld:List (Nat×Str)
 clo:Ctr
 rc:Ctr
noncomputable def bc (d:PyData) (K:Int->Prop):Prop:=match d with
 | .int i=>K i
 | _=>False
noncomputable def gM (d:PyData) (K:Str->Prop):Prop:=match d with
 | .str x=>K x
 | _=>False
noncomputable def io (d:PyData) (K:List PyData->Prop):Prop:=match d with
 | .list x=>K x
 | _=>False
noncomputable def Dy (d:PyData) (K:List PyData->Prop):Prop:=match d with
 | .tuple x=>K x
 | _=>False
noncomputable def sw (v:ab) (K:PyData->Prop):Prop:=match v with
 | .dat d=>K d
 | _=>False
noncomputable def ko (v:ab) (K:Nat->Prop):Prop:=match v with
 | .obj j=>K j
 | _=>False
noncomputable def bv {α:Type} (o:Option α) (K:α->Prop):Prop:=match o with
 | some a=>K a
 | none=>False
noncomputable def kq (G:List GObj) (j:Nat) (K:List PyData->Prop):Prop:=match G[j]? with
 | some (.lst ds)=>K ds
 | _=>False
noncomputable def jh (G:List GObj) (j:Nat) (K:Nat->List (Str×ab)->Prop):Prop:=match G[j]? with
 | some (.inst cl attrs)=>K cl attrs
 | _=>False
noncomputable def qP (G:List GObj) (j:Nat) (A:Prop) (B:Nat->List (Str×ab)->Prop):Prop:=match G[j]? with
 | some (.lst _)=>A
 | some (.inst cl attrs)=>B cl attrs
 | _=>False
noncomputable def mV (ρ:Rho) (x:Str) (K:List PyData->Prop):Prop:=match af ρ x with
 | some (.lst ds)=>K ds
 | _=>False
noncomputable def bO (c:Bool) (P Q:Prop):Prop:=match c with
 | true=>P
 | false=>Q
noncomputable def dats:List ab->(List PyData->Prop)->Prop
 | [],K=>K []
 | v::vs,K=>sw v fun d=>dats vs fun ds=>K (d::ds)
noncomputable def qQ (sc:Scope) (x:Str):Bool:=sc.names.lookup x==some .local||sc.names.lookup x==some .cell
noncomputable def aR (b:Bool) (P:Prop):Prop:=bO b P False
noncomputable def wm (op:Operator) (i j:Int) (K:Int->Prop):Prop:=match op with
 | .Add=>K (i+j)
 | .Sub=>K (i-j)
 | .Mult=>Builtin.Int.intBits i+Builtin.Int.intBits j<=100000/\K (i*j)
 | .FloorDiv=>j≠0/\Builtin.Int.intBits j<=9000/\K (i.fdiv j)
 | .Mod=>j≠0/\K (i.fmod j)
 | .Pow=>0<=j/\(Builtin.Int.intBits i:Int)*j<=2 ^ 27/\K (i ^ j.toNat)
 | .LShift=>0<=j/\(Builtin.Int.intBits i:Int)+j<=2 ^ 27/\K (i*2 ^ j.toNat)
 | .RShift=>0<=j/\K (i.fdiv (2 ^ j.toNat))
 | .BitAnd=>K (Builtin.bitAnd i j)
 | .BitOr=>K (Builtin.bitOr i j)
 | .BitXor=>K (Builtin.bitXor i j)
 | _=>False
noncomputable def Hh (op:Operator) (a b:PyData) (K:RV->Prop):Prop:=match a with
 | .int i=>bc b fun j=>wm op i j fun m=>K (.val (.dat (.int m)))
 | .str x=>aR (op==.Add) (gM b fun y=>x.length+y.length<=lim/\K (.val (.dat (.str (x++y)))))
 | .list xs=>(match op with
  | .Add=>io b fun ys=>xs.length+ys.length<=lim/\K (.own (xs++ys))
  | .Mult=>(match xs with
   | [x]=>bc b fun n=>(n<=20000/\-20000<=n)/\K (.own (List.replicate n.toNat x))
   | _=>False)
  | _=>False)
 | _=>False
noncomputable def Hi (op:Operator):Bool:=match op with
 | .Add=>true
 | .Sub=>true
 | .Mult=>true
 | .FloorDiv=>true
 | .LShift=>true
 | .RShift=>true
 | _=>false
noncomputable def Mc (x y:PyData) (K:Bool->Prop):Prop:=match y with
 | .str t=>gM x fun s=>K (dU s t)
 | .list ds=>ds.all (b9 x)=true/\K (ds.any fun d=>PyData.eqv d x)
 | _=>False
noncomputable def Md (x y:PyData) (K:Bool->Prop):Prop:=match x with
 | .bool i=>(match y with
  | .bool j=>K (i==j)
  | _=>False)
 | .none=>(match y with
  | .none=>K true
  | _=>False)
 | .str _=>(match y with
  | .none=>K false
  | _=>False)
 | _=>False
noncomputable def Kc (x y:PyData) (K:Bool->Prop):Prop:=match x with
 | .none=>(match y with
  | .none=>K false
  | _=>False)
 | .str _=>(match y with
  | .none=>K true
  | _=>False)
 | _=>False
noncomputable def zM (op:CmpOp) (x y:PyData) (K:Bool->Prop):Prop:=match op with
 | .Lt=>bc x fun i=>bc y fun j=>K (decide (i<j))
 | .LtE=>bc x fun i=>bc y fun j=>K (decide (i<=j))
 | .Gt=>bc x fun i=>bc y fun j=>K (decide (i>j))
 | .GtE=>bc x fun i=>bc y fun j=>K (decide (i>=j))
 | .Eq=>b9 x y=true/\K (PyData.eqv x y)
 | .NotEq=>b9 x y=true/\K (!PyData.eqv x y)
 | .In=>Mc x y K
 | .NotIn=>io y fun ds=>ds.all (b9 x)=true/\K (!ds.any fun d=>PyData.eqv d x)
 | .Is=>Md x y K
 | .IsNot=>Kc x y K
noncomputable def uy (d:PyData) (K:Bool->Prop):Prop:=match d with
 | .bool b=>K b
 | .int i=>K (i != 0)
 | .none=>K false
 | .list ds=>ds.length<=lim/\K (!ds.isEmpty)
 | _=>False
noncomputable def Kd (d i:PyData) (K:PyData->Prop):Prop:=bc i fun j=>match d with
 | .list ds=>ds.length<=lim/\∃ m x,seqIndex? j ds.length=some m/\ds[m]?=some x/\K x
 | .tuple ds=>(0<=j/\j<1000)/\∃ x,ds[j.toNat]?=some x/\K x
 | .str x=>x.length<=lim/\∃ m q,seqIndex? j x.length=some m/\x.cps[m]?=some q/\K (.str ⟨#[q]⟩)
 | _=>False
noncomputable def Jn (d:PyData) (l u s:Option Int) (K:RV->Prop):Prop:=s≠some 0/\match d with
 | .list ds=>ds.length<=lim/\K (.own (pick ds l u s))
 | .str x=>(bJ x l u s).length<=lim/\K (.val (.dat (.str (bJ x l u s))))
 | _=>False
noncomputable def Ke (n:Str) (x:Str) (as:List PyData) (K:RV->Prop):Prop:=match as with
 | []=>x.length<=lim/\bO (n=="upper") (K (.val (.dat (.str (Txt.upper x))))) (bO (n=="lower") (K (.val (.dat (.str (Txt.lower x)))))
  (aR (n=="split") ((Builtin.Str.spaceWords x (x.length+1)).length<=lim/\K (.own ((Txt.words x).map .str)))))
 | [a]=>bO (n=="join") (io a fun ds=>∃ l:List Str,ds=l.map .str/\(l.map (·.length)).sum+l.length*x.length<=lim/\K (.val (.dat (.str (Txt.join x l)))))
  (gM a fun y=>bO (n=="index") (∃ i l,Builtin.Str.occurrences x y 0 x.length 1=i::l/\K (.val (.dat (.int i)))) (aR (n=="count") (x.length<=lim/\K (.val (.dat (.int (Txt.count x y)))))))
 | _=>False
noncomputable def zN (n:Str) (ds:List PyData) (as:List PyData) (K:RV->Prop):Prop:=match as with
 | [a]=>(ds.length<=lim/\ds.all (b9 a)=true)/\bO (n=="count") (K (.val (.dat (.int (ds.countP fun d=>PyData.eqv d a))))) (aR (n=="index") (∃ i,ds.findIdx? (fun d=>PyData.eqv d a)=some i/\K (.val (.dat (.int i)))))
 | _=>False
noncomputable def Hj (n:Str) (d:PyData) (as:List PyData) (K:RV->Prop):Prop:=match d with
 | .str x=>Ke n x as K
 | .int i=>(match as with
  | []=>aR (n=="bit_length") (K (.val (.dat (.int (Builtin.Int.intBits i)))))
  | _=>False)
 | .list ds=>zN n ds as K
 | _=>False
noncomputable def zO (n:Str) (ds:List PyData) (as:List PyData) (K:PyData->List PyData->Prop) (P:Prop):Prop:=match as with
 | []=>ds.length<=lim/\bO (n=="reverse") (K .none ds.reverse) (aR (n=="pop") (∃ d ds',ds=ds'++[d]/\K d ds'))
 | [a]=>bO (n=="append") (ds.length<=lim/\K .none (ds++[a])) (bO (n=="pop") (bc a fun j=>(ds.length<=lim/\0<=j)/\∃ d,ds[j.toNat]?=some d/\K d (ds.eraseIdx j.toNat)) P)
 | _=>False
set_option backward.match.sparseCases false in
noncomputable def iW (o:Expr):Bool:=match o with
 | .Name ..=>true
 | .Constant ..=>true
 | .Attribute ..=>true
 | .Subscript ..=>true
 | .Call f ..=>(match f with
  | .Attribute ..=>true
  | _=>false)
 | _=>false
set_option backward.match.sparseCases false in
noncomputable def qR (e:Expr):Bool:=match e with
 | .Name ..=>true
 | .Constant ..=>true
 | .Attribute ..=>true
 | .Subscript ..=>true
 | .Call ..=>true
 | .BinOp ..=>true
 | _=>false
set_option backward.match.sparseCases false in
noncomputable def mW (e:Expr):Bool:=match e with
 | .ListComp ..=>true
 | .SetComp ..=>true
 | .DictComp ..=>true
 | _=>false
set_option backward.match.sparseCases false in
noncomputable def iX (e:Expr):Bool:=match e with
 | .Set ..=>false
 | _=>true
set_option backward.match.sparseCases false in
noncomputable def o8 (e:Expr):Option Str:=match e with
 | .Name x _=>some x
 | _=>none
noncomputable def gY (e:Expr) (K:Str->Prop):Prop:=bv (o8 e) K
noncomputable def mX:List Expr->(List Str->Prop)->Prop
 | [],K=>K []
 | e::es,K=>gY e fun x=>mX es fun xs=>K (x::xs)
section
variable (g:Gl) (r:Wk)
noncomputable def Kf (l:List (Str×Ctr)) (f:Str):Option Ctr:=l.lookup f
noncomputable def yL:List (Nat×Str×Ctr)->Nat->Str->Option Ctr
 | [],_,_=>none
 | (c,n,φ)::l,cl,name=>bif (c==cl&&n==name) then some φ else yL l cl name
noncomputable def lZ (G:List GObj) (j:Nat) (n:Str) (K:ab->Prop):Prop:=jh G j fun cl attrs=>aR (g.fld.any fun p=>p.1==cl&&p.2==n) (bv (attrs.lookup n) fun av=>aR (v7 av) (K av))
noncomputable def Wk.evA (sc:Scope) (e:Expr) (st:St) (K:ab->St->Prop):Prop:=r.ev sc e st fun rv st1=>K rv.fz st1
noncomputable def Wk.evD (sc:Scope) (e:Expr) (st:St) (K:PyData->St->Prop):Prop:=r.ev sc e st fun rv st1=>sw rv.fz fun d=>K d st1
noncomputable def Wk.evs (sc:Scope):List Expr->St->(List ab->St->Prop)->Prop
 | [],st,K=>K [] st
 | e::es,st,K=>aR (bu e) (r.evA sc e st fun v st1=>Wk.evs sc es st1 fun vs st2=>K (v::vs) st2)
noncomputable def Wk.evDs (sc:Scope) (es:List Expr) (st:St) (K:List PyData->St->Prop):Prop:=r.evs sc es st fun as st1=>dats as fun ds=>K ds st1
set_option backward.match.sparseCases false in
noncomputable def wn (st:St) (e:Expr):Bool:=match e with
 | .Name x _=>(af st.ρ x).isSome
 | .Attribute o _ _=>(match o with
  | .Name ..=>true
  | _=>false)
 | _=>false
noncomputable def pk (st:St) (e:Expr) (K:PyData->Prop):Prop:=match e with
 | .Name x _=>bv (af st.ρ x) fun s=>match s with
  | .lst ds=>K (.list ds)
  | .val v=>match v with
   | .dat d=>K d
   | .obj q=>kq st.G q fun ds=>K (.list ds)
   | _=>False
 | .Attribute o n _=>gY o fun x=>bv (af st.ρ x) fun s=>match s with
  | .lst _=>False
  | .val v=>match v with
   | .obj j=>lZ g st.G j n fun av=>match av with
    | .dat d=>K d
    | .obj q=>kq st.G q fun ds=>K (.list ds)
    | _=>False
   | _=>False
 | _=>False
noncomputable def Hk (sc:Scope) (a:Expr) (op:CmpOp) (b:Expr) (st:St) (K:Bool->St->Prop):Prop:=aR (iX b)
 (bO (wn st b) (bO (wn st a) (pk g st a fun x=>pk g st b fun y=>zM op x y fun t=>K t st) (r.evD sc a st fun x st1=>pk g st1 b fun y=>zM op x y fun t=>K t st1))
  (r.evD sc a st fun x st1=>r.evD sc b st1 fun y st2=>zM op x y fun t=>K t st2))
noncomputable def o9 (sc:Scope) (st:St) (e:Expr):Option (List DictEntry):=(o8 e).bind fun x=>bif (dO sc x&&(af st.ρ x).isNone) then g.tbl.lookup x else none
noncomputable def zP (sc:Scope) (a:Expr) (op:CmpOp) (b:Expr) (st:St) (K:Bool->St->Prop):Prop:=match o9 g sc st b with
 | none=>Hk g r sc a op b st K
 | some es=>(match op with
  | .In=>r.evD sc a st fun x st1=>gM x fun z=>K (findBy Value.isStrOf es.toArray z).isSome st1
  | _=>False)
noncomputable def Wk.evO (sc:Scope) (e:Option Expr) (st:St) (K:Option Int->St->Prop):Prop:=match e with
 | none=>K none st
 | some e=>r.evD sc e st fun d st1=>bc d fun i=>K (some i) st1
noncomputable def Hl (ρ:Rho) (x:Str):Option Str:=match af ρ x with
 | some (.lst _)=>some x
 | _=>none
noncomputable def fW (st:St) (e:Expr):Option Str:=(o8 e).bind (Hl st.ρ)
noncomputable def qS (sc:Scope) (o:Expr) (l u s:Option Expr) (st:St) (K:RV->St->Prop):Prop:=match fW st o with
 | some x=>r.evO sc l st fun dl st1=>r.evO sc u st1 fun du st2=>r.evO sc s st2 fun ds st3=>mV st3.ρ x fun xs=>Jn (.list xs) dl du ds fun rv=>K rv st3
 | none=>r.evA sc o st fun v st0=>match v with
  | .dat d=>r.evO sc l st0 fun dl st1=>r.evO sc u st1 fun du st2=>r.evO sc s st2 fun ds st3=>Jn d dl du ds fun rv=>K rv st3
  | .obj q=>kq st0.G q fun xs=>r.evO sc l st0 fun dl st1=>r.evO sc u st0 fun du st2=>r.evO sc s st0 fun ds st3=>(st1=st0/\st2=st0/\st3=st0)/\Jn (.list xs) dl du ds fun rv=>K rv st0
  | _=>False
noncomputable def ji (sc:Scope) (o i:Expr) (st:St) (K:RV->St->Prop):Prop:=match o9 g sc st o with
 | some es=>r.evD sc i st fun d st1=>gM d fun z=>∃ n t,findBy Value.isStrOf es.toArray z=some (.int n t)/\K (.val (.dat (.int n))) st1
 | none=>match fW st o with
  | some x=>r.evD sc i st fun j st1=>mV st1.ρ x fun xs=>Kd (.list xs) j fun d=>K (.val (.dat d)) st1
  | none=>r.evD sc o st fun v st1=>r.evD sc i st1 fun j st2=>Kd v j fun d=>K (.val (.dat d)) st2
noncomputable def Hm (sc:Scope) (o i:Expr) (st:St) (K:RV->St->Prop):Prop:=match i with
 | .Slice l u s _=>qS r sc o l u s st K
 | .Constant ..=>ji g r sc o i st K
 | .Name ..=>ji g r sc o i st K
 | .BinOp ..=>ji g r sc o i st K
 | .UnaryOp ..=>ji g r sc o i st K
 | .Subscript ..=>ji g r sc o i st K
 | .Call ..=>ji g r sc o i st K
 | _=>False
noncomputable def fX (G:List GObj) (j:Nat):Bool:=match G[j]? with
 | some (.inst ..)=>true
 | _=>false
noncomputable def Hn (st:St) (e:Expr):Bool:=match e with
 | .Name x _=>(match af st.ρ x with
  | some (.val (.obj j))=>fX st.G j
  | _=>false)
 | _=>false
noncomputable def Ho (sc:Scope) (a:Expr) (st:St) (K:RV->St->Prop):Prop:=aR (bu a) (bO (wn st a&&!(Hn st a)) (pk g st a fun d=>match d with
  | .list ds=>ds.length<=lim/\K (.val (.dat (.int ds.length))) st
  | .str x=>x.length<=lim/\K (.val (.dat (.int x.length))) st
  | _=>False)
 (r.evA sc a st fun v st1=>match v with
  | .dat d=>(match d with
   | .list ds=>ds.length<=lim/\K (.val (.dat (.int ds.length))) st1
   | .str x=>x.length<=lim/\K (.val (.dat (.int x.length))) st1
   | _=>False)
  | .obj j=>jh st1.G j fun cl attrs=>aR (attrs.lookup ("__len__":Str)).isNone (bv (yL g.me cl "__len__") fun φ=>φ [.obj j] st1.G fun rv G'=>match rv with
   | .val (.dat (.int n))=>(0<=n/\n<2 ^ 62)/\K (.val (.dat (.int n))) ⟨st1.ρ,G'⟩
   | _=>False)
  | _=>False))
noncomputable def zQ (sc:Scope) (st:St) (f:Str):Bool:=dO sc f&&(af st.ρ f).isNone
noncomputable def BI (sc:Scope) (args:List Expr) (st:St) (K:RV->St->Prop):Prop:=match args with
 | [a]=>(match a with
  | .Call h es kws _=>(match kws with
   | []=>gY h fun n=>aR (n=="range"&&zQ sc st n) (r.evDs sc es st fun ds st1=>match ds with
    | [d]=>bc d fun n=>(0<=n/\n<=lim)/\K (.own (zk n.toNat)) st1
    | _=>False)
   | _=>False)
  | .Name x p=>r.evD sc (.Name x p) st fun d st1=>gM d fun y=>y.length<=lim/\K (.own (y.cps.toList.map fun c=>.str ⟨#[c]⟩)) st1
  | _=>False)
 | _=>False
noncomputable def LB (sc:Scope) (f:Str) (args:List Expr) (st:St) (K:RV->St->Prop):Prop :=
 bO (f=="len") (match args with
  | [a]=>Ho g r sc a st K
  | _=>False)
 (bO (f=="sum") (r.evDs sc args st fun ds st1=>match ds with
  | [d]=>io d fun xs=>∃ l:List Int,xs=l.map .int/\K (.val (.dat (.int l.sum))) st1
  | _=>False)
 (bO (f=="min") (r.evDs sc args st fun ds st1=>match ds with
  | [a,b]=>bc a fun i=>bc b fun j=>K (.val (.dat (.int (if j<i then j else i)))) st1
  | _=>False)
 (bO (f=="divmod") (r.evDs sc args st fun ds st1=>match ds with
  | [a,b]=>bc a fun i=>bc b fun j=>(j≠0/\Builtin.Int.intBits j<=9000)/\K (.val (.dat (.tuple [.int (i.fdiv j),.int (i.fmod j)]))) st1
  | _=>False)
 (aR (f=="list") (BI r sc args st K)))))
noncomputable def BJ (sc:Scope) (f:Str) (args:List Expr) (st:St) (K:RV->St->Prop):Prop:=bO (zQ sc st f) (match Kf g.fn f with
 | some φ=>r.evs sc args st fun as st1=>φ as st1.G fun rv G'=>K rv ⟨st1.ρ,G'⟩
 | none=>LB g r sc f args st K) (bv (g.lf.lookup f) fun p=>af st.ρ f=some (.val (.raw p.1))/\r.evs sc args st fun as st1=>p.2 as st1.G fun rv G'=>K rv ⟨st1.ρ,G'⟩)
noncomputable def wp (sc:Scope) (j cl:Nat) (attrs:List (Str×ab)) (n:Str) (args:List Expr) (st:St) (K:RV->St->Prop):Prop:=match attrs.lookup n with
 | none=>bv (yL g.me cl n) fun φ=>r.evs sc args st fun as st1=>φ (.obj j::as) st1.G fun rv G'=>K rv ⟨st1.ρ,G'⟩
 | some _=>lZ g st.G j n fun av=>match av with
  | .obj m=>r.evs sc args st fun as st1=>g.clo (.obj m::as) st1.G fun rv G'=>K rv ⟨st1.ρ,G'⟩
  | _=>False
noncomputable def BK (sc:Scope) (v:ab) (n:Str) (args:List Expr) (st:St) (K:RV->St->Prop):Prop:=match v with
 | .dat d=>r.evDs sc args st fun as st1=>Hj n d as fun rv=>K rv st1
 | .obj j=>qP st.G j (r.evDs sc args st fun as st1=>kq st1.G j fun ds=>zO n ds as (fun d ds'=>K (.val (.dat d)) ⟨st1.ρ,st1.G.set j (.lst ds')⟩) False) fun cl attrs=>wp g r sc j cl attrs n args st K
 | _=>False
noncomputable def wq (sc:Scope) (o:Expr) (n:Str) (args:List Expr) (st:St) (K:RV->St->Prop):Prop:=match fW st o with
 | some x=>r.evDs sc args st fun as st1=>mV st1.ρ x fun ds=>zO n ds as (fun d ds'=>K (.val (.dat d)) ⟨aG st1.ρ x (.lst ds'),st1.G⟩) (mV st.ρ x fun ds0=>ds0=ds/\zN n ds as fun rv=>K rv st1)
 | none=>aR (iW o) (r.ev sc o st fun rv st1=>match rv with
  | .val v=>BK g r sc v n args st1 K
  | .own ds=>r.evDs sc args st1 fun as st2=>zO n ds as (fun d ι=>K (.val (.dat d)) st2) (zN n ds as fun rv=>K rv st2))
noncomputable def LC (sc:Scope) (o:Expr) (n:Str) (a:Expr) (kn:Str) (b:Bool) (st:St) (K:RV->St->Prop):Prop:=r.evA sc o st fun v st1=>ko v fun j=>jh st1.G j fun cl attrs=>aR (attrs.lookup n).isNone (bv (yL g.mkw cl n) fun φ =>
 aR (bu a) (r.evA sc a st1 fun av st2=>aR (kn=="name") (φ [.obj j,av,.dat (.bool b)] st2.G fun rv G'=>K rv ⟨st2.ρ,G'⟩)))
set_option backward.match.sparseCases false in
noncomputable def mY (e:Expr):Option Bool:=match e with
 | .Constant c _ _=>(match c with
  | .bool b=>some b
  | _=>none)
 | _=>none
noncomputable def BL (kws:List Keyword):Option (Str×Bool):=match kws with
 | [kw]=>(match kw.arg with
  | some kn=>(match mY kw.value with
   | some b=>some (kn,b)
   | none=>none)
  | none=>none)
 | _=>none
noncomputable def BM (sc:Scope) (f:Expr) (args:List Expr) (kws:List Keyword) (pos:Pos) (st:St) (K:RV->St->Prop):Prop:=match f with
 | .Name n _=>aR kws.isEmpty (BJ g r sc n args st K)
 | .Attribute o n ap=>bO kws.isEmpty (aR (dW args ap pos) (wq g r sc o n args st K)) (bv (BL kws) fun p=>aR (ap.endLine==pos.line&&iW o) (match args with
  | [a]=>LC g r sc o n a p.1 p.2 st K
  | _=>False))
 | _=>False
noncomputable def Hp (a b:List PyData):List PyData:=List.zipWith (fun x y=>.tuple [x,y]) a b
noncomputable def Hq (a b c:List PyData):List PyData:=List.zipWith (fun x (p:PyData×PyData)=>.tuple [x,p.1,p.2]) a (List.zip b c)
noncomputable def ws (ds:List PyData):Bool:=ds.all fun d=>match d with
 | .tuple _=>false
 | _=>true
noncomputable def eN (x:Str):List PyData:=x.cps.toList.map fun q=>.str ⟨#[q]⟩
noncomputable def zR (d:PyData) (K:List PyData->Prop):Prop:=match d with
 | .list ds=>K ds
 | .str x=>K (eN x)
 | _=>False
noncomputable def Hr (f:Expr):Bool:=match f with
 | .Name n _=>n=="range"||n=="enumerate"||n=="reversed"||n=="zip"
 | _=>false
noncomputable def Hs (sc:Scope) (f:Str) (es:List Expr) (st:St) (K:Bool->List PyData->St->Prop):Prop :=
 bO (f=="range") (r.evDs sc es st fun ds st1=>match ds with
  | [d]=>bc d fun n=>(0<=n/\n<=lim)/\K false (zk n.toNat) st1
  | _=>False)
 (bO (f=="enumerate") (r.evDs sc es st fun ds st1=>match ds with
  | [d]=>zR d fun xs=>K true (gI xs) st1
  | _=>False)
 (bO (f=="reversed") (r.evDs sc es st fun ds st1=>match ds with
  | [d]=>io d fun xs=>ws xs=true/\K false xs.reverse st1
  | _=>False)
 (aR (f=="zip") (r.evDs sc es st fun ds st1=>match ds with
  | [a,b]=>io a fun xs=>io b fun ys=>K true (Hp xs ys) st1
  | [a,b,c]=>io a fun xs=>io b fun ys=>io c fun zs=>K true (Hq xs ys zs) st1
  | _=>False))))
noncomputable def zS (sc:Scope) (e:Expr) (st:St) (K:Bool->List PyData->St->Prop):Prop:=match e with
 | .Call f es kws _=>bO (Hr f&&kws.isEmpty) (gY f fun f=>aR (zQ sc st f&&(Kf g.fn f).isNone) (Hs r sc f es st K)) (r.evD sc e st fun d st1=>zR d fun xs=>K false xs st1)
 | _=>r.evD sc e st fun d st1=>zR d fun xs=>K false xs st1
noncomputable def wt (st:St) (e:Expr):Bool:=match e with
 | .Name x _=>(match af st.ρ x with
  | some (.val (.obj _))=>true
  | _=>false)
 | .Attribute ..=>true
 | _=>false
noncomputable def jv (sc:Scope) (flag:Bool) (t:Expr) (d:PyData) (st:St) (K:St->Prop):Prop:=match t with
 | .Name x _=>aR (qQ sc x&&!flag) (K ⟨aG st.ρ x (.val (.dat d)),st.G⟩)
 | .Tuple es _ _=>Dy d fun row=>mX es fun xs=>aR (xs.all (qQ sc)) (row.length=xs.length/\K ⟨eZ st.ρ xs (row.map .dat),st.G⟩)
 | _=>False
noncomputable def trim (ρ0 ρ:Rho):Rho:=ρ0.filterMap fun p=>(af ρ p.1).map fun s=>(p.1,s)
noncomputable def db (bt:PyData->St->(St->Prop)->Prop) (body:St->(Fl->St->Prop)->Prop):List PyData->St->(Fl->St->Prop)->Prop
 | [],st,K=>K .next st
 | d::ds,st,K=>bt d st fun st1=>body st1 fun fl st2=>match fl with
  | .next=>db bt body ds ⟨trim st.ρ st2.ρ,st2.G⟩ K
  | .ret v=>K (.ret v) st2
  | .cont=>False
noncomputable def eB (sc:Scope) (ifs:List Expr) (st:St) (K:Bool->St->Prop):Prop:=match ifs with
 | []=>K true st
 | [e]=>r.cd sc e st K
 | _=>False
noncomputable def dK (bt:PyData->St->(St->Prop)->Prop) (ts:St->(Bool->St->Prop)->Prop) (elt:St->(PyData->St->Prop)->Prop):List PyData->St->(List PyData->St->Prop)->Prop
 | [],st,K=>K [] st
 | d::ds,st,K=>bt d st fun st1=>ts st1 fun t st2=>bO t (elt st2 fun x st3=>dK bt ts elt ds ⟨trim st.ρ st3.ρ,st3.G⟩ fun out st4=>K (x::out) st4) (dK bt ts elt ds ⟨trim st.ρ st2.ρ,st2.G⟩ K)
noncomputable def fg (cd:St->(Bool->St->Prop)->Prop) (body:St->(Fl->St->Prop)->Prop):Nat->St->(Fl->St->Prop)->Prop
 | 0,_,_=>False
 | n+1,st,K=>cd st fun t st1=>bO t (body st1 fun fl st2=>match fl with
  | .next=>fg cd body n ⟨trim st.ρ st2.ρ,st2.G⟩ K
  | .ret v=>K (.ret v) st2
  | .cont=>False) (K .next st1)
noncomputable def mZ (scope:Scope):List Str:=(scope.names.filter fun x=>x.2==.free).map (·.1)
noncomputable def frz (ρ:Rho) (x:Str):Rho:=match af ρ x with
 | some (.lst ds)=>aG ρ x (.val (.dat (.list ds)))
 | _=>ρ
noncomputable def qT (ρ:Rho) (xs:List Str):Rho:=xs.foldl frz ρ
noncomputable def fj (ρ:Rho) (xs:List Str):Rho:=xs.filterMap fun x=>match af ρ x with
 | some (.val v)=>some (x,.val v)
 | _=>none
noncomputable def sx (sc scope:Scope) (t elt:Expr) (ifs:List Expr) (flag:Bool) (items:List PyData) (st:St) (K:List PyData->St->Prop):Prop:=aR (eA sc scope) (items.length<=lim /\
 dK (jv scope flag t) (eB r scope ifs) (r.evD scope elt) items ⟨fj (qT st.ρ (mZ scope)) (mZ scope),st.G⟩ fun ds st2=>K ds ⟨qT st.ρ (mZ scope),st2.G⟩)
noncomputable def kt (G:List GObj) (q:Nat) (P:Prop):Prop:=match G[q]? with
 | some .gone=>P
 | _=>False
structure Gen1 where
 t:Expr
 iter:Expr
 ifs:List Expr
noncomputable def qU (gens:List Comprehension):Option Gen1:=match gens with
 | [⟨t,iter,ifs,0⟩]=>some ⟨t,iter,ifs⟩
 | _=>none
noncomputable def BN (sc:Scope) (elt:Expr) (gens:List Comprehension) (scope:Scope) (st:St) (K:List PyData->St->Prop):Prop:=bv (qU gens) fun c=>aR (iX c.iter) (bO (wt st c.iter)
 (r.evA sc c.iter st fun v st1=>ko v fun q=>kq st1.G q fun items=>sx r sc scope c.t elt c.ifs false items ⟨st1.ρ,st1.G.set q .gone⟩ fun ds st2=>kt st2.G q (K ds ⟨st2.ρ,st2.G.set q (.lst items)⟩))
 (zS g r sc c.iter st fun flag items st1=>sx r sc scope c.t elt c.ifs flag items st1 K))
end
section
variable (g:Gl) (r:Wk)
noncomputable def l6 {α:Type} (l:List α):Option α:=match l with
 | [a]=>some a
 | _=>none
noncomputable def Wk.evRs (sc:Scope):List Expr->St->(List RV->St->Prop)->Prop
 | [],st,K=>K [] st
 | e::es,st,K=>aR (bu e) (r.ev sc e st fun v st1=>Wk.evRs sc es st1 fun vs st2=>K (v::vs) st2)
noncomputable def Dz (v:ab) (K:List ab->Prop):Prop:=match v with
 | .dat d=>Dy d fun row=>K (row.map .dat)
 | .tup l=>K (l.map J9)
 | _=>False
noncomputable def DA (op:Operator) (a b:PyData) (K:RV->Prop):Prop:=match a with
 | .int i=>bc b fun j=>aR (Hi op) (wm op i j fun m=>K (.val (.dat (.int m))))
 | .str x=>aR (op==.Add) (gM b fun y=>x.length+y.length<=lim/\K (.val (.dat (.str (x++y)))))
 | _=>False
noncomputable def wu (G:List GObj) (j:Nat) (n:Str) (av:ab) (K:List GObj->Prop):Prop:=jh G j fun cl attrs=>aR ((g.fld.any fun p=>p.1==cl&&p.2==n)&&decide (attrs.length<=100)) (K (G.set j (.inst cl (ju attrs n av))))
noncomputable def uz (ρ:Rho) (x:Str) (K:Nat->Prop):Prop:=match af ρ x with
 | some (.val (.obj j))=>K j
 | _=>False
noncomputable def qV (sc:Scope) (x n:Str) (e:Expr) (st:St) (K:Fl->St->Prop):Prop:=match fW st e with
 | some y=>mV st.ρ y fun ds=>uz (aG st.ρ y (.val (.obj st.G.length))) x fun j=>wu g (st.G++[.lst ds]) j n (.obj st.G.length) fun G'=>K .next ⟨aG st.ρ y (.val (.obj st.G.length)),G'⟩
 | none=>r.ev sc e st fun rv st1=>uz st1.ρ x fun j=>match rv with
  | .val av=>wu g st1.G j n av fun G'=>K .next ⟨st1.ρ,G'⟩
  | .own ds=>wu g (st1.G++[.lst ds]) j n (.obj st1.G.length) fun G'=>K .next ⟨st1.ρ,G'⟩
noncomputable def wv (sc:Scope) (o i e:Expr) (st:St) (K:Fl->St->Prop):Prop:=r.evD sc e st fun d st1=>match fW st1 o with
 | some x=>r.evD sc i st1 fun j st2=>bc j fun j=>mV st2.ρ x fun ds=>(0<=j/\j<ds.length/\ds.length<=lim)/\K .next ⟨aG st2.ρ x (.lst (ds.set j.toNat d)),st2.G⟩
 | none=>r.evA sc o st1 fun v st2=>ko v fun q=>r.evD sc i st2 fun j st3=>bc j fun j=>kq st3.G q fun ds=>(0<=j/\j<ds.length/\ds.length<=lim)/\K .next ⟨st3.ρ,st3.G.set q (.lst (ds.set j.toNat d))⟩
noncomputable def Ht (sc:Scope):Bool:=match sc.kind with
 | .function=>true
 | _=>false
set_option backward.match.sparseCases false in
noncomputable def BO (sc:Scope) (ts:List Expr) (n:Nat) (tp:Pos) (e:Expr) (st:St) (K:Fl->St->Prop):Prop:=mX ts fun xs=>aR (Ht sc&&xs.all (qQ sc)) (match e with
 | .Tuple es m ep=>r.evRs sc es st fun rvs st1=>aR (decide (rvs.length=xs.length)&&decide (rvs.length<=100)) (
   (swappedStores [.Tuple ts n tp] (.Tuple es m ep) (kg sc)=pure none/\K .next ⟨oP st1.ρ xs (rvs.map RV.slot),st1.G⟩) \/
   (swappedStores [.Tuple ts n tp] (.Tuple es m ep) (kg sc)=pure (some xs)/\K .next ⟨oP st1.ρ xs.reverse (rvs.map RV.slot).reverse,st1.G⟩))
 | .Name ..=>r.evA sc e st fun v st1=>Dz v fun as=>as.length=xs.length/\K .next ⟨eZ st1.ρ xs as,st1.G⟩
 | .Call ..=>r.evA sc e st fun v st1=>Dz v fun as=>as.length=xs.length/\K .next ⟨eZ st1.ρ xs as,st1.G⟩
 | _=>False)
noncomputable def Hu (sc:Scope) (t e:Expr) (st:St) (K:Fl->St->Prop):Prop:=match t with
 | .Name x _=>aR (qQ sc x) (match e with
  | .ListComp elt gens scope _=>bv (qU gens) fun c=>aR (iX c.iter) (zS g r sc c.iter st fun flag items st1=>sx r sc scope c.t elt c.ifs flag items st1 fun ds st2=>K .next ⟨aG st2.ρ x (.lst ds),st2.G⟩)
  | e=>aR (!mW e) (r.ev sc e st fun rv st1=>K .next ⟨aG st1.ρ x rv.slot,st1.G⟩))
 | .Tuple ts n tp=>BO r sc ts n tp e st K
 | .Subscript o i _=>wv r sc o i e st K
 | .Attribute o n _=>gY o fun x=>qV g r sc x n e st K
 | _=>False
noncomputable def Hv (sc:Scope) (t:Expr) (op:Operator) (e:Expr) (st:St) (K:Fl->St->Prop):Prop:=match t with
 | .Name x _=>aR (qQ sc x) (bv (af st.ρ x) fun s=>match s with
  | .val v=>match v with
   | .dat a=>r.evD sc e st fun b st1=>DA op a b fun rv=>K .next ⟨aG st1.ρ x rv.slot,st1.G⟩
   | _=>False
  | .lst _=>aR (op==.Add) (r.evD sc e st fun d st1=>io d fun ys=>mV st1.ρ x fun ds=>ds.length+ys.length<=lim/\K .next ⟨aG st1.ρ x (.lst (ds++ys)),st1.G⟩))
 | .Attribute o n _=>gY o fun x=>uz st.ρ x fun j=>lZ g st.G j n fun av=>match av with
  | .dat a=>r.evD sc e st fun b st1=>uz st1.ρ x fun j'=>j'=j/\DA op a b fun rv=>match rv with
   | .val (.dat d)=>wu g st1.G j n (.dat d) fun G'=>K .next ⟨st1.ρ,G'⟩
   | _=>False
  | _=>False
 | _=>False
noncomputable def ku (G:List GObj) (q:Nat):Option Nat:=match G[q]? with
 | some (.citer ..)=>some q
 | _=>none
noncomputable def Hw (st:St) (x:Str):Option Nat:=match af st.ρ x with
 | some (.val (.obj q))=>ku st.G q
 | _=>none
noncomputable def wx (st:St) (e:Expr):Option Nat:=(o8 e).bind (Hw st)
noncomputable def DB (rc:Ctr) (q:Nat) (x:Str) (body:St->(Fl->St->Prop)->Prop) (next:St->(Fl->St->Prop)->Prop) (j:Nat) (dn:Bool) (st:St) (K:Fl->St->Prop):Prop:=bO dn (K .next st) (rc [.obj j] (st.G.set q .gone) fun rv G1=>kt G1 q (match rv with
 | .val (.dat (.str y))=>bO (y=="") (K .next ⟨st.ρ,G1.set q (.citer j true)⟩) (body ⟨aG st.ρ x (.val (.dat (.str y))),G1.set q (.citer j false)⟩ fun fl st2=>match fl with
  | .next=>next ⟨trim st.ρ st2.ρ,st2.G⟩ K
  | .cont=>next ⟨trim st.ρ st2.ρ,st2.G⟩ K
  | .ret v=>K (.ret v) st2)
 | _=>False))
noncomputable def dY (rc:Ctr) (q:Nat) (x:Str) (body:St->(Fl->St->Prop)->Prop):Nat->St->(Fl->St->Prop)->Prop
 | 0,_,_=>False
 | n+1,st,K=>match st.G[q]? with
  | some (.citer j dn)=>DB rc q x body (dY rc q x body n) j dn st K
  | _=>False
noncomputable def DC {α:Type} (o:Option α) (A:α->Prop) (B:Prop):Prop:=match o with
 | some a=>A a
 | none=>B
noncomputable def Hx (sc:Scope) (t iter:Expr) (body:List Stmt) (st:St) (K:Fl->St->Prop):Prop:=aR (iX iter) (DC (wx st iter)
 (fun q=>gY t fun x=>aR (qQ sc x) (∃ n,dY g.rc q x (r.ex sc body) n st K))
 (bO (wt st iter) (r.evA sc iter st fun v st1=>ko v fun q=>kq st1.G q fun items=>db (jv sc false t) (r.ex sc body) items ⟨st1.ρ,st1.G.set q .gone⟩ fun fl st2=>kt st2.G q (K fl ⟨st2.ρ,st2.G.set q (.lst items)⟩))
  (zS g r sc iter st fun flag items st1=>db (jv sc flag t) (r.ex sc body) items st1 K)))
noncomputable def Hy (sc:Scope) (s:Stmt) (st:St) (K:Fl->St->Prop):Prop:=match s with
 | .Return v _=>(match v with
  | some e=>r.evA sc e st fun v st1=>K (.ret v) st1
  | none=>K (.ret (.dat .none)) st)
 | .Expr e _=>aR (!mW e) (r.evD sc e st fun d st1=>aR (flat d) (K .next st1))
 | .Pass _=>K .next st
 | .Continue _=>K .cont st
 | .If t a b _=>r.cd sc t st fun c st1=>bO c (r.ex sc a st1 K) (r.ex sc b st1 K)
 | .For t iter body orelse _=>aR orelse.isEmpty (Hx g r sc t iter body st K)
 | .While t body orelse _=>aR orelse.isEmpty (∃ n,fg (r.cd sc t) (r.ex sc body) n st K)
 | .Assign ts e _=>bv (l6 ts) fun t=>Hu g r sc t e st K
 | .AugAssign t op e _=>Hv g r sc t op e st K
 | _=>False
noncomputable def Kg (sc:Scope):List Stmt->St->(Fl->St->Prop)->Prop
 | [],st,K=>K .next st
 | s::ss,st,K=>Hy g r sc s st fun fl st1=>match fl with
  | .next=>Kg sc ss st1 K
  | fl=>K fl st1
noncomputable def sA (sc:Scope) (op:BoolOp) (p:Pos):List Expr->St->(RV->St->Prop)->Prop
 | [],_,_=>False
 | a::es,st,K=>match es with
  | []=>r.ev sc a st K
  | b::l=>r.evD sc a st fun d st1=>uy d fun t=>match op with
   | .And=>bO t (sA sc op p (b::l) st1 K) (K (.val (.dat d)) st1)
   | .Or=>bO t (K (.val (.dat d)) st1) (sA sc op p (b::l) st1 K)
noncomputable def sB (sc:Scope) (op:BoolOp):List Expr->St->(Bool->St->Prop)->Prop
 | [],_,_=>False
 | a::es,st,K=>match es with
  | []=>r.cd sc a st K
  | b::l=>r.cd sc a st fun t st1=>match op with
   | .And=>bO t (sB sc op (b::l) st1 K) (K false st1)
   | .Or=>bO t (K true st1) (sB sc op (b::l) st1 K)
noncomputable def wy (sc:Scope) (x:Str) (st:St) (K:RV->St->Prop):Prop:=match af st.ρ x with
 | some (.val v)=>K (.val v) st
 | some (.lst ds)=>K (.val (.dat (.list ds))) ⟨aG st.ρ x (.val (.dat (.list ds))),st.G⟩
 | none=>aR (dO sc x) (bv (g.val.lookup x) fun av=>K (.val av) st)
noncomputable def DD (c:Const) (K:PyData->Prop):Prop:=match c with
 | .none=>K .none
 | .bool b=>K (.bool b)
 | .int i=>K (.int i)
 | .str x=>K (.str x)
 | _=>False
noncomputable def zT:List ab->(List (PyData ⊕ Nat)->Prop)->Prop
 | [],K=>K []
 | v::vs,K=>match v with
  | .dat d=>zT vs fun l=>K (.inl d::l)
  | .obj j=>zT vs fun l=>K (.inr j::l)
  | _=>False
noncomputable def DE (v:ab):Bool:=match v with
 | .dat _=>true
 | _=>false
noncomputable def wC (as:List ab) (K:ab->Prop):Prop:=bO (as.all DE) (dats as fun ds=>K (.dat (.tuple ds))) (zT as fun l=>K (.tup l))
noncomputable def LD (sc:Scope) (e:Expr) (st:St) (K:RV->St->Prop):Prop:=match e with
 | .Constant c _ _=>DD c fun d=>K (.val (.dat d)) st
 | .Name x _=>wy g sc x st K
 | .BoolOp op es p=>sA r sc op p es st K
 | .BinOp a op b _=>r.evD sc a st fun x st1=>r.evD sc b st1 fun y st2=>Hh op x y fun rv=>K rv st2
 | .UnaryOp op a _=>(match op with
  | .USub=>r.evD sc a st fun d st1=>bc d fun i=>K (.val (.dat (.int (-i)))) st1
  | _=>False)
 | .IfExp t a b _=>r.cd sc t st fun c st1=>bO c (r.ev sc a st1 K) (r.ev sc b st1 K)
 | .List es _=>aR (decide (es.length<=100)) (r.evDs sc es st fun ds st1=>K (.own ds) st1)
 | .Tuple es _ _=>aR (decide (es.length<=100)) (r.evs sc es st fun as st1=>wC as fun av=>K (.val av) st1)
 | .ListComp elt gens scope _=>BN g r sc elt gens scope st fun ds st1=>K (.own ds) st1
 | .Compare a ops bs _=>bv (l6 ops) fun op=>bv (l6 bs) fun b=>zP g r sc a op b st fun t st1=>K (.val (.dat (.bool t))) st1
 | .Call f args kws pos=>BM g r sc f args kws pos st K
 | .Subscript o i _=>Hm g r sc o i st K
 | .Attribute o n _=>(match o with
  | .Name x p=>r.evA sc (.Name x p) st fun v st1=>ko v fun j=>lZ g st1.G j n fun av=>K (.val av) st1
  | _=>False)
 | _=>False
noncomputable def LE (sc:Scope) (e:Expr) (st:St) (K:Bool->St->Prop):Prop:=match e with
 | .Compare a ops bs _=>bv (l6 ops) fun op=>bv (l6 bs) fun b=>zP g r sc a op b st K
 | .BoolOp op es _=>sB r sc op es st K
 | e=>aR (qR e) (bO (wn st e) (pk g st e fun d=>uy d fun t=>K t st) (r.evD sc e st fun d st1=>uy d fun t=>K t st1))
noncomputable def step:Wk:=⟨LD g r,LE g r,Kg g r⟩
end
noncomputable def aj (g:Gl):Nat->Wk
 | 0=>⟨fun ι ι ι ι=>False,fun ι ι ι ι=>False,fun ι ι ι ι=>False⟩
 | n+1=>step g (aj g n)
section
variable {V:aD} {k:Nat} {P Q:Prop} {c:Bool}
theorem cG {A B:Prop} (h:bO c A B) (f:c=true->A->P) (f':c=false->B->P):P:=by
 cases c with
 | true=>exact f rfl h
 | false=>exact f' rfl h
theorem ah {A:Prop} (h:aR c A) (f:c=true->A->P):P:=cG h f fun ι z=>z.elim
theorem dZ (h:c=true->P) (h':c=false->Q):bO c P Q:=by
 cases c with
 | true=>exact h rfl
 | false=>exact h' rfl
theorem fY (e:c=true) (h:P):bO c P Q:=by subst e;exact h
theorem l7 (e:c=false) (h:Q):bO c P Q:=by subst e;exact h
theorem DF (e:c=true) (h:P):aR c P:=fY e h
theorem bM {d:PyData} {K:Int->Prop} {M:PyData->Prop} (h:bc d K) (f:∀ i,K i->M (.int i)):M d:=by
 cases d<;>first | exact f _ h | exact h.elim
theorem iq {d:PyData} {K:Str->Prop} {M:PyData->Prop} (h:gM d K) (f:∀ i,K i->M (.str i)):M d:=by
 cases d<;>first | exact f _ h | exact h.elim
theorem c7 {d:PyData} {K:List PyData->Prop} {M:PyData->Prop} (h:io d K) (f:∀ i,K i->M (.list i)):M d:=by
 cases d<;>first | exact f _ h | exact h.elim
theorem sC {d:PyData} {K:List PyData->Prop} {M:PyData->Prop} (h:Dy d K) (f:∀ i,K i->M (.tuple i)):M d:=by
 cases d<;>first | exact f _ h | exact h.elim
theorem pc {v:ab} {K:PyData->Prop} {M:ab->Prop} (h:sw v K) (f:∀ i,K i->M (.dat i)):M v:=by
 cases v<;>first | exact f _ h | exact h.elim
theorem wD {v:ab} {K:Nat->Prop} {M:ab->Prop} (h:ko v K) (f:∀ i,K i->M (.obj i)):M v:=by
 cases v<;>first | exact f _ h | exact h.elim
theorem au {α:Type} {o:Option α} {K:α->Prop} (h:bv o K) (f:∀ a,o=some a->K a->P):P:=by
 cases o<;>first | exact f _ rfl h | exact h.elim
theorem fk {G:List GObj} {j:Nat} {K:List PyData->Prop} (h:kq G j K) (f:∀ ds,G[j]?=some (.lst ds)->K ds->P):P:=by
 unfold kq at h
 cases q:G[j]? with
 | none=>rw [q] at h;exact h.elim
 | some ob=>rw [q] at h;cases ob<;>first | exact f _ q h | exact h.elim
theorem iu {G:List GObj} {j:Nat} {K:Nat->List (Str×ab)->Prop} (h:jh G j K) (f:∀ cl attrs,G[j]?=some (.inst cl attrs)->K cl attrs->P):P:=by
 unfold jh at h
 cases q:G[j]? with
 | none=>rw [q] at h;exact h.elim
 | some ob=>rw [q] at h;cases ob<;>first | exact f _ _ q h | exact h.elim
theorem ky {A:Prop} {G:List GObj} {j:Nat} (h:kt G j A) (f:G[j]?=some .gone->A->P):P:=by
 unfold kt at h
 cases q:G[j]? with
 | none=>rw [q] at h;exact h.elim
 | some ob=>rw [q] at h;cases ob<;>first | exact f q h | exact h.elim
theorem zU {G:List GObj} {j:Nat} {A:Prop} {B:Nat->List (Str×ab)->Prop} (h:qP G j A B) (f:∀ ds,G[j]?=some (.lst ds)->A->P) (f':∀ cl attrs,G[j]?=some (.inst cl attrs)->B cl attrs->P):P:=by
 unfold qP at h
 cases q:G[j]? with
 | none=>rw [q] at h;exact h.elim
 | some ob=>rw [q] at h;cases ob<;>first | exact f _ q h | exact f' _ _ q h | exact h.elim
theorem kz {G:List GObj} {j:Nat} {A:Prop} {B:Nat->List (Str×ab)->Prop} {ds:List PyData} (h:G[j]?=some (.lst ds)) (k:A):qP G j A B:=by unfold qP;rw [h];exact k
theorem aS {G:List GObj} {j cl:Nat} {A:Prop} {B:Nat->List (Str×ab)->Prop} {attrs:List (Str×ab)} (h:G[j]?=some (.inst cl attrs)) (k:B cl attrs):qP G j A B:=by unfold qP;rw [h];exact k
theorem bR {G:List GObj} {j:Nat} {K:List PyData->Prop} {ds:List PyData} (h:G[j]?=some (.lst ds)) (k:K ds):kq G j K:=by unfold kq;rw [h];exact k
theorem aw {G:List GObj} {j cl:Nat} {K:Nat->List (Str×ab)->Prop} {attrs:List (Str×ab)} (h:G[j]?=some (.inst cl attrs)) (k:K cl attrs):jh G j K:=by unfold jh;rw [h];exact k
theorem iw {A:Prop} {G:List GObj} {j:Nat} (h:G[j]?=some .gone) (k:A):kt G j A:=by unfold kt;rw [h];exact k
theorem DG {α:Type} {o:Option α} {A:α->Prop} {B:Prop} (h:o=none) (k:B):DC o A B:=by rw [h];exact k
theorem zV {G:List GObj} {j:Nat} {ds:List PyData} (h:G[j]?=some (.lst ds)):ku G j=none:=by unfold ku;rw [h]
theorem wE {G:List GObj} {j:Nat} {ds:List PyData} (h:G[j]?=some (.lst ds)):fX G j=false:=by unfold fX;rw [h]
theorem pd {G:List GObj} {j cl:Nat} {attrs:List (Str×ab)} (h:G[j]?=some (.inst cl attrs)):fX G j=true:=by unfold fX;rw [h]
theorem fq {ρ:Rho} {x:Str} {K:List PyData->Prop} (h:mV ρ x K) (f:∀ ds,af ρ x=some (.lst ds)->K ds->P):P:=by
 unfold mV at h
 cases q:af ρ x with
 | none=>rw [q] at h;exact h.elim
 | some ob=>rw [q] at h;cases ob<;>first | exact f _ q h | exact h.elim
theorem jF {ρ:Rho} {x:Str} {K:Nat->Prop} (h:uz ρ x K) (f:∀ j,af ρ x=some (.val (.obj j))->K j->P):P:=by
 unfold uz at h
 cases q:af ρ x with
 | none=>rw [q] at h;exact h.elim
 | some ob =>
  rw [q] at h
  cases ob with
  | lst _=>exact h.elim
  | val v=>cases v<;>first | exact f _ q h | exact h.elim
theorem bX {e:Expr} {x:Str} (h:o8 e=some x):∃ p,e=.Name x p:=by
 cases e<;>first | (cases h;exact⟨_,rfl⟩) | (cases h;done)
theorem bF {α β:Type} {o:Option α} {F:α->Option β} {b:β} (h:o.bind F=some b):∃ a,o=some a/\F a=some b:=by
 cases o with
 | none=>cases h
 | some a=>exact (aa a rfl h)
theorem sD {as:List ab}:∀ {K:List PyData->Prop} {M:List ab->Prop},dats as K->(∀ ds,K ds->M (ds.map .dat))->M as:=by
 induction as with
 | nil=>exact fun h f=>f [] h
 | cons v vs ih=>exact fun {K M} h f=>pc (M:=fun v=>M (v::vs)) h fun d h=>ih (M:=fun vs=>M (.dat d::vs)) h fun ds h=>f (d::ds) h
theorem cH {sc:Scope} {x:Str} (h:qQ sc x=true):bW sc x:=(Bool.or_eq_true_iff.mp h).imp FH FH
theorem pe {op:Operator} {i j:Int} {K:Int->Prop} (h:wm op i j K) (f:∀ m,lP V op (.int i) (.int j) (.val (.dat (.int m)))->(Hi op=true->vg V op (.int i) (.int j) (.val (.dat (.int m))))->K m->P):P:=by
 cases op with
 | Add=>exact f _ Gf (fun ι=>Gq) h
 | Sub=>exact f _ Gg (fun ι=>Gs) h
 | Mult=>exact f _ (Gh h.1) (fun ι=>Gu h.1) h.2
 | FloorDiv=>exact f _ (Gi h.1 h.2.1) (fun ι=>Gw h.1 h.2.1) h.2.2
 | Mod=>exact f _ (Gj h.1) nofun h.2
 | Pow=>exact f _ (Gk h.1 h.2.1) nofun h.2.2
 | LShift=>exact f _ (Gm h.1 h.2.1) (fun ι=>Gx h.1 h.2.1) h.2.2
 | RShift=>exact f _ (Gn h.1) (fun ι=>Gy h.1) h.2
 | BitAnd=>exact f _ Go nofun h
 | BitOr=>exact f _ J1 nofun h
 | BitXor=>exact f _ Gp nofun h
 | _=>exact h.elim
theorem BP {op:Operator} (h:(op==.Add)=true):op=.Add:=by cases op<;>first | rfl | cases h
theorem wF {op:Operator} {x:Str} {b:PyData} {K:RV->Prop} (h:aR (op==.Add) (gM b fun y=>x.length+y.length<=lim/\K (.val (.dat (.str (x++y)))))):op=.Add/\∃ y,b=.str y/\x.length+y.length<=lim/\K (.val (.dat (.str (x++y)))) :=
 ah h fun e h=>⟨BP e,iq (M:=fun b=>∃ y,b=.str y/\x.length+y.length<=lim/\K (.val (.dat (.str (x++y))))) h fun y h=>(aa y rfl h)⟩
theorem DH {op:Operator} {a b:PyData} {K:RV->Prop} (h:Hh op a b K) (f:∀ rv,lP V op a b rv->K rv->P):P:=by
 cases a with
 | int i =>
  refine bM (M:=fun b=>(∀ rv,lP V op (.int i) b rv->K rv->P)->P) h (fun j h f=>?_) f
  exact pe h fun m h1 ι h2=>f _ h1 h2
 | str x =>
  obtain⟨rfl,y,zq,h1,h2⟩:=wF h;clear h;subst zq
  exact f _ (Gz h1) h2
 | list xs =>
  cases op with
  | Add=>exact c7 (M:=fun b=>(∀ rv,lP V .Add (.list xs) b rv->K rv->P)->P) h (fun ys h f=>f _ (CC h.1) h.2) f
  | Mult =>
   cases xs with
   | nil=>exact h.elim
   | cons x l=>cases l with
    | nil=>exact bM (M:=fun b=>(∀ rv,lP V .Mult (.list [x]) b rv->K rv->P)->P) h (fun n h f=>f _ (CD h.1.1 h.1.2) h.2) f
    | cons _ _=>exact h.elim
  | _=>exact h.elim
 | _=>exact h.elim
theorem wG {op:Operator} {a b:PyData} {K:RV->Prop} (h:DA op a b K) (f:∀ d,vg V op a b (.val (.dat d))->K (.val (.dat d))->P):P:=by
 cases a with
 | int i =>
  refine bM (M:=fun b=>(∀ d,vg V op (.int i) b (.val (.dat d))->K (.val (.dat d))->P)->P) h (fun j h f=>?_) f
  exact ah h fun e h=>pe h fun m ι h1 h2=>f _ (h1 e) h2
 | str x =>
  obtain⟨rfl,y,zq,h1,h2⟩:=wF h;clear h;subst zq
  exact f _ (G7 h1) h2
 | _=>exact h.elim
theorem m8 {op:CmpOp} {x y:PyData} {F:Int->Int->Bool} {K:Bool->Prop} (c:∀ i j,Cm V op (.int i) (.int j) (F i j)) (h:bc x fun i=>bc y fun j=>K (F i j)) (f:∀ t,Cm V op x y t->K t->P):P :=
 bM (M:=fun x=>(∀ t,Cm V op x y t->K t->P)->P) h (fun i h f=>bM (M:=fun y=>(∀ t,Cm V op (.int i) y t->K t->P)->P) h (fun j h f=>f _ (c i j) h) f) f
theorem qW {op:CmpOp} {x y:PyData} {K:Bool->Prop} (h:zM op x y K) (f:∀ t,Cm V op x y t->K t->P):P:=by
 cases op with
 | Lt=>exact m8 (fun ι ι=>GB) h f
 | LtE=>exact m8 (fun ι ι=>GC) h f
 | Gt=>exact m8 (fun ι ι=>GD) h f
 | GtE=>exact m8 (fun ι ι=>GE) h f
 | Eq=>exact f _ (GF h.1) h.2
 | NotEq=>exact f _ (GG h.1) h.2
 | In=>cases y with
  | str t=>exact iq (M:=fun x=>(∀ b,Cm V .In x (.str t) b->K b->P)->P) h (fun s h f=>f _ tV h) f
  | list ds=>exact f _ (qt h.1) h.2
  | _=>exact h.elim
 | NotIn=>exact c7 (M:=fun y=>(∀ b,Cm V .NotIn x y b->K b->P)->P) h (fun s h f=>f _ (on h.1) h.2) f
 | Is=>cases x with
  | bool i=>cases y with
   | bool j=>exact f _ vw h
   | _=>exact h.elim
  | none=>cases y with
   | none=>exact f _ vx h
   | _=>exact h.elim
  | str s=>cases y with
   | none=>exact f _ vy h
   | _=>exact h.elim
  | _=>exact h.elim
 | IsNot=>cases x with
  | none=>cases y with
   | none=>exact f _ qr h
   | _=>exact h.elim
  | str s=>cases y with
   | none=>exact f _ qq h
   | _=>exact h.elim
  | _=>exact h.elim
theorem qX {d:PyData} {K:Bool->Prop} (h:uy d K) (f:∀ t,Tr V d t->K t->P):P:=by
 cases d with
 | bool b=>exact f _ CF h
 | int i=>exact f _ GH h
 | none=>exact f _ wh h
 | list ds=>exact f _ (Dx h.1) h.2
 | _=>exact h.elim
theorem DI {j:Int} {n m:Nat} (h0:¬ j<0) (h:seqIndex? j n=some m):0<=j/\m=j.toNat/\m<n:=by
 unfold seqIndex? at h
 rw [if_neg h0] at h
 by_cases c:(decide (0<=j)&&decide (j<(n:Int)))=true
 ·rw [if_pos c] at h
  cases h
  obtain⟨c1,c2⟩:=Bool.and_eq_true_iff.mp c
  exact (am (of_decide_eq_true c1) rfl ((Int.toNat_lt (of_decide_eq_true c1)).mpr (of_decide_eq_true c2)))
 ·rw [if_neg c] at h;cases h
theorem zW {j:Int} {n m:Nat} (h0:j<0) (h:seqIndex? j n=some m):∃ q:Nat,j=-(q:Int)/\0<q/\q<=n/\m=n-q:=by
 delta seqIndex? at h
 rw [if_pos h0] at h
 by_cases c:(decide (0<=j+(n:Int))&&decide (j+(n:Int)<(n:Int)))=true
 ·rw [if_pos c] at h
  cases h
  obtain⟨c1,c2⟩:=Bool.and_eq_true_iff.mp c
  have c1:=of_decide_eq_true c1
  obtain⟨q,zq⟩:=Int.eq_negSucc_of_lt_zero h0;clear h0 c1 c2;subst zq
  have hq:q+1<=n:=by
   have:=c1
   rw [Int.negSucc_eq] at this
   omega
  exact (hX (q+1) rfl (Nat.succ_pos q) hq (by rw [Int.negSucc_eq,Int.add_comm,<- Int.sub_eq_add_neg];exact (Int.toNat_sub n (q+1))))
 ·rw [if_neg c] at h;cases h
theorem zX {j:Int} {m n:Nat} (h:0<=j) (e:m=j.toNat) (h1:m<n) (hz:n<=lim):j<2 ^ 62:=Int.lt_trans ((Int.toNat_lt h).mp (e▸Nat.lt_of_lt_of_le h1 hz)) (by decide)
theorem BQ {d i:PyData} {K:PyData->Prop} (h:Kd d i K) (f:∀ x,It V d i x->K x->P):P:=by
 refine bM (M:=fun i=>(∀ x,It V d i x->K x->P)->P) h (fun j h f=>?_) f
 cases d with
 | list ds =>
  obtain⟨hz,m,x,h1,h2,h3⟩:=h
  by_cases q:j<0
  ·obtain⟨q,zq,q1,q2,e⟩:=zW q h1;clear h1;subst zq
   exact f x (oq q1 q2 hz (e▸h2)) h3
  ·obtain⟨p,e,lt⟩:=DI q h1
   exact f x (yZ p (zX p e lt hz) (e▸h2)) h3
 | tuple ds =>
  obtain⟨h0,x,h1,h2⟩:=h
  exact f x (CO h0.1 (Int.lt_trans h0.2 (by decide)) h1) h2
 | str y =>
  obtain⟨hz,m,q,h1,h2,h3⟩:=h
  exact f _ (CP hz h1 h2) h3
 | _=>exact h.elim
theorem wH {d:PyData} {l u s:Option Int} {K:RV->Prop} (h:Jn d l u s K) (f:∀ rv,Sl V d l u s rv->K rv->P):P:=by
 cases d with
 | list ds=>exact f _ (y6 h.1 h.2.1) h.2.2
 | str x=>exact f _ (CS h.1 h.2.1) h.2.2
 | _=>exact h.2.elim
theorem Jo {n m:Str} (h:(n==m)=true):n=m:=eq_of_beq h
theorem lq {n m:Str} {A B:Prop} {M:Str->Prop} (h:bO (n==m) A B) (f:A->M m) (f':B->M n):M n:=cG h (fun e h=>Jo e▸f h) fun ι h=>f' h
theorem m9 {n:Str} {ds as:List PyData} {K:RV->Prop} (h:zN n ds as K) (f:∀ rv,jC V (.list ds) n as rv->K rv->P):P:=by
 cases as with
 | nil=>exact h.elim
 | cons a l=>cases l with
  | cons _ _=>exact h.elim
  | nil =>
   refine lq (M:=fun n=>(∀ rv,jC V (.list ds) n [a] rv->K rv->P)->P) h.2 (fun k f=>f _ (vE h.1.2) k) (fun k=>?_) f
   exact lq (M:=fun n=>(∀ rv,jC V (.list ds) n [a] rv->K rv->P)->P) k (fun k f=>k.elim fun i k=>f _ (vF h.1.2 h.1.1 k.1) k.2) fun k=>k.elim
theorem DJ {n:Str} {d:PyData} {as:List PyData} {K:RV->Prop} (h:Hj n d as K) (f:∀ rv,jC V d n as rv->K rv->P):P:=by
 cases d with
 | str x =>
  cases as with
  | nil =>
   refine lq (M:=fun n=>(∀ rv,jC V (.str x) n [] rv->K rv->P)->P) h.2 (fun k f=>f _ (y8 h.1) k) (fun k=>?_) f
   refine lq (M:=fun n=>(∀ rv,jC V (.str x) n [] rv->K rv->P)->P) k (fun k f=>f _ (y9 h.1) k) (fun k=>?_)
   exact lq (M:=fun n=>(∀ rv,jC V (.str x) n [] rv->K rv->P)->P) k (fun k f=>f _ (zc h.1 k.1) k.2) fun k=>k.elim
  | cons a l=>cases l with
   | cons _ _=>exact h.elim
   | nil =>
    refine lq (M:=fun n=>(∀ rv,jC V (.str x) n [a] rv->K rv->P)->P) h (fun k=>?_) (fun k=>?_) f
    ·exact c7 (M:=fun a=>(∀ rv,jC V (.str x) "join" [a] rv->K rv->P)->P) k fun ds k f=>by
      obtain⟨l,rfl,h1,k⟩:=k
      exact f _ (CT h1) k
    ·refine iq (M:=fun a=>(∀ rv,jC V (.str x) n [a] rv->K rv->P)->P) k fun y k=>?_
     refine lq (M:=fun n=>(∀ rv,jC V (.str x) n [.str y] rv->K rv->P)->P) k (fun k f=>k.elim fun i k=>k.elim fun l k=>f _ (zd k.1) k.2) fun k=>?_
     exact lq (M:=fun n=>(∀ rv,jC V (.str x) n [.str y] rv->K rv->P)->P) k (fun k f=>f _ ze k.2) fun k=>k.elim
 | int i=>cases as with
  | nil=>exact lq (M:=fun n=>(∀ rv,jC V (.int i) n [] rv->K rv->P)->P) h (fun k f=>f _ CU k) (fun k=>k.elim) f
  | cons _ _=>exact h.elim
 | list ds=>exact m9 h f
 | _=>exact h.elim
theorem qY {n:Str} {ds as:List PyData} {K:PyData->List PyData->Prop} {O:Prop} (h:zO n ds as K O) (f:∀ d ds',iU V n ds as d ds'->K d ds'->P) (o:O->P):P:=by
 cases as with
 | nil =>
  refine lq (M:=fun n=>(∀ d ds',iU V n ds [] d ds'->K d ds'->P)->P) h.2 (fun k f=>f _ _ (qu h.1) k) (fun k=>?_) f
  exact lq (M:=fun n=>(∀ d ds',iU V n ds [] d ds'->K d ds'->P)->P) k (fun k f=>by
   obtain⟨d,ds',rfl,k2⟩:=k
   exact f _ _ (qO (by have:=h.1;rw [List.length_append] at this;exact this)) k2) fun k=>k.elim
 | cons a l=>cases l with
  | cons _ _=>exact h.elim
  | nil =>
   refine lq (M:=fun n=>(∀ d ds',iU V n ds [a] d ds'->K d ds'->P)->P) h (fun k f=>f _ _ (tX k.1) k.2) (fun k=>?_) f
   refine lq (M:=fun n=>(∀ d ds',iU V n ds [a] d ds'->K d ds'->P)->P) k (fun k=>?_) fun k ι=>o k
   exact bM (M:=fun a=>(∀ d ds',iU V "pop" ds [a] d ds'->K d ds'->P)->P) k fun j k f=>k.2.elim fun d q=>f _ _ (CV k.1.1 k.1.2 q.1) q.2
end
structure wI (V:aD) (k:Nat) (r:Wk):Prop where
 ev:∀ {sc:Scope} {e:Expr} {st:St} {K:RV->St->Prop} {P:Prop},r.ev sc e st K->(∀ rv st',Ev V k e sc st rv st'->K rv st'->P)->P
 cd:∀ {sc:Scope} {e:Expr} {st:St} {K:Bool->St->Prop} {P:Prop},r.cd sc e st K->(∀ t st',Cd V k e sc st t st'->K t st'->P)->P
 ex:∀ {sc:Scope} {ss:List Stmt} {st:St} {K:Fl->St->Prop} {P:Prop},r.ex sc ss st K->(∀ fl st',Ex V k ss sc st fl st'->K fl st'->P)->P
noncomputable def jG:List (Str×Value):=[("len",.builtin "len"),("sum",.builtin "sum"),("min",.builtin "min"),("divmod",.builtin "divmod"),("list",.type "list"),("range",.type "range"),("enumerate",.type "enumerate"),("reversed",.type "reversed"),("zip",.type "zip")]
structure jw (V:aD) (cl:Nat) (x:Str) (f:Addr):Prop where
 ok:∃ mN o fd y,bK V cl mN/\mN x=some (.ref f)/\V.K f=some o/\o.cls=.type "function"/\o.data=.func fd/\typeLookup (.type "object") x=pure y
noncomputable def be (V:aD) (k:Nat) (v:Value) (φ:Ctr):Prop:=∀ as G K,φ as G K->∃ rv G',eV V k v as G rv G'/\K rv G'
noncomputable def pf (V:aD) (k:Nat) (v:Value) (φ:Ctr):Prop:=∀ u v' b G K,φ [u,v',.dat (.bool b)] G K->∃ rv G',cV V k v [u,v'] [("name",.bool b)] G rv G'/\K rv G'
structure an (V:aD) (k:Nat) (g:Gl):Prop where
 val:∀ x av,g.val.lookup x=some av->∃ v,(V.mg x=some v\/(V.mg x=none/\V.mb x=some v))/\∀ γ B,VR γ B v av
 tbl:∀ x es,g.tbl.lookup x=some es->∃ a n,V.mg x=some (.ref a)/\V.K a=some { cls:=.type "dict",data:=.dict es.toArray n }/\(a==sysModules)=false/\∀ e∈es,∃ x t,e.key=.str x t/\e.hash=PyData.keyHash V.w.params x
 fn:∀ f φ,g.fn.lookup f=some φ->∃ v,V.mg f=some v/\bQ V v/\be V k v φ
 lf:∀ f p,g.lf.lookup f=some p->bQ V p.1/\be V k p.1 p.2
 me:∀ cl n φ,yL g.me cl n=some φ->∃ f,jw V cl n f/\be V k (.ref f) φ
 mkw:∀ cl n φ,yL g.mkw cl n=some φ->∃ f,jw V cl n f/\pf V k (.ref f) φ
 bi:∀ p∈jG,Bi V p.1 p.2
 fld:∀ p∈g.fld,∃ mN,bK V p.1 mN/\mN p.2=none/\dE p.2
 clo:∀ m as G K,g.clo (.obj m::as) G K->∃ rv G',gu V k m as G rv G'/\K rv G'
 rc:∀ as G K,g.rc as G K->∃ j rv G',as=[.obj j]/\bp V k V.rc [.obj j] [] G rv G'/\K rv G'
 rf:qM V
section
variable {V:aD} {k:Nat} {g:Gl} {r:Wk} {sc:Scope} {st:St} {e o i:Expr} {es:List Expr} {G:List GObj} {j:Nat} {n x:Str} {p pos:Pos}
theorem cV.less {v:Value} {as:List ab} {kw:List (Str×PyData)} {rv:RV} {G':List GObj} (h:cV V k v as kw G rv G'):cV V (k+1) v as kw G rv G':=fun A w vs kvs room=>h A w vs kvs (room.less (Nat.le_succ k))
theorem wJ {P:Prop} {l:List (Nat×Str)} {cl:Nat} (h:(l.any fun p=>p.1==cl&&p.2==n)=true) (H:∀ p∈l,∃ mN,bK V p.1 mN/\mN p.2=none/\dE p.2) (f:∀ mN,bK V cl mN->mN n=none->dE n->P):P:=by
 obtain⟨⟨c,m⟩,hq,e⟩:=List.any_eq_true.mp h
 obtain⟨c1,c2⟩:=Bool.and_eq_true_iff.mp e
 cases eq_of_beq c1;cases eq_of_beq c2
 obtain⟨mN,X,hn,hb⟩:=H _ hq
 exact f mN X hn hb
theorem jH {P:Prop} (H:an V k g) {K:ab->Prop} (h:lZ g G j n K) (f:∀ av,ki V G j n av->K av->P):P :=
 iu h fun cl attrs hg h=>ah h fun e1 h=>au h fun av e2 h=>ah h fun e3 h=>wJ e1 H.fld fun mN X hn hb=>f av ⟨(tR cl attrs mN hg X hn hb e2 e3)⟩ h
theorem zY {xp:Pos} {d:PyData} (hx:af st.ρ x=some (.val (.obj j))) (K:ki V st.G j n (.dat d)):Pe V k (.Attribute (.Name x xp) n p) sc st d:=Pe.of fun c w r=>by
 obtain⟨u,hu,hs⟩:=r.slot hx
 obtain⟨a,rfl,ha⟩:=hs
 intro Q E hQ
 refine Attribute_any_ (Do.nameV r hx hu _ E fun v w1 n1 z1=>?_)
 obtain⟨zq,zq⟩:=z1;clear hu n1;subst zq;rw [zq]
 exact jE K r.bs ha fun v hv=>hQ v (w1.tk _) (Nx.tk _ _) (aa _ rfl (.inl hv))
theorem pg {P:Prop} (H:an V k g) {K:PyData->Prop} (h:pk g st e K) (f:∀ d,Pe V (k+1) e sc st d->K d->P):P:=by
 cases e with
 | Name x p =>
  refine au h fun s q h=>?_
  cases s with
  | lst ds=>exact f _ (Gb q) h
  | val v=>cases v with
   | dat d=>exact f _ (Gc q) h
   | obj m=>exact fk h fun ds hg h=>f _ (zL q hg) h
   | _=>exact h.elim
 | Attribute o n p =>
  refine au h fun x hx h=>au h fun s q h=>?_
  obtain⟨xp,rfl⟩:=bX hx
  cases s with
  | lst ds=>exact h.elim
  | val v =>
   cases v with
   | obj m =>
    refine jH H h fun av K1 h=>?_
    cases av with
    | dat d=>exact f _ (zY q K1) h
    | obj m=>exact fk h fun ds hg h=>f _ (Dn q K1 hg) h
    | _=>exact h.elim
   | _=>exact h.elim
 | _=>exact h.elim
section
variable (R:wI V (k+1) r) {P:Prop}
include R
theorem fs {K:ab->St->Prop} (h:r.evA sc e st K) (f:∀ av st',eK V (k+1) e sc st av st'->K av st'->P):P:=R.ev h fun rv st' h1 h2=>f _ _ h1.a h2
theorem bw {K:PyData->St->Prop} (h:r.evD sc e st K) (f:∀ d st',bH V (k+1) e sc st d st'->K d st'->P):P :=
 fs (K:=fun av st1=>sw av fun d=>K d st1) R h fun av st' h1 h2=>pc (M:=fun av=>eK V (k+1) e sc st av st'->P) h2 (fun d h2 h1=>f d st' h1 h2) h1
theorem nc {K:Int->St->Prop} (h:r.evD sc e st fun d st1=>bc d fun i=>K i st1) (f:∀ i st',bH V (k+1) e sc st (.int i) st'->K i st'->P):P :=
 bw R h fun d st' h1 h2=>bM (M:=fun d=>bH V (k+1) e sc st d st'->P) h2 (fun i h2 h1=>f i st' h1 h2) h1
theorem qZ {K:Str->St->Prop} (h:r.evD sc e st fun d st1=>gM d fun i=>K i st1) (f:∀ i st',bH V (k+1) e sc st (.str i) st'->K i st'->P):P :=
 bw R h fun d st' h1 h2=>iq (M:=fun d=>bH V (k+1) e sc st d st'->P) h2 (fun i h2 h1=>f i st' h1 h2) h1
theorem DK {K:List PyData->St->Prop} (h:r.evD sc e st fun d st1=>io d fun i=>K i st1) (f:∀ i st',bH V (k+1) e sc st (.list i) st'->K i st'->P):P :=
 bw R h fun d st' h1 h2=>c7 (M:=fun d=>bH V (k+1) e sc st d st'->P) h2 (fun i h2 h1=>f i st' h1 h2) h1
theorem kA {K:Nat->St->Prop} (h:r.evA sc e st fun d st1=>ko d fun i=>K i st1) (f:∀ i st',eK V (k+1) e sc st (.obj i) st'->K i st'->P):P :=
 fs R h fun d st' h1 h2=>wD (M:=fun d=>eK V (k+1) e sc st d st'->P) h2 (fun i h2 h1=>f i st' h1 h2) h1
theorem iY:∀ {es:List Expr} {st:St} {K:List ab->St->Prop},r.evs sc es st K->(∀ as st',EvsA V (k+1) es sc st as st'->as.length=es.length->K as st'->P)->P:=by
 intro es
 induction es with
 | nil=>exact fun h f=>f _ _ CL rfl h
 | cons e es ih=>exact fun h f=>ah h fun hp h=>fs R h fun v st1 h1 h=>ih h fun vs st2 h2 hl h=>f _ _ (yY (R:=RA) h1 h2 hp) (congrArg Nat.succ hl) h
omit R in
theorem zZ {w:W}:∀ {vs:List Value} {ds:List PyData},All2 (RA w) vs (ds.map .dat)->All2 (RD w) vs ds:=by
 intro vs ds
 induction ds generalizing vs with
 | nil=>intro h;cases h;exact .nil
 | cons d ds ih=>intro h;cases h with | cons a b=>exact .cons a (ih b)
omit R in
theorem vh.dats {ds:List PyData} {st':St} (h:EvsA V k es sc st (ds.map .dat) st'):EvsD V k es sc st ds st':=⟨h.1,fun c w pos rl=>(h.2 c w pos rl).mono fun vs w' n z=>⟨z.vm,z.rel,zZ z.x⟩⟩
theorem d6 {K:List PyData->St->Prop} (h:r.evDs sc es st K) (f:∀ ds st',EvsD V (k+1) es sc st ds st'->ds.length=es.length->K ds st'->P):P :=
 iY R h fun as st' h1 hl h2=>sD (M:=fun as=>EvsA V (k+1) es sc st as st'->as.length=es.length->P) h2 (fun ds h2 h1 hl=>f ds st' h1.dats (by rw [<- hl,List.length_map]) h2) h1 hl
theorem z7:∀ {es:List Expr} {st:St} {K:List RV->St->Prop},r.evRs sc es st K->(∀ rvs st',qD V (k+1) es sc st rvs st'->K rvs st'->P)->P:=by
 intro es
 induction es with
 | nil=>exact fun h f=>f _ _ De h
 | cons e es ih=>exact fun h f=>ah h fun hp h=>R.ev h fun v st1 h1 h=>ih h fun vs st2 h2 h=>f _ _ (zy h1 h2 hp) h
theorem iZ {e:Option Expr} {K:Option Int->St->Prop} (h:r.evO sc e st K) (f:∀ d st',n9 V (k+1) e sc st d st'->K d st'->P):P:=by
 cases e with
 | none=>exact f _ _ y4 h
 | some e=>exact nc R h fun i st1 h1 h=>f _ _ (y5 h1) h
omit R in
theorem fZ {op:CmpOp} {b:Expr} (h:iX b=true):behindInMarks op b=false:=by
 cases b<;>first | rfl | cases h
theorem DL (H:an V k g) {a b:Expr} {op:CmpOp} {K:Bool->St->Prop} (h:Hk g r sc a op b st K) (f:∀ t st',om V (k+1) a op b sc st t st'->behindInMarks op b=false->K t st'->P):P :=
 ah h fun hm h=>cG h
  (fun ι h=>cG h (fun ι h=>pg (sc:=sc) H h fun x h1 h=>pg (sc:=sc) H h fun y h2 h=>qW h fun t h3 h=>f _ _ (J2 h1 h2 h3) (fZ hm) h)
   fun ι h=>bw R h fun x st1 h1 h=>pg (sc:=sc) H h fun y h2 h=>qW h fun t h3 h=>f _ _ (J3 h1 h2 h3) (fZ hm) h)
  fun ι h=>bw R h fun x st1 h1 h=>bw R h fun y st2 h2 h=>qW h fun t h3 h=>f _ _ (J4 h1 h2 h3) (fZ hm) h
omit R in
theorem ph (H:an V k g) {es:List DictEntry} (h:o9 g sc st e=some es) (f:∀ x p a n,e=.Name x p->dO sc x=true->V.mg x=some (.ref a)->V.K a=some { cls:=.type "dict",data:=.dict es.toArray n }->(a==sysModules)=false->(∀ e∈es,∃ x t,e.key=.str x t/\e.hash=PyData.keyHash V.w.params x)->P):P:=by
 obtain⟨x,hx,hh⟩:=bF h
 clear h
 obtain⟨p,rfl⟩:=bX hx
 clear hx
 cases q:dO sc x&&(af st.ρ x).isNone with
 | false=>rw [q] at hh;cases hh
 | true =>
  rw [q] at hh
  obtain⟨a,n,h1,h2,h3,h4⟩:=H.tbl x es hh
  exact f x p a n rfl (Bool.and_eq_true_iff.mp q).1 h1 h2 h3 h4
theorem sE (H:an V k g) {a b:Expr} {op:CmpOp} {K:Bool->St->Prop} (h:zP g r sc a op b st K) (f:∀ t st',om V (k+1) a op b sc st t st'->behindInMarks op b=false->K t st'->P):P:=by
 unfold zP at h
 cases q:o9 g sc st b with
 | none=>rw [q] at h;exact DL R H h f
 | some es =>
  rw [q] at h
  refine ph H q fun x p ad n eb e1 e2 e3 e4 e5=>?_
  subst eb
  cases op with
  | In=>exact qZ R h fun z st1 h1 h=>f _ _ (y0 e1 e2 e3 e4 e5 h1) rfl h
  | _=>exact h.elim
omit R in
theorem f7 (h:fW st e=some x):∃ p ds,e=.Name x p/\af st.ρ x=some (.lst ds):=by
 obtain⟨y,hy,hh⟩:=bF h
 clear h
 obtain⟨p,rfl⟩:=bX hy
 clear hy
 unfold Hl at hh
 cases q:af st.ρ y with
 | none=>rw [q] at hh;cases hh
 | some s=>rw [q] at hh;cases s with
  | lst ds=>cases hh;exact (ba p ds rfl q)
  | val v=>cases hh
theorem pi {l u s:Option Expr} {K:Option Int->Option Int->Option Int->St->St->St->Prop} (h:r.evO sc l st fun dl st1=>r.evO sc u st1 fun du st2=>r.evO sc s st2 fun ds st3=>K dl du ds st1 st2 st3) (f:∀ dl du ds st1 st2 st3,n9 V (k+1) l sc st dl st1->n9 V (k+1) u sc st1 du st2->n9 V (k+1) s sc st2 ds st3->K dl du ds st1 st2 st3->P):P :=
 iZ R h fun dl st1 h1 h=>iZ R h fun du st2 h2 h=>iZ R h fun dv st3 h3 h=>f _ _ _ _ _ _ h1 h2 h3 h
theorem wK {l u s:Option Expr} {sp:Pos} {K:RV->St->Prop} (h:qS r sc o l u s st K) (f:∀ rv st',Ev V (k+1) (.Subscript o (.Slice l u s sp) p) sc st rv st'->K rv st'->P):P:=by
 unfold qS at h
 cases q:fW st o with
 | some x =>
  rw [q] at h
  obtain⟨xp,ds,rfl,hx⟩:=f7 q
  exact pi R h fun dl du dv st1 st2 st3 h1 h2 h3 h=>fq h fun xs hx' h=>wH h fun rv h4 h=>f _ _ (vA hx h1 h2 h3 hx' h4) h
 | none =>
  rw [q] at h
  refine fs R h fun v st0 h0 h=>?_
  cases v with
  | dat d=>exact pi R h fun dl du dv st1 st2 st3 h1 h2 h3 h=>wH h fun rv h4 h=>f _ _ (y7 h0.d h1 h2 h3 h4) h
  | obj y =>
   exact fk h fun xs hg h=>iZ R h fun dl st1 h1 h=>iZ R h fun du st2 h2 h=>iZ R h fun dv st3 h3 h=>by
    obtain⟨⟨rfl,rfl,rfl⟩,h⟩:=h
    exact wH h fun rv h4 h=>f _ _ (vB h0 hg h1 h2 h3 h4) h
  | _=>exact h.elim
theorem z8 (H:an V k g) {K:RV->St->Prop} (h:ji g r sc o i st K) (f:∀ rv st',Ev V (k+1) (.Subscript o i p) sc st rv st'->K rv st'->P):P:=by
 unfold ji at h
 cases q:o9 g sc st o with
 | some es =>
  rw [q] at h
  refine ph H q fun x xp ad n eb e1 e2 e3 e4 e5=>?_
  subst eb
  exact qZ R h fun z st1 h1 h=>h.elim fun m h=>h.elim fun t h=>f _ _ (CR e1 e2 e3 e5 h1 (aa _ h.1 (.int _ _))).v h.2
 | none =>
  rw [q] at h
  cases q2:fW st o with
  | some x =>
   rw [q2] at h
   obtain⟨xp,ds,rfl,hx⟩:=f7 q2
   exact bw R h fun j st1 h1 h=>fq h fun xs hx' h=>BQ h fun d h2 h=>f _ _ (CQ hx h1 hx' h2).v h
  | none =>
   rw [q2] at h
   exact bw R h fun v st1 h1 h=>bw R h fun j st2 h2 h=>BQ h fun d h3 h=>f _ _ (GP h1 h2 h3).v h
theorem DM (H:an V k g) {K:RV->St->Prop} (h:Hm g r sc o i st K) (f:∀ rv st',Ev V (k+1) (.Subscript o i p) sc st rv st'->K rv st'->P):P:=by
 cases i<;>first | exact z8 R H h f | exact wK R h f | exact h.elim
end
end
section
variable {V:aD} {k:Nat} {g:Gl} {r:Wk} {sc:Scope} {st:St} {e o i t elt:Expr} {es ifs:List Expr} {G:List GObj} {j:Nat} {n x f:Str} {p pos:Pos} {flag:Bool} {items:List PyData}
theorem jI (h:zQ sc st f=true):dO sc f=true:=(Bool.and_eq_true_iff.mp h).1
theorem DN {P:List PyData->Prop} {ds:List PyData} {K:PyData->Prop} (h:match ds with
  | [d]=>K d
  | _=>False) (f:∀ d,K d->P [d]):P ds:=by
 cases ds with
 | nil=>exact h.elim
 | cons a l=>cases l with
  | nil=>exact f a h
  | cons _ _=>exact h.elim
theorem DO {P:List PyData->Prop} {ds:List PyData} {K:PyData->PyData->Prop} (h:match ds with
  | [a,b]=>K a b
  | _=>False) (f:∀ a b,K a b->P [a,b]):P ds:=by
 cases ds with
 | nil=>exact h.elim
 | cons a l=>cases l with
  | nil=>exact h.elim
  | cons b l=>cases l with
   | nil=>exact f a b h
   | cons _ _=>exact h.elim
theorem z9:∀ (a b:List PyData),fU [a,b] (Hp a b):=by
 intro a
 induction a with
 | nil =>
  intro b
  exact .done (List.mem_cons_self ..)
 | cons x a ih =>
  intro b
  cases (b) with
  | nil =>
   exact .done (List.mem_cons_of_mem _ (List.mem_singleton.mpr rfl))
  | cons y b =>
   exact fU.cons (ps:=[(x,a),(y,b)]) (.cons rfl (.cons rfl .nil)) (ih b)
theorem sF:∀ (a b c:List PyData),fU [a,b,c] (Hq a b c)
 | [],b,c=>.done (List.mem_cons_self ..)
 | x::a,[],c=>.done (List.mem_cons_of_mem _ (List.mem_cons_self ..))
 | x::a,y::b,[]=>.done (List.mem_cons_of_mem _ (List.mem_cons_of_mem _ (List.mem_singleton.mpr rfl)))
 | x::a,y::b,z::c=>fU.cons (ps:=[(x,a),(y,b),(z,c)]) (.cons rfl (.cons rfl (.cons rfl .nil))) (sF a b c)
section
variable {P:Prop} (R:wI V (k+1) r)
include R
theorem q8 {K:PyData->St->Prop} (h:r.evDs sc es st fun ds st1=>match ds with
  | [d]=>K d st1
  | _=>False) (f:∀ d st',EvsD V (k+1) es sc st [d] st'->K d st'->P):P :=
 d6 R h fun ds st1 h1 ι h=>DN (P:=fun ds=>EvsD V (k+1) es sc st ds st1->P) h (fun d h h1=>f d st1 h1 h) h1
theorem sG {K:Int->St->Prop} (h:r.evDs sc es st fun ds st1=>match ds with
  | [d]=>bc d fun i=>K i st1
  | _=>False) (f:∀ i st',EvsD V (k+1) es sc st [.int i] st'->K i st'->P):P :=
 q8 R h fun d st1 h1 h=>bM (M:=fun d=>EvsD V (k+1) es sc st [d] st1->P) h (fun d h h1=>f d st1 h1 h) h1
theorem sH {K:List PyData->St->Prop} (h:r.evDs sc es st fun ds st1=>match ds with
  | [d]=>io d fun i=>K i st1
  | _=>False) (f:∀ i st',EvsD V (k+1) es sc st [.list i] st'->K i st'->P):P :=
 q8 R h fun d st1 h1 h=>c7 (M:=fun d=>EvsD V (k+1) es sc st [d] st1->P) h (fun d h h1=>f d st1 h1 h) h1
theorem sI {K:Int->Int->St->Prop} (h:r.evDs sc es st fun ds st1=>match ds with
  | [a,b]=>bc a fun i=>bc b fun j=>K i j st1
  | _=>False) (f:∀ i j st',EvsD V (k+1) es sc st [.int i,.int j] st'->K i j st'->P):P :=
 d6 R h fun ds st1 h1 ι h=>DO (P:=fun ds=>EvsD V (k+1) es sc st ds st1->P) h (fun a b h h1=>bM (M:=fun a=>EvsD V (k+1) es sc st [a,b] st1->P) h (fun i h h1=>bM (M:=fun b=>EvsD V (k+1) es sc st [.int i,b] st1->P) h (fun j h h1=>f i j st1 h1 h) h1) h1) h1
noncomputable def BR (V:aD) (k:Nat) (f:Str) (args:List Expr) (sc:Scope) (st:St) (rv:RV) (st':St):Prop:=∀ p pos,Ev V k (.Call (.Name f p) args [] pos) sc st rv st'
omit R in
theorem Hz {a:Expr} {d:PyData} {m:Nat} {st1:St} (hg:dO sc ("len":Str)=true) (hb:Bi V "len" (.builtin "len")) (h:bH V (k+1) a sc st d st1) (hl:m<=lim) (hd:(∃ ds,d=.list ds/\ds.length=m)\/(∃ x,d=.str x/\x.length=m)) (hp:bu a=true) :
  bH V (k+1) (.Call (.Name "len" p) [a] [] pos) sc st (.int m) st1:=fun c w rl Q E hQ =>
 PyProof.Rows.Call_Name rfl (aZ rl hg (.inr hb) (Z:=fun u w'=>u=.builtin "len"/\w'=w) ⟨rfl,rfl⟩ _ E fun u w' n z=>by
  obtain⟨rfl,rfl⟩:=z
  have hm:(m:Int)<2 ^ 63:=Int.lt_of_le_of_lt (Int.ofNat_le.mpr hl) (by decide)
  refine aQ (bI (es:=[a]) c.env pos (by rw [List.all_cons,hp];rfl)).1 rfl ?_
  rw [aP hp]
  refine PySem.Calls.evalArgs_plain (PySem.Calls.spliced_cons (h c w' rl _ E fun v w1 n1 z1=>PySem.Calls.spliced_nil ⟨aA nofun,?_⟩))
  have fin:∀ t n,Q (.int m t) (w1.tk n).s:=fun t n=>hQ _ (w1.tk n) (n1.trans (Nx.tk _ _)) ⟨z1.vm,z1.rel.tk _,Rd.int m t⟩
  rcases hd with ⟨ds,rfl,e⟩ | ⟨x,rfl,e⟩
  ·obtain⟨a1,vs,n2,rfl,e1,rs⟩:=Rd.isList z1.x
   have el:(vs.toArray.size:Int)=m:=by rw [List.size_toArray,rs.len,e]
   refine call_len_list (s:=w1.s) (aB _ (z1.rel.bs.in _ _ e1) rfl ⟨n2,rfl⟩) (by rw [el];exact hm) ?_
   rw [el]
   exact fin _ _
  ·obtain⟨t,rfl⟩:=Rd.isStr z1.x
   clear hl hQ;subst e
   exact SBL.len hm (fin _ _))
section
variable (H:an V k g)
include H
theorem DP {a:Expr} {K:RV->St->Prop} (hg:dO sc ("len":Str)=true) (h:Ho g r sc a st K) (f:∀ rv st',BR V (k+1) "len" [a] sc st rv st'->K rv st'->P):P:=by
 have hb:Bi V "len" (.builtin "len"):=H.bi _ (.head _)
 refine ah h fun hp h=>cG h (fun ι h=>pg (sc:=sc) H h fun d h1 h=>?_) fun ι h=>fs R h fun v st1 h1 h=>?_
 ·cases d with
  | list ds=>exact f _ _ (fun ι ι=>(CX hg hb h1 h.1 hp).v) h.2
  | str x=>exact f _ _ (fun ι ι=>(CY hg hb h1 h.1 hp).v) h.2
  | _=>exact h.elim
 ·cases v with
  | dat d =>
   cases d with
   | list ds=>exact f _ _ (fun ι ι=>(Hz hg hb h1.d h.1 (.inl (aa ds rfl rfl)) hp).v) h.2
   | str x=>exact f _ _ (fun ι ι=>(Hz hg hb h1.d h.1 (.inr (aa x rfl rfl)) hp).v) h.2
   | _=>exact h.elim
  | obj j =>
   refine iu h fun cl attrs hj h=>ah h fun hn h=>au h fun φ hφ h=>?_
   obtain⟨f',M,m6⟩:=H.me _ _ _ hφ
   obtain⟨mN,oo,fd,y,X,m1,m2,m3,m4,m5⟩:=M.ok
   obtain⟨rv,G',hc,h⟩:=m6 _ _ _ h
   cases rv with
   | own ds=>exact h.elim
   | val av=>cases av with
    | dat d=>cases d with
     | int n=>exact f _ _ (fun ι ι=>(Dr hg hb h1 ⟨(dy cl attrs mN hj X m1 (Option.isNone_iff_eq_none.mp hn)),(aF oo fd m2 m3 m4),⟨y,m5⟩⟩ hc h.1.1 (Int.lt_trans h.1.2 (by decide)) hp).v) h.2
     | _=>exact h.elim
    | _=>exact h.elim
  | _=>exact h.elim
theorem Aa {args:List Expr} {K:RV->St->Prop} (hg:dO sc ("list":Str)=true) (h:BI r sc args st K) (f:∀ rv st',BR V (k+1) "list" args sc st rv st'->K rv st'->P):P:=by
 have hb:Bi V "list" (.type "list"):=H.bi _ (.tail _ (.tail _ (.tail _ (.tail _ (.head _)))))
 cases args with
 | nil=>exact h.elim
 | cons a l=>cases l with
  | cons _ _=>exact h.elim
  | nil=>cases a with
   | Name x xp=>exact qZ R h fun y st1 h1 h=>f _ _ (fun ι ι=>zF hg hb h1 h.1 rfl) h.2
   | Call q es kws qp =>
    cases kws with
    | cons _ _=>exact h.elim
    | nil =>
     refine au h fun y hy h3=>ah h3 fun e h2=>?_
     obtain⟨yp,rfl⟩:=bX hy
     obtain⟨e1,e2⟩:=Bool.and_eq_true_iff.mp e
     clear h h3
     cases Jo e1
     exact sG R h2 fun m st1 h1 h=>f _ _ (fun ι ι=>oz hg hb (jI e2) (H.bi _ (.tail _ (.tail _ (.tail _ (.tail _ (.tail _ (.head _))))))) h1 h.1.1 h.1.2) h.2
   | _=>exact h.elim
theorem DQ {f:Str} {args:List Expr} {K:RV->St->Prop} (hg:dO sc f=true) (h:LB g r sc f args st K) (fin:∀ rv st',BR V (k+1) f args sc st rv st'->K rv st'->P):P:=by
 refine lq (M:=fun f=>dO sc f=true->(∀ rv st',BR V (k+1) f args sc st rv st'->K rv st'->P)->P) h (fun h hg fin=>?_) (fun h=>?_) hg fin
 ·cases args with
  | nil=>exact h.elim
  | cons a l=>cases l with
   | nil=>exact DP R H hg h fin
   | cons _ _=>exact h.elim
 refine lq (M:=fun f=>dO sc f=true->(∀ rv st',BR V (k+1) f args sc st rv st'->K rv st'->P)->P) h (fun h hg fin=>?_) (fun h=>?_)
 ·exact sH R h fun xs st1 h1 h=>by
   obtain⟨l,rfl,h⟩:=h
   exact fin _ _ (fun ι ι=>(GS hg (H.bi _ (.tail _ (.head _))) h1).v) h
 refine lq (M:=fun f=>dO sc f=true->(∀ rv st',BR V (k+1) f args sc st rv st'->K rv st'->P)->P) h (fun h hg fin=>?_) (fun h=>?_)
 ·exact sI R h fun i j st1 h1 h=>fin _ _ (fun ι ι=>(GT hg (H.bi _ (.tail _ (.tail _ (.head _)))) h1).v) h
 refine lq (M:=fun f=>dO sc f=true->(∀ rv st',BR V (k+1) f args sc st rv st'->K rv st'->P)->P) h (fun h hg fin=>?_) (fun h=>?_)
 ·exact sI R h fun i j st1 h1 h=>fin _ _ (fun ι ι=>(vM hg (H.bi _ (.tail _ (.tail _ (.tail _ (.head _))))) h1 h.1.1 h.1.2).v) h.2
 exact lq (M:=fun f=>dO sc f=true->(∀ rv st',BR V (k+1) f args sc st rv st'->K rv st'->P)->P) h (fun h hg fin=>Aa R H hg h fin) fun h=>h.elim
theorem wL {f:Str} {args:List Expr} {K:RV->St->Prop} (h:BJ g r sc f args st K) (fin:∀ rv st',Ev V (k+1) (.Call (.Name f p) args [] pos) sc st rv st'->K rv st'->P):P:=cG h (fun hg h=>by
 cases q:Kf g.fn f with
 | none=>rw [q] at h;exact DQ R H (jI hg) h fun rv st' h1 h=>fin rv st' (h1 _ _) h
 | some φ =>
  rw [q] at h
  refine iY R h fun as st1 h1 ι h=>?_
  obtain⟨v,m1,m2,m3⟩:=H.fn _ _ q
  obtain⟨rv,G',hc,h⟩:=m3 _ _ _ h
  exact fin _ _ (CW (jI hg) m1 h1 hc.less m2) h) fun ι h=>au h fun p hp h=>iY R h.2 fun as st1 h1 ι h2=>by
  obtain⟨m2,m3⟩:=H.lf _ _ hp
  obtain⟨rv,G',hc,h3⟩:=m3 _ _ _ h2
  exact fin _ _ (zj h.1 h1 hc.less m2) h3
omit R H in
theorem ft {env:Env} {a:Str} (h:iW o=true):attributeBase o a env (eval o env)=eval o env:=by
 cases o with
 | Call f x y z=>cases f<;>first | rfl | cases h
 | _=>first | rfl | cases h
theorem wM {j cl:Nat} {attrs:List (Str×ab)} {args:List Expr} {apos:Pos} {st0:St} {K:RV->St->Prop} (h0:eK V (k+1) o sc st0 (.obj j) st) (hf:dW args apos pos=true) (hb:iW o=true) (q:st.G[j]?=some (.inst cl attrs)) (h:wp g r sc j cl attrs n args st K) (fin:∀ rv st',Ev V (k+1) (.Call (.Attribute o n apos) args [] pos) sc st0 rv st'->K rv st'->P):P:=by
 unfold wp at h
 cases q2:attrs.lookup n with
 | none =>
  rw [q2] at h
  refine au h fun φ hφ h=>iY R h fun as st1 h1 ι h=>?_
  obtain⟨f,M,m6⟩:=H.me _ _ _ hφ
  obtain⟨mN,oo,fd,y,X,m1,m2,m3,m4,m5⟩:=M.ok
  obtain⟨rv,G',hc,h⟩:=m6 _ _ _ h
  exact fin _ _ (zB h0 ⟨(dy cl attrs mN q X m1 q2),(aF oo fd m2 m3 m4),⟨y,m5⟩⟩ h1 hc.less hf fun ι=>ft hb) h
 | some av0 =>
  rw [q2] at h
  refine jH H h fun av K1 h=>?_
  cases av with
  | obj m =>
   refine iY R h fun as st1 h1 ι h=>?_
   obtain⟨rv,G',hc,h⟩:=H.clo _ _ _ _ h
   exact fin _ _ (zD h0 K1 h1 ⟨fun A w a vs room=>hc.run A w a vs (room.less (Nat.le_succ k)),hc.keep⟩ hf fun ι=>ft hb) h
  | _=>exact h.elim
theorem wN {v:ab} {args:List Expr} {apos:Pos} {st0:St} {K:RV->St->Prop} (h0:eK V (k+1) o sc st0 v st) (hf:dW args apos pos=true) (hb:iW o=true) (h:BK g r sc v n args st K) (fin:∀ rv st',Ev V (k+1) (.Call (.Attribute o n apos) args [] pos) sc st0 rv st'->K rv st'->P):P:=by
 cases v with
 | dat d=>exact d6 R h fun as st1 h1 ι h=>DJ h fun rv h2 h=>fin _ _ (vG h0.d h1 h2 hf fun ι=>ft hb) h
 | obj j=>exact zU h (fun ds0 q h=>d6 R h fun as st1 h1 ι h=>fk h fun ds hg h=>qY h (fun d ds' h2 h=>fin _ _ (zh h0 ⟨ds0,q⟩ h1 hg h2 hf fun ι=>ft hb).v h) fun h=>h.elim) fun cl attrs q h=>wM R H h0 hf hb q h fin
 | _=>exact h.elim
theorem wO {args:List Expr} {apos:Pos} {K:RV->St->Prop} (hf:dW args apos pos=true) (h:wq g r sc o n args st K) (fin:∀ rv st',Ev V (k+1) (.Call (.Attribute o n apos) args [] pos) sc st rv st'->K rv st'->P):P:=by
 unfold wq at h
 cases q:fW st o with
 | some x =>
  rw [q] at h
  obtain⟨xp,ds0,zq,hx⟩:=f7 q;clear q;subst zq
  exact d6 R h fun as st1 h1 ι h=>fq h fun ds hx' h=>qY h (fun d ds' h2 h=>fin _ _ (zg hx h1 hx' h2 hf).v h)
   fun h=>fq h fun ds1 hx1 h=>by
    obtain⟨rfl,h⟩:=h
    exact m9 h fun rv h2 h=>fin _ _ (zf hx1 h1 hx' h2 hf) h
 | none =>
  rw [q] at h
  refine ah h fun hb h=>R.ev h fun rv st1 h0 h=>?_
  cases rv with
  | val v=>exact wN R H h0 hf hb h fin
  | own ds=>exact d6 R h fun as st2 h1 ι h=>qY h (fun d ds' h2 h=>fin _ _ (zi h0 h1 h2 hf fun ι=>ft hb).v h) fun h=>m9 h fun rv h2 h=>fin _ _ (vG h0.od h1 h2 hf fun ι=>ft hb) h
end
end
end
section
variable {V:aD} {k:Nat} {g:Gl} {r:Wk} {sc scope:Scope} {st:St} {e o i t elt iter:Expr} {es ifs:List Expr} {G:List GObj} {j:Nat} {n x f:Str} {p pos:Pos} {flag:Bool} {items:List PyData}
theorem Ab {P:List PyData->Prop} {ds:List PyData} {K:PyData->PyData->Prop} {K3:PyData->PyData->PyData->Prop} (h:match ds with
  | [a,b]=>K a b
  | [a,b,c]=>K3 a b c
  | _=>False) (f:∀ a b,K a b->P [a,b]) (f3:∀ a b c,K3 a b c->P [a,b,c]):P ds:=by
 cases ds with
 | nil=>exact h.elim
 | cons a l=>cases l with
  | nil=>exact h.elim
  | cons b l=>cases l with
   | nil=>exact f a b h
   | cons c l=>cases l with
    | nil=>exact f3 a b c h
    | cons _ _=>exact h.elim
theorem wP {ds:List PyData} (h:ws ds=true):∀ d∈ds,∀ row,d≠.tuple row:=fun d hd row e=>by
 have:=List.all_eq_true.mp h d hd
 rw [e] at this;cases this
theorem pj {P:Prop} {es:List Expr}:∀ {K:List Str->Prop},mX es K->(∀ xs,All2 (fun e x=>∃ p,e=.Name x p) es xs->K xs->P)->P:=by
 induction es with
 | nil=>exact fun h f=>f [] .nil h
 | cons e es ih=>exact fun h f=>au h fun x hx h=>ih h fun xs h1 h2=>f (x::xs) (.cons (bX hx) h1) h2
theorem BS {P:Prop} {d:PyData} {K:St->Prop} (h:jv sc flag t d st K) (f:∀ st',Bt V (k+1) flag t sc st d st'->K st'->P):P:=by
 cases t with
 | Name x p =>
  refine ah h fun e hk=>?_
  obtain⟨e1,e2⟩:=Bool.and_eq_true_iff.mp e
  cases flag with
  | true=>cases e2
  | false=>exact f _ (zm (cH e1)) hk
 | Tuple es i p=>exact sC (M:=fun d=>(∀ st',Bt V (k+1) flag (.Tuple es i p) sc st d st'->K st'->P)->P) h (fun row h f=>pj h fun xs h1 h=>ah h fun e h=>f _ (CZ h1 (fun x hx=>cH (List.all_eq_true.mp e x hx)) h.1) h.2) f
 | _=>exact h.elim
theorem DR (ρ:Rho) (x:Str):vj ρ (frz ρ x):=by
 unfold frz
 cases q:af ρ x with
 | none=>exact fun P h ι=>h
 | some s=>cases s with
  | lst ds=>exact fun P h f=>f _ _ _ q h
  | val v=>exact fun P h ι=>h
theorem vj.trans {a b c:Rho} (x:vj a b) (y:vj b c):vj a c:=fun P h f=>x P (y P h f) f
theorem uA (xs:List Str):∀ (ρ:Rho),vj ρ (qT ρ xs):=by
 induction xs with
 | nil=>exact fun ι P h ι=>h
 | cons x xs ih=>exact fun ρ=>(DR ρ x).trans (ih _)
theorem uB {ρ:Rho} (xs:List Str):(∀ x∈xs,scope.names.lookup x=some .free)->Da ρ scope (fj ρ xs):=by
 induction xs with
 | nil=>exact fun ι ι ι=>nofun
 | cons x xs ih =>
  intro h
  have ih':=ih fun y hy=>h y (List.mem_cons_of_mem _ hy)
  unfold fj
  rw [List.filterMap_cons]
  cases q:af ρ x with
  | none=>exact ih'
  | some s=>cases s with
   | lst ds=>exact ih'
   | val v =>
    intro y s e
    replace e:((x,Slot.val v)::fj ρ xs).lookup y=some s:=e
    rw [List.lookup_cons] at e
    cases z:y==x with
    | true=>rw [z] at e;cases e;rw [eq_of_beq z];exact (aB v rfl q (h x (List.mem_cons_self ..)))
    | false=>rw [z] at e;exact ih' y s e
theorem uC (so:tZ scope):∀ x∈mZ scope,scope.names.lookup x=some .free:=fun x hx=>by
 obtain⟨p,hp,rfl⟩:=List.mem_map.mp hx
 obtain⟨h1,h2⟩:=List.mem_filter.mp hp
 obtain⟨n,kd⟩:=p
 have:=jZ h2
 simp only at this
 clear hp hx h2;subst this
 exact ew so.nd h1
theorem kB {ρ:Rho} {y:Str} {s:Slot}:∀ {ρ0:Rho},af (trim ρ0 ρ) y=some s->af ρ y=some s:=by
 intro ρ0
 induction ρ0 with
 | nil=>exact nofun
 | cons p l ih =>
  delta trim
  rw [List.filterMap_cons]
  cases q:af ρ p.1 with
  | none=>exact ih
  | some t =>
   intro h
   replace h:((p.1,t)::trim l ρ).lookup y=some s:=h
   rw [List.lookup_cons] at h
   cases z:y==p.1 with
   | false=>rw [z] at h;exact ih h
   | true=>rw [z] at h;clear ih;cases h;rw [eq_of_beq z];exact q
theorem aq.trim {c:Cx} {w:W} {ρ0:Rho} (r:aq V k sc c st w):aq V k sc c ⟨Internal.trim ρ0 st.ρ,st.G⟩ w:=⟨r.room,r.bs,r.cr,{ r.fr with
 vals:=fun x s e=>r.fr.vals x s (kB e)
 own:=fun x y ds ds' a e1 e2=>r.fr.own x y ds ds' a (kB e1) (kB e2) }⟩
theorem vf.trim {α:Type} {t:Env->Sem α} {X:α->W->Prop} {ρ0:Rho} {st':St} (h:vf V k t sc st st' X):vf V k t sc st ⟨Internal.trim ρ0 st'.ρ,st'.G⟩ X:=fun c w r=>(h c w r).mono fun v w' n z=>⟨z.vm,z.rel.trim,z.x⟩
theorem Ex.trim {ss:List Stmt} {fl:Fl} {ρ0:Rho} {st':St} (h:Ex V k ss sc st fl st'):Ex V k ss sc st fl ⟨Internal.trim ρ0 st'.ρ,st'.G⟩:=fun c w r=>(h c w r).mono fun v w' n z=>⟨z.1.trim,z.2⟩
theorem wQ {ts:St->(Bool->St->Prop)->Prop} {el:St->(PyData->St->Prop)->Prop} (hts:∀ {st K} {P:Prop},ts st K->(∀ b st',lU V (k+1) ifs sc st b st'->K b st'->P)->P) (hel:∀ {st K} {P:Prop},el st K->(∀ d st',bH V (k+1) elt sc st d st'->K d st'->P)->P) :
  ∀ {items:List PyData} {st:St} {K:List PyData->St->Prop} {P:Prop},dK (jv sc flag t) ts el items st K->(∀ ds st',kc V (k+1) flag sc t ifs elt items st ds st'->K ds st'->P)->P:=by
 intro items
 induction items with
 | nil=>exact fun h f=>f _ _ (And.intro rfl rfl) h
 | cons d items ih =>
  exact fun h f=>BS h fun st1 h1 h=>hts h fun b st2 h2 h=>by
   cases b with
   | true=>exact hel h fun x st3 h3 h=>ih h fun ds st4 h4 h=>f _ _ (ba _ _ h1 (.inl (dy _ _ _ rfl h2 (vf.trim h3) h4))) h
   | false=>exact ih h fun ds st4 h4 h=>f _ _ (ba _ _ h1 (.inr ⟨vf.trim h2,h4⟩)) h
theorem sJ {body:List Stmt} {bd:St->(Fl->St->Prop)->Prop} (hb:∀ {st K} {P:Prop},bd st K->(∀ fl st',Ex V (k+1) body sc st fl st'->K fl st'->P)->P):∀ {items:List PyData} {st:St} {K:Fl->St->Prop} {P:Prop},db (jv sc flag t) bd items st K->(∀ fl st',oD V (k+1) flag sc t body items st fl st'->K fl st'->P)->P:=by
 intro items
 induction items with
 | nil=>exact fun h f=>f _ _ (And.intro rfl rfl) h
 | cons d items ih =>
  exact fun h f=>BS h fun st1 h1 h=>hb h fun fl st2 h2 h=>by
   cases fl with
   | next=>exact ih h fun fl st3 h3 h=>f _ _ (Or.inl (aF _ _ h1 h2.trim h3)) h
   | ret v=>exact f _ _ (Or.inr (aF _ _ rfl h1 h2)) h
   | cont=>exact h.elim
theorem uD {e:Expr} {b:Bool} (h:mY e=some b):∃ ci cp,e=.Constant (.bool b) ci cp:=by
 cases e with
 | Constant c ci cp=>cases c<;>first | (cases h;exact (mF ci cp rfl)) | (cases h;done)
 | _=>cases h
theorem wR {kws:List Keyword} {p:Str×Bool} (h:BL kws=some p):∃ ci cp kp,kws=[⟨some p.1,.Constant (.bool p.2) ci cp,kp⟩]:=by
 cases kws with
 | nil=>cases h
 | cons kw l =>
  cases l with
  | cons _ _=>cases h
  | nil =>
   obtain⟨kn,ke,kp⟩:=kw
   cases kn with
   | none=>cases h
   | some kn =>
    replace h:(match mY ke with
     | some b=>some (kn,b)
     | none=>none)=some p:=h
    cases q:mY ke with
    | none=>rw [q] at h;cases h
    | some b =>
     rw [q] at h;clear tail_ih;cases h
     obtain⟨ci,cp,zq⟩:=uD q;clear q;subst zq
     exact (yP ci cp kp rfl)
theorem l9 {gens:List Comprehension} {c:Gen1} (h:qU gens=some c):gens=[⟨c.t,c.iter,c.ifs,0⟩]:=by
 cases gens with
 | nil=>cases h
 | cons gn l =>
  obtain⟨t,iter,ifs,ia⟩:=gn
  cases l with
  | cons _ _=>cases ia with
   | ofNat m=>cases m<;>cases h
   | negSucc m=>cases h
  | nil=>cases ia with
   | negSucc m=>cases h
   | ofNat m=>cases m with
    | zero=>clear tail_ih;cases h;rfl
    | succ m=>cases h
section
variable {P:Prop} (R:wI V (k+1) r)
include R
theorem wS {K:Bool->St->Prop} {P:Prop} (h:eB r sc ifs st K) (f:∀ b st',lU V (k+1) ifs sc st b st'->K b st'->P):P:=by
 cases ifs with
 | nil=>exact f _ _ C8 h
 | cons e l=>cases l with
  | nil=>exact R.cd h fun b st1 h1 h=>f _ _ (C9 h1) h
  | cons _ _=>exact h.elim
theorem uE {body:List Stmt}:∀ {n:Nat} {st:St} {K:Fl->St->Prop},fg (r.cd sc t) (r.ex sc body) n st K->(∀ fl st',gW V (k+1) sc t body n st fl st'->K fl st'->P)->P:=by
 intro n
 induction n with
 | zero=>exact fun h=>h.elim
 | succ n ih =>
  intro st K h f
  refine R.cd h fun b st1 h1 h=>?_
  cases b with
  | false=>exact f _ _ (Or.inl (And.intro rfl h1)) h
  | true =>
   refine R.ex h fun fl st2 h2 h=>?_
   cases fl with
   | next=>exact ih h fun fl st3 h3 h=>f _ _ (Or.inr (Or.inl (aF _ _ h1 h2.trim h3))) h
   | ret v=>exact f _ _ (Or.inr (Or.inr (aF _ _ rfl h1 h2))) h
   | cont=>exact h.elim
section
variable (H:an V k g)
include H
theorem HA {a:Expr} {kn:Str} {b:Bool} {ci:Nat} {cp kp apos:Pos} {K:RV->St->Prop} (hf:(apos.endLine==pos.line)=true) (hb:iW o=true) (h:LC g r sc o n a kn b st K) (f:∀ rv st',Ev V (k+1) (.Call (.Attribute o n apos) [a] [⟨some kn,.Constant (.bool b) ci cp,kp⟩] pos) sc st rv st'->K rv st'->P):P :=
 kA R h fun j st1 h1 h=>iu h fun cl attrs hj h=>ah h fun hn h=>au h fun φ hφ h=>ah h fun hp h=>fs R h fun av st2 h2 h=>ah h fun hk h=>by
  obtain⟨f',M,m6⟩:=H.mkw _ _ _ hφ
  obtain⟨mN,oo,fd,y,X,m1,m2,m3,m4,m5⟩:=M.ok
  obtain⟨rv,G',hc,h⟩:=m6 _ _ _ _ _ h
  have ek:=Jo hk
  exact f _ _ (v9 h1 ⟨(dy cl attrs mN hj X m1 (Option.isNone_iff_eq_none.mp hn)),(aF oo fd m2 m3 m4),⟨y,m5⟩⟩ h2 (by rw [ek];exact hc.less) hf (fun env=>ft hb) hp) h
theorem Ac {fe:Expr} {args:List Expr} {kws:List Keyword} {K:RV->St->Prop} (h:BM g r sc fe args kws pos st K) (f:∀ rv st',Ev V (k+1) (.Call fe args kws pos) sc st rv st'->K rv st'->P):P:=by
 cases fe with
 | Name m p =>
  refine ah h fun e hk=>?_
  cases List.isEmpty_iff.mp e
  exact wL R H hk f
 | Attribute o n ap =>
  refine cG h (fun e h2=>?_) fun ι h2=>au h2 fun p hp h3=>ah h3 fun e h4=>?_
  ·cases List.isEmpty_iff.mp e
   exact ah h2 fun hf h3=>wO R H hf h3 f
  ·clear h h2 h3
   obtain⟨ci,cp,kp,zq⟩:=wR hp;clear ι hp;subst zq
   obtain⟨e1,e2⟩:=Bool.and_eq_true_iff.mp e
   cases args with
   | nil=>exact h4.elim
   | cons a l=>cases l with
    | nil=>exact HA R H e1 e2 h4 f
    | cons _ _=>exact h4.elim
 | _=>exact h.elim
theorem sK {K:Bool->List PyData->St->Prop} (h:r.evD sc e st fun d st1=>zR d fun xs=>K false xs st1) (f:∀ flag items st',gV V (k+1) e sc st flag items st'->K flag items st'->P):P:=bw R h fun d st1 h1 h=>by
 cases d with
 | list ds=>exact f _ _ _ (C0 h1) h
 | str x=>exact f _ _ _ (GU h1) h
 | _=>exact h.elim
noncomputable def wT (V:aD) (k:Nat) (f:Str) (args:List Expr) (sc:Scope) (st:St) (flag:Bool) (items:List PyData) (st':St):Prop:=∀ p pos,gV V k (.Call (.Name f p) args [] pos) sc st flag items st'
theorem Ad {f:Str} {K:Bool->List PyData->St->Prop} (hg:dO sc f=true) (h:Hs r sc f es st K) (fin:∀ flag items st',wT V (k+1) f es sc st flag items st'->K flag items st'->P):P:=by
 refine lq (M:=fun f=>dO sc f=true->(∀ flag items st',wT V (k+1) f es sc st flag items st'->K flag items st'->P)->P) h (fun h hg fin=>?_) (fun h=>?_) hg fin
 ·exact sG R h fun n st1 h1 h=>fin _ _ _ (fun ι ι=>zn hg (H.bi _ (.tail _ (.tail _ (.tail _ (.tail _ (.tail _ (.head _))))))) h1 h.1.1 h.1.2) h.2
 refine lq (M:=fun f=>dO sc f=true->(∀ flag items st',wT V (k+1) f es sc st flag items st'->K flag items st'->P)->P) h (fun h hg fin=>?_) (fun h=>?_)
 ·have hbi:Bi V "enumerate" (.type "enumerate"):=H.bi _ (.tail _ (.tail _ (.tail _ (.tail _ (.tail _ (.tail _ (.head _)))))))
  refine q8 R h fun d st1 h1 h=>?_
  cases d with
  | list ds=>exact fin _ _ _ (fun ι ι=>zo hg hbi h1) h
  | str x=>exact fin _ _ _ (fun ι ι=>zp hg hbi h1) h
  | _=>exact h.elim
 refine lq (M:=fun f=>dO sc f=true->(∀ flag items st',wT V (k+1) f es sc st flag items st'->K flag items st'->P)->P) h (fun h hg fin=>?_) (fun h=>?_)
 ·exact sH R h fun xs st1 h1 h=>fin _ _ _ (fun ι ι=>GV hg (H.bi _ (.tail _ (.tail _ (.tail _ (.tail _ (.tail _ (.tail _ (.tail _ (.head _))))))))) h1 (wP h.1)) h.2
 refine lq (M:=fun f=>dO sc f=true->(∀ flag items st',wT V (k+1) f es sc st flag items st'->K flag items st'->P)->P) h (fun h hg fin=>?_) (fun h=>h.elim)
 have hbi:Bi V "zip" (.type "zip"):=H.bi _ (.tail _ (.tail _ (.tail _ (.tail _ (.tail _ (.tail _ (.tail _ (.tail _ (.head _)))))))))
 refine d6 R h fun ds st1 h1 ι h=>Ab (P:=fun ds=>EvsD V (k+1) es sc st ds st1->P) h (fun a b h h1=>?_) (fun a b c h h1=>?_) h1
 ·exact c7 (M:=fun a=>EvsD V (k+1) es sc st [a,b] st1->P) h (fun xs h h1=>c7 (M:=fun b=>EvsD V (k+1) es sc st [.list xs,b] st1->P) h (fun ys h h1=>fin _ _ _ (fun ι ι=>BD (Ds:=[xs,ys]) hg hbi h1 (z9 _ _) (show 2<=10 by decide) (List.cons_ne_nil _ _) fun as h=>lT 2 as h (.inl rfl)) h) h1) h1
 ·exact c7 (M:=fun a=>EvsD V (k+1) es sc st [a,b,c] st1->P) h (fun xs h h1=>c7 (M:=fun b=>EvsD V (k+1) es sc st [.list xs,b,c] st1->P) h (fun ys h h1=>c7 (M:=fun c=>EvsD V (k+1) es sc st [.list xs,.list ys,c] st1->P) h (fun zs h h1=>fin _ _ _ (fun ι ι=>BD (Ds:=[xs,ys,zs]) hg hbi h1 (sF _ _ _) (show 3<=10 by decide) (List.cons_ne_nil _ _) fun as h=>lT 3 as h (.inr rfl)) h) h1) h1) h1
theorem q9 {K:Bool->List PyData->St->Prop} (h:zS g r sc e st K) (f:∀ flag items st',gV V (k+1) e sc st flag items st'->K flag items st'->P):P:=by
 cases e with
 | Call fe es kws pos =>
  refine cG h (fun e h2=>?_) fun ι h=>sK R H h f
  cases List.isEmpty_iff.mp (Bool.and_eq_true_iff.mp e).2
  refine au h2 fun m hm h3=>ah h3 fun e' h4=>?_
  clear h h2 h3
  obtain⟨mp,zq⟩:=bX hm;clear e hm;subst zq
  exact Ad R H (jI (Bool.and_eq_true_iff.mp e').1) h4 fun a b c d=>f a b c (d _ _)
 | _=>exact sK R H h f
omit R H in
theorem eO (h:iX iter=true):∀ env x,foldedSetIterable iter env x=pure x:=by
 cases iter<;>first | exact fun ι ι=>rfl | cases h
theorem kC {K:List PyData->St->Prop} (h:sx r sc scope t elt ifs flag items st K) (f:∀ ds ρ1 ρ0 st2,eA sc scope=true->items.length<=lim->vj st.ρ ρ1->Da ρ1 scope ρ0->kc V (k+1) flag scope t ifs elt items ⟨ρ0,st.G⟩ ds st2->K ds ⟨ρ1,st2.G⟩->P):P :=
 ah h fun ho h=>wQ (fun h=>wS R h) (fun h=>bw R h) h.2 fun ds st2 h1 hk=>f ds _ _ st2 ho h.1 (uA _ _) (uB _ (uC (eX (Bool.and_eq_true_iff.mp ho).1))) h1 hk
theorem Ae {gens:List Comprehension} {K:List PyData->St->Prop} (h:BN g r sc elt gens scope st K) (f:∀ ds st',Ev V (k+1) (.ListComp elt gens scope pos) sc st (.own ds) st'->K ds st'->P):P :=
 au h fun c hc h2=>ah h2 fun hs h3=>by
  clear h h2
  cases l9 hc
  refine cG h3 (fun ι h=>?_) fun ι h=>?_
  ·exact kA R h fun q st1 h1 h=>fk h fun items hg h=>kC R H h fun ds ρ1 ρ0 st2 ho hl hz hc hC h=>ky h fun hg' h=>f _ _ (zC (ρ':=st2.ρ) h1 hg hz hc hC hg' hl ho (eO hs)) h
  ·exact q9 R H h fun flag items st1 h1 h=>kC R H h fun ds ρ1 ρ0 st2 ho hl hz hc hC h=>f _ _ (vW (ρ':=st2.ρ) h1 hz hc hC hl ho (eO hs)) h
end
end
end
section
variable {V:aD} {k:Nat} {g:Gl} {r:Wk} {sc scope:Scope} {st:St} {e o i t elt iter:Expr} {es ts ifs:List Expr} {body:List Stmt} {G:List GObj} {j q:Nat} {n x f:Str} {p pos tp:Pos} {flag:Bool} {items:List PyData}
theorem DS {s:Stmt} {ss:List Stmt} {st1:St} (h:eM V k s sc st .cont st1):Ex V k (s::ss) sc st .cont st1:=fun c w r Q E hQ=>by
 rw [execs_cons]
 refine wpAny_bind (h c w r _ E fun v w1 n1 z1=>?_)
 have fin:=hQ v w1 n1 z1
 obtain rfl:v=.cont:=z1.2
 exact wpAny_pure fin
theorem rg:eM V k (.Continue p) sc st .cont st:=fun c w r Q E hQ=>wpAny_Continue (hQ .cont w (Nx.refl _) ⟨r,rfl⟩)
theorem Af {xs:List Str} (h:xs.all (qQ sc)=true):∀ x∈xs,bW sc x:=fun x hx=>cH (List.all_eq_true.mp h x hx)
theorem f8 {α:Type} {l:List α} {a:α} (h:l6 l=some a):l=[a]:=by
 cases l with
 | nil=>cases h
 | cons b l=>cases l with
  | nil=>clear tail_ih;cases h;rfl
  | cons _ _=>cases h
theorem Ag {P:Prop} {as:List ab}:∀ {K:List (PyData ⊕ Nat)->Prop},zT as K->(∀ l,(∀ (w:W) vs,All2 (RA w) vs as->All2 (R0 w) vs l)->l.length=as.length->K l->P)->P:=by
 induction as with
 | nil=>exact fun h f=>f [] (fun w vs h=>by cases h;exact .nil) rfl h
 | cons v as ih =>
  intro K h f
  cases v with
  | dat d=>exact ih h fun l h1 h3 h2=>f (.inl d::l) (fun w vs h=>by cases h with | cons a b=>exact .cons a (h1 w _ b)) (congrArg Nat.succ h3) h2
  | obj m=>exact ih h fun l h1 h3 h2=>f (.inr m::l) (fun w vs h=>by cases h with | cons a b=>exact .cons a (h1 w _ b)) (congrArg Nat.succ h3) h2
  | _=>exact h.elim
section
variable {P:Prop} (R:wI V (k+1) r) (H:an V k g)
include R H
omit R in
theorem nh {av:ab} {K:List GObj->Prop} (h:wu g G j n av K) (f:∀ cl attrs,qG V G j cl attrs n->K (G.set j (.inst cl (ju attrs n av)))->P):P :=
 iu h fun cl attrs hg h=>ah h fun e h=>wJ (Bool.and_eq_true_iff.mp e).1 H.fld fun mN X hn hb=>f cl attrs ⟨hg,(aa mN X hn),hb,Nat.le_trans (of_decide_eq_true (Bool.and_eq_true_iff.mp e).2) (by decide)⟩ h
theorem uF {xp:Pos} {K:Fl->St->Prop} (h:qV g r sc x n e st K) (f:∀ st',eM V (k+1) (.Assign [.Attribute (.Name x xp) n tp] e p) sc st .next st'->K .next st'->P):P:=by
 unfold qV at h
 cases q:fW st e with
 | some y =>
  rw [q] at h
  obtain⟨yp,ds0,rfl,hy⟩:=f7 q
  exact fq h fun ds hy h=>jF h fun j hx h=>nh H h fun cl attrs K1 h=>f _ (qI hy hx K1) h
 | none =>
  rw [q] at h
  refine R.ev h fun rv st1 h1 h=>jF h fun j hx h=>?_
  cases rv with
  | val av=>exact nh H h fun cl attrs K1 h=>f _ (ui h1 hx K1) h
  | own ds=>exact nh H h fun cl attrs K1 h=>f _ (qH h1 hx K1) h
omit H in
theorem wU {ip:Pos} {K:Fl->St->Prop} (h:wv r sc o i e st K) (f:∀ st',eM V (k+1) (.Assign [.Subscript o i ip] e p) sc st .next st'->K .next st'->P):P:=by
 refine bw R h fun d st1 h1 h=>?_
 cases q:fW st1 o with
 | some x =>
  rw [q] at h
  obtain⟨xp,ds0,rfl,hx⟩:=f7 q
  exact nc R h fun j st2 h2 h=>fq h fun ds hx' h=>f _ (Dh h1 hx h2 hx' h.1.1 h.1.2.1 h.1.2.2) h.2
 | none =>
  rw [q] at h
  exact kA R h fun m st2 h2 h=>nc R h fun j st3 h3 h=>fk h fun ds hg h=>f _ (Di h1 h2 h3 hg h.1.1 h.1.2.1 h.1.2.2) h.2
omit H in
theorem ma {m:Nat} {xs:List Str} {K:Fl->St->Prop} (hes:All2 (fun e x=>∃ p,e=.Name x p) ts xs) (hk:xs.all (qQ sc)=true) (hw:∀ env,swappedStores [.Tuple ts m tp] e env=pure none) (h:r.evA sc e st fun v st1=>Dz v fun as=>as.length=xs.length/\K .next ⟨eZ st1.ρ xs as,st1.G⟩) (f:∀ st',eM V (k+1) (.Assign [.Tuple ts m tp] e p) sc st .next st'->K .next st'->P):P:=by
 refine fs R h fun v st1 h1 h=>?_
 cases v with
 | dat d=>exact sC (M:=fun d=>eK V (k+1) e sc st (.dat d) st1->P) h (fun row h h1=>f _ (oU h1 .dat hes (Af hk) h.1 hw) h.2) h1
 | tup l=>exact f _ (oU h1 .tup hes (Af hk) h.1 hw) h.2
 | _=>exact h.elim
omit H in
theorem wV {m:Nat} {K:Fl->St->Prop} (h:BO r sc ts m tp e st K) (f:∀ st',eM V (k+1) (.Assign [.Tuple ts m tp] e p) sc st .next st'->K .next st'->P):P:=pj h fun xs hes h=>ah h fun hk h=>by
 obtain⟨hs,hk⟩:=Bool.and_eq_true_iff.mp hk
 have hs:sc.kind=.function:=by
  unfold Ht at hs
  cases z:sc.kind<;>first | rfl | (rw [z] at hs;cases hs)
 cases e with
 | Tuple es m2 ep =>
  refine z7 R h fun rvs st1 h1 h=>ah h fun e h=>?_
  obtain⟨e1,e2⟩:=Bool.and_eq_true_iff.mp e
  have hz:rvs.length<=lim:=Nat.le_trans (of_decide_eq_true e2) (by decide)
  exact h.elim (fun h=>f _ (G4 h1 hes (Af hk) (of_decide_eq_true e1) hz hs h.1) h.2) fun h=>f _ (Df h1 hes (Af hk) (of_decide_eq_true e1) hz hs h.1) h.2
 | Name y yp=>exact ma R hes hk (fun ι=>rfl) h f
 | Call _ _ _ _=>exact ma R hes hk (fun ι=>rfl) h f
 | _=>exact h.elim
omit R H in
theorem md (he:(!mW e)=true) (l:Nat) (tt:Option Expr) (env:Env):swapsWith e tt l env=pure false:=by
 cases e<;>first | rfl | cases he
theorem DT {K:Fl->St->Prop} (h:Hu g r sc t e st K) (f:∀ st',eM V (k+1) (.Assign [t] e p) sc st .next st'->K .next st'->P):P:=by
 cases t with
 | Name x xp =>
  refine ah h fun hk h=>?_
  have other:∀ {e:Expr},(∀ st',eM V (k+1) (.Assign [.Name x xp] e p) sc st .next st'->K .next st'->P)->(aR (!mW e) (r.ev sc e st fun rv st1=>K .next ⟨aG st1.ρ x rv.slot,st1.G⟩))->P:=fun f h =>
   ah h fun he h=>R.ev h fun rv st1 h1 h=>f _ (oN h1 (cH hk) fun env=>md he _ _ _) h
  cases e with
  | ListComp elt gens scope cp =>
   refine au h fun c hc h2=>ah h2 fun hs h3=>?_
   clear h h2 other
   cases l9 hc
   exact q9 R H h3 fun flag items st1 h1 h=>kC R H h fun ds ρ1 ρ0 st2 ho hl hz hc hC h=>f _ (ud (ρ':=st2.ρ) h1 hz hc hC hl (cH hk) ho (eO hs)) h
  | _=>exact other f h
 | Tuple ts m tp=>exact wV R h f
 | Subscript o i ip=>exact wU R h f
 | Attribute o n ap =>
  refine au h fun x hx h2=>?_
  clear h
  obtain⟨xp,rfl⟩:=bX hx
  exact uF R H h2 f
 | _=>exact h.elim
theorem DU {op:Operator} {K:Fl->St->Prop} (h:Hv g r sc t op e st K) (f:∀ st',eM V (k+1) (.AugAssign t op e p) sc st .next st'->K .next st'->P):P:=by
 cases t with
 | Name x xp =>
  refine ah h fun hk h=>au h fun s hx h=>?_
  cases s with
  | val v =>
   cases v with
   | dat a=>exact bw R h fun b st1 h1 h=>wG h fun d h2 h=>f _ (G6 hx h1 h2 (cH hk)) h
   | _=>exact h.elim
  | lst ds0 =>
   refine ah h fun e h=>?_
   cases BP e
   exact DK R h fun ys st1 h1 h=>fq h fun ds hx' h=>f _ (Dk hx h1 hx' h.1 (cH hk)) h.2
 | Attribute o n ap =>
  refine au h fun x hxn h2=>jF h2 fun j hx h3=>jH H h3 fun av K1 h4=>?_
  clear h h2 h3
  obtain⟨xp,rfl⟩:=bX hxn
  clear hxn
  cases av with
  | dat a =>
   refine bw R h4 fun b st1 h1 h=>jF h fun j' hx' h=>?_
   obtain⟨rfl,h⟩:=h
   exact wG h fun d h2 h=>nh H h fun cl attrs K2 h=>f _ (Dp hx K1 h1 h2 K2 hx') h
  | _=>exact h4.elim
 | _=>exact h.elim
omit R H in
theorem wW (h:wx st e=some q):∃ x p j dn,e=.Name x p/\af st.ρ x=some (.val (.obj q))/\st.G[q]?=some (.citer j dn):=by
 obtain⟨x,hx,hh⟩:=bF h
 clear h
 obtain⟨p,rfl⟩:=bX hx
 clear hx
 unfold Hw at hh
 cases z:af st.ρ x with
 | none=>rw [z] at hh;cases hh
 | some s =>
  rw [z] at hh
  cases s with
  | lst _=>cases hh
  | val v=>cases v with
   | obj m =>
    replace hh:ku st.G m=some q:=hh
    unfold ku at hh
    cases z2:st.G[m]? with
    | none=>rw [z2] at hh;cases hh
    | some ob =>
     rw [z2] at hh
     cases ob with
     | citer j dn=>cases hh;exact (FW x p j dn rfl z z2)
     | _=>cases hh
   | _=>cases hh
theorem Ah:∀ {m:Nat} {st:St} {K:Fl->St->Prop},dY g.rc q x (r.ex sc body) m st K->(∀ fl st',qN V k sc q x body m st fl st'->K fl st'->P)->P:=by
 intro m
 induction m with
 | zero=>exact fun h=>h.elim
 | succ m ih =>
  intro st K h f
  replace h:(match st.G[q]? with
  | some (.citer j dn)=>DB g.rc q x (r.ex sc body) (dY g.rc q x (r.ex sc body) m) j dn st K
  | _=>False):=h
  cases z:st.G[q]? with
  | none=>rw [z] at h;exact h.elim
  | some ob =>
   rw [z] at h
   cases ob with
   | citer j dn =>
    cases dn with
    | true=>exact f _ _ (Or.inl (aB _ z rfl rfl)) h
    | false =>
     obtain⟨j',rv,G1,e,hc,h⟩:=H.rc _ _ _ h
     cases e
     refine ky h fun hg h=>?_
     cases rv with
     | own _=>exact h.elim
     | val av=>cases av with
      | dat d=>cases d with
       | str y =>
        refine cG h (fun e h=>?_) fun e h=>?_
        ·rw [Jo e] at hc;exact f _ _ (Or.inr (dy _ _ _ z hc hg (.inl (am rfl rfl rfl)))) h
        ·have hy:y≠"":=fun z=>by rw [z,beq_self_eq_true] at e;cases e
         refine R.ex h fun fl st2 h1 h=>?_
         cases fl with
         | ret v=>exact f _ _ (Or.inr (dy _ _ _ z hc hg (.inr ⟨hy,ba _ _ h1 (.inr (aB v rfl rfl rfl))⟩))) h
         | next=>exact ih h fun fl st3 h2 h=>f _ _ (Or.inr (dy _ _ _ z hc hg (.inr ⟨hy,ba _ _ h1.trim (.inl ⟨.inl rfl,h2⟩)⟩))) h
         | cont=>exact ih h fun fl st3 h2 h=>f _ _ (Or.inr (dy _ _ _ z hc hg (.inr ⟨hy,ba _ _ h1.trim (.inl ⟨.inr rfl,h2⟩)⟩))) h
       | _=>exact h.elim
      | _=>exact h.elim
   | _=>exact h.elim
theorem DV {K:Fl->St->Prop} (h:Hx g r sc t iter body st K) (f:∀ fl st',eM V (k+1) (.For t iter body [] p) sc st fl st'->K fl st'->P):P:=ah h fun hs h=>by
 cases q:wx st iter with
 | some q' =>
  rw [q] at h
  obtain⟨y,yp,j,dn,rfl,hy,hg⟩:=wW q
  refine au h fun x hx h2=>ah h2 fun hk h3=>?_
  clear h h2
  obtain⟨xp,rfl⟩:=bX hx
  exact h3.elim fun m h=>Ah R H h fun fl st' h1 h=>f _ _ (Dv hy hg h1 H.rf (cH hk)) h
 | none =>
  rw [q] at h
  refine cG h (fun ι h=>?_) fun ι h=>?_
  ·exact kA R h fun m st1 h1 h=>fk h fun items hg h=>sJ (fun h=>R.ex h) h fun fl st2 h2 h=>ky h fun hg' h=>f _ _ (Dq h1 hg h2 hg' (eO hs)) h
  ·exact q9 R H h fun flag items st1 h1 h=>sJ (fun h=>R.ex h) h fun fl st2 h2 h=>f _ _ (GZ h1 h2 (eO hs)) h
theorem sL {s:Stmt} {K:Fl->St->Prop} (h:Hy g r sc s st K) (f:∀ fl st',eM V (k+1) s sc st fl st'->K fl st'->P):P:=by
 cases s with
 | Return v p =>
  cases v with
  | none=>exact f _ _ lC h
  | some e=>exact fs R (K:=fun v st1=>K (.ret v) st1) h fun v st1 h1 h=>f _ _ (oM h1) h
 | Expr e p=>exact ah h fun he h=>bw R h fun d st1 h1 h=>ah h fun hd h=>f _ _ (Dc h1 hd fun env=>md he _ _ _) h
 | Pass p=>exact f _ _ Dd h
 | Continue p=>exact f _ _ rg h
 | If t a b p =>
  refine R.cd h fun c st1 h1 h=>?_
  cases c with
  | true=>exact R.ex h fun fl st2 h2 h=>f _ _ (vX h1 h2) h
  | false=>exact R.ex h fun fl st2 h2 h=>f _ _ (qB h1 h2) h
 | For t iter body orelse p =>
  refine ah h fun e h2=>?_
  cases List.isEmpty_iff.mp e
  exact DV R H h2 f
 | While t body orelse p =>
  refine ah h fun e h2=>?_
  cases List.isEmpty_iff.mp e
  exact h2.elim fun m h=>uE R h fun fl st' h1 h=>f _ _ (zv h1) h
 | Assign ts e p =>
  refine au h fun t ht h2=>?_
  cases f8 ht
  exact DT R H h2 fun st' h1 h=>f _ _ h1 h
 | AugAssign t op e p=>exact DU R H h fun st' h1 h=>f _ _ h1 h
 | _=>exact h.elim
theorem HB:∀ {ss:List Stmt} {st:St} {K:Fl->St->Prop},Kg g r sc ss st K->(∀ fl st',Ex V (k+1) ss sc st fl st'->K fl st'->P)->P:=by
 intro ss
 induction ss with
 | nil=>exact fun h f=>f _ _ si h
 | cons s ss ih =>
  intro st K h f
  refine sL R H h fun fl st1 h1 h=>?_
  cases fl with
  | next=>exact ih h fun fl st2 h2 h=>f _ _ (fV h1 h2) h
  | ret v=>exact f _ _ (oK h1) h
  | cont=>exact f _ _ (DS h1) h
omit H in
theorem wX {op:BoolOp}:∀ {es:List Expr} {st:St} {K:RV->St->Prop},sA r sc op p es st K->(∀ rv st',Ev V (k+1) (.BoolOp op es p) sc st rv st'->K rv st'->P)->P:=by
 intro es
 induction es with
 | nil=>exact fun h=>h.elim
 | cons a l ih =>
  intro st K h f
  cases l with
  | nil=>exact R.ev h fun rv st1 h1 h=>f _ _ (GL h1) h
  | cons b l =>
   refine bw R h fun d st1 h1 h=>qX (V:=V) h fun t h2 h=>?_
   cases op with
   | And=>cases t with
    | true=>exact ih h fun rv st2 h3 h=>f _ _ (GN h1 h2 h3) h
    | false=>exact f _ _ (yX h1 h2).v h
   | Or=>cases t with
    | true=>exact f _ _ (CI h1 h2).v h
    | false=>exact ih h fun rv st2 h3 h=>f _ _ (J6 h1 h2 h3) h
omit H in
theorem wY {op:BoolOp}:∀ {es:List Expr} {st:St} {K:Bool->St->Prop},sB r sc op es st K->(∀ t st',Cd V (k+1) (.BoolOp op es p) sc st t st'->K t st'->P)->P:=by
 intro es
 induction es with
 | nil=>exact fun h=>h.elim
 | cons a l ih =>
  intro st K h f
  cases l with
  | nil=>exact R.cd h fun t st1 h1 h=>f _ _ (CG h1) h
  | cons b l =>
   refine R.cd h fun t st1 h1 h=>?_
   cases op with
   | And=>cases t with
    | true=>exact ih h fun rv st2 h3 h=>f _ _ (CH h1 h3) h
    | false=>exact f _ _ (vz h1) h
   | Or=>cases t with
    | true=>exact f _ _ (yW h1) h
    | false=>exact ih h fun rv st2 h3 h=>f _ _ (GK h1 h3) h
omit R in
theorem Ai {K:RV->St->Prop} (h:wy g sc x st K) (f:∀ rv st',Ev V (k+1) (.Name x p) sc st rv st'->K rv st'->P):P:=by
 unfold wy at h
 cases q:af st.ρ x with
 | none =>
  rw [q] at h
  refine ah h fun hg h=>au h fun av h1 h=>?_
  obtain⟨v,h2,h3⟩:=H.val _ _ h1
  exact f (.val av) _ (fun c w rl=>aZ rl hg h2 ⟨rfl,rl,h3 _ _⟩) h
 | some s =>
  rw [q] at h
  cases s with
  | val v=>exact f _ _ (Bx q).v h
  | lst ds=>exact f _ _ (F9 q).v h
omit R H in
theorem wZ {m:Nat} {as:List ab} {st1:St} {K:ab->Prop} (h1:EvsA V (k+1) es sc st as st1) (hz:as.length<=lim) (h:wC as K) (f:∀ av,eK V (k+1) (.Tuple es m p) sc st av st1->K av->P):P :=
 cG h (fun ι h=>sD (M:=fun as=>EvsA V (k+1) es sc st as st1->as.length<=lim->P) h (fun ds h h1 hz=>f _ (GO h1.dats (by rw [List.length_map] at hz;exact hz)).a h) h1 hz)
  fun ι h=>Ag h fun l h2 h3 h=>f _ (CN (ds:=l) ⟨h1.1,fun c w pos rl=>(h1.2 c w pos rl).mono fun vs w' n z=>⟨z.vm,z.rel,h2 _ _ z.x⟩⟩ (by rw [h3];exact hz)) h
theorem HC {K:RV->St->Prop} (h:LD g r sc e st K) (f:∀ rv st',Ev V (k+1) e sc st rv st'->K rv st'->P):P:=by
 cases e with
 | Constant c m p =>
  cases c with
  | none=>exact f _ _ CA.v h
  | bool b=>exact f _ _ Cz.v h
  | int i=>exact f _ _ Ga.v h
  | str x=>exact f _ _ By.v h
  | _=>exact h.elim
 | Name x p=>exact Ai H h f
 | BoolOp op es p=>exact wX R h f
 | BinOp a op b p=>exact bw R h fun x st1 h1 h=>bw R h fun y st2 h2 h=>DH h fun rv h3 h=>f _ _ (Gd h1 h2 h3) h
 | UnaryOp op a p =>
  cases op with
  | USub=>exact nc R h fun i st1 h1 h=>f _ _ (Ge h1).v h
  | _=>exact h.elim
 | IfExp t a b p =>
  refine R.cd h fun c st1 h1 h=>?_
  cases c with
  | true=>exact R.ev h fun rv st2 h2 h=>f _ _ (CJ h1 h2) h
  | false=>exact R.ev h fun rv st2 h2 h=>f _ _ (CK h1 h2) h
 | List es p=>exact ah h fun hz h=>d6 R h fun ds st1 h1 hl h=>f _ _ (CM h1 (by rw [hl];exact Nat.le_trans (of_decide_eq_true hz) (by decide))) h
 | Tuple es m p=>exact ah h fun hz h=>iY R h fun as st1 h1 hl h=>wZ h1 (by rw [hl];exact Nat.le_trans (of_decide_eq_true hz) (by decide)) h fun av h2 h=>f _ _ h2.v h
 | ListComp elt gens scope p=>exact Ae R H h fun ds st1 h1 h=>f _ _ h1 h
 | Compare a ops bs p =>
  refine au h fun op ho h2=>au h2 fun b hb h3=>?_
  clear h h2
  cases f8 ho;cases f8 hb
  exact sE R H h3 fun t st1 h1 hm h=>f _ _ (GA h1 hm).v h
 | Call fe args kws pos=>exact Ac R H h f
 | Subscript o i p=>exact DM R H h f
 | Attribute o n p =>
  cases o with
  | Name x xp=>exact kA (K:=fun j st1=>lZ g st1.G j n fun av=>K (.val av) st1) R h fun j st1 h1 h=>jH H h fun av K1 h=>f _ _ (Dm h1 K1).v h
  | _=>exact h.elim
 | _=>exact h.elim
omit R H in
theorem mf {env:Env} {whole:Sem Value} (h:qR e=true):isTrue e env whole=(do let v <- whole;standAt e.pos;holding [v] (truthy v)):=by
 cases e<;>first | rfl | cases h
theorem HD {K:Bool->St->Prop} (h:LE g r sc e st K) (f:∀ t st',Cd V (k+1) e sc st t st'->K t st'->P):P:=by
 have other:∀ {e:Expr},(∀ t st',Cd V (k+1) e sc st t st'->K t st'->P)->aR (qR e) (bO (wn st e) (pk g st e fun d=>uy d fun t=>K t st) (r.evD sc e st fun d st1=>uy d fun t=>K t st1))->P:=fun f h =>
  ah h fun hp h=>cG h (fun ι h=>pg (sc:=sc) H h fun d h1 h=>qX h fun t h2 h=>f _ _ (J5 h1 h2 fun ι ι=>mf hp) h) fun ι h=>bw R h fun d st1 h1 h=>qX h fun t h2 h=>f _ _ (GJ h1 h2 fun ι ι=>mf hp) h
 cases e with
 | Compare a ops bs p =>
  refine au h fun op ho h2=>au h2 fun b hb h3=>?_
  clear h h2 other
  cases f8 ho;cases f8 hb
  exact sE R H h3 fun t st1 h1 hm h=>f _ _ (qo h1 hm) h
 | BoolOp op es p=>exact wY R h f
 | _=>exact other f h
end
end
theorem d7 {V:aD} {k:Nat} {g:Gl} (H:an V k g):∀ n,wI V (k+1) (aj g n):=by
 intro n
 induction n with
 | zero =>
  exact⟨fun h=>h.elim,fun h=>h.elim,fun h=>h.elim⟩
 | succ n ih =>
  exact⟨fun h f=>HC (ih) H h f,fun h f=>HD (ih) H h f,fun h f=>HB (ih) H h f⟩
structure fP (V:aD) (a:Addr) (args:Arguments) (b:List Stmt) (sc:Scope) (dV kV:Value):Prop where
 ex:∃ fd o,V.K a=some o/\o.cls=.type "function"/\o.data=.func fd/\fd.params=args/\fd.body=.stmts b/\fd.scope=sc/\fd.closure=[]/\fd.globals=mainGlobals/\fd.builtins=builtinsNs/\fd.defaults=dV/\fd.kwdefaults=kV/\∃ c,fd.code=.ref c/\dI V.K c fd.qualname
noncomputable def DW (sc:Scope):Bool:=sc.names.all fun p=>p.2 != .free
noncomputable def bS (sc:Scope) (ps:List Str):Bool:=qv sc&&DW sc&&!sc.isCoroutine&&!sc.isGenerator&&ps.all (qQ sc)
noncomputable def dh (K:RV->List GObj->Prop) (fl:Fl) (st:St):Prop:=match fl with
 | .cont=>False
 | .next=>K (.val (.dat .none)) st.G
 | .ret v=>K (.val v) st.G
section
variable {V:aD} {k n:Nat} {g:Gl} {a:Addr} {args:Arguments} {b:List Stmt} {sc:Scope} {dV kV:Value} {as:List ab} {G:List GObj} {K:RV->List GObj->Prop}
theorem fP.fn (F:fP V a args b sc dV kV):∃ o fd,V.K a=some o/\o.cls=.type "function"/\o.data=.func fd:=by
 obtain⟨fd,o,h1,h2,h3,_⟩:=F.ex;exact (aF o fd h1 h2 h3)
theorem fP.keep (F:fP V a args b sc dV kV):bQ V (.ref a):=fun A w G bs=>by
 obtain⟨o,fd,e,_,hd⟩:=F.fn
 unfold keeperOf
 refine wpAny_bind (wpAny_load (bs.K _ _ e) ?_)
 rw [hd]
 exact wpAny_pure rfl
theorem pn (H:an V k g) (F:fP V a args b sc dV kV) {kw:List (Str×PyData)} {binds:List (Str×ab)} (hs:bS sc (binds.map (·.1))=true) (bd:∀ fd:FuncData,fd.params=args->fd.defaults=dV->fd.kwdefaults=kV->fT V fd as kw binds)
  (h:(aj g n).ex sc b ⟨bE [] binds,G⟩ (dh K)):∃ rv G',bp V (k+2) a as kw G rv G'/\K rv G':=by
 obtain⟨fd,o,h1,h2,h3,h4,h5,h6,h7,h8,h9,h10,h11,h12⟩:=F.ex
 delta bS at hs
 simp only [Bool.and_eq_true,Bool.not_eq_true'] at hs
 obtain⟨⟨⟨⟨hs1,hs2⟩,hs3⟩,hs4⟩,hs5⟩:=hs
 refine (d7 H n).ex h fun fl st' hx hk=>?_
 clear F h;subst h6
 have FB:jt V.K a fd:=⟨(aa o h1 h3),h8,h9,h12,eX hs1,hs3,hs4⟩
 have hn:∀ p∈fd.scope.names,p.2≠.free:=fun p hp e=>by
  have:=List.all_eq_true.mp hs2 p hp
  rw [e] at this;cases this
 have run:=fun hf=>ic (fl:=fl) (ρ0:=[]) FB h5 h7 (bd fd h4 h10 h11) (fun w ι=>j6 hn) (fun p hp=>cH (List.all_eq_true.mp hs5 _ (List.mem_map_of_mem hp))) hf hx.F
 cases fl with
 | cont=>exact hk.elim
 | next=>exact (ba _ _ (run nofun) hk)
 | ret v=>exact (ba _ _ (run nofun) hk)
noncomputable def Pos (args:Arguments) (ps:List Str):Prop:=∀ (fd:FuncData) (vs:List Value),fd.params=args->fd.defaults=.none->fd.kwdefaults=.none->vs.length=ps.length->bindArgs fd ⟨vs,[]⟩=pure (ps.zip vs)
theorem kD {ps:List Str}:∀ {as:List ab},as.length=ps.length->(ps.zip as).map (·.1)=ps:=fun h=>mP h.symm
theorem sM (H:an V k g) (F:fP V a args b sc .none .none) {ps:List Str} (hp:Internal.Pos args ps) (hs:bS sc ps=true) (hl:as.length=ps.length) (h:(aj g n).ex sc b ⟨bE [] (ps.zip as),G⟩ (dh K)):∃ rv G',bp V (k+2) a as [] G rv G'/\K rv G' :=
 pn (binds:=ps.zip as) H F (by rw [kD hl];exact hs) (fun fd e1 e2 e3=>hZ hl fun vs hv=>hp fd vs e1 e2 e3 hv) h
end
noncomputable def Gl.addFn (g:Gl) (f:Str) (φ:Ctr):Gl:={ g with fn:=(f,φ)::g.fn }
noncomputable def Gl.addMe (g:Gl) (cl:Nat) (n:Str) (φ:Ctr):Gl:={ g with me:=(cl,n,φ)::g.me }
noncomputable def LF:Ctr:=fun ι ι ι=>False
noncomputable def gl0:Gl:=⟨[],[],[],[],[],[],[],LF,LF⟩
noncomputable def HE (f:Str) (v:Value) (φ:Ctr):Gl:={ gl0 with lf:=[(f,v,φ)] }
noncomputable def sN (g:Gl) (n:Nat) (sc:Scope) (b:List Stmt) (ps:List Str):Ctr:=fun as G K=>as.length=ps.length/\(aj g n).ex sc b ⟨bE [] (ps.zip as),G⟩ (dh K)
section
variable {V:aD} {k n:Nat} {g:Gl} {a f:Addr} {args:Arguments} {b body ss:List Stmt} {sc scope:Scope} {dV kV v:Value} {as:List ab} {G G' l:List GObj} {K:RV->List GObj->Prop} {ps:List Str} {x y:Str} {φ:Ctr} {fd:FuncData} {st st1:St} {fl:Fl} {ds:List PyData} {P:Prop}
theorem bp.less {kw:List (Str×PyData)} {rv:RV} (h:bp V k a as kw G rv G'):bp V (k+1) a as kw G rv G':=fun A w vs kvs room=>h A w vs kvs (room.less (Nat.le_succ k))
theorem be.up {v:Value} (h:be V k v φ):be V (k+1) v φ:=fun as G K z=>by
 obtain⟨rv,G',c,q⟩:=h as G K z
 exact (ba rv G' (cV.less c) q)
theorem pf.up {v:Value} (h:pf V k v φ):pf V (k+1) v φ:=fun u v b G K z=>by
 obtain⟨rv,G',c,q⟩:=h u v b G K z
 exact (ba rv G' (cV.less c) q)
theorem gu.less {m:Nat} {rv:RV} (c:gu V k m as G rv G'):gu V (k+1) m as G rv G':=⟨fun A w a vs room=>c.run A w a vs (room.less (Nat.le_succ k)),c.keep⟩
theorem an.up (H:an V k g):an V (k+1) g:=by
 refine⟨H.val,H.tbl,fun f φ h=>?_,fun f p h=>(H.lf f p h).imp id be.up,fun cl n φ h=>?_,fun cl n φ h=>?_,H.bi,H.fld,fun m as G K z=>?_,fun as G K z=>?_,H.rf⟩
 ·obtain⟨v,h1,h2,h3⟩:=H.fn f φ h
  exact (aB v h1 h2 h3.up)
 ·obtain⟨f,h1,h2⟩:=H.me cl n φ h
  exact (aa f h1 h2.up)
 ·obtain⟨f,h1,h2⟩:=H.mkw cl n φ h
  exact (aa f h1 h2.up)
 ·obtain⟨rv,G',c,q⟩:=H.clo m as G K z
  exact (ba rv G' c.less q)
 ·obtain⟨j,rv,G',e,c,q⟩:=H.rc as G K z
  exact (cA j rv G' e c.less q)
theorem an.ups (H:an V k g):∀ j,an V (k+j) g:=by
 intro j
 induction j with
 | zero =>
  exact H
 | succ j ih =>
  exact (ih).up
theorem an.le (H:an V k g) {j:Nat} (h:k<=j):an V j g:=by
 rw [<- Nat.add_sub_cancel' h];exact H.ups _
theorem mh {β:Type} {w:β} {P:Prop} (h:none=some w):P:=by cases h
theorem dc {β:Type} {w:β} {P:Prop} (h:([]:List (Str×β)).lookup x=some w):P:=mh h
theorem ni {cl:Nat} {P:Prop} (h:yL [] cl x=some φ):P:=mh h
theorem dM (hb:∀ p∈jG,Bi V p.1 p.2) (rf:qM V):an V k gl0:=⟨fun ι ι=>dc,fun ι ι=>dc,fun ι ι=>dc,fun ι ι=>dc,fun ι ι ι=>ni,fun ι ι ι=>ni,hb,fun ι h=>absurd h (List.not_mem_nil),fun ι ι ι ι h=>h.elim,fun ι ι ι h=>h.elim,rf⟩
theorem lookup_cons {β:Type} {l:List (Str×β)} {u:β} {w:β} (h:((x,u)::l).lookup y=some w):(y=x/\u=w)\/l.lookup y=some w:=by
 rw [List.lookup_cons] at h
 cases q:y==x with
 | true=>rw [q] at h;cases h;exact .inl ⟨eq_of_beq q,rfl⟩
 | false=>rw [q] at h;exact .inr h
theorem an.addFn (H:an V k g) (hf:V.mg x=some v) (hk:bQ V v) (hc:be V k v φ):an V k (g.addFn x φ) :=
 { H with fn:=fun f' φ' h=>(lookup_cons h).elim (fun e=>by obtain⟨rfl,zq⟩:=e;clear h;subst zq;exact (aB v hf hk hc)) (H.fn f' φ') }
theorem an.loc (H:an V k gl0) (hk:bQ V v) (hc:be V k v φ):an V k (HE x v φ) :=
 { H with lf:=fun f' p h=>(lookup_cons h).elim (fun e=>e.2▸⟨hk,hc⟩) dc }
theorem jJ (H:an V k g) (F:fP V a args b sc .none .none) (hp:Internal.Pos args ps) (hs:bS sc ps=true) (n:Nat):be V (k+2) (.ref a) (sN g n sc b ps):=fun as G K h=>by
 obtain⟨rv,G',c,q⟩:=sM H F hp hs h.1 h.2
 exact (ba rv G' c.call q)
theorem po {cl cl':Nat} {n':Str} {φ':Ctr} {l:List (Nat×Str×Ctr)} (h:yL ((cl,x,φ)::l) cl' n'=some φ'):(cl'=cl/\n'=x/\φ'=φ)\/yL l cl' n'=some φ':=by
 replace h:(bif (cl==cl'&&x==n') then some φ else yL l cl' n')=some φ':=h
 cases q:(cl==cl'&&x==n') with
 | false=>rw [q] at h;exact .inr h
 | true =>
  rw [q] at h;cases h
  obtain⟨e1,e2⟩:=Bool.and_eq_true_iff.mp q
  exact .inl (am ((eq_of_beq e1).symm) ((eq_of_beq e2).symm) rfl)
theorem an.addMe {cl:Nat} (H:an V k g) (M:jw V cl x f) (hc:be V k (.ref f) φ):an V k (g.addMe cl x φ):=by
 refine { H with me:=fun cl' n' φ' h=>(po h).elim (fun e=>?_) (H.me cl' n' φ') }
 obtain⟨zq,rfl,rfl⟩:=e;clear h;subst zq
 exact (aa f M hc)
theorem an.addMeth {cl:Nat} (H:an V k g) (F:fP V a args b sc .none .none) (M:jw V cl x a) (hp:Internal.Pos args ps) (hs:bS sc ps=true) (n:Nat):an V (k+2) (g.addMe cl x (sN g n sc b ps)) :=
 H.up.up.addMe M (jJ H F hp hs n)
theorem fO.share (hy:af st.ρ y=some (.lst ds)) (h:fO V k fd ss sc ⟨aG st.ρ y (.val (.obj st.G.length)),st.G++[.lst ds]⟩ fl G'):fO V k fd ss sc st fl G':=fun c w hc r Q E hQ=>by
 obtain⟨w1,n1,vm1,s1,r1⟩:=r.share hy
 rw [<- s1]
 exact h c w1 hc r1 Q E fun v w2 n2 z2=>hQ v w2 (n1.trans n2) z2
theorem vn {s:Stmt} (H:an V k g) (h:Hy g (aj g n) sc s st fun fl st1=>fl=.next/\st1=st'):eM V (k+1) s sc st .next st' :=
 sL (d7 H n) H h fun fl st1 h1 e=>by obtain⟨rfl,zq⟩:=e;clear h;subst zq;exact h1
theorem Kh (H:an V k g) (h:(aj g n).ex sc ss st (dh K)):∃ fl G',fO V (k+1) fd ss sc st fl G'/\fl≠.cont/\K fl.rv G' :=
 (d7 H n).ex h fun fl st1 h1 q=>by
  cases fl with
  | cont=>exact q.elim
  | next=>exact (aF _ _ h1.F nofun q)
  | ret v=>exact (aF _ _ h1.F nofun q)
theorem sO (hs:bS sc ps=true):tZ sc/\(∀ p∈sc.names,p.2≠.free)/\sc.isCoroutine=false/\sc.isGenerator=false/\∀ p∈ps,bW sc p:=by
 unfold bS at hs
 simp only [Bool.and_eq_true,Bool.not_eq_true'] at hs
 obtain⟨⟨⟨⟨hs1,hs2⟩,hs3⟩,hs4⟩,hs5⟩:=hs
 have h2:∀ p∈sc.names,p.2≠.free:=fun p hp e=>by
  have:=List.all_eq_true.mp hs2 p hp
  rw [e] at this;cases this
 exact (lu (eX hs1) h2 hs3 hs4 (fun p hp=>cH (List.all_eq_true.mp hs5 p hp)))
theorem kE (F:fP V a args b sc .none .none) (hp:Internal.Pos args ps) (hs:bS sc ps=true) (hl:as.length=ps.length)
  (h:∀ fd o,V.K a=some o->o.data=.func fd->fd.globals=mainGlobals->∃ fl G',fO V k fd b sc ⟨bE [] (ps.zip as),G⟩ fl G'/\fl≠.cont/\K fl.rv G'):∃ rv G',bp V (k+1) a as [] G rv G'/\K rv G':=by
 obtain⟨fd,o,h1,h2,h3,h4,h5,h6,h7,h8,h9,h10,h11,h12⟩:=F.ex
 obtain⟨s1,s2,s3,s4,s5⟩:=sO hs
 clear F hs;subst h6
 obtain⟨fl,G',hx,hf,hk⟩:=h fd o h1 h3 h8
 exact (ba _ _ (ic (ρ0:=[]) ⟨(aa o h1 h3),h8,h9,h12,s1,s3,s4⟩ h5 h7 (hZ hl fun vs hv=>hp fd vs h4 h10 h11 hv) (fun w ι=>j6 s2) (fun p hp=>s5 _ (by rw [<- kD hl];exact List.mem_map_of_mem hp)) hf hx) hk)
noncomputable def DX (sc:Scope) (ps:List Str):Bool:=qv sc&&!sc.isCoroutine&&!sc.isGenerator&&ps.all (qQ sc)
theorem Aj {vm0:Str->Option Value} {ρ0:Rho} (H:an V k g) (F:jt V.K f fd) (h1:fd.body=.stmts b) (h2:fd.params=args) (h3:fd.scope=sc) (h4:fd.defaults=.none) (h5:fd.kwdefaults=.none) (cap:tY sc fd.closure vm0 emp V.K)
  (hv:∀ x s,af ρ0 x=some s->∃ v av,s=.val av/\vm0 x=some v/\VR V.pin V.K v av/\sc.names.lookup x=some .free) (hp:Internal.Pos args ps) (hs:DX sc ps=true) (hl:as.length=ps.length) (h:(aj g n).ex sc b ⟨bE ρ0 (ps.zip as),G⟩ (dh K)):∃ rv G',bp V (k+2) f as [] G rv G'/\K rv G':=by
 subst h3
 obtain⟨fl,G',hx,hf,hk⟩:=Kh (fd:=fd) H h
 unfold DX at hs
 simp only [Bool.and_eq_true] at hs
 exact (ba _ _ (ic (ρ0:=ρ0) F h1 rfl (hZ hl fun vs hv=>hp fd vs h2 h4 h5 hv) (fun w bs=>⟨cap.le bs.top.k,fun x s e=>(hv x s e).imp fun v=>Exists.imp fun av q=>(a7 q.1 q.2.1 (q.2.2.1.le bs.ob.pin bs.top.k) q.2.2.2)⟩)
  (fun p hp=>cH (List.all_eq_true.mp hs.2 _ (by rw [<- kD hl];exact List.mem_map_of_mem hp))) hf hx) hk)
theorem bp.own {kw:List (Str×PyData)} (h:bp V k a as kw G (.val (.obj G.length)) (G'++[.lst ds])) (hl:G'.length=G.length) (hi:vk G->vk G'):bp V k a as kw G (.own ds) G':=fun A w vs kvs room bs hvs hkw Q E hQ =>
 h A w vs kvs room bs hvs hkw Q E fun u w' n y9880=>k0_4 y9880 fun b f vm x=>hQ u (w'.low w.γ) ⟨bD.refl _,n.b,n.r,n.s⟩ (a7 (b.low (bs.ob.len.trans hl.symm) n.g bs.ob.pin (hi bs.inG)) f vm (by
  obtain⟨a,zq,ha⟩:=x;clear y9880;subst zq
  obtain⟨a',h1,h2,vs,m,h3,h4⟩:=b.ob.at_ G.length (.lst ds) (by rw [<- hl,List.getElem?_append_right (Nat.le_refl _),Nat.sub_self];rfl)
  rw [ha] at h1;cases h1
  obtain⟨_,f1,f2,f3⟩:=b.ok.o a (by rw [h2];exact nofun)
  refine (dy a vs m rfl h3 ⟨f1,f2,f3,?_⟩ h4)
  show (w'.own a).filter _=none
  rw [h2]
  show Option.filter (fun x=>decide (x<w.γ.length)) (some G.length)=none
  rw [bs.ob.len,Option.filter_some,decide_eq_false (Nat.lt_irrefl _)];rfl))
end
noncomputable def LG (fd:FuncData) (args:Arguments):FuncData:={ fd with params:=args,defaults:=.none,kwdefaults:=.none }
noncomputable def Ak (args:Arguments) (ps:List Str) (vs:List Value):Prop:=∀ fd,bindArgs (LG fd args) ⟨vs,[]⟩=pure (ps.zip vs)
section
variable {args:Arguments} {p1 p2 p3 p4:Str} {ps:List Str}
theorem Pos.of (h:∀ vs,vs.length=ps.length->Ak args ps vs):Internal.Pos args ps:=by
 intro fd vs e1 e2 e3 hl
 have e:=h vs hl fd
 rw [show LG fd args=fd by clear h e;cases fd;cases e1;cases e2;cases e3;rfl] at e
 exact e
theorem gZ (h:∀ a,Ak args [p1] [a]):Internal.Pos args [p1]:=.of fun vs hl=>by
 cases vs with
 | nil=>cases hl
 | cons a l=>cases l with
  | nil=>exact h a
  | cons b l=>cases hl
theorem nj (h:∀ a b,Ak args [p1,p2] [a,b]):Internal.Pos args [p1,p2]:=.of fun vs hl=>by
 cases vs with
 | nil=>cases hl
 | cons a l=>cases l with
  | nil=>cases hl
  | cons b l=>cases l with
   | nil=>exact h a b
   | cons c l=>cases hl
theorem w7 (h:∀ a b c,Ak args [p1,p2,p3] [a,b,c]):Internal.Pos args [p1,p2,p3]:=.of fun vs hl=>by
 cases vs with
 | nil=>cases hl
 | cons a l=>cases l with
  | nil=>cases hl
  | cons b l=>cases l with
   | nil=>cases hl
   | cons c l=>cases l with
    | nil=>exact h a b c
    | cons d l=>cases hl
end
noncomputable abbrev LH:Program:=PySem.Challenge.pw_wf0108_02
set_option backward.match.sparseCases false in
noncomputable def w8 (body:List Stmt) (f:Str):Option (Arguments×List Stmt×Scope):=body.findSome? fun s=>match s with
 | .FunctionDef n a b _ _ _ sc _ _ _=>bif n==f then some (a,b,sc) else none
 | _=>none
noncomputable def aH (d:Option (Arguments×List Stmt×Scope)):Arguments:=match d with
 | some x=>x.1
 | none=>default
noncomputable def aO (d:Option (Arguments×List Stmt×Scope)):List Stmt:=match d with
 | some x=>x.2.1
 | none=>[]
noncomputable def fJ (d:Option (Arguments×List Stmt×Scope)):Scope:=match d with
 | some x=>x.2.2
 | none=>default
noncomputable def bx (f:Str):Option (Arguments×List Stmt×Scope):=w8 LH.main.body f
noncomputable def ao (f:Str):List Stmt:=aO (bx f)
noncomputable def cS (f:Str):Scope:=fJ (bx f)
noncomputable def d8 (b:List Stmt) (i:Nat):Stmt:=match b[i]? with
 | some s=>s
 | none=>.Pass ⟨0,0,0,0⟩
set_option backward.match.sparseCases false in
noncomputable def jx:Stmt->Expr
 | .For t _ _ _ _=>t
 | _=>.Constant .none 0 ⟨0,0,0,0⟩
set_option backward.match.sparseCases false in
noncomputable def b8:Stmt->List Stmt
 | .For _ _ b _ _=>b
 | .While _ b _ _=>b
 | _=>[]
set_option backward.match.sparseCases false in
noncomputable def Me:Stmt->Expr
 | .While t _ _ _=>t
 | _=>.Constant .none 0 ⟨0,0,0,0⟩
noncomputable abbrev aE (x:Str):Slot:=.val (.dat (.str x))
noncomputable abbrev ag (x:Int):Slot:=.val (.dat (.int x))
noncomputable abbrev aI (x:Int):ab:=.dat (.int x)
noncomputable abbrev az (x:Str):ab:=.dat (.str x)
noncomputable abbrev rh (x:Int):RV:=.val (.dat (.int x))
noncomputable abbrev kF:RV:=.val (.dat .none)
noncomputable abbrev BT (q r:Int):RV:=.val (.dat (.tuple [.int q,.int r]))
noncomputable abbrev eE (g:Gl) (f:Str) (ps:List Str):Ctr:=sN g 12 (cS f) (ao f) ps
noncomputable def Ki:List (Str×ab):=[("_DIV_LIMIT",aI 4000),("NT_OFFSET",aI 256),("ENDMARKER",aI 0)]
noncomputable def gB (es:List DictEntry):Gl:={ gl0 with val:=Ki,tbl:=[("EXACT_TOKEN_TYPES",es)] }
noncomputable def HF (es:List DictEntry):Gl:=(gB es).addFn "_div2n1n" (eE (gB es) "_div2n1n" ["a","b","n"])
noncomputable def DY (es:List DictEntry):Gl:=(HF es).addFn "_div3n2n" (eE (HF es) "_div3n2n" ["a12","a3","b","b1","b2","n"])
noncomputable def LI (es:List DictEntry):Gl:=(DY es).addFn "_div2n1n" (eE (DY es) "_div2n1n" ["a","b","n"])
noncomputable abbrev ay (x:Int):Nat:=Builtin.Int.intBits x
section
variable {es:List DictEntry} {G:List GObj} {K:RV->List GObj->Prop}
theorem Al {a b n:Int} (h1:(ay a:Int)-n<=4000) (h2:b≠0) (h3:ay b<=9000) (hK:K (BT (a.fdiv b) (a.fmod b)) G):eE (gB es) "_div2n1n" ["a","b","n"] [aI a,aI b,aI n] G K :=
 ⟨rfl,fY (decide_eq_true h1) ⟨⟨h2,h3⟩,hK⟩⟩
end
section
variable {x r a:Int} {M n:Nat}
theorem fu (h:ay x<=M):x.natAbs<2 ^ M:=by
 unfold ay Builtin.Int.intBits at h
 split at h
 ·rename_i h0
  rw [eq_of_beq h0];exact Nat.two_pow_pos M
 ·rename_i h0
  have:x.natAbs≠0:=fun q=>h0 (by rw [Int.natAbs_eq_zero.mp q];rfl)
  exact Nat.lt_of_lt_of_le ((Nat.log2_lt this).mp (Nat.lt_succ_self _)) (Nat.pow_le_pow_right (by decide) h)
theorem jK (h:x.natAbs<2 ^ M):ay x<=M:=by
 delta ay Builtin.Int.intBits
 split
 ·exact Nat.zero_le _
 ·rename_i h0
  exact (Nat.log2_lt fun q=>h0 (by rw [Int.natAbs_eq_zero.mp q];rfl)).mpr h
theorem bj:((2 ^ n:Nat):Int)=2 ^ n:=Int.natCast_pow 2 n
theorem pow_pos:(0:Int)<2 ^ n:=Int.pow_pos (by decide)
theorem aV (h0:0<=x) (h:x<2 ^ M):ay x<=M:=jK (Int.ofNat_lt.mp (by rw [Int.natAbs_of_nonneg h0,bj];exact h))
theorem Am (h0:0<=x) (h:ay x<=M):x<2 ^ M:=by
 have:=Int.ofNat_lt.mpr (fu h)
 rw [Int.natAbs_of_nonneg h0,bj] at this;exact this
theorem i0 (x y:Nat):Builtin.bitOr (x:Int) (y:Int)=((x ||| y:Nat):Int):=by
 have e:∀ z:Nat,Builtin.bitNot (z:Int)=-(z:Int)-1:=fun z=>by unfold Builtin.bitNot;omega
 have e2:∀ z:Nat,Builtin.bitNot (-(z:Int)-1)=z:=fun z=>by unfold Builtin.bitNot;omega
 delta Builtin.bitOr
 rw [e,e]
 have e3:Builtin.bitAnd (-(x:Int)-1) (-(y:Int)-1)=-((x ||| y:Nat):Int)-1:=by
  delta Builtin.bitAnd
  rw [decide_eq_false (by omega),decide_eq_false (by omega)]
  simp only
  rw [e2,e2,e]
  rfl
 rw [e3,e2]
theorem g9 (x y:Nat):Builtin.bitAnd (x:Int) (y:Int)=((x &&& y:Nat):Int):=by
 unfold Builtin.bitAnd
 rw [decide_eq_true (Int.natCast_nonneg _),decide_eq_true (Int.natCast_nonneg _)]
 rfl
theorem ri (hr:0<=r) (ha:0<=a/\a<2 ^ n):Builtin.bitOr (r*2 ^ n) a=r*2 ^ n+a:=by
 obtain⟨r,zq⟩:=Int.eq_ofNat_of_zero_le hr;rw [zq]
 obtain⟨a,rfl⟩:=Int.eq_ofNat_of_zero_le ha.1
 have h:=ha.2
 rw [<- bj] at h ⊢
 rw [<- Int.natCast_mul,i0,Nat.mul_comm,<- Nat.two_pow_add_eq_or_of_lt (Int.ofNat_lt.mp h),Int.natCast_add]
theorem nk (h:0<=x):Builtin.bitAnd x (1*2 ^ n-1)=x%2 ^ n:=by
 obtain⟨x,zq⟩:=Int.eq_ofNat_of_zero_le h;rw [zq]
 rw [Int.one_mul,<- bj,show ((2 ^ n:Nat):Int)-1=((2 ^ n-1:Nat):Int) from (Int.ofNat_sub Nat.one_le_two_pow).symm,g9,Nat.and_two_pow_sub_one_eq_mod,Int.natCast_emod]
theorem cI:x.fdiv (2 ^ n)=x / 2 ^ n:=Int.fdiv_eq_ediv_of_nonneg _ (Int.le_of_lt pow_pos)
theorem An (h:0<=x):Builtin.bitXor x (x / 2 ^ n*2 ^ n)=x%2 ^ n:=by
 have e1:0<=x / 2 ^ n:=Int.ediv_nonneg h (Int.le_of_lt pow_pos)
 have e2:=Int.emod_nonneg x (Int.ne_of_gt (pow_pos (n:=n)))
 have e3:=Int.emod_lt_of_pos x (pow_pos (n:=n))
 have e4:x / 2 ^ n*2 ^ n+x%2 ^ n=x:=Int.mul_comm _ _▸Int.mul_ediv_add_emod x (2 ^ n)
 have o1:=ri e1 ⟨e2,e3⟩
 rw [e4] at o1
 generalize x%2 ^ n=lo at *
 generalize x / 2 ^ n=hi at *
 subst e4
 obtain⟨hi,zq⟩:=Int.eq_ofNat_of_zero_le e1;clear e1;subst zq
 obtain⟨lo,zq⟩:=Int.eq_ofNat_of_zero_le e2;clear e2 e3 h;subst zq
 rw [<- bj] at *
 rw [<- Int.natCast_mul,<- Int.natCast_add] at *
 rw [i0] at o1
 have o2:=Int.ofNat_inj.mp o1
 unfold Builtin.bitXor
 have f1:(hi*2 ^ n+lo) ||| hi*2 ^ n=hi*2 ^ n+lo:=by rw [<- o2,Nat.or_comm,<- Nat.or_assoc,Nat.or_self]
 have f2:(hi*2 ^ n+lo) &&& hi*2 ^ n=hi*2 ^ n:=by
  rw [<- o2]
  exact Nat.eq_of_testBit_eq fun i=>by
   rw [Nat.testBit_and,Nat.testBit_or]
   cases (hi*2 ^ n).testBit i<;>cases lo.testBit i<;>rfl
 rw [i0,g9,f1,f2,Int.natCast_add,Int.add_comm,Int.add_sub_cancel]
end
section
variable {es:List DictEntry} {G:List GObj} {K:RV->List GObj->Prop}
theorem rj {x b:Int} (hb:0<b):-x<=x.natAbs*b:=by
 have h:=Int.mul_le_mul_of_nonneg_left (Int.add_one_le_of_lt hb) (Int.natCast_nonneg x.natAbs)
 rw [Int.zero_add,Int.mul_one] at h
 omega
theorem mi {A b:Int} {cd:St->(Bool->St->Prop)->Prop} {body:St->(Fl->St->Prop)->Prop} {mk:Int->Int->St} {K:Fl->St->Prop} (hb:0<b) (hc:∀ q r K,K (decide (r<0)) (mk q r)->cd (mk q r) K)
  (hx:∀ q r (K:Fl->St->Prop),(∀ st2,(⟨trim (mk q r).ρ st2.ρ,st2.G⟩:St)=mk (q-1) (r+b)->K .next st2)->body (mk q r) K):∀ (N:Nat) (q r:Int),-r<=N*b->r<b->q*b+r=A->K .next (mk (A / b) (A%b))->fg cd body (N+1) (mk q r) K:=by
 intro N
 induction N with
 | zero =>
  intro q r h1 h2 h3 hK
  have h1:¬ r<0:=by rw [Int.natCast_zero,Int.zero_mul] at h1;exact fun q=>Int.not_lt.mpr h1 (Int.neg_pos_of_neg q)
  refine hc _ _ _ (l7 (decide_eq_false h1) ?_)
  obtain⟨e1,e2⟩:=(Int.ediv_emod_unique (a:=A) (q:=q) hb).mpr (am (by rw [<- h3,Int.mul_comm,Int.add_comm]) (Int.not_lt.mp h1) h2)
  rw [e1,e2] at hK;exact hK
 | succ N ih =>
  intro q r h1 h2 h3 hK
  refine hc _ _ _ (dZ (fun e=>hx _ _ _ fun st2 e2=>?_) fun e=>?_)
  ·have e:=of_decide_eq_true e
   show fg cd body (N+1) ⟨trim (mk q r).ρ st2.ρ,st2.G⟩ K
   rw [e2]
   refine ih _ _ ?_ ?_ ?_ hK
   ·rw [Int.natCast_add,Int.add_mul,Int.natCast_one,Int.one_mul] at h1;omega
   ·omega
   ·rw [Int.sub_mul,Int.one_mul];omega
  ·have e:=of_decide_eq_false e
   obtain⟨e1,e2⟩:=(Int.ediv_emod_unique (a:=A) (q:=q) hb).mpr (am (by rw [<- h3,Int.mul_comm,Int.add_comm]) (Int.not_lt.mp e) h2)
   rw [e1,e2] at hK;exact hK
noncomputable def ρ3 (a12 a3 b b1 b2:Int) (n:Nat) (l:Rho):Rho:=("a12",ag a12)::("a3",ag a3)::("b",ag b)::("b1",ag b1)::("b2",ag b2)::("n",ag n)::l
noncomputable def LJ (q r:Int):Rho:=[("q",ag q),("r",ag r)]
noncomputable def LK (q r:Int):Rho:=[("r",ag r),("q",ag q)]
theorem mj {q0 r0 a3 b b1 b2 a12:Int} {n:Nat} {f:Int->Int->Rho} (hf:f=LJ\/f=LK)
  (h1:ay r0<=10000/\n<=10000) (h2:ay q0<=10000/\ay b2<=10000) (hb:0<b) (h3:0<=r0) (h4:0<=a3/\a3<2 ^ n) (h5:r0*2 ^ n+a3-q0*b2<b) (h6:q0*b+(r0*2 ^ n+a3-q0*b2)=a12*2 ^ n+a3) (hK:K (BT ((a12*2 ^ n+a3) / b) ((a12*2 ^ n+a3)%b)) G) :
  (aj (HF es) 12).ex (cS "_div3n2n") ((ao "_div3n2n").drop 1) ⟨ρ3 a12 a3 b b1 b2 n (f q0 r0),G⟩ (dh K):=by
 have e:=ri (n:=n) h3 h4
 have hz:((ay r0:Int)+n<=2 ^ 27):=by omega
 have N:=rj (x:=r0*2 ^ n+a3-q0*b2) hb
 rcases hf with rfl | rfl
 ·exact (a7 (Int.natCast_nonneg _) hz (Nat.le_trans (Nat.add_le_add h2.1 h2.2) (by decide)) ⟨(r0*2 ^ n+a3-q0*b2).natAbs+1,mi (mk:=fun q r=>⟨ρ3 a12 a3 b b1 b2 n (LJ q r),G⟩) hb (fun q r K h=>h) (fun q r K h=>h _ rfl) _ q0 _ (e.symm▸N) (e.symm▸h5) (e.symm▸h6) hK⟩)
 ·exact (a7 (Int.natCast_nonneg _) hz (Nat.le_trans (Nat.add_le_add h2.1 h2.2) (by decide)) ⟨(r0*2 ^ n+a3-q0*b2).natAbs+1,mi (mk:=fun q r=>⟨ρ3 a12 a3 b b1 b2 n (LK q r),G⟩) hb (fun q r K h=>h) (fun q r K h=>h _ rfl) _ q0 _ (e.symm▸N) (e.symm▸h5) (e.symm▸h6) hK⟩)
theorem HG {p b b1 b2 a12 a3:Int} (h5:b=b1*p+b2):(1*p-1)*b+((a12-b1*p+b1)*p+a3-(1*p-1)*b2)=a12*p+a3:=by grind
theorem HH {p b b1 b2 a12 a3 q r:Int} (h5:b=b1*p+b2) (e:b1*q+r=a12):q*b+(r*p+a3-q*b2)=a12*p+a3:=by grind
theorem HI {p b b1 b2 r a3:Int} (h5:b=b1*p+b2) (h:r+1<=b1+b2) (hp:0<p) (h2:a3<p):r*p+a3-(1*p-1)*b2<b:=by
 have:=Int.mul_le_mul_of_nonneg_right h (Int.le_of_lt hp)
 grind
theorem HJ {p b b1 b2 r a3 q:Int} (h5:b=b1*p+b2) (h:r+1<=b1) (hp:0<p) (h2:a3<p) (h3:0<=b2) (hq:0<=q):r*p+a3-q*b2<b:=by
 have:=Int.mul_le_mul_of_nonneg_right h (Int.le_of_lt hp)
 have:=Int.mul_nonneg hq h3
 grind
theorem HK {p b a12 a3:Int} (h6:a12*p+a3<b*p) (h2:0<=a3) (hp:0<p):a12<b:=Int.lt_of_mul_lt_mul_right (Int.lt_of_le_of_lt (Int.le_add_of_nonneg_right h2) h6) (Int.le_of_lt hp)
theorem HL {p b b1 b2:Int} (h5:b=b1*p+b2) (h3:b2<p) (h4:b1<p) (hp:0<p):b<p*p:=by
 have:=Int.mul_le_mul_of_nonneg_right (Int.add_one_le_of_lt h4) (Int.le_of_lt hp)
 grind
theorem xa {n m:Nat} (h:n<=m):(2:Int) ^ n<=2 ^ m:=by
 rw [<- bj,<- bj];exact Int.ofNat_le.mpr (Nat.pow_le_pow_right (by decide) h)
theorem jj {n:Nat}:(2:Int) ^ n+2 ^ n=2 ^ (n+1):=by rw [Int.pow_succ];omega
theorem f9 {n:Nat}:(2:Int) ^ n*2 ^ n=2 ^ (n+n):=(Int.pow_add ..).symm
theorem sQ {a12 a3 b b1 b2 A:Int} {n:Nat} (hA:a12*2 ^ n+a3=A) (h0:n<=4000) (h1:0<=a12) (h2:0<=a3/\a3<2 ^ n) (h3:0<=b2/\b2<2 ^ n) (h4:0<b1/\b1<2 ^ n) (h5:b=b1*2 ^ n+b2) (h6:A<b*2 ^ n) (hK:K (BT (A / b) (A%b)) G) :
  eE (HF es) "_div3n2n" ["a12","a3","b","b1","b2","n"] [aI a12,aI a3,aI b,aI b1,aI b2,aI n] G K:=by
 subst hA
 have hp:(0:Int)<2 ^ n:=pow_pos
 have hlt:=HK h6 h2.1 hp
 have hbp:0<b:=h5▸Int.add_pos_of_pos_of_nonneg (Int.mul_pos h4.1 hp) h3.1
 have hb1:=aV (Int.le_of_lt h4.1) h4.2
 have hb2:=aV h3.1 h3.2
 have ha:=aV h1 (f9▸Int.lt_trans hlt (HL h5 h3.2 h4.2 hp))
 have z27:∀ {m:Nat},m<=10000->(m:Int)+n<=2 ^ 27:=fun h=>by omega
 refine (a7 rfl (Int.natCast_nonneg _) rfl (dZ (fun e=>?_) fun e=>?_))
 ·have e:a12 / 2 ^ n=b1:=by rw [<- cI];exact of_decide_eq_true e
  have m1:=Int.emod_nonneg a12 (Int.ne_of_gt hp)
  have m2:=Int.emod_lt_of_pos a12 hp
  have m3:a12-b1*2 ^ n=a12%2 ^ n:=by rw [Int.emod_def,e,Int.mul_comm]
  have r0:0<=a12-b1*2 ^ n+b1:=by rw [m3];exact Int.add_nonneg m1 (Int.le_of_lt h4.1)
  have hr0:ay (a12-b1*2 ^ n+b1)<=n+1:=aV r0 (by rw [m3,<- jj];exact Int.add_lt_add m2 h4.2)
  have hq0:ay (1*2 ^ n-1)<=n:=aV (by omega) (by omega)
  exact (lu (Int.natCast_nonneg _) (z27 (show 1<=10000 by decide)) (Int.natCast_nonneg _) (z27 (Nat.le_trans hb1 (by omega))) (.inr ⟨rfl,
   mj (q0:=1*2 ^ n-1) (r0:=a12-b1*2 ^ n+b1) (.inr rfl) ⟨Nat.le_trans hr0 (by omega),by omega⟩ ⟨Nat.le_trans hq0 (by omega),by omega⟩ hbp r0 h2 (HI h5 (by omega) hp h2.2) (HG h5) hK⟩))
 ·have e3:=Int.mul_ediv_add_emod a12 b1
  have m1:=Int.emod_nonneg a12 (Int.ne_of_gt h4.1)
  have m2:=Int.emod_lt_of_pos a12 h4.1
  have m3:=Int.ediv_nonneg h1 (Int.le_of_lt h4.1)
  refine Al (by omega) (Int.ne_of_gt h4.1) (by omega) ⟨rfl,?_⟩
  rw [Int.fdiv_eq_ediv_of_nonneg _ (Int.le_of_lt h4.1),Int.fmod_eq_emod_of_nonneg _ (Int.le_of_lt h4.1)]
  refine mj (.inl rfl) ⟨Nat.le_trans (aV m1 (Int.lt_trans m2 h4.2)) (by omega),by omega⟩ ⟨Nat.le_trans (aV m3 (Int.lt_of_le_of_lt (Int.ediv_le_self _ h1) (Am h1 ha))) (by omega),by omega⟩ hbp m1 h2 (HJ h5 m2 hp h2.2 h3.1 m3) (HH h5 e3) hK
end
section
variable {es:List DictEntry} {G:List GObj} {K:RV->List GObj->Prop}
theorem HM {a p b q1 r1 A2:Int} (e1:a / p*p+a%p=a) (e2:b*q1+r1=a / p) (e3:r1*p+a%p=A2) (e4:b*(A2 / b)+A2%b=A2):A2%b+b*(q1*p+A2 / b)=a:=by grind
theorem ml {a b pad:Int} {n h:Nat} (hn:n=h+h) (hh:h<=4000) (hb:2 ^ h<=b/\b<2 ^ n) (ha:0<=a/\a<b*2 ^ n) (hK:bO (pad != 0) (K (BT (a / b) ((a%b).fdiv (2 ^ 1))) G) (K (BT (a / b) (a%b)) G)) :
  (aj (DY es) 12).ex (cS "_div2n1n") ((ao "_div2n1n").drop 4) ⟨[("a",ag a),("b",ag b),("n",ag n),("pad",ag pad),("half_n",ag h)],G⟩ (dh K):=by
 have hp:(0:Int)<2 ^ h:=pow_pos
 have hbp:0<b:=Int.lt_of_lt_of_le hp hb.1
 have pp:=f9 (n:=h)
 rw [<- hn] at pp
 have ea3:Builtin.bitAnd (a.fdiv (2 ^ h)) (1*2 ^ h-1)=a / 2 ^ h%2 ^ h:=by rw [cI];exact nk (Int.ediv_nonneg ha.1 (Int.le_of_lt hp))
 have eb2:Builtin.bitAnd b (1*2 ^ h-1)=b%2 ^ h:=nk (Int.le_of_lt hbp)
 have ea4:Builtin.bitAnd a (1*2 ^ h-1)=a%2 ^ h:=nk ha.1
 have mo:∀ x:Int,0<=x%2 ^ h/\x%2 ^ h<2 ^ h:=fun x=>⟨Int.emod_nonneg x (Int.ne_of_gt hp),Int.emod_lt_of_pos x hp⟩
 have dm:∀ x:Int,x / 2 ^ h*2 ^ h+x%2 ^ h=x:=fun x=>Int.mul_comm _ _▸Int.mul_ediv_add_emod x (2 ^ h)
 have hA1:a.fdiv (2 ^ n)*2 ^ h+Builtin.bitAnd (a.fdiv (2 ^ h)) (1*2 ^ h-1)=a / 2 ^ h:=by
  rw [ea3,cI,<- pp,<- Int.ediv_ediv_of_nonneg (Int.le_of_lt hp)];exact dm _
 have b1p:0<b / 2 ^ h/\b / 2 ^ h<2 ^ h:=⟨(Int.le_ediv_iff_mul_le hp).mpr (by omega),(Int.ediv_lt_iff_lt_mul hp).mpr (by omega)⟩
 have a1lt:a / 2 ^ h<b*2 ^ h:=(Int.ediv_lt_iff_lt_mul hp).mpr (by rw [Int.mul_assoc,pp];exact ha.2)
 have r1p:=Int.emod_nonneg (a / 2 ^ h) (Int.ne_of_gt hbp)
 have r1l:=Int.emod_lt_of_pos (a / 2 ^ h) hbp
 have a2lt:a / 2 ^ h%b*2 ^ h+a%2 ^ h<b*2 ^ h:=by
  have:=Int.mul_le_mul_of_nonneg_right r1l (Int.le_of_lt hp)
  have:=(mo a).2
  grind
 have a2p:0<=a / 2 ^ h%b*2 ^ h+a%2 ^ h:=Int.add_nonneg (Int.mul_nonneg r1p (Int.le_of_lt hp)) (mo a).1
 have q1p:0<=a / 2 ^ h / b:=Int.ediv_nonneg (Int.ediv_nonneg ha.1 (Int.le_of_lt hp)) (Int.le_of_lt hbp)
 have q1l:a / 2 ^ h / b<2 ^ h:=Int.ediv_lt_of_lt_mul hbp (by rw [Int.mul_comm];exact a1lt)
 have q2:0<=(a / 2 ^ h%b*2 ^ h+a%2 ^ h) / b/\(a / 2 ^ h%b*2 ^ h+a%2 ^ h) / b<2 ^ h:=⟨Int.ediv_nonneg a2p (Int.le_of_lt hbp),Int.ediv_lt_of_lt_mul hbp (by rw [Int.mul_comm (2 ^ h) b];exact a2lt)⟩
 have fin:=(Int.ediv_emod_unique (a:=a) hbp).mpr (am (HM (q1:=a / 2 ^ h / b) (dm a) (Int.mul_ediv_add_emod _ b) rfl (Int.mul_ediv_add_emod _ b)) (Int.emod_nonneg _ (Int.ne_of_gt hbp)) (Int.emod_lt_of_pos _ hbp))
 have z27:∀ {m:Nat},m<=10000->(m:Int)+h<=2 ^ 27:=fun h=>by omega
 have n0:∀ n:Nat,(0:Int)<=n:=Int.natCast_nonneg
 have c1:0<b.fdiv (2 ^ h)/\b.fdiv (2 ^ h)<2 ^ h:=by rw [cI];exact b1p
 have c2:0<=Builtin.bitAnd b (1*2 ^ h-1)/\Builtin.bitAnd b (1*2 ^ h-1)<2 ^ h:=by rw [eb2];exact mo b
 have c3:b=b.fdiv (2 ^ h)*2 ^ h+Builtin.bitAnd b (1*2 ^ h-1):=by rw [eb2,cI,dm]
 have c4:0<=a.fdiv (2 ^ n):=by rw [cI];exact Int.ediv_nonneg ha.1 (Int.le_of_lt pow_pos)
 have c5:ay (a / 2 ^ h / b)+(h:Int)<=2 ^ 27:=z27 (Nat.le_trans (aV q1p q1l) (by omega))
 have c6:=ri q1p q2
 rw [fin.1,fin.2,<- c6] at hK
 refine (a7 (n0 _) (z27 (show 1<=10000 by decide)) (n0 _) (.inr (a7 rfl (n0 _) (n0 _) (sQ (a12:=a.fdiv (2 ^ n)) (a3:=Builtin.bitAnd (a.fdiv (2 ^ h)) (1*2 ^ h-1)) (b1:=b.fdiv (2 ^ h)) (b2:=Builtin.bitAnd b (1*2 ^ h-1)) hA1 hh c4 (by rw [ea3];exact mo _) c2 c1 c3 a1lt
  ⟨rfl,sQ (a12:=a / 2 ^ h%b) (a3:=Builtin.bitAnd a (1*2 ^ h-1)) (b1:=b.fdiv (2 ^ h)) (b2:=Builtin.bitAnd b (1*2 ^ h-1)) (A:=a / 2 ^ h%b*2 ^ h+a%2 ^ h) (by rw [ea4]) hh r1p (by rw [ea4];exact mo _) c2 c1 c3 a2lt ⟨rfl,?_⟩⟩))))
 exact cG hK (fun e h=>fY e (a7 (show (0:Int)<=1 by decide) (n0 _) c5 h)) fun e h=>l7 e (am (n0 _) c5 h)
theorem Ao {a b:Int} {n:Nat} (hn:n<=7000) (hb:2 ^ n<=b+b/\b<2 ^ n) (h0:0<b) (ha:0<=a/\a<b*2 ^ n) (hK:K (BT (a / b) (a%b)) G):eE (DY es) "_div2n1n" ["a","b","n"] [aI a,aI b,aI n] G K:=by
 have hbb:=aV (Int.le_of_lt h0) hb.2
 have haa:ay a<=n+n:=aV ha.1 (Int.lt_trans ha.2 (f9▸Int.mul_lt_mul_of_pos_right hb.2 pow_pos))
 refine⟨rfl,dZ (fun e=>?_) fun e=>?_⟩
 ·rw [<- Int.fdiv_eq_ediv_of_nonneg _ (Int.le_of_lt h0),<- Int.fmod_eq_emod_of_nonneg _ (Int.le_of_lt h0)] at hK
  exact⟨⟨Int.ne_of_gt h0,Nat.le_trans hbb (Nat.le_trans hn (by decide))⟩,hK⟩
 ·have ep:Builtin.bitAnd n 1=((n%2:Nat):Int):=(g9 n 1).trans (by rw [Nat.and_one_is_mod])
  show bO (Builtin.bitAnd n 1 != 0) _ _
  rw [ep]
  have z27:∀ {m:Nat},m<=20000->(m:Int)+1<=2 ^ 27:=fun h=>by omega
  have np:0<n:=Nat.pos_of_ne_zero fun z=>by
   have:=hb.2
   rw [z] at this;exact absurd h0 (Int.not_lt.mpr (Int.lt_add_one_iff.mp this))
  rcases Nat.mod_two_eq_zero_or_one n with q | q
  ·have eh:(n:Int).fdiv (2 ^ 1)=((n / 2:Nat):Int):=(Int.ofNat_fdiv n 2).symm
   have hb2:(2:Int) ^ (n / 2)<=b:=by
    have h:=xa (n:=n / 2+1) (m:=n) (by omega)
    rw [<- jj] at h;omega
   refine l7 (by rw [q];rfl) ⟨show (0:Int)<=1 by decide,?_⟩
   show (aj (DY es) 12).ex (cS "_div2n1n") ((ao "_div2n1n").drop 4) ⟨[("a",ag a),("b",ag b),("n",ag n),("pad",ag ((n%2:Nat):Int)),("half_n",ag ((n:Int).fdiv (2 ^ 1)))],G⟩ (dh K)
   rw [eh]
   exact ml (by omega) (by omega) ⟨hb2,hb.2⟩ ha (l7 (by rw [q];rfl) hK)
  ·have eh:((n:Int)+1).fdiv (2 ^ 1)=(((n+1) / 2:Nat):Int):=(Int.ofNat_fdiv (n+1) 2).symm
   refine fY (by rw [q];rfl) (Ct (show (0:Int)<=1 by decide) (z27 (Nat.le_trans haa (by omega))) (show (0:Int)<=1 by decide) (z27 (Nat.le_trans hbb (by omega))) (show (0:Int)<=1 by decide) ?_)
   show (aj (DY es) 12).ex (cS "_div2n1n") ((ao "_div2n1n").drop 4) ⟨[("a",ag (a*2 ^ 1)),("b",ag (b*2 ^ 1)),("n",ag ((n+1:Nat):Int)),("pad",ag ((n%2:Nat):Int)),("half_n",ag (((n:Int)+1).fdiv (2 ^ 1)))],G⟩ (dh K)
   rw [eh]
   have f1:a*2 ^ 1 / (b*2 ^ 1)=a / b:=Int.mul_ediv_mul_of_pos_left a b (by decide)
   have f2:(a*2 ^ 1%(b*2 ^ 1)).fdiv (2 ^ 1)=a%b:=by
    rw [cI,Int.mul_comm a,Int.mul_comm b,Int.mul_emod_mul_of_pos _ _ (by decide),Int.mul_ediv_cancel_left _ (by decide)]
   have hl:=xa (n:=(n+1) / 2) (m:=n) (by omega)
   have hp:(2:Int) ^ (n+1)=2 ^ n*2:=Int.pow_succ ..
   refine ml (by omega) (by omega) ⟨?_,?_⟩ ⟨?_,?_⟩ (fY (by rw [q];rfl) ?_)
   ·omega
   ·rw [hp];omega
   ·omega
   ·rw [hp,show a*2 ^ 1=a*2 from rfl,show b*2 ^ 1*(2 ^ n*2)=b*2 ^ n*2*2 by rw [Int.mul_assoc,Int.mul_assoc,Int.mul_assoc,<- Int.mul_assoc (2 ^ 1),Int.mul_comm (2 ^ 1),Int.mul_assoc];rfl]
    omega
   ·rw [f1,f2];exact hK
end
noncomputable def eG (n:Nat):List Int->Int
 | []=>0
 | d::l=>d+2 ^ n*eG n l
noncomputable def sR {α:Type} (l:List α) (lo hi:Nat):List α:=(l.drop lo).take (hi-lo)
theorem kG {n:Nat} {b:List Int}:∀ {a:List Int},eG n (a++b)=eG n a+2 ^ (a.length*n)*eG n b:=by
 intro a
 induction a with
 | nil =>
  rw [List.nil_append,List.length_nil,Nat.zero_mul,Int.pow_zero,Int.one_mul];exact (Int.zero_add _).symm
 | cons d a ih =>
  show d+2 ^ n*eG n (a++b)=d+2 ^ n*eG n a+2 ^ ((a.length+1)*n)*eG n b
  rw [ih,Int.mul_add,Int.add_assoc,Nat.add_mul,Nat.one_mul,Int.pow_add,Int.mul_assoc,Int.mul_left_comm]
theorem sS {α:Type} {l:List α} {lo hi:Nat} (h:hi<=l.length):(sR l lo hi).length=hi-lo:=by
 unfold sR;rw [List.length_take,List.length_drop];exact Nat.min_eq_left (Nat.sub_le_sub_right h lo)
theorem uG {α:Type} {l:List α} {lo mid hi:Nat} (h1:lo<=mid) (h2:mid<=hi):sR l lo hi=sR l lo mid++sR l mid hi:=by
 unfold sR
 rw [<- Nat.sub_add_sub_cancel h2 h1,Nat.add_comm (hi-mid),List.take_add,List.drop_drop,Nat.add_sub_cancel' h1]
theorem Ap {α:Type} {l:List α} {lo:Nat} (h:lo<l.length):sR l lo (lo+1)=[l[lo]]:=by
 unfold sR
 rw [Nat.add_sub_cancel_left,List.drop_eq_getElem_cons h];rfl
theorem Aq {α:Type} {l:List α}:sR l 0 l.length=l:=by
 unfold sR;rw [List.drop_zero,Nat.sub_zero,List.take_length]
theorem mm {n M:Nat}:∀ {l:List Int},(∀ d∈l,ay d<=M)->(eG n l).natAbs<2 ^ (M+(n+1)*l.length):=by
 intro l
 induction l with
 | nil =>
  intro ι
  exact Nat.two_pow_pos _
 | cons d l ih =>
  intro h
  have h1:=fu (h d (.head _))
  have h2:=Nat.mul_le_mul_left (2 ^ n) (Nat.succ_le_of_lt (ih fun d hd=>h d (.tail _ hd)))
  rw [Nat.mul_succ,<- Nat.pow_add] at h2
  have h3:(d+2 ^ n*eG n l).natAbs<=d.natAbs+2 ^ n*(eG n l).natAbs:=Nat.le_trans (Int.natAbs_add_le _ _) (by rw [Int.natAbs_mul,Int.natAbs_pow];exact Nat.le_refl _)
  show (d+2 ^ n*eG n l).natAbs<2 ^ (M+(n+1)*(l.length+1))
  rw [show M+(n+1)*(l.length+1)=(n+(M+(n+1)*l.length))+1 by rw [Nat.mul_succ];omega,Nat.pow_succ]
  have h5:2 ^ M<=2 ^ (n+(M+(n+1)*l.length)):=Nat.pow_le_pow_right (by decide) (Nat.le_trans (Nat.le_add_right _ _) (Nat.le_add_left _ _))
  have h6:0<2 ^ n:=Nat.two_pow_pos _
  omega
structure uH (V:aD) (a:Addr) (i:Nat) (nm:Str) (p:PySem.Pos):Prop where
 mk':∀ fd o,V.K a=some o->o.data=.func fd->zJ V i fd.code/\∀ L b,qualnameIn (fS fd L b) nm nm=(V.tab i).qual
 pos:(V.tab i).pos=p
noncomputable def mr (s:Stmt):PySem.Pos:=match s with
 | .FunctionDef _ _ _ _ _ _ _ _ _ p=>p
 | _=>⟨0,0,0,0⟩
noncomputable def lr (f:Str):Option (Arguments×List Stmt×Scope):=w8 (ao f) "inner"
noncomputable def pu (f:Str):PySem.Pos:=mr (d8 (ao f) 0)
theorem Jp {V:aD} {k n:Nat} {g:Gl} {sc:Scope} {ss:List Stmt} {st:St} {fd:FuncData} {fl:Fl} {G':List GObj} (H:an V k g) (h:(aj g n).ex sc ss st fun fl' st1=>fl'=fl/\st1.G=G'):fO V (k+1) fd ss sc st fl G' :=
 (d7 H n).ex h fun fl st1 h1 q=>by obtain⟨zq,zq⟩:=q;clear h;subst zq;rw [<- zq];exact h1.F
noncomputable def fd:Nat->Nat
 | 0=>0
 | d+1=>match d with
  | 0=>1
  | e+1=>2*fd (e+1)
theorem sT {L R d:Nat} (h:R<=L+fd (d+1)) (h1:L<(L+R) / 2/\(L+R) / 2<R):(L+R) / 2<=L+fd d/\R<=(L+R) / 2+fd d:=by
 cases d with
 | zero=>have:fd (0+1)=1:=rfl;omega
 | succ e=>have:fd (e+1+1)=2*fd (e+1):=rfl;omega
noncomputable def sV (d n:Nat) (l:List Int):Ctr:=fun as G K=>∃ L R:Nat,as=[aI L,aI R]/\L<R/\R<=l.length/\R<=L+fd d/\K (rh (eG n (sR l L R))) G
noncomputable def ρD (l:List Int) (f:Value) (n L R:Nat):Rho:=[("digits",.val (.dat (.list (l.map .int)))),("inner",.val (.raw f)),("n",ag n),("L",ag L),("R",ag R)]
theorem cJ {m n:Nat} (h:m<n):seqIndex? (m:Int) n=some m:=by
 unfold seqIndex?
 rw [if_neg (Int.not_lt.mpr (Int.natCast_nonneg m)),if_pos (Bool.and_eq_true_iff.mpr ⟨decide_eq_true (Int.natCast_nonneg m),decide_eq_true (Int.ofNat_lt.mpr h)⟩)];rfl
theorem pv {x:Int} {a b:Nat} (h:x.natAbs<2 ^ a) (h':a+b<=2 ^ 27):(ay x:Int)+b<=2 ^ 27:=by
 exact Int.ofNat_le.mpr (Nat.le_trans (Nat.add_le_add_right (jK h) b) h')
theorem xb {L R:Nat} (h:L<R) (e:¬ (L:Int)+1=R):L<(L+R) / 2/\(L+R) / 2<R:=by omega
theorem HN {a n b:Nat} (h:a<=256) (hn:n<=10000) (hb:b<=256):10000+(n+1)*b+a*n<=2 ^ 27:=Nat.le_trans (Nat.add_le_add (Nat.add_le_add_left (Nat.mul_le_mul (Nat.add_le_add_right hn 1) hb) 10000) (Nat.mul_le_mul h hn)) (by decide)
theorem Ar {d n:Nat} {l:List Int} {f:Value} {L R:Nat} {G:List GObj} {K:RV->List GObj->Prop} (hn:n<=10000) (hl:l.length<=256) (hd:∀ x∈l,ay x<=10000) (h1:L<R) (h2:R<=l.length) (h3:R<=L+fd (d+1)) (hK:K (rh (eG n (sR l L R))) G) :
  (aj (HE "inner" f (sV d n l)) 12).ex (fJ (lr "_digits2int")) (aO (lr "_digits2int")) ⟨ρD l f n L R,G⟩ (dh K):=by
 refine⟨rfl,dZ (fun e=>?_) fun e=>?_⟩
 ·have e:(L:Int)+1=R:=of_decide_eq_true e
  obtain rfl:R=L+1:=Int.ofNat_inj.mp e.symm
  rw [Ap h2] at hK
  refine⟨by rw [List.length_map];exact Nat.le_trans hl (by decide),(aF L (.int l[L]) ?_ (by rw [List.getElem?_map,List.getElem?_eq_getElem h2];rfl) ?_)⟩
  ·rw [List.length_map];exact cJ h2
  ·have:eG n [l[L]]=l[L]:=by show l[L]+2 ^ n*0=_;rw [Int.mul_zero,Int.add_zero]
   rw [this] at hK;exact hK
 ·have e:¬ (L:Int)+1=R:=of_decide_eq_false e
  have em:((L:Int)+R).fdiv (2 ^ 1)=((L+R) / 2:Nat):=(Int.ofNat_fdiv (L+R) 2).symm
  have m1:=xb h1 e
  have hf:=sT h3 m1
  generalize (L+R) / 2=m at *
  have m3:m-L<=256:=Nat.le_trans (Nat.sub_le _ _) (Nat.le_trans (Nat.le_of_lt m1.2) (Nat.le_trans h2 hl))
  have es:((m:Int)-L)*n=((m-L)*n:Nat):=by rw [<- Int.natCast_sub (Nat.le_of_lt m1.1),<- Int.natCast_mul]
  have bm:ay ((m:Int)-L)<=9:=by
   rw [<- Int.natCast_sub (Nat.le_of_lt m1.1)]
   exact aV (Int.natCast_nonneg _) (Int.ofNat_lt.mpr (Nat.lt_of_le_of_lt m3 (by decide)))
  have bn:ay (n:Int)<=14:=aV (Int.natCast_nonneg _) (Int.ofNat_lt.mpr (Nat.lt_of_le_of_lt hn (by decide)))
  have ln:(sR l m R).length<=256:=by rw [sS h2];exact Nat.le_trans (Nat.sub_le _ _) (Nat.le_trans h2 hl)
  have sh:(ay (eG n (sR l m R)):Int)+((m-L)*n:Nat)<=2 ^ 27:=pv (mm (n:=n) (M:=10000) fun x hx=>hd x (List.mem_of_mem_drop (List.mem_of_mem_take hx))) (HN m3 hn ln)
  rw [uG (Nat.le_of_lt m1.1) (Nat.le_of_lt m1.2),kG,sS (Nat.le_trans (Nat.le_of_lt m1.2) h2),Int.add_comm,Int.mul_comm] at hK
  refine⟨show (0:Int)<=1 by decide,?_⟩
  show (aj (HE "inner" f (sV d n l)) 12).ex (fJ (lr "_digits2int")) ((aO (lr "_digits2int")).drop 2) ⟨("digits",.val (.dat (.list (l.map .int))))::("inner",.val (.raw f))::("n",ag n)::("L",ag L)::("R",ag R)::("mid",ag (((L:Int)+R).fdiv (2 ^ 1)))::[],G⟩ (dh K)
  rw [em]
  refine⟨Nat.le_trans (Nat.add_le_add bm bn) (by decide),?_⟩
  show (aj (HE "inner" f (sV d n l)) 12).ex (fJ (lr "_digits2int")) ((aO (lr "_digits2int")).drop 3) ⟨("digits",.val (.dat (.list (l.map .int))))::("inner",.val (.raw f))::("n",ag n)::("L",ag L)::("R",ag R)::("mid",ag m)::("shift",ag (((m:Int)-L)*n))::[],G⟩ (dh K)
  rw [es]
  exact⟨rfl,(tQ m R rfl m1.2 h2 hf.2 (Int.natCast_nonneg _) sh rfl (tO L m rfl m1.1 (Nat.le_trans (Nat.le_of_lt m1.2) h2) hf.1 hK))⟩
section
variable {V:aD} {k n d g i:Nat} {a f:Addr} {fi:FuncData} {vm0:Str->Option Value} {l:List Int} {G:List GObj} {K:RV->List GObj->Prop} {K':PM} {p':List Addr}
structure di (V:aD):Prop where
 bi:∀ p∈jG,Bi V p.1 p.2
 rf:qM V
theorem di.at (h:di V) (hk:Le V.K K'):di (V.at K' p'):=by
 obtain⟨o,fd,h1,h2⟩:=h.rf
 exact⟨h.bi,o,fd,hk _ _ h1,h2⟩
theorem DZ:Internal.Pos (aH (lr "_digits2int")) ["L","R"]:=nj fun ι ι ι=>by kernel_rfl
theorem As:Internal.Pos (aH (bx "_digits2int")) ["digits","n"]:=nj fun ι ι ι=>by kernel_rfl
structure kH (V:aD) (f:Addr) (args:Arguments) (b:List Stmt) (sc:Scope) (ρ0:Rho):Prop where
 ex:∃ fi vm0,jt V.K f fi/\fi.body=.stmts b/\fi.params=args/\fi.scope=sc/\fi.defaults=.none/\fi.kwdefaults=.none/\tY sc fi.closure vm0 emp V.K/\∀ x s,af ρ0 x=some s->∃ v av,s=.val av/\vm0 x=some v/\VR V.pin V.K v av/\sc.names.lookup x=some .free
theorem kH.keep {args:Arguments} {b:List Stmt} {sc:Scope} {ρ0:Rho} (I:kH V f args b sc ρ0):bQ V (.ref f):=by
 obtain⟨fi,vm0,F,_⟩:=I.ex
 exact vK F
theorem kH.run {gl:Gl} {args:Arguments} {b:List Stmt} {sc:Scope} {ρ0:Rho} {ps:List Str} {as:List ab} (I:kH V f args b sc ρ0) (H:an V k gl) (hp:Internal.Pos args ps) (hs:DX sc ps=true) (hl:as.length=ps.length) (h:(aj gl n).ex sc b ⟨bE ρ0 (ps.zip as),G⟩ (dh K)):∃ rv G',eV V (k+2) (.ref f) as G rv G'/\K rv G':=by
 obtain⟨fi,vm0,F,h1,h2,h3,h4,h5,cap,hv⟩:=I.ex
 obtain⟨rv,G',c,z⟩:=Aj H F h1 h2 h3 h4 h5 cap hv hp hs hl h
 exact (ba rv G' c.call z)
noncomputable def xc (sc scope:Scope) (nm:Str) (xs:List Str):Bool:=qv scope&&(!scope.isCoroutine&&!scope.isGenerator)&&qQ sc nm&&xs.all (fun x=>sc.names.lookup x==some .cell&&scope.names.lookup x==some .free)&&scope.names.all fun p=>p.2 != .free||xs.contains p.1
theorem rk {ρ:Rho} {x:Str} {s:Slot}:∀ {xs:List Str},af (fj ρ xs) x=some s->x∈xs/\∃ av,s=.val av/\af ρ x=some (.val av):=by
 intro xs
 induction xs with
 | nil=>exact nofun
 | cons y xs ih =>
  intro h
  unfold fj at h
  rw [List.filterMap_cons] at h
  have tl:af (fj ρ xs) x=some s->x∈y::xs/\∃ av,s=.val av/\af ρ x=some (.val av):=fun h=>⟨List.mem_cons_of_mem _ (ih h).1,(ih h).2⟩
  cases q:af ρ y with
  | none=>rw [q] at h;exact tl h
  | some t =>
   rw [q] at h
   cases t with
   | lst _=>exact tl h
   | val v =>
    replace h:((y,Slot.val v)::fj ρ xs).lookup x=some s:=h
    rcases lookup_cons h with ⟨rfl,rfl⟩ | h
    ·exact⟨List.mem_cons_self ..,(aa v rfl q)⟩
    ·exact tl h
theorem HO {sc scope:Scope} {fd:FuncData} {st:St} {xs:List Str} {nm:Str} {params:Arguments} {body ss:List Stmt} {pos:PySem.Pos} {o:Obj} {fl:Fl} {G':List GObj} (hg:st.G[g]?=some (.tab i)) (M:uH V a i nm pos) (e1:V.K a=some o) (e2:o.data=.func fd) (hgl:fd.globals=mainGlobals) (hf:xc sc scope nm xs=true) (nd:xs.Nodup)
  (hd0:params.defaults=[]) (hk0:params.kw_defaults=[]) (ha:∀ env,annTrees params none env=[])
  (next:∀ K' p' (f:Addr),Le V.K K'->bD V.pin p'->kH (V.at K' p') f params body scope (fj (aG st.ρ nm (.val (.raw (.ref f)))) xs)->fO (V.at K' p') k fd ss (xs.foldl BH sc) ⟨aG st.ρ nm (.val (.raw (.ref f))),st.G⟩ fl G') :
  fO V k fd (.FunctionDef nm params body [] none [] scope none nm pos::ss) sc st fl G':=by
 unfold xc at hf
 simp only [Bool.and_eq_true,Bool.not_eq_true'] at hf
 obtain⟨⟨⟨⟨f1,f2,f3⟩,f4⟩,f5⟩,f6⟩:=hf
 have hx:∀ x∈xs,sc.names.lookup x=some .cell/\scope.names.lookup x=some .free:=fun x hx=>(Bool.and_eq_true_iff.mp (List.all_eq_true.mp f5 x hx)).imp FH FH
 refine Hc hg (M.mk' fd o e1 e2).1 hgl (eX f1) f2 f3 M.pos (M.mk' fd o e1 e2).2 hd0 hk0 ha (cH f4) nd (fun x h=>(hx x h).1) (fun x h=>?_) fun K' p' f fi vm0 l1 l2 F b1 b2 b3 b4 b5 ι cap hv=>?_
 ·exact List.contains_iff_mem.mp (List.all_eq_true.mp f6 _ h)
 ·refine next K' p' f l1 l2 ⟨fi,vm0,F,b1,b2,b3,b4,b5,cap,fun x s h=>?_⟩
  obtain⟨m,av,e,q⟩:=rk h
  obtain⟨v,v1,v2⟩:=hv x av m q
  exact (cQ v av e v1 v2 ((hx x m).2))
theorem D0 (hb:di V) (I:kH V f (aH (lr "_digits2int")) (aO (lr "_digits2int")) (fJ (lr "_digits2int")) [("digits",.val (.dat (.list (l.map .int)))),("inner",.val (.raw (.ref f))),("n",ag n)])
  (hn:n<=10000) (hl:l.length<=256) (hd:∀ x∈l,ay x<=10000):∀ d,be V (2*d) (.ref f) (sV d n l):=by
 intro d
 induction d with
 | zero =>
  exact fun as G K h=>by
   obtain⟨L,R,_,h1,_,h3,_⟩:=h
   exact absurd h1 (Nat.not_lt.mpr h3)
 | succ d ih =>
  exact fun as G K h=>by
   obtain⟨L,R,zq,q1,q2,q3,hK⟩:=h;rw [zq]
   exact I.run (n:=12) (ps:=["L","R"]) (as:=[aI L,aI R]) ((dM hb.bi hb.rf).loc (x:="inner") I.keep (ih)) DZ (by decide +kernel) rfl (Ar hn hl hd q1 q2 q3 hK)
noncomputable def nn (i g:Nat):Ctr:=fun as G K=>∃ (n:Nat) (l:List Int),as=[.dat (.list (l.map .int)),aI n]/\G[g]?=some (.tab i)/\n<=10000/\l.length<=256/\(∀ x∈l,ay x<=10000)/\K (rh (eG n l)) G
theorem At (F:fP V a (aH (bx "_digits2int")) (ao "_digits2int") (cS "_digits2int") .none .none) (M:uH V a i "inner" (pu "_digits2int")) (hb:di V):be V 20 (.ref a) (nn i g):=fun as G K h=>by
 obtain⟨n,l,zq,hg,hn,hl,hd,hK⟩:=h;rw [zq]
 obtain⟨rv,G',c,z⟩:=kE (k:=19) (G:=G) (K:=fun rv G'=>rv=rh (eG n l)/\G'=G) F As (by decide +kernel) (as:=[.dat (.list (l.map .int)),aI n]) rfl fun fd o e1 e2 e3=>by
  refine (cQ (.ret (aI (eG n l))) G ?_ nofun rfl rfl)
  refine HO (V:=V) (body:=aO (lr "_digits2int")) (params:=aH (lr "_digits2int")) (scope:=fJ (lr "_digits2int")) (nm:="inner") (pos:=pu "_digits2int") (xs:=["digits","inner","n"]) (ss:=(ao "_digits2int").drop 1) hg M e1 e2 e3 (by decide +kernel) (by decide +kernel) rfl rfl (fun ι=>rfl) fun K' p' f l1 l2 I=>?_
  have hb':di (V.at K' p'):=hb.at l1
  refine Jp (V:=V.at K' p') (k:=18) (n:=12) ((dM hb'.bi hb'.rf).loc (x:="inner") I.keep (D0 hb' I hn hl hd 9)) ?_
  refine⟨by rw [List.length_map];exact Nat.le_trans hl (by decide),?_⟩
  cases l with
  | nil=>exact⟨rfl,rfl⟩
  | cons x l =>
   refine (am rfl (by rw [List.length_map];exact Nat.le_trans hl (by decide)) (tO 0 ((x::l).length) (by rw [List.length_map];rfl) (Nat.zero_lt_succ _) (Nat.le_refl _) (by rw [Nat.zero_add];exact hl) ?_))
   rw [Aq]
   exact⟨rfl,rfl⟩
 obtain⟨rfl,zq⟩:=z;clear hg;subst zq
 exact (ba _ _ c.call hK)
end
noncomputable def dg (n:Nat):Nat->Nat->List Int
 | 0,_=>[]
 | m+1,x=>((x%2 ^ n:Nat):Int)::dg n m (x / 2 ^ n)
theorem rm {n:Nat}:∀ {m x:Nat},(dg n m x).length=m:=by
 intro m
 induction m with
 | zero =>
  intro ι
  exact rfl
 | succ m ih =>
  intro x
  exact congrArg Nat.succ (ih)
theorem xd {n b:Nat}:∀ {a x:Nat},dg n (a+b) x=dg n a (x%2 ^ (a*n))++dg n b (x / 2 ^ (a*n)):=by
 intro a
 induction a with
 | zero =>
  intro x
  rw [Nat.zero_add,Nat.zero_mul,Nat.pow_zero,Nat.div_one];rfl
 | succ a ih =>
  intro x
  rw [Nat.add_right_comm]
  show ((x%2 ^ n:Nat):Int)::dg n (a+b) (x / 2 ^ n)=((x%2 ^ ((a+1)*n)%2 ^ n:Nat):Int)::(dg n a (x%2 ^ ((a+1)*n) / 2 ^ n)++dg n b (x / 2 ^ ((a+1)*n)))
  rw [Nat.succ_mul,Nat.add_comm (a*n),Nat.pow_add,Nat.mod_mul_right_mod,Nat.mod_mul_right_div_self,<- Nat.div_div_eq_div_mul,ih]
noncomputable def wr {α:Type} (ds:List α) (lo:Nat) (l:List α):List α:=ds.take lo++l++ds.drop (lo+l.length)
section
variable {α:Type} {ds l l1 l2:List α} {lo:Nat} {x:α}
theorem D1 (h:lo+l.length<=ds.length):(wr ds lo l).length=ds.length:=by
 unfold wr
 rw [List.length_append,List.length_append,List.length_take,List.length_drop,Nat.min_eq_left (Nat.le_trans (Nat.le_add_right _ _) h),Nat.add_sub_cancel' h]
theorem HP (h:lo<=ds.length) (h':lo+l1.length<=ds.length):wr (wr ds lo l1) (lo+l1.length) l2=wr ds lo (l1++l2):=by
 unfold wr
 have e2:(ds.take lo++l1).length=lo+l1.length:=by rw [List.length_append,List.length_take,Nat.min_eq_left h]
 rw [List.take_append_of_le_length (Nat.le_of_eq e2.symm),List.take_of_length_le (Nat.le_of_eq e2),List.drop_append,e2,List.drop_eq_nil_of_le (by rw [e2];exact Nat.le_add_right _ _),Nat.add_sub_cancel_left,List.drop_drop,List.nil_append,List.append_assoc (ds.take lo),List.length_append,Nat.add_assoc]
theorem D3 (h:lo<ds.length):wr ds lo [x]=ds.set lo x:=by
 unfold wr
 rw [List.set_eq_take_append_cons_drop,if_pos h,List.append_assoc];rfl
theorem D4 (h:l.length=ds.length):wr ds 0 l=l:=by
 unfold wr
 rw [Nat.zero_add,h,List.drop_length,List.append_nil];rfl
end
noncomputable def HQ (d n q:Nat):Ctr:=fun as G K=>∃ (x L R:Nat) (ds:List PyData),as=[aI x,aI L,aI R]/\G[q]?=some (.lst ds)/\L<R/\R<=ds.length/\ds.length<=256/\R<=L+fd d/\x<2 ^ ((R-L)*n)/\K kF (G.set q (.lst (wr ds L ((dg n (R-L) x).map .int))))
theorem xf {a b c a' b' c':Int} (h1:a=a') (h2:b=b') (h3:c=c'):([aI a,aI b,aI c]:List ab)=[aI a',aI b',aI c']:=by rw [h1,h2,h3]
theorem HR {a b a' b':Int} (h1:a=a') (h2:b=b'):([aI a,aI b]:List ab)=[aI a',aI b']:=by rw [h1,h2]
theorem D5 {d n q:Nat} {f:Value} {x L R:Nat} {ds:List PyData} {G:List GObj} {K:RV->List GObj->Prop} (hn:n<=10000) (hg:G[q]?=some (.lst ds)) (h1:L<R) (h2:R<=ds.length) (hl:ds.length<=256) (h3:R<=L+fd (d+1)) (hx:x<2 ^ ((R-L)*n)) (hK:K kF (G.set q (.lst (wr ds L ((dg n (R-L) x).map .int))))) :
  (aj (HE "inner" f (HQ d n q)) 12).ex (fJ (lr "_int2digits")) (aO (lr "_int2digits")) ⟨[("a_digits",.val (.obj q)),("inner",.val (.raw f)),("n",ag n),("x",ag x),("L",ag L),("R",ag R)],G⟩ (dh K):=by
 refine⟨rfl,dZ (fun e=>?_) fun e=>?_⟩
 ·have e:(L:Int)+1=R:=of_decide_eq_true e
  obtain rfl:R=L+1:=Int.ofNat_inj.mp e.symm
  rw [Nat.add_sub_cancel_left] at hK hx
  rw [Nat.one_mul] at hx
  have e1:dg n 1 x=[(x:Int)]:=by show [((x%2 ^ n:Nat):Int)]=_;rw [Nat.mod_eq_of_lt hx]
  rw [e1,List.map_singleton,D3 h2] at hK
  exact bR hg ⟨(am (Int.natCast_nonneg _) (Int.ofNat_lt.mpr h2) (Nat.le_trans hl (by decide))),hK⟩
 ·have e:¬ (L:Int)+1=R:=of_decide_eq_false e
  have em:((L:Int)+R).fdiv (2 ^ 1)=((L+R) / 2:Nat):=(Int.ofNat_fdiv (L+R) 2).symm
  have m1:=xb h1 e
  have hf:=sT h3 m1
  generalize (L+R) / 2=m at *
  have m3:m-L<=256:=Nat.le_trans (Nat.sub_le _ _) (Nat.le_trans (Nat.le_of_lt m1.2) (Nat.le_trans h2 hl))
  have es:(((L:Int)+R).fdiv (2 ^ 1)-L)*n=((m-L)*n:Nat):=by rw [em,<- Int.natCast_sub (Nat.le_of_lt m1.1),<- Int.natCast_mul]
  have bm:ay (((L:Int)+R).fdiv (2 ^ 1)-L)<=9:=by
   rw [em,<- Int.natCast_sub (Nat.le_of_lt m1.1)]
   exact aV (Int.natCast_nonneg _) (Int.ofNat_lt.mpr (Nat.lt_of_le_of_lt m3 (by decide)))
  have bn:ay (n:Int)<=14:=aV (Int.natCast_nonneg _) (Int.ofNat_lt.mpr (Nat.lt_of_le_of_lt hn (by decide)))
  have eu:(x:Int).fdiv (2 ^ ((((L:Int)+R).fdiv (2 ^ 1)-L)*n).toNat)=((x / 2 ^ ((m-L)*n):Nat):Int):=by rw [es,Int.toNat_natCast,cI,Int.natCast_ediv,bj]
  have el:Builtin.bitXor x ((x:Int).fdiv (2 ^ ((((L:Int)+R).fdiv (2 ^ 1)-L)*n).toNat)*2 ^ ((((L:Int)+R).fdiv (2 ^ 1)-L)*n).toNat)=((x%2 ^ ((m-L)*n):Nat):Int):=by
   rw [es,Int.toNat_natCast,cI,An (Int.natCast_nonneg _),Int.natCast_emod,bj]
  have s0:0<=(((L:Int)+R).fdiv (2 ^ 1)-L)*n:=by rw [es];exact Int.natCast_nonneg _
  have e8:R-L=(m-L)+(R-m):=by rw [Nat.add_comm,Nat.sub_add_sub_cancel (Nat.le_of_lt m1.2) (Nat.le_of_lt m1.1)]
  have e9:=hx
  rw [e8,Nat.add_mul,Nat.pow_add] at e9
  have sU:(ay ((x:Int).fdiv (2 ^ ((((L:Int)+R).fdiv (2 ^ 1)-L)*n).toNat)):Int)+(((L:Int)+R).fdiv (2 ^ 1)-L)*n<=2 ^ 27:=by
   rw [eu,es]
   exact pv (a:=256*10000) (Nat.lt_of_le_of_lt (Nat.div_le_self _ _) (Nat.lt_of_lt_of_le hx (Nat.pow_le_pow_right (by decide) (Nat.mul_le_mul (Nat.le_trans (Nat.sub_le _ _) (Nat.le_trans h2 hl)) hn)))) (Nat.le_trans (Nat.add_le_add_left (Nat.mul_le_mul m3 hn) _) (by decide))
  have ll:((dg n (m-L) (x%2 ^ ((m-L)*n))).map PyData.int).length=m-L:=by rw [List.length_map,rm]
  have lL:L+(m-L)=m:=Nat.add_sub_cancel' (Nat.le_of_lt m1.1)
  have lw:=D1 (ds:=ds) (lo:=L) (l:=(dg n (m-L) (x%2 ^ ((m-L)*n))).map PyData.int) (by rw [ll,lL];exact Nat.le_trans (Nat.le_of_lt m1.2) h2)
  have ww:=HP (ds:=ds) (lo:=L) (l1:=(dg n (m-L) (x%2 ^ ((m-L)*n))).map PyData.int) (l2:=(dg n (R-m) (x / 2 ^ ((m-L)*n))).map PyData.int) (Nat.le_trans (Nat.le_of_lt h1) h2) (by rw [ll,lL];exact Nat.le_trans (Nat.le_of_lt m1.2) h2)
  rw [ll,lL,<- List.map_append,<- xd,<- e8] at ww
  rw [<- ww] at hK
  refine (FQ (show (0:Int)<=1 by decide) (Nat.le_trans (Nat.add_le_add bm bn) (by decide)) s0 s0 sU rfl (FZ _ L m ds (xf el rfl em) hg m1.1 (Nat.le_trans (Nat.le_of_lt m1.2) h2) hl hf.1 (Nat.mod_lt _ (Nat.two_pow_pos _)) rfl (FY _ m R _ (xf eu em rfl) (List.getElem?_set_self (List.getElem?_eq_some_iff.mp hg).1) m1.2 (by rw [lw];exact h2) (by rw [lw];exact hl) hf.2 ((Nat.div_lt_iff_lt_mul (Nat.two_pow_pos _)).mpr (by rw [Nat.mul_comm];exact e9)) ?_)))
  rw [List.set_set]
  exact hK
section
variable {V:aD} {k n d g i q:Nat} {a f:Addr} {G:List GObj} {K:RV->List GObj->Prop}
theorem Au:Internal.Pos (aH (lr "_int2digits")) ["x","L","R"]:=w7 fun ι ι ι ι=>by kernel_rfl
theorem Av:Internal.Pos (aH (bx "_int2digits")) ["a","n"]:=nj fun ι ι ι=>by kernel_rfl
theorem HS (hb:di V) (I:kH V f (aH (lr "_int2digits")) (aO (lr "_int2digits")) (fJ (lr "_int2digits")) [("a_digits",.val (.obj q)),("inner",.val (.raw (.ref f))),("n",ag n)]) (hn:n<=10000):∀ d,be V (2*d) (.ref f) (HQ d n q):=by
 intro d
 induction d with
 | zero =>
  exact fun as G K h=>by
   obtain⟨x,L,R,ds,_,_,h1,_,_,h3,_⟩:=h
   exact absurd h1 (Nat.not_lt.mpr h3)
 | succ d ih =>
  exact fun as G K h=>by
   obtain⟨x,L,R,ds,zq,hg,q1,q2,hl,q3,hx,hK⟩:=h;rw [zq]
   exact I.run (n:=12) (ps:=["x","L","R"]) (as:=[aI x,aI L,aI R]) ((dM hb.bi hb.rf).loc (x:="inner") I.keep (ih)) Au (by decide +kernel) rfl (D5 hn hg q1 q2 hl q3 hx hK)
noncomputable def jL (n a:Nat):Nat:=(ay a+n-1) / n
noncomputable def nq (i g:Nat):Ctr:=fun as G K=>∃ n a:Nat,as=[aI a,aI n]/\G[g]?=some (.tab i)/\0<n/\n<=10000/\jL n a<=256/\K (.own ((dg n (jL n a) a).map .int)) G
theorem kI {n a:Nat} (hn:0<n):a<2 ^ (jL n a*n):=by
 refine Nat.lt_of_lt_of_le (fu (x:=a) (Nat.le_refl _)) (Nat.pow_le_pow_right (by decide) ?_)
 have h1:=Nat.div_add_mod (ay a+n-1) n
 have h2:=Nat.mod_lt (ay a+n-1) hn
 unfold jL
 rw [Nat.mul_comm]
 omega
theorem de {G:List GObj} {o:GObj}:(G++[o])[G.length]?=some o:=by rw [List.getElem?_append_right (Nat.le_refl _),Nat.sub_self];rfl
theorem pw {G:List GObj} {o o':GObj}:(G++[o]).set G.length o'=G++[o']:=by rw [List.set_append_right _ _ (Nat.le_refl _),Nat.sub_self];rfl
theorem Aw (F:fP V a (aH (bx "_int2digits")) (ao "_int2digits") (cS "_int2digits") .none .none) (M:uH V a i "inner" (mr (d8 (ao "_int2digits") 1))) (hb:di V):be V 20 (.ref a) (nq i g):=fun as G K h=>by
 obtain⟨n,x,zq,hg,h0,hn,hl,hK⟩:=h;rw [zq]
 have hg':(G++[GObj.lst (List.replicate (jL n x) (.int 0))])[g]?=some (.tab i):=by rw [List.getElem?_append_left (List.getElem?_eq_some_iff.mp hg).1];exact hg
 obtain⟨rv,G',c,z⟩:=kE (k:=19) (G:=G) (K:=fun rv G'=>rv=.val (.obj G.length)/\G'=G++[.lst ((dg n (jL n x) x).map .int)]) F Av (by decide +kernel) (as:=[aI x,aI n]) rfl fun fd o e1 e2 e3=>by
  refine (cQ (.ret (.obj G.length)) _ ?_ nofun rfl rfl)
  refine fO.cons (st1:=⟨[("a",ag x),("n",ag n),("a_digits",.lst (List.replicate (jL n x) (.int 0)))],G⟩) (vn (k:=18) (n:=12) (dM hb.bi hb.rf) ?_) (fO.share (y:="a_digits") rfl ?_)
  ·have e:((ay x:Int)+n-1).fdiv n=(jL n x:Nat):=by
    rw [<- Int.natCast_add,<- Int.natCast_one,<- Int.natCast_sub (Nat.le_trans h0 (Nat.le_add_left _ _)),<- Int.ofNat_fdiv];rfl
   have bn:ay (n:Int)<=14:=aV (Int.natCast_nonneg _) (Int.ofNat_lt.mpr (Nat.lt_of_le_of_lt hn (by decide)))
   have l1:((ay x:Int)+n-1).fdiv n<=20000/\-20000<=((ay x:Int)+n-1).fdiv n:=by
    rw [e];exact⟨Int.ofNat_le.mpr (Nat.le_trans hl (by decide)),Int.le_trans (by decide) (Int.natCast_nonneg _)⟩
   refine (lu (Int.ofNat_ne_zero.mpr (Nat.ne_of_gt h0)) (Nat.le_trans bn (by decide)) l1 rfl ?_)
   show (⟨[("a",ag x),("n",ag n),("a_digits",.lst (List.replicate (((ay x:Int)+n-1).fdiv n).toNat (.int 0)))],G⟩:St)=_
   rw [e,Int.toNat_natCast]
  ·refine HO (V:=V) (body:=aO (lr "_int2digits")) (params:=aH (lr "_int2digits")) (scope:=fJ (lr "_int2digits")) (nm:="inner") (pos:=mr (d8 (ao "_int2digits") 1)) (xs:=["a_digits","inner","n"]) (ss:=(ao "_int2digits").drop 2) hg' M e1 e2 e3 (by decide +kernel) (by decide +kernel) rfl rfl (fun ι=>rfl) fun K' p' f l1 l2 I=>?_
   have hb':di (V.at K' p'):=hb.at l1
   refine Jp (V:=V.at K' p') (k:=18) (n:=12) ((dM hb'.bi hb'.rf).loc (x:="inner") I.keep (HS hb' I hn 9)) ?_
   by_cases hx:x=0
   ·rw [hx]
    have e0:jL n 0=0:=Nat.div_eq_of_lt (by show 0+n-1<n;rw [Nat.zero_add];exact Nat.sub_lt h0 (by decide))
    rw [e0]
    exact⟨rfl,rfl⟩
   ·have ht:((x:Int) != 0)=true:=by rw [bne_iff_ne];exact Int.ofNat_ne_zero.mpr hx
    have hd:0<jL n x:=Nat.pos_of_ne_zero fun z=>by
     have:=kI (a:=x) h0
     rw [z,Nat.zero_mul,Nat.pow_zero] at this
     exact hx (Nat.lt_one_iff.mp this)
    refine fY ht ⟨rfl,fY (by show (true&&!fX _ _)=true;rw [wE de];rfl) (bR de ⟨by rw [List.length_replicate];exact Nat.le_trans hl (by decide),(FY x 0 (jL n x) _ (xf rfl rfl (by rw [List.length_replicate])) de hd (by rw [List.length_replicate];exact Nat.le_refl _) (by rw [List.length_replicate];exact hl) (by rw [Nat.zero_add];exact hl) (kI h0) ?_)⟩)⟩
    refine⟨rfl,?_⟩
    show (G++[GObj.lst _]).set G.length _=_
    rw [pw,D4 (by rw [List.length_map,rm,List.length_replicate];rfl)];rfl
 obtain⟨rfl,rfl⟩:=z
 exact (ba _ _ ((c.own rfl id).call) hK)
end
noncomputable def gP (es:List DictEntry):Gl:=((LI es).addFn "_int2digits" (nq 1 1)).addFn "_digits2int" (nn 2 2)
section
variable {n:Nat} {b d:Int} {l:List Int}
noncomputable def ql (n:Nat) (b:Int):List Int->List Int
 | []=>[]
 | d::l=>(eG n l%b*2 ^ n+d) / b::ql n b l
noncomputable def HT (n:Nat) (l:List Int):Prop:=∀ d∈l,0<=d/\d<2 ^ n
theorem rq:∀ {l:List Int},(ql n b l).length=l.length:=by
 intro l
 induction l with
 | nil =>
  exact rfl
 | cons d l ih =>
  exact congrArg Nat.succ (ih)
theorem BU {r p:Int} (hr:r<b) (hd:d<p) (hp:0<p):r*p+d<b*p:=by
 have:=Int.mul_le_mul_of_nonneg_right (Int.add_one_le_of_lt hr) (Int.le_of_lt hp)
 rw [Int.add_mul,Int.one_mul] at this
 omega
theorem sW (hb:0<b):d+2 ^ n*eG n l=(eG n l%b*2 ^ n+d)%b+b*((eG n l%b*2 ^ n+d) / b+2 ^ n*(eG n l / b)):=by
 have h1:=Int.mul_ediv_add_emod (eG n l) b
 have h2:=Int.mul_ediv_add_emod (eG n l%b*2 ^ n+d) b
 generalize eG n l / b=A at *
 generalize eG n l%b=r at *
 generalize (r*2 ^ n+d) / b=A2 at *
 rw [<- h1]
 grind
theorem HU (hb:0<b):∀ {l:List Int},eG n (ql n b l)=eG n l / b:=by
 intro l
 induction l with
 | nil =>
  exact (Int.zero_ediv b).symm
 | cons d l ih =>
  show (eG n l%b*2 ^ n+d) / b+2 ^ n*eG n (ql n b l)=(d+2 ^ n*eG n l) / b
  rw [ih]
  exact ((Int.ediv_emod_unique hb).mpr (am ((sW hb).symm) (Int.emod_nonneg _ (Int.ne_of_gt hb)) (Int.emod_lt_of_pos _ hb))).1.symm
theorem D6 (hb:0<b):eG n (d::l)%b=(eG n l%b*2 ^ n+d)%b :=
 ((Int.ediv_emod_unique hb).mpr (am ((sW hb).symm) (Int.emod_nonneg _ (Int.ne_of_gt hb)) (Int.emod_lt_of_pos _ hb))).2
theorem xg (hb:0<b):∀ {l:List Int},HT n l->HT n (ql n b l):=by
 intro l
 induction l with
 | nil =>
  intro ι
  exact nofun
 | cons d l ih =>
  intro h
  exact fun x hx=>by
   have hd:=h d (.head _)
   rcases List.mem_cons.mp hx with rfl | hx
   ·exact⟨Int.ediv_nonneg (Int.add_nonneg (Int.mul_nonneg (Int.emod_nonneg _ (Int.ne_of_gt hb)) (Int.le_of_lt pow_pos)) hd.1) (Int.le_of_lt hb),Int.ediv_lt_of_lt_mul hb (by rw [Int.mul_comm (2 ^ n) b];exact BU (Int.emod_lt_of_pos _ hb) hd.2 pow_pos)⟩
   ·exact ih (fun y hy=>h y (.tail _ hy)) x hx
theorem D7:∀ {m x:Nat},HT n (dg n m x):=by
 intro m
 induction m with
 | zero =>
  intro ι
  exact nofun
 | succ m ih =>
  intro x
  exact fun y hy=>by
   rcases List.mem_cons.mp hy with rfl | hy
   ·exact⟨Int.natCast_nonneg _,bj▸Int.ofNat_lt.mpr (Nat.mod_lt _ (Nat.two_pow_pos _))⟩
   ·exact ih y hy
theorem HV:∀ {m x:Nat},x<2 ^ (m*n)->eG n (dg n m x)=x:=by
 intro m
 induction m with
 | zero =>
  intro x h
  rw [Nat.zero_mul,Nat.pow_zero] at h
  rw [Nat.lt_one_iff.mp h];rfl
 | succ m ih =>
  intro x h
  show ((x%2 ^ n:Nat):Int)+2 ^ n*eG n (dg n m (x / 2 ^ n))=x
  rw [Nat.succ_mul,Nat.pow_add] at h
  rw [ih ((Nat.div_lt_iff_lt_mul (Nat.two_pow_pos _)).mpr h),<- bj,<- Int.natCast_mul,<- Int.natCast_add,Nat.mod_add_div]
end
section
variable {es:List DictEntry} {G:List GObj} {K:RV->List GObj->Prop}
noncomputable def ρP (a b:Int) (n:Nat) (ad:PyData) (r:Int) (L:List PyData):Rho:=[("a",ag a),("b",ag b),("n",ag n),("a_digits",.val (.dat ad)),("r",ag r),("q_digits",.lst L)]
theorem Ax {a b:Int} {n:Nat} {ad:PyData} {K:Fl->St->Prop} (hn:n<=7000) (hb:2 ^ n<=b+b/\b<2 ^ n) (h0:0<b):∀ (rem l:List Int) (r:Int) (L:List PyData),HT n rem->r=eG n l%b->L=(ql n b l).reverse.map .int->rem.length+l.length<=256 ->
  (∀ r' L',r'=eG n (rem.reverse++l)%b->L'=(ql n b (rem.reverse++l)).reverse.map .int->K .next ⟨ρP a b n ad r' L',G⟩) ->
  db (jv (cS "_divmod_pos") false (jx (d8 (ao "_divmod_pos") 4))) ((aj (gP es) 11).ex (cS "_divmod_pos") (b8 (d8 (ao "_divmod_pos") 4))) (rem.map .int) ⟨ρP a b n ad r L,G⟩ K:=by
 intro rem
 induction rem with
 | nil=>exact fun l r L ι h1 h2 ι hK=>hK r L h1 h2
 | cons d rem ih =>
  intro l r L hd h1 h2 h3 hK
  have hdd:=hd d (.head _)
  have hr:0<=r/\r<b:=by rw [h1];exact⟨Int.emod_nonneg _ (Int.ne_of_gt h0),Int.emod_lt_of_pos _ h0⟩
  have bl:L.length<=256:=by rw [h2,List.length_map,List.length_reverse,rq];exact Nat.le_trans (Nat.le_add_left _ _) h3
  refine (am (Int.natCast_nonneg _) ?_ (Ao hn hb h0 ⟨?_,BU hr.2 hdd.2 pow_pos⟩ (am rfl (Nat.le_trans bl (by decide)) ?_)))
  ·exact Int.ofNat_le.mpr (Nat.le_trans (Nat.add_le_add (aV hr.1 (Int.lt_trans hr.2 hb.2)) (Nat.le_refl n)) (Nat.le_trans (Nat.add_le_add hn hn) (by decide)))
  ·exact Int.add_nonneg (Int.mul_nonneg hr.1 (Int.le_of_lt pow_pos)) hdd.1
  ·refine ih (d::l) _ _ (fun y hy=>hd y (.tail _ hy)) ?_ ?_ ?_ fun r' L' e1 e2=>hK r' L' ?_ ?_
   ·rw [D6 h0,<- h1];rfl
   ·rw [h2]
    show _=((((eG n l%b*2 ^ n+d) / b::ql n b l)).reverse).map PyData.int
    rw [List.reverse_cons,List.map_append,<- h1];rfl
   ·rw [List.length_cons,<- Nat.add_assoc,Nat.add_right_comm];exact h3
   ·rw [List.reverse_cons,List.append_assoc];exact e1
   ·rw [List.reverse_cons,List.append_assoc];exact e2
theorem kJ {b:Nat} (h:0<b):0<ay b/\2 ^ ay b<=b+b/\b<2 ^ ay b:=by
 have h0:b≠0:=Nat.ne_of_gt h
 have e:ay b=b.log2+1:=if_neg fun q=>h0 (Int.ofNat_inj.mp (eq_of_beq q))
 rw [e,Nat.pow_succ,Nat.mul_two]
 have h1:=Nat.log2_self_le h0
 exact (am (Nat.succ_pos _) (Nat.add_le_add h1 h1) (by rw [<- Nat.mul_two,<- Nat.pow_succ];exact Nat.lt_log2_self))
theorem rr {l:List Int}:ws (l.map .int)=true:=List.all_eq_true.mpr fun d hd=>by
 obtain⟨i,_,zq⟩:=List.mem_map.mp hd;rw [<- zq]
 all_goals rfl
theorem HW {a b:Nat} (h0:0<b) (hn:ay b<=7000) (hl:jL (ay b) a<=256) (g1:G[1]?=some (.tab 1)) (g2:G[2]?=some (.tab 2)) (hK:K (BT ((a:Int) / b) ((a:Int)%b)) G):eE (gP es) "_divmod_pos" ["a","b"] [aI a,aI b] G K:=by
 have h0':(0:Int)<b:=Int.ofNat_lt.mpr h0
 obtain⟨hnp,hb1,hb2⟩:=kJ h0
 have hb:(2:Int) ^ ay b<=(b:Int)+b/\(b:Int)<2 ^ ay b:=by
  rw [<- bj];exact⟨Int.ofNat_le.mpr hb1,Int.ofNat_lt.mpr hb2⟩
 have en:=HV (kI (a:=a) hnp)
 have ll:(dg (ay b) (jL (ay b) a) a).reverse.length<=256:=by rw [List.length_reverse,rm];exact hl
 generalize hD:dg (ay b) (jL (ay b) a) a=D at *
 have dD:HT (ay b) D:=hD▸D7
 refine⟨rfl,(oh _ a (HR rfl rfl) g1 hnp (Nat.le_trans hn (by decide)) hl rr ?_)⟩
 rw [hD]
 show db _ _ (D.map PyData.int).reverse _ _
 rw [<- List.map_reverse]
 refine Ax hn hb h0' _ [] 0 [] (fun y hy=>dD y (List.mem_reverse.mp hy)) (Int.zero_emod _).symm rfl ll fun r' L' e1 e2=>?_
 rw [List.reverse_reverse,List.append_nil] at e1 e2
 have l8:L'.length<=256:=by rw [e2,List.length_map,List.length_reverse,rq,<- List.length_reverse];exact ll
 rw [<- en,<- HU h0',<- e1] at hK
 exact⟨Nat.le_trans l8 (by decide),(tP (ay b) (ql (ay b) b D) (by rw [List.map_reverse] at e2;rw [e2,List.reverse_reverse];rfl) g2 (Nat.le_trans hn (by decide)) (by rw [rq,<- List.length_reverse];exact ll) (fun x hx=>Nat.le_trans (aV (xg h0' dD x hx).1 (xg h0' dD x hx).2) (Nat.le_trans hn (by decide))) hK)⟩
end
set_option backward.match.sparseCases false in
noncomputable def Kj (n:Str):List Stmt:=(LH.main.body.findSome? fun s=>match s with
 | .ClassDef m _ _ b _ _ _ _ _ _ _=>bif m==n then some b else none
 | _=>none).getD []
noncomputable def Ay (c f:Str):Option (Arguments×List Stmt×Scope):=w8 (Kj c) f
noncomputable abbrev hD (f:Str):Option (Arguments×List Stmt×Scope):=Ay "Headers" f
structure HX (V:aD):Prop where
 base:di V
 ty:Bi V "type" (.type "type")
 st:Bi V "str" (.type "str")
 rn:∃ r,V.mg "_name_disallowed_re"=some (.ref r)/\Hb V r
 rv:∃ r,V.mg "_value_disallowed_re"=some (.ref r)/\Hb V r
section
variable {V:aD} {k n:Nat} {a f:Addr} {G G':List GObj} {g:Gl} {args:Arguments} {b:List Stmt} {sc:Scope} {ps:List Str} {as:List ab} {K:RV->List GObj->Prop}
theorem an.addVal {x:Str} {av:ab} {v:Value} (H:an V k g) (h:V.mg x=some v) (r:∀ γ B,VR γ B v av):an V k { g with val:=(x,av)::g.val } :=
 { H with val:=fun y u e=>(lookup_cons e).elim (fun e=>by obtain⟨zq,zq⟩:=e;clear e;subst zq;rw [zq];exact (aa v (.inl h) r)) (H.val y u) }
theorem xh {dV kV:Value} {kw:List (Str×PyData)} {binds:List (Str×ab)} {fl:Fl} (F:fP V a args b sc dV kV) (hs:bS sc (binds.map (·.1))=true) (hf:fl≠.cont) (bd:∀ fd:FuncData,fd.params=args->fd.defaults=dV->fd.kwdefaults=kV->fT V fd as kw binds) (h:∀ fd,fO V k fd b sc ⟨bE [] binds,G⟩ fl G'):bp V (k+1) a as kw G fl.rv G':=by
 obtain⟨fd,o,h1,h2,h3,h4,h5,h6,h7,h8,h9,h10,h11,h12⟩:=F.ex
 obtain⟨s1,s2,s3,s4,s5⟩:=sO hs
 clear F hs;subst h6
 exact ic (ρ0:=[]) ⟨(aa o h1 h3),h8,h9,h12,s1,s3,s4⟩ h5 h7 (bd fd h4 h10 h11) (fun w ι=>j6 s2) (fun p hp=>s5 _ (List.mem_map_of_mem hp)) hf (h fd)
noncomputable def Mf (fd:FuncData) (args:Arguments) (dV kV:Value):FuncData:={ fd with params:=args,defaults:=dV,kwdefaults:=kV }
theorem nt {fd:FuncData} {dV kV:Value} (e1:fd.params=args) (e2:fd.defaults=dV) (e3:fd.kwdefaults=kV):Mf fd args dV kV=fd:=by
 subst e1;subst e2;subst e3;rfl
set_option backward.match.sparseCases false in
noncomputable def LL:List Stmt:=match d8 (aO (hD "_convert_string_type")) 0 with
 | .If _ b _ _=>b
 | _=>[]
noncomputable def ctrCv:Ctr:=fun as G K=>∃ (u:ab) (y:Str) (b:Bool),as=[u,az y,.dat (.bool b)]/\cU y=true/\K (.val (az y)) G
theorem xi (H:HX V) (F:fP V a (aH (hD "_convert_string_type")) (aO (hD "_convert_string_type")) (fJ (hD "_convert_string_type")) .none .none):pf V 5 (.ref a) ctrCv:=fun u v b G K h=>by
 obtain⟨u,y,b,e,hy,hK⟩:=h
 cases e
 have tl:∀ (r:Addr) (re:Hb V r),∀ ρ:Rho,af ρ "regex"=some (.val (.raw (.ref r)))->af ρ "value"=some (aE y)->Ex V 4 ((LL).drop 1) (fJ (hD "_convert_string_type")) ⟨ρ,G⟩ (.ret (az y)) ⟨ρ,G⟩:=fun r re ρ h1 h2 =>
  fV (qB (um h1 h2 re hy) si) (oK (oM (Bx h2)))
 obtain⟨ρ',hx⟩:∃ ρ',Ex V 4 LL (fJ (hD "_convert_string_type")) ⟨[("self",.val u),("value",aE y),("name",.val (.dat (.bool b)))],G⟩ (.ret (az y)) ⟨ρ',G⟩:=by
  cases b with
  | true =>
   obtain⟨r,h1,h2⟩:=H.rn
   exact⟨_,fV (vn (k:=3) (n:=9) ((dM H.base.bi H.base.rf).addVal (av:=.raw (.ref r)) h1 fun ι ι=>rfl) ⟨rfl,rfl⟩) (tl r h2 _ rfl rfl)⟩
  | false =>
   obtain⟨r,h1,h2⟩:=H.rv
   exact⟨_,fV (vn (k:=3) (n:=9) ((dM H.base.bi H.base.rf).addVal (av:=.raw (.ref r)) h1 fun ι ι=>rfl) ⟨rfl,rfl⟩) (tl r h2 _ rfl rfl)⟩
 refine (ba (.val (az y)) G (bp.call (xh (k:=4) (fl:=.ret (az y)) (binds:=[("self",u),("value",az y),("name",.dat (.bool b))]) F (show bS _ ["self","value","name"]=true by decide +kernel) nofun (fun fd e1 e2 e3 A w G vs kvs bs hv hk=>?_) fun fd=>Ex.F (st':=⟨ρ',G⟩) (oK (vX (Ha (wg (sl:=aE y) (by decide +kernel) H.ty rfl Dt rfl) (o5 (by decide +kernel) H.st) rfl) hx)))) hK)
 cases hv with | @cons v0 _ _ _ z1 hv=>cases hv with | @cons v1 _ _ _ z2 hv =>
 cases hv
 cases hk with | @cons kv _ _ _ z3 hk =>
 cases hk
 obtain⟨q,z3⟩:=z3
 obtain⟨kn,kv⟩:=kv
 replace q:kn=("name":Str):=q
 rw [q]
 rw [<- nt e1 e2 e3,show bindArgs _ ⟨[v0,v1],[("name",kv)]⟩=(pure [(("self":Str),v0),(("value":Str),v1),(("name":Str),kv)]:Sem (List (Str×Value))) by kernel_rfl]
 exact Do.pure (a7 bs rfl rfl (.cons ⟨rfl,z1⟩ (.cons ⟨rfl,z2⟩ (.cons ⟨rfl,z3⟩ .nil))))
end
noncomputable def pr (p:Str×Str):PyData:=.tuple [.str p.1,.str p.2]
noncomputable def gH:Gl:={ gl0 with mkw:=[(1,"_convert_string_type",ctrCv)],fld:=[(1,"_headers")] }
noncomputable abbrev nu (g:Gl) (c f:Str) (ps:List Str):Ctr:=sN g 12 (fJ (Ay c f)) (aO (Ay c f)) ps
noncomputable def nv (G:List GObj) (j q:Nat) (items:List (Str×Str)):Prop:=G[j]?=some (.inst 1 [("_headers",.obj q)])/\G[q]?=some (.lst (items.map pr))
noncomputable abbrev low (x:Str):Str:=Txt.lower x
noncomputable def d9 (items:List (Str×Str)) (n:Str):Option Str:=(items.find? fun p=>low p.1==low n).map (·.2)
noncomputable def HY (o:Option Str):PyData:=match o with
 | some v=>.str v
 | none=>.none
section
variable {G:List GObj} {j q:Nat} {items:List (Str×Str)} {K:RV->List GObj->Prop} {n v:Str}
theorem Az (h:nv G j q items) (hl:(items.map pr).length<=lim) (hK:K (rh (items.map pr).length) G):nu gH "Headers" "__len__" ["self"] [.obj j] G K :=
 ⟨rfl,aw h.1 (bR h.2 ⟨hl,hK⟩)⟩
theorem kK {G:List GObj} {q:Nat} {o x:GObj} (h:G[q]?=some o):(G.set q x).set q o=G:=by
 rw [List.set_set]
 obtain⟨h1,h2⟩:=List.getElem?_eq_some_iff.mp h
 rw [<- h2];exact List.set_getElem_self h1
theorem nw {G:List GObj} {q:Nat} {o:GObj} (h:G[q]?=some o):(G.set q .gone)[q]?=some .gone:=List.getElem?_set_self (List.getElem?_eq_some_iff.mp h).1
noncomputable def ρG (j:Nat) (n:Str):Rho:=[("self",.val (.obj j)),("name",aE n),("default",.val (.dat .none))]
noncomputable def Kk (x:Str):Bool:=decide (x.length<=lim)&&cU x&&cU (low x)&&PyData.strOk (low x)
structure BV (x:Str):Prop where
 len:x.length<=lim
 c:cU x=true
 cl:cU (low x)=true
 s:PyData.strOk (low x)=true
theorem rt {x:Str} (h:Kk x=true):BV x:=by
 obtain⟨h,h4⟩:=Bool.and_eq_true_iff.mp h
 obtain⟨h,h3⟩:=Bool.and_eq_true_iff.mp h
 obtain⟨h1,h2⟩:=Bool.and_eq_true_iff.mp h
 exact⟨of_decide_eq_true h1,h2,h3,h4⟩
theorem BW {x:Str} (h:PyData.strOk x=true):shaped (.str x)=true:=Bool.and_eq_true_iff.mpr ⟨h,rfl⟩
theorem hM {x y:Str} (h:PyData.strOk x=true) (h':PyData.strOk y=true):b9 (.str x) (.str y)=true:=Bool.and_eq_true_iff.mpr ⟨BW h,BW h'⟩
theorem xj {G0:List GObj} {K:Fl->St->Prop}:∀ {items:List (Str×Str)},PyData.strOk n=true->(∀ p∈items,BV p.1)->(∀ fl ρ,(match items.find? fun p=>low p.1==n with | some p=>fl=.ret (az p.2) | none=>fl=.next/\ρ=ρG j n)->K fl ⟨ρ,G0⟩) ->
  db (jv (fJ (hD "get")) false (jx (d8 (aO (hD "get")) 1))) ((aj gH 11).ex (fJ (hD "get")) (b8 (d8 (aO (hD "get")) 1))) (items.map pr) ⟨ρG j n,G0⟩ K:=by
 intro items
 induction items with
 | nil=>exact fun ι ι hK=>hK _ _ ⟨rfl,rfl⟩
 | cons p items ih =>
  intro hn hl hK
  rw [List.find?_cons] at hK
  refine (a7 rfl ((hl p (.head _)).len) (hM (hl p (.head _)).s hn) (dZ (fun e=>?_) fun e=>?_))
  ·have e:(low p.1==n)=true:=e
   rw [e] at hK
   exact hK _ _ rfl
  ·have e:(low p.1==n)=false:=e
   rw [e] at hK
   exact ih hn (fun x hx=>hl x (.tail _ hx)) hK
noncomputable def px (items:List (Str×Str)):Prop:=(∀ p∈items,BV p.1)/\(items.map pr).length<=lim
theorem xk (h:nv G j q items) (ho:px items) (hn:BV n) (hK:K (.val (.dat (HY (d9 items n)))) G):(aj gH 12).ex (fJ (hD "get")) (aO (hD "get")) ⟨ρG j n,G⟩ (dh K):=by
 refine aw h.1 ⟨hn.len,(cA _ _ _ rfl hn.cl (aw h.1 (bR h.2 (xj hn.s ho.1 fun fl ρ hf=>iw (nw h.2) ?_))))⟩
 rw [kK h.2]
 unfold d9 at hK
 cases q:items.find? fun p=>low p.1==low n with
 | some p =>
  rw [q] at hf hK
  have zq:=hf;rw [zq]
  exact hK
 | none =>
  rw [q] at hf hK
  obtain⟨rfl,zq⟩:=hf;rw [zq]
  exact hK
set_option backward.match.sparseCases false in
noncomputable def uI (d:Option (Arguments×List Stmt×Scope)):Expr:=match d8 (aO d) 0 with
 | .Return (some e) _=>e
 | _=>.Constant .none 0 ⟨0,0,0,0⟩
noncomputable def ms (e:Expr):Option (Expr×Expr×Scope):=match e with
 | .ListComp elt [g] sc _=>some (elt,g.target,sc)
 | _=>none
noncomputable def D8 (d:Option (Arguments×List Stmt×Scope)):Scope:=match ms (uI d) with
 | some x=>x.2.2
 | none=>default
noncomputable def Kl (d:Option (Arguments×List Stmt×Scope)):Expr:=match ms (uI d) with
 | some x=>x.1
 | none=>.Constant .none 0 ⟨0,0,0,0⟩
noncomputable def HZ (d:Option (Arguments×List Stmt×Scope)):Expr:=match ms (uI d) with
 | some x=>x.2.1
 | none=>.Constant .none 0 ⟨0,0,0,0⟩
noncomputable def ctrGet:Ctr:=fun as G K=>∃ j q n items,as=[.obj j,az n]/\nv G j q items/\px items/\BV n/\K (.val (.dat (HY (d9 items n)))) G
noncomputable def gO (m:Nat):Obj:={ cls:=.type "tuple",data:=.seq #[.none] m }
theorem get_bind {V:aD} {fd:FuncData} {m:Nat} {u w:ab} (e1:fd.params=aH (hD "get")) (e2:fd.defaults=.ref 225) (e3:fd.kwdefaults=.none) (hd:V.K 225=some (gO m)):fT V fd [u,w] [] [("self",u),("name",w),("default",.dat .none)]:=fun A w G vs kvs bs hv hk Q E hQ=>by
 cases hv with | @cons v0 _ _ _ z1 hv=>cases hv with | @cons v1 _ _ _ z2 hv =>
 cases hv
 cases hk
 rw [<- nt e1 e2 e3]
 refine (PySem.W.Looks.of_peek (K:=([(225,gO m)]:Frag)) (M:=model V.prog V.w) (r:=([("self",v0),("name",v1),("default",.none)]:List (Str×Value))) (fun b o e=>?_) (by kernel_rfl)).here (hQ _ w (Nx.refl _) (a7 bs rfl rfl (.cons ⟨rfl,z1⟩ (.cons ⟨rfl,z2⟩ (.cons ⟨rfl,Rd.none⟩ .nil)))))
 rw [List.lookup_cons] at e
 cases z:b==225 with
 | true=>rw [z] at e;cases e;rw [eq_of_beq z];exact bs.K _ _ hd
 | false=>rw [z] at e;cases e
theorem AA {V:aD} {a:Addr} {m:Nat} (H:an V 5 gH) (F:fP V a (aH (hD "get")) (aO (hD "get")) (fJ (hD "get")) (.ref 225) .none) (hd:V.K 225=some (gO m)):be V 7 (.ref a) ctrGet:=fun as G K h=>by
 obtain⟨j,q,n,items,zq,h1,h2,h3,hK⟩:=h;rw [zq]
 obtain⟨rv,G',c,z⟩:=pn (K:=K) (n:=12) (binds:=[("self",.obj j),("name",az n),("default",.dat .none)]) (as:=[.obj j,az n]) (kw:=[]) H F (show bS _ ["self","name","default"]=true by decide +kernel) (fun fd e1 e2 e3=>get_bind e1 e2 e3 hd) (xk h1 h2 h3 hK)
 exact (ba rv G' c.call z)
theorem uJ {G0:List GObj}:∀ {items:List (Str×Str)} {K:List PyData->St->Prop},K (items.map fun p=>.str p.1) ⟨[],G0⟩->dK (jv (D8 (hD "keys")) false (HZ (hD "keys"))) (eB (aj gH 10) (D8 (hD "keys")) []) ((aj gH 10).evD (D8 (hD "keys")) (Kl (hD "keys"))) (items.map pr) ⟨[],G0⟩ K:=by
 intro items
 induction items with
 | nil=>exact fun h=>h
 | cons p items ih=>exact fun h=>⟨rfl,ih h⟩
theorem AB (h:nv G j q items) (hl:(items.map pr).length<=lim) (hK:K (.val (.dat (.list (items.map fun p=>.str p.1)))) G):nu gH "Headers" "keys" ["self"] [.obj j] G K :=
 ⟨rfl,aw h.1 (bR h.2 ⟨hl,uJ (iw (nw h.2) (by rw [kK h.2];exact hK))⟩)⟩
end
noncomputable def LM:Gl:=gH.addMe 1 "get" ctrGet
section
variable {V:aD} {a:Addr} {m:Nat} {G:List GObj} {j q:Nat} {items:List (Str×Str)} {K:RV->List GObj->Prop} {n v:Str}
theorem D9 (h:nv G j q items) (ho:px items) (hn:BV n) (hv:cU v=true) (hs:∀ u,d9 items n=some u->K (.val (az u)) G) (hno:d9 items n=none->K (.val (az v)) (G.set q (.lst (items.map pr++[pr (n,v)])))):nu LM "Headers" "setdefault" ["self","name","value"] [.obj j,az n,az v] G K:=by
 refine⟨rfl,aS h.1 (oj j q n items rfl h ho hn ?_)⟩
 cases z:d9 items n with
 | some u=>exact hs u z
 | none=>exact aw h.1 (kz h.2 (aw h.1 (cA _ n true rfl hn.c (aw h.1 (cA _ v false rfl hv (bR h.2 ⟨ho.2,hno z⟩))))))
theorem uK {k:Nat} {sc:Scope} {st st1:St} {e:Expr} {p:PySem.Pos} {ds:List PyData} (h:Ev V k e sc st (.own ds) st1):eM V k (.Return (some e) p) sc st (.ret (.obj st1.G.length)) ⟨st1.ρ,st1.G++[.lst ds]⟩:=fun c w r Q E hQ=>wpAny_Return_some (h c w r _ E fun v w1 n1 z1=>by
 obtain⟨w2,n2,vm2,F2,s2,b2,v2⟩:=z1.rel.bs.addLst z1.x
 rw [<- s2]
 exact hQ _ w2 (n1.trans n2) ⟨z1.rel.after n2 b2 F2 vm2,(aa v rfl v2)⟩)
theorem nz (ds:List PyData):(List.range ds.length).filterMap (ds[·]?)=ds:=by
 induction ds with
 | nil=>rfl
 | cons d ds ih =>
  rw [List.length_cons,List.range_succ_eq_map,List.filterMap_cons,List.filterMap_map]
  exact congrArg (d::·) ih
theorem xl (ds:List PyData):pick ds none none none=ds:=by
 unfold pick
 rw [sliceBounds_plain]
 show (sliceRange ((0:Nat):Int) ds.length 1).filterMap _=_
 rw [sliceRange_one,Nat.sub_zero,show (fun x=>0+x)=(id:Nat->Nat) from funext Nat.zero_add,List.map_id]
 exact nz ds
noncomputable def ctrItems:Ctr:=fun as G K=>∃ j q items,as=[.obj j]/\nv G j q items/\px items/\K (.own (items.map pr)) G
theorem uL:Internal.Pos (aH (hD "items")) ["self"]:=gZ fun ι ι=>by kernel_rfl
theorem uM (H:an V 5 gH) (F:fP V a (aH (hD "items")) (aO (hD "items")) (fJ (hD "items")) .none .none):be V 7 (.ref a) ctrItems:=fun as G K h=>by
 obtain⟨j,q,items,zq,h,ho,hK⟩:=h;rw [zq]
 obtain⟨rv,G',c,z⟩:=kE (k:=6) (G:=G) (K:=fun rv G'=>rv=.val (.obj G.length)/\G'=G++[.lst (items.map pr)]) F uL (by decide +kernel) (as:=[.obj j]) rfl fun fd o e1 e2 e3=>by
  have hw:(aj gH 12).ev (fJ (hD "items")) (uI (hD "items")) ⟨[("self",.val (.obj j))],G⟩ fun rv st1=>rv=.own (items.map pr)/\st1.G=G:=aw h.1 (bR h.2 (a7 (am rfl rfl rfl) nofun ho.2 (by rw [xl];exact⟨rfl,rfl⟩)))
  exact (d7 H 12).ev hw fun rv st1 h1 e=>by
   obtain⟨rfl,e⟩:=e
   have hx:fO V 6 fd (aO (hD "items")) (fJ (hD "items")) ⟨[("self",.val (.obj j))],G⟩ (.ret (.obj st1.G.length)) (st1.G++[.lst (items.map pr)]):=Ex.F (oK (uK h1))
   rw [e] at hx
   exact (cQ _ _ hx nofun rfl rfl)
 obtain⟨rfl,rfl⟩:=z
 exact (ba _ _ ((c.own rfl id).call) hK)
end
section
variable {V:aD} {a:Addr} {m:Nat} {G:List GObj} {j q:Nat} {items:List (Str×Str)} {K:RV->List GObj->Prop} {n v:Str}
theorem gv {G:List GObj} {o x:GObj} (h:G[j]?=some o):(G++[x])[j]?=some o:=by rw [List.getElem?_append_left (List.getElem?_eq_some_iff.mp h).1];exact h
noncomputable def ry (G:List GObj) (j:Nat):List GObj:=(G++[GObj.lst []]).set j (.inst 1 [("_headers",.obj G.length)])
theorem xm (T:HX V) (H:an V 5 gH) (h:G[j]?=some (.inst 1 [])):∃ ρ',Ex V 6 (aO (hD "__init__")) (fJ (hD "__init__")) ⟨[("self",.val (.obj j)),("headers",.val (.dat .none))],G⟩ .next ⟨ρ',ry G j⟩:=by
 have e:(ry G j)[G.length]?=some (.lst []):=by
  unfold ry
  rw [List.getElem?_set_ne (Nat.ne_of_lt (List.getElem?_eq_some_iff.mp h).1)];exact de
 refine⟨_,fV (st1:=⟨[("self",.val (.obj j)),("headers",.lst [])],G⟩) (vn (n:=12) H ⟨rfl,rfl⟩) (fV (qB (zE (wg (sl:=.lst []) (by decide +kernel) T.ty rfl Du rfl) (o5 (by decide +kernel) (T.base.bi _ (.tail _ (.tail _ (.tail _ (.tail _ (.head _))))))) rfl) si) (fV (st1:=⟨[("self",.val (.obj j)),("headers",.val (.obj G.length))],ry G j⟩) (vn (n:=12) H (aw (gv h) ⟨rfl,rfl⟩)) (fV (st1:=⟨[("self",.val (.obj j)),("headers",.val (.obj G.length))],ry G j⟩) (vn (n:=12) H (DG (zV e) (bR e (iw (nw e) ?_)))) si)))⟩
 rw [kK e]
 exact⟨rfl,rfl⟩
theorem uN {fd:FuncData} {u:ab} (e1:fd.params=aH (hD "__init__")) (e2:fd.defaults=.ref 170) (e3:fd.kwdefaults=.none) (hd:V.K 170=some (gO m)):fT V fd [u] [] [("self",u),("headers",.dat .none)]:=fun A w G vs kvs bs hv hk Q E hQ=>by
 cases hv with | @cons v0 _ _ _ z1 hv =>
 cases hv
 cases hk
 rw [<- nt e1 e2 e3]
 refine (PySem.W.Looks.of_peek (K:=([(170,gO m)]:Frag)) (M:=model V.prog V.w) (r:=([("self",v0),("headers",.none)]:List (Str×Value))) (fun b o e=>?_) (by kernel_rfl)).here (hQ _ w (Nx.refl _) (a7 bs rfl rfl (.cons ⟨rfl,z1⟩ (.cons ⟨rfl,Rd.none⟩ .nil))))
 rw [List.lookup_cons] at e
 cases z:b==170 with
 | true=>rw [z] at e;cases e;rw [eq_of_beq z];exact bs.K _ _ hd
 | false=>rw [z] at e;cases e
noncomputable def ctrNewH:Ctr:=fun as G K=>as=[]/\K (.val (.obj G.length)) (G++[.inst 1 [("_headers",.obj (G.length+1))],.lst []])
theorem xn {f:Addr} {mN:Str->Option Value} (T:HX V) (H:an V 5 gH) (X:bK V 1 mN) (hi:mN "__init__"=some (.ref f)) (F:fP V f (aH (hD "__init__")) (aO (hD "__init__")) (fJ (hD "__init__")) (.ref 170) .none) (hd:V.K 170=some (gO m)):be V 8 (.ref (V.cls 1)) ctrNewH:=fun as G K h=>by
 obtain⟨zq,hK⟩:=h;rw [zq]
 obtain⟨ρ',hx⟩:=xm (G:=G++[.inst 1 []]) (j:=G.length) T H de
 have e:ry (G++[.inst 1 []]) G.length=G++[.inst 1 [("_headers",.obj (G.length+1))],.lst []]:=by
  unfold ry
  rw [List.length_append,List.append_assoc,List.set_append_right _ _ (Nat.le_refl _),Nat.sub_self];rfl
 rw [e] at hx
 obtain⟨o,fd,o1,o2,o3⟩:=F.fn
 exact (ba _ _ (oW X hi (aa o o1 o2) (xh (k:=6) (fl:=.next) (as:=[.obj G.length]) (kw:=[]) (binds:=[("self",.obj G.length),("headers",.dat .none)]) F (show bS _ ["self","headers"]=true by decide +kernel) nofun (fun fd e1 e2 e3=>uN e1 e2 e3 hd) fun fd=>hx.F).call) hK)
noncomputable def ctrAdd:Ctr:=fun as G K=>∃ j q n v items,as=[.obj j,az n,az v]/\nv G j q items/\(items.map pr).length<=lim/\cU n=true/\cU v=true/\v.length<=10000/\K kF (G.set q (.lst (items.map pr++[pr (n,v)])))
noncomputable def ρA (j:Nat) (n v:Str) (l:Rho):Rho:=("self",.val (.obj j))::("_name",aE n)::("_value",aE v)::("_params",.val (.dat (.dict [])))::l
theorem AC {fd:FuncData} (H:an V 5 gH) (h:nv G j q items) (hl:(items.map pr).length<=lim) (hn:cU n=true) (hv:cU v=true) (hz:v.length<=10000):fO V 6 fd (aO (hD "add_header")) (fJ (hD "add_header")) ⟨ρA j n v [],G⟩ .next (G.set q (.lst (items.map pr++[pr (n,v)]))) :=
 fO.cons (st1:=⟨ρA j n v [("parts",.lst [])],G⟩) (vn (n:=12) H ⟨rfl,rfl⟩) (fO.cons (st1:=⟨ρA j n v [("parts",.lst [.str v])],G⟩) (vn (n:=12) H (aw h.1 (oi _ v false rfl hv (by decide) rfl rfl))) (fO.cons (wi rfl) (Jp (n:=12) H
  (aw h.1 (kz h.2 (aw h.1 (cA _ n true rfl hn (aB ([v]) rfl (show v.length+0+1*2<=lim from Nat.le_trans (Nat.add_le_add_right hz 2) (by decide)) (bR h.2 (am hl rfl rfl))))))))))
theorem xo {fd:FuncData} {u x y:ab} (e1:fd.params=aH (hD "add_header")) (e2:fd.defaults=.none) (e3:fd.kwdefaults=.none):fT V fd [u,x,y] [] [("self",u),("_name",x),("_value",y),("_params",.dat (.dict []))]:=fun A w G vs kvs bs hv hk Q E hQ=>by
 cases hv with | @cons v0 _ _ _ z0 hv=>cases hv with | @cons v1 _ _ _ z1 hv=>cases hv with | @cons v2 _ _ _ z2 hv =>
 cases hv
 cases hk
 rw [<- nt e1 e2 e3,show bindArgs _ ⟨[v0,v1,v2],[]⟩=(alloc { cls:=.type "dict",data:=.dict #[] } >>= fun d=>pure [(("self":Str),v0),(("_name":Str),v1),(("_value":Str),v2),(("_params":Str),.ref d)]:Sem (List (Str×Value))) by kernel_rfl]
 refine wpAny_bind (wpAny_alloc (wpAny_pure ?_))
 have f:=(bs.ok.free (Nat.le_refl w.h.objs.size)).to (h:=w.h.push { cls:=.type "dict",data:=.dict #[] }) w.s.toks
 have e:(w.to (w.h.push { cls:=.type "dict",data:=.dict #[] }) w.s.toks).h.get? w.h.objs.size=some { cls:=.type "dict",data:=.dict #[] }:=Heap.get?_push_size _ rfl
 have n:=(Nx.to w (w.h.push { cls:=.type "dict",data:=.dict #[] }) w.s.toks).trans (Nx.toB (ob:={ cls:=.type "dict",data:=.dict #[] }) f.b)
 have ne:(w.h.objs.size==sysModules)=false:=by
  obtain⟨o,h1,_⟩:=bs.top.g
  have:=Heap.lt_size (bs.ok.b _ _ h1)
  exact beq_false_of_ne fun q=>absurd (q▸this) (by decide)
 exact hQ _ _ n (a7 ((bs.to (Kp.push w _) _).toB f e) rfl rfl (.cons ⟨rfl,z0.le n.g n.b⟩ (.cons ⟨rfl,z1.le n.g n.b⟩ (.cons ⟨rfl,z2.le n.g n.b⟩ (.cons ⟨rfl,.dict0 ne (aK ..)⟩ .nil)))))
theorem AD (H:an V 5 gH) (F:fP V a (aH (hD "add_header")) (aO (hD "add_header")) (fJ (hD "add_header")) .none .none):be V 7 (.ref a) ctrAdd:=fun as G K h=>by
 obtain⟨j,q,n,v,items,zq,h1,h2,h3,h4,h5,hK⟩:=h;rw [zq]
 exact (ba _ _ ((xh (k:=6) (fl:=.next) (kw:=[]) (binds:=[("self",.obj j),("_name",az n),("_value",az v),("_params",.dat (.dict []))]) F (show bS _ ["self","_name","_value","_params"]=true by decide +kernel) nofun (fun fd e1 e2 e3=>xo e1 e2 e3) fun fd=>AC H h1 h2 h3 h4 h5).call) hK)
end
noncomputable abbrev lD (f:Str):Option (Arguments×List Stmt×Scope):=Ay "_netrclex" f
set_option backward.match.sparseCases false in
noncomputable def AE:Option (Arguments×Expr×Scope×PySem.Pos):=match d8 (ao "_law_lexer") 2 with
 | .Assign _ e _=>(match e with
  | .Lambda a b s p=>some (a,b,s,p)
  | _=>none)
 | _=>none
noncomputable def py:Arguments:=match AE with
 | some x=>x.1
 | none=>default
noncomputable def pz:Expr:=match AE with
 | some x=>x.2.1
 | none=>.Constant .none 0 ⟨0,0,0,0⟩
noncomputable def ix:Scope:=match AE with
 | some x=>x.2.2.1
 | none=>default
noncomputable def nA:PySem.Pos:=match AE with
 | some x=>x.2.2.2
 | none=>⟨0,0,0,0⟩
noncomputable def bC (c:Nat):Str:=⟨#[c]⟩
noncomputable def hV (rest:List Nat):List PyData:=rest.reverse.map fun c=>.str (bC c)
section
variable {V:aD} {k m s:Nat} {G:List GObj} {K:RV->List GObj->Prop} {rest r:List Nat}
theorem H0 (h:G[s]?=some (.lst (hV rest))) (hl:rest.length<=1000000) (h0:rest=[]->K (.val (az "")) G) (h1:∀ c r,rest=c::r->K (.val (az (bC c))) (G.set s (.lst (hV r)))) :
  (aj gl0 12).evA ix pz ⟨[("signs",.val (.obj s)),("size",ag 1)],G⟩ fun av st=>K (.val av) st.G:=by
 have ll:(hV rest).length<=lim:=by unfold hV;rw [List.length_map,List.length_reverse];exact hl
 cases rest with
 | nil=>exact bR h ⟨ll,h0 rfl⟩
 | cons c r =>
  have e:hV (c::r)=hV r++[.str (bC c)]:=by unfold hV;rw [List.reverse_cons,List.map_append];rfl
  have hn:(!(hV (c::r)).isEmpty)=true:=by rw [e];cases hV r<;>rfl
  refine bR h ⟨ll,?_⟩
  rw [hn]
  exact⟨rfl,kz h (bR h ⟨ll,(ba _ _ e (h1 c r rfl))⟩)⟩
noncomputable def xq (m s:Nat):Ctr:=fun as G K=>∃ rest:List Nat,as=[.obj m,aI 1]/\G[m]?=some (.clo s)/\G[s]?=some (.lst (hV rest))/\rest.length<=1000000/\(rest=[]->K (.val (az "")) G)/\∀ c r,rest=c::r->K (.val (az (bC c))) (G.set s (.lst (hV r)))
theorem AF:Internal.Pos py ["size"]:=gZ fun ι ι=>by kernel_rfl
theorem kL:∀ x:Str,ix.names.lookup x=some .free->x="signs":=fun x h=>by
 have e:∀ p∈ix.names,p.2=.free->p.1="signs":=by decide +kernel
 exact e _ (mem_of_lookup h) rfl
theorem AG (hb:di V) (hl:∃ q,V.lam=⟨py,pz,ix,q⟩) {as:List ab} (h:xq m s (.obj m::as) G K):∃ rv G',gu V 2 m as G rv G'/\K rv G':=by
 obtain⟨rest,ea,hm,hs,hz,h0,h1⟩:=h
 cases ea
 obtain⟨q,hl⟩:=hl
 refine fs (V:=V) (k:=0) (d7 (dM hb.bi hb.rf) 12) (H0 hs hz h0 h1) fun av st' hx hK=>?_
 have at_:∀ (w:W) (a:Addr),Bs V w G->w.γ[m]?=some a->gE V w m (.clo s) a:=fun w a b ha=>by
  obtain⟨a',e1,e2⟩:=b.ob.at_ m _ hm
  rw [ha] at e1;cases e1;exact e2
 refine (ba (.val av) st'.G ⟨fun A w a vs room bs ha hvs=>?_,fun A w a E bs ha=>?_⟩ hK)
 ·obtain⟨pm,cc,ct,clos,cl,o,x,e1,e2,e0,e3,e4,e5⟩:=at_ w a bs ha
  rw [hl] at e1 e2
  refine vJ (k:=1) (vm0:=fun ι=>some (.ref x)) (ρ0:=[("signs",.val (.obj s))]) (kw:=[]) (binds:=[("size",aI 1)]) rfl rfl (hZ (ps:=["size"]) rfl fun vs hv=>AF _ vs rfl rfl rfl hv) (fun p hp=>?_) hx room bs hvs .nil ⟨(aa _ e1 rfl),rfl,rfl,(aa cc rfl e2),eX (show qv ix=true by decide +kernel),rfl,rfl⟩ fun w' n=>⟨⟨fun y hy=>?_,fun y z ι hy hz ι ι=>(kL y hy).trans (kL z hz).symm⟩,fun y sl hy=>?_⟩
  ·rw [List.mem_singleton.mp hp];exact cH (show qQ ix "size"=true by decide +kernel)
  ·rw [kL y hy];exact (aF cl o e0 e4 (.inr (n.b _ _ e3)))
  ·rcases lookup_cons hy with ⟨rfl,rfl⟩ | hy
   ·exact (cQ _ _ rfl rfl (aa x rfl (n.g _ _ e5)) (FH (show (ix.names.lookup ("signs":Str)==some .free)=true by decide +kernel)))
   ·exact dc hy
 ·obtain⟨pm,cc,ct,clos,cl,o,x,e1,_⟩:=at_ w a bs ha
  unfold keeperOf
  refine wpAny_bind (wpAny_load (bs.ok.b _ _ e1) ?_)
  exact wpAny_pure rfl
end
noncomputable def Km:Ctr:=fun as G K=>∃ m s,xq m s as G K
noncomputable def gLx:Gl:={ gl0 with clo:=Km,fld:=[(0,"lineno"),(0,"instream"),(0,"whitespace"),(0,"pushback"),(0,"read")] }
structure Lx where
 j:Nat
 h:Nat
 p:Nat
 p2:Nat
 c:Nat
 s:Nat
noncomputable def AH:Str:="\n\t\r "
noncomputable def kM (line:Int) (L:Lx):List (Str×ab):=[("lineno",aI line),("instream",.obj L.h),("whitespace",az AH),("pushback",.obj L.p)]
structure aU (L:Lx) (G:List GObj) (rest:List Nat) (line:Int):Prop where
 j:G[L.j]?=some (.inst 0 (kM line L))
 h:G[L.h]?=some (.inst 0 [("lineno",aI 1),("instream",.dat .none),("whitespace",az AH),("pushback",.obj L.p2),("read",.obj L.c)])
 c:G[L.c]?=some (.clo L.s)
 s:G[L.s]?=some (.lst (hV rest))
 z:rest.length<=100000
 a:∀ c∈rest,c<128
noncomputable def iy (L:Lx) (G:List GObj) (rest:List Nat) (line:Int):List GObj:=(G.set L.s (.lst (hV rest))).set L.j (.inst 0 (kM line L))
noncomputable def nl (c:Nat):Int:=if c==10 then 1 else 0
section
variable {L:Lx} {G:List GObj} {rest r:List Nat} {line n:Int} {K:RV->List GObj->Prop} {c:Nat}
theorem bT {a b:Nat} {x y:GObj} (h1:G[a]?=some x) (h2:G[b]?=some y) (h:x≠y):a≠b:=fun e=>by
 rw [e,h2] at h1;cases h1;exact h rfl
theorem aW {a b:Nat} {x z:GObj} (h:G[b]?=some z) (e:a≠b):(G.set a x)[b]?=some z:=(List.getElem?_set_ne e).trans h
theorem eH {a:Nat} {x z:GObj} (h:G[a]?=some z):(G.set a x)[a]?=some x:=List.getElem?_set_self (List.getElem?_eq_some_iff.mp h).1
theorem rz {a:Nat} {z:GObj} (h:G[a]?=some z):G.set a z=G:=by
 obtain⟨h1,h2⟩:=List.getElem?_eq_some_iff.mp h
 rw [<- h2];exact List.set_getElem_self h1
theorem aU.sj (X:aU L G rest line):L.s≠L.j:=bT X.s X.j nofun
noncomputable def H2:GObj->Nat
 | .inst _ l=>l.length
 | _=>0
theorem aU.hj (X:aU L G rest line):L.j≠L.h:=bT X.j X.h fun e=>absurd (congrArg H2 e) (show (4:Nat)≠5 by decide)
theorem aU.cj (X:aU L G rest line):L.j≠L.c:=bT X.j X.c nofun
theorem aU.go (X:aU L G rest line) (hz:r.length<=100000) (ha:∀ c∈r,c<128):aU L (iy L G r n) r n :=
 ⟨eH (aW X.j X.sj),aW (aW X.h (bT X.s X.h nofun)) X.hj,aW (aW X.c (bT X.s X.c nofun)) X.cj,aW (eH X.s) X.sj.symm,hz,ha⟩
theorem kN (h:c<128):PyData.strOk (bC c)=true:=by
 show (#[c]:Array Nat).all (·<0x110000)=true
 have:decide (c<0x110000)=true:=decide_eq_true (Nat.lt_trans h (by decide))
 simp [this]
theorem nB {d:Nat}:(bC c==bC d)=(c==d):=by
 cases q:c==d with
 | true=>rw [eq_of_beq q];exact beq_self_eq_true _
 | false=>exact beq_false_of_ne fun e=>ne_of_beq_false q (by
   have:=congrArg (fun x:Str=>x.cps.toList) e
   exact (List.cons.inj this).1)
theorem Kn:PyData.strOk ""=true:=by decide +kernel
theorem xt (X:aU L G rest line) (h0:rest=[]->K (.val (az "")) G) (h1:∀ c r,rest=c::r->K (.val (az (bC c))) (iy L G r (line+nl c))):nu gLx "_netrclex" "_read_char" ["self"] [.obj L.j] G K:=by
 refine⟨rfl,aw X.j (aS X.h (aw X.h (tR L.c L.s rest rfl X.c X.s (Nat.le_trans X.z (by decide)) (fun e=>⟨hM Kn (kN (c:=10) (by decide)),h0 e⟩) (fun c r e=>?_))))⟩
 have hc:c<128:=X.a c (e▸.head _)
 have hK:=h1 c r e
 have hj:=aW (x:=.lst (hV r)) X.j X.sj
 refine⟨hM (kN hc) (kN (c:=10) (by decide)),dZ (fun q=>?_) fun q=>?_⟩
 ·have q:(c==10)=true:=nB▸(show (bC c==bC 10)=true from q)
  unfold nl at hK
  rw [q] at hK
  exact aw hj ⟨rfl,aw hj hK⟩
 ·have q:(c==10)=false:=nB▸(show (bC c==bC 10)=false from q)
  unfold nl iy at hK
  rw [q,show (if false=true then (1:Int) else 0)=0 from rfl,Int.add_zero,rz hj] at hK
  exact hK
end
noncomputable abbrev Ko:Ctr:=nu gLx "_netrclex" "_read_char" ["self"]
noncomputable def AI:Ctr:=fun as G K=>∃ j,as=[.obj j]/\Ko as G K
noncomputable def gR:Gl:={ gLx.addMe 0 "_read_char" Ko with rc:=AI }
noncomputable def GI (L:Lx) (G:List GObj) (rest:List Nat) (line:Int) (o:GObj):List GObj:=iy L G rest line++[o]
section
variable {L:Lx} {G:List GObj} {rest r rest0:List Nat} {line m line0:Int} {c n q:Nat} {o o':GObj} {ρ:Rho} {K:Fl->St->Prop} {body:St->(Fl->St->Prop)->Prop}
theorem iz:(iy L G rest line).length=G.length:=by unfold iy;rw [List.length_set,List.length_set]
theorem sX (h:L.s≠L.j):iy L (iy L G rest line) r m=iy L G r m:=by
 unfold iy
 rw [List.set_comm _ _ h,List.set_set,List.set_comm _ _ h.symm,List.set_set]
theorem iA (hq:G.length=q):(GI L G rest line o)[q]?=some o:=by
 unfold GI;rw [<- hq,<- iz (L:=L) (rest:=rest) (line:=line)];exact de
theorem nC (hq:G.length=q):(GI L G rest line o).set q o'=GI L G rest line o':=by
 unfold GI;rw [<- hq,<- iz (L:=L) (rest:=rest) (line:=line)];exact pw
theorem aU.app (X:aU L G rest line):aU L (G++[o]) rest line:=⟨gv X.j,gv X.h,gv X.c,gv X.s,X.z,X.a⟩
theorem aU.gi (X:aU L G rest0 line0) (hz:rest.length<=100000) (ha:∀ c∈rest,c<128):aU L (GI L G rest line o) rest line:=(X.go hz ha).app
theorem xu (X:aU L G rest0 line0):iy L (GI L G rest line o) r m=GI L G r m o:=by
 have l1:L.s<(iy L G rest line).length:=by rw [iz];exact (List.getElem?_eq_some_iff.mp X.s).1
 have l2:L.j<(iy L G rest line).length:=by rw [iz];exact (List.getElem?_eq_some_iff.mp X.j).1
 have e:∀ H:List GObj,L.s<H.length->L.j<H.length->iy L (H++[o]) r m=iy L H r m++[o]:=fun H h1 h2=>by
  unfold iy
  rw [List.set_append_left _ _ h1,List.set_append_left _ _ (by rw [List.length_set];exact h2)]
 unfold GI
 rw [e _ l1 l2,sX X.sj]
theorem nE {rc:Ctr} {x:Str} {st:St} {j:Nat} {dn:Bool} (h:st.G[q]?=some (.citer j dn)) (k:DB rc q x body (dY rc q x body n) j dn st K):dY rc q x body (n+1) st K:=by
 show (match st.G[q]? with
  | some (.citer j dn)=>_
  | _=>_)
 rw [h];exact k
theorem xv (hq:G.length=q) (k:K .next ⟨ρ,GI L G rest line (.citer L.j true)⟩):dY AI q "ch" body (n+1) ⟨ρ,GI L G rest line (.citer L.j true)⟩ K:=nE (iA hq) k
theorem sY (X:aU L G rest0 line0) (hq:G.length=q) (k:K .next ⟨ρ,GI L G [] line (.citer L.j true)⟩):dY AI q "ch" body (n+1) ⟨ρ,GI L G [] line (.citer L.j false)⟩ K:=by
 refine nE (iA hq) (aa _ rfl ?_)
 rw [nC hq]
 refine xt (X.gi (Nat.zero_le _) nofun) (fun ι=>iw (iA hq) ?_) nofun
 rw [<- nC (o:=.gone) hq] at k
 exact k
theorem pC (X:aU L G rest0 line0) (hq:G.length=q) (hz:(c::r).length<=100000) (ha:∀ d∈c::r,d<128) (k:body ⟨aG ρ "ch" (aE (bC c)),GI L G r (line+nl c) (.citer L.j false)⟩ fun fl st2=>match fl with
  | .next=>dY AI q "ch" body n ⟨trim ρ st2.ρ,st2.G⟩ K
  | .cont=>dY AI q "ch" body n ⟨trim ρ st2.ρ,st2.G⟩ K
  | .ret v=>K (.ret v) st2):dY AI q "ch" body (n+1) ⟨ρ,GI L G (c::r) line (.citer L.j false)⟩ K:=by
 refine nE (iA hq) (aa _ rfl ?_)
 rw [nC hq]
 refine xt (X.gi hz ha) nofun fun c' r' e=>?_
 cases e
 rw [xu X]
 refine iw (iA hq) ?_
 rw [<- nC (o:=.gone) hq] at k
 exact k
end
noncomputable def tokS (t:List Nat):Str:=⟨t.toArray⟩
noncomputable def cK (c:Nat):Bool:=c==10||c==9||c==13||c==32
noncomputable def rA (c:Nat):Bool:=c==34
noncomputable def jk (en:Nat->Bool):List Nat->Int->List Nat->List Nat×List Nat×Int×Bool
 | [],n,t=>(t,[],n,false)
 | c::r,n,t=>bif en c then (t,r,n+nl c,true) else bif c==92 then (match r with
  | []=>(t,[],n+nl c,false)
  | d::r'=>jk en r' (n+nl c+nl d) (t++[d])) else jk en r (n+nl c) (t++[c])
noncomputable def rB (c:Nat) (r:List Nat) (n:Int):List Nat×List Nat×Int×Bool:=bif rA c then jk rA r n [] else bif c==92 then (match r with
 | []=>([],[],n,false)
 | d::r'=>jk cK r' (n+nl d) [d]) else jk cK r n [c]
noncomputable def dq:List Nat->Int->List Nat×List Nat×Int
 | [],n=>([],[],n)
 | c::r,n=>bif cK c then dq r (n+nl c) else ((rB c r (n+nl c)).1,(rB c r (n+nl c)).2.1,(rB c r (n+nl c)).2.2.1)
theorem pD {t:List Nat}:tokS t++""=tokS t:=by
 rw [show ("":Str)=⟨#[]⟩ by decide +kernel]
 show (⟨t.toArray++#[]⟩:Str)=⟨t.toArray⟩
 rw [Array.append_empty]
theorem cf {t:List Nat} {c:Nat}:tokS t++bC c=tokS (t++[c]):=by
 show (⟨t.toArray++#[c]⟩:Str)=⟨(t++[c]).toArray⟩
 congr 1
 simp
theorem aM {t:List Nat}:(tokS t).length=t.length:=rfl
theorem iD {c:Nat} (h:c<128):dU (bC c) AH=cK c:=by
 have e:∀ c,c<128->dU (bC c) AH=cK c:=by decide +kernel
 exact e c h
noncomputable abbrev Kq:List Stmt:=b8 (d8 (aO (lD "get_token")) 3)
noncomputable def FK:Stmt->List Stmt
 | .If _ a _ _=>a
 | _=>[]
noncomputable def Mg:Stmt->List Stmt
 | .If _ _ b _=>b
 | _=>[]
noncomputable abbrev LN:Stmt:=d8 (FK (d8 Kq 1)) 0
noncomputable abbrev LO:Stmt:=d8 (Mg (d8 Kq 1)) 2
noncomputable abbrev Ea:Scope:=fJ (lD "get_token")
noncomputable def ρT (L:Lx) (q:Nat) (x c:Str):Rho:=[("self",.val (.obj L.j)),("token",aE x),("fiter",.val (.obj q)),("ch",aE c)]
section
variable {L:Lx} {G:List GObj} {rest r rest0:List Nat} {line m line0:Int} {c n q k:Nat} {o o':GObj} {ρ:Rho} {K:Fl->St->Prop} {x y:Str}
theorem iE {j:Nat} {d:Bool} (h:G[q]?=some (.citer j d)):ku G q=some q:=by unfold ku;rw [h]
theorem kO {α:Type} {o:Option α} {A:α->Prop} {B:Prop} {a:α} (h:o=some a) (k:A a):DC o A B:=by rw [h];exact k
theorem rC {K:RV->List GObj->Prop} (X:aU L G rest0 line0) (hz:rest.length<=100000) (ha:∀ d∈rest,d<128) (h0:rest=[]->K (.val (az "")) (GI L G [] line o)) (h1:∀ c r,rest=c::r->K (.val (az (bC c))) (GI L G r (line+nl c) o)) :
  Ko [.obj L.j] (GI L G rest line o) K :=
 xt (X.gi hz ha) (fun e=>by clear hz ha h1;subst e;exact h0 rfl) fun c r e=>by rw [xu X];exact h1 c r e
structure TK (L:Lx) (G:List GObj) (q c:Nat) (r:List Nat) (line:Int) (o:GObj) (F:Str->Str->List GObj->Prop):Prop where
 k1:(c==92)=false->F (bC c) (bC c) (GI L G r line o)
 k2:(c==92)=true->r=[]->F "" "" (GI L G [] line o)
 k3:(c==92)=true->∀ d r',r=d::r'->F (bC d) (bC d) (GI L G r' (line+nl d) o)
noncomputable def FL (L:Lx) (q:Nat) (x:Str) (K:Fl->St->Prop):Str->Str->List GObj->Prop:=fun y z G'=>K .next ⟨ρT L q (x++y) z,G'⟩
theorem AJ {c:Nat} {b:Bool} (e:PyData.eqv (.str (bC c)) (.str (bC 92))=b):(c==92)=b:=nB▸(show (bC c==bC 92)=b from e)
theorem BX {c:Nat} {b:Bool} (e:PyData.eqv (.str (bC c)) (.str (bC 34))=b):(c==34)=b:=nB▸(show (bC c==bC 34)=b from e)
theorem xw {c:Nat} (h:c<128):b9 (.str (bC c)) (.str (bC 92))=true:=hM (kN h) (kN (by decide))
theorem BY {c:Nat} (h:c<128):b9 (.str (bC c)) (.str (bC 34))=true:=hM (kN h) (kN (by decide))
structure BZ (L:Lx) (G:List GObj) (rest0:List Nat) (line0:Int) (c:Nat) (x:Str) (r:List Nat):Prop where
 X:aU L G rest0 line0
 c:c<128
 x:x.length+1<=200000
 z:r.length<=100000
 a:∀ d∈r,d<128
theorem BZ.t (H:BZ L G rest0 line0 c x r) {y:Str} (h:y.length<=1):x.length+y.length<=lim:=Nat.le_trans (Nat.add_le_add_left h _) (Nat.le_trans H.x (by decide))
theorem BZ.em (H:BZ L G rest0 line0 c x r):x.length+("":Str).length<=lim:=H.t (by decide +kernel)
theorem Eb (H:BZ L G rest0 line0 c x r) (k0:rA c=true->K (.ret (az x)) ⟨ρT L q x (bC c),GI L G r line o⟩) (T:rA c=false->TK L G q c r line o (FL L q x K)):(aj gR (k+5)).ex Ea (b8 LN) ⟨ρT L q x (bC c),GI L G r line o⟩ K :=
 ⟨BY H.c,dZ (fun e=>k0 (BX e)) fun e=>⟨xw H.c,dZ (fun e2=>aS (H.X.gi H.z H.a).j (rC H.X H.z H.a (fun er=>⟨H.em,(T (BX e)).k2 (AJ e2) er⟩) fun d r' er=>⟨H.t (Nat.le_refl 1),(T (BX e)).k3 (AJ e2) d r' er⟩)) fun e2=>⟨H.t (Nat.le_refl 1),(T (BX e)).k1 (AJ e2)⟩⟩⟩
theorem Ec (H:BZ L G rest0 line0 c x r) (k0:cK c=true->K (.ret (az x)) ⟨ρT L q x (bC c),GI L G r line o⟩) (T:cK c=false->TK L G q c r line o (FL L q x K)):(aj gR (k+5)).ex Ea (b8 LO) ⟨ρT L q x (bC c),GI L G r line o⟩ K :=
 aw (H.X.gi H.z H.a).j (show bO (dU (bC c) AH) _ _ from dZ (fun e=>k0 (iD H.c▸e)) fun e=>⟨xw H.c,dZ (fun e2=>aS (H.X.gi H.z H.a).j (rC H.X H.z H.a (fun er=>⟨H.em,(T (iD H.c▸e)).k2 (AJ e2) er⟩) fun d r' er=>⟨H.t (Nat.le_refl 1),(T (iD H.c▸e)).k3 (AJ e2) d r' er⟩)) fun e2=>⟨H.t (Nat.le_refl 1),(T (iD H.c▸e)).k1 (AJ e2)⟩⟩)
end
section
variable {L:Lx} {G:List GObj} {rest r rest0:List Nat} {line m line0:Int} {c n q k:Nat} {o o':GObj} {ρ:Rho} {K:Fl->St->Prop} {t:List Nat} {x y:Str} {en:Nat->Bool} {B:List Stmt}
noncomputable def xy (L:Lx) (G:List GObj) (q k:Nat) (en:Nat->Bool) (B:List Stmt):Prop:=∀ {rest0:List Nat} {line0:Int} {c:Nat} {x:Str} {r:List Nat} {line:Int} {K:Fl->St->Prop},BZ L G rest0 line0 c x r->(en c=true->K (.ret (az x)) ⟨ρT L q x (bC c),GI L G r line (.citer L.j false)⟩)->(en c=false->TK L G q c r line (.citer L.j false) (FL L q x K))->(aj gR k).ex Ea B ⟨ρT L q x (bC c),GI L G r line (.citer L.j false)⟩ K
theorem xz {c:Nat} {r t:List Nat} {M:Nat} (h:t.length+(c::r).length<=M):(t++[c]).length+r.length<=M:=by
 rw [List.length_append,List.length_singleton,Nat.add_assoc,Nat.add_comm 1];exact h
structure yM (L:Lx) (G:List GObj) (rest0:List Nat) (line0:Int) (t rest:List Nat):Prop where
 X:aU L G rest0 line0
 t:t.length+rest.length<=150000
 z:rest.length<=100000
 a:∀ d∈rest,d<128
theorem yM.one (H:yM L G rest0 line0 t (c::r)):BZ L G rest0 line0 c (tokS t) r:=⟨H.X,H.a c (.head _),Nat.le_trans (Nat.add_le_add_left (Nat.succ_le_succ (Nat.zero_le r.length)) _) (Nat.le_trans H.t (by decide)),Nat.le_trans (Nat.le_succ _) H.z,fun d h=>H.a d (.tail _ h)⟩
theorem yM.put (H:yM L G rest0 line0 t (c::r)):yM L G rest0 line0 (t++[c]) r:=⟨H.X,xz H.t,H.one.z,H.one.a⟩
theorem yM.skip (H:yM L G rest0 line0 t (c::r)):yM L G rest0 line0 t r:=⟨H.X,Nat.le_trans (Nat.add_le_add_left (Nat.le_succ _) _) H.t,H.one.z,H.one.a⟩
noncomputable def H5 (L:Lx) (G:List GObj) (q:Nat) (K:Fl->St->Prop) (x:List Nat×List Nat×Int×Bool):Prop:=∀ y,K (bif x.2.2.2 then .ret (az (tokS x.1)) else .next) ⟨ρT L q (tokS x.1) y,GI L G x.2.1 x.2.2.1 (.citer L.j (!x.2.2.2))⟩
theorem jM (T:xy L G q k en B) (hq:G.length=q):∀ (n:Nat) (rest:List Nat) (line:Int) (t:List Nat) (y:Str),rest.length<n->yM L G rest0 line0 t rest->H5 L G q K (jk en rest line t)->dY AI q "ch" ((aj gR k).ex Ea B) n ⟨ρT L q (tokS t) y,GI L G rest line (.citer L.j false)⟩ K:=by
 intro n
 induction n with
 | zero=>exact fun ι ι ι ι h=>absurd h (Nat.not_lt_zero _)
 | succ n ih =>
  intro rest line t y h H hK
  cases rest with
  | nil=>exact sY H.X hq (hK y)
  | cons c r =>
   have h:=Nat.lt_of_succ_lt_succ h
   have e0:jk en (c::r) line t=bif en c then (t,r,line+nl c,true) else bif c==92 then (match r with
    | []=>(t,[],line+nl c,false)
    | d::r'=>jk en r' (line+nl c+nl d) (t++[d])) else jk en r (line+nl c) (t++[c]):=by cases r<;>rfl
   rw [e0] at hK
   refine pC H.X hq H.z H.a (T H.one (fun e=>?_) fun e=>⟨fun e2=>?_,fun e2 e3=>?_,fun e2 d r' e3=>?_⟩)
   ·rw [e] at hK
    exact hK _
   ·rw [e,e2] at hK
    unfold FL
    rw [cf]
    exact ih r _ (t++[c]) _ h H.put hK
   ·clear e0;subst e3
    rw [e,e2] at hK
    unfold FL
    rw [pD]
    exact ih [] _ t _ (Nat.lt_of_le_of_lt (Nat.zero_le _) h) H.skip hK
   ·clear e0;subst e3
    rw [e,e2] at hK
    unfold FL
    rw [cf]
    exact ih r' _ (t++[d]) _ (Nat.lt_trans (Nat.lt_succ_self _) h) H.skip.put hK
noncomputable def ρO (L:Lx) (q:Nat) (x:Str):Rho:=[("self",.val (.obj L.j)),("token",aE x),("fiter",.val (.obj q))]
noncomputable def B4 (L:Lx) (G:List GObj) (q:Nat) (K:Fl->St->Prop) (x:List Nat×List Nat×Int):Prop:=(∀ ρ,K (.ret (az (tokS x.1))) ⟨ρ,GI L G x.2.1 x.2.2 (.citer L.j false)⟩)/\K .next ⟨ρO L q (tokS x.1),GI L G x.2.1 x.2.2 (.citer L.j true)⟩
theorem jN (hq:G.length=q) {body:St->(Fl->St->Prop)->Prop} {x:List Nat×List Nat×Int×Bool} (h:B4 L G q K (x.1,x.2.1,x.2.2.1)) {K':Fl->St->Prop} (h1:∀ v st,K (.ret v) st->K' (.ret v) st) (h2:∀ y,K' .next ⟨ρT L q (tokS x.1) y,GI L G x.2.1 x.2.2.1 (.citer L.j true)⟩=dY AI q "ch" body (n+1) ⟨ρO L q (tokS x.1),GI L G x.2.1 x.2.2.1 (.citer L.j true)⟩ K):H5 L G q K' x:=fun y=>by
 obtain⟨t,r,l,b⟩:=x
 cases b with
 | true=>exact h1 _ _ (h.1 _)
 | false=>exact (h2 y).symm▸xv hq h.2
theorem AK:xy L G q (k+5) rA (b8 LN):=Eb
theorem nF:xy L G q (k+5) cK (b8 LO):=Ec
theorem xA (hq:G.length=q):∀ (n:Nat) (rest:List Nat) (line:Int),rest.length<n->yM L G rest0 line0 [] rest->B4 L G q K (dq rest line)->dY AI q "ch" ((aj gR (k+8)).ex Ea Kq) (n+1) ⟨ρO L q (tokS []),GI L G rest line (.citer L.j false)⟩ K:=by
 intro n
 induction n with
 | zero=>exact fun ι ι h=>absurd h (Nat.not_lt_zero _)
 | succ n ih =>
  intro rest line h H hK
  cases rest with
  | nil=>exact sY H.X hq hK.2
  | cons c r =>
   have h:=Nat.lt_of_succ_lt_succ h
   have H1:=H.one
   have e0:dq (c::r) line=bif cK c then dq r (line+nl c) else ((rB c r (line+nl c)).1,(rB c r (line+nl c)).2.1,(rB c r (line+nl c)).2.2.1):=rfl
   rw [e0] at hK
   refine pC H.X hq H.z H.a (aw (H.X.gi H1.z H1.a).j (show bO (dU (bC c) AH) _ _ from dZ (fun e=>?_) fun e=>⟨BY H1.c,dZ (fun e2=>?_) fun e2=>⟨xw H1.c,dZ (fun e3=>aS (H1.X.gi H1.z H1.a).j (rC H1.X H1.z H1.a (fun er=>⟨H1.em,?_⟩) fun d r' er=>⟨H1.t (Nat.le_refl 1),?_⟩)) fun e3=>⟨H1.t (Nat.le_refl 1),?_⟩⟩⟩))
   ·rw [iD H1.c] at e
    rw [e] at hK
    exact ih r _ h H.skip hK
   ·rw [show cK c=false from iD H1.c▸e] at hK
    unfold rB at hK
    rw [show rA c=true from BX e2] at hK
    refine kO (iE (iA hq)) ⟨_,jM (k:=k+6) AK hq _ _ _ _ _ (Nat.lt_succ_self _) H.skip ?_⟩
    exact jN hq hK (fun v st h=>h) fun y=>rfl
   ·rw [show cK c=false from iD H1.c▸e] at hK
    unfold rB at hK
    subst er
    rw [show rA c=false from BX e2,show (c==92)=true from AJ e3] at hK
    rw [pD]
    refine kO (iE (iA hq)) ⟨_,jM (k:=k+6) nF hq _ _ _ _ _ (Nat.lt_succ_self _) ⟨H.X,Nat.zero_le _,Nat.zero_le _,nofun⟩ ?_⟩
    exact jN hq hK (fun v st h=>h) fun y=>rfl
   ·rw [show cK c=false from iD H1.c▸e] at hK
    unfold rB at hK
    clear tail_ih h;subst er
    rw [show rA c=false from BX e2,show (c==92)=true from AJ e3] at hK
    rw [cf]
    refine kO (iE (iA hq)) ⟨_,jM (k:=k+6) nF hq _ _ _ _ _ (Nat.lt_succ_self _) H.skip.put ?_⟩
    exact jN hq hK (fun v st h=>h) fun y=>rfl
   ·rw [show cK c=false from iD H1.c▸e] at hK
    unfold rB at hK
    rw [show rA c=false from BX e2,show (c==92)=false from AJ e3] at hK
    rw [cf]
    refine kO (iE (iA hq)) ⟨_,jM (k:=k+6) nF hq _ _ _ _ _ (Nat.lt_succ_self _) H.put ?_⟩
    exact jN hq hK (fun v st h=>h) fun y=>rfl
end
noncomputable def H6 (L:Lx) (G:List GObj) (pb:List Str):Prop:=G[L.p]?=some (.lst (pb.map .str))/\(pb.map PyData.str).length<=lim
noncomputable def ctrGT:Ctr:=fun as G K=>∃ L rest line pb,as=[.obj L.j]/\aU L G rest line/\H6 L G pb/\(∀ x pb',pb=x::pb'->K (.val (az x)) (G.set L.p (.lst (pb'.map .str))))/\(pb=[]->K (.val (az (tokS (dq rest line).1))) (iy L G (dq rest line).2.1 (dq rest line).2.2))
section
variable {V:aD} {L:Lx} {G:List GObj} {rest:List Nat} {line:Int} {k:Nat} {a:Addr} {K:RV->List GObj->Prop} {x:Str} {pb:List Str} {mN:Str->Option Value}
theorem Ed (hb:di V) (hl:∃ q,V.lam=⟨py,pz,ix,q⟩) (hf:∀ p∈gLx.fld,∃ mN,bK V p.1 mN/\mN p.2=none/\dE p.2):an V 2 gLx :=
 { dM hb.bi hb.rf with
  fld:=hf
  clo:=fun m as G K h=>by
   obtain⟨m',s,h⟩:=h
   obtain⟨rest,ea,hm,h3⟩:=h
   cases ea
   exact AG hb hl (aB rest rfl hm h3) }
theorem mt:Internal.Pos (aH (lD "_read_char")) ["self"]:=gZ fun ι ι=>by kernel_rfl
theorem mu:Internal.Pos (aH (lD "get_token")) ["self"]:=gZ fun ι ι=>by kernel_rfl
theorem H7 (H:an V 2 gLx) (F:fP V V.rc (aH (lD "_read_char")) (aO (lD "_read_char")) (fJ (lD "_read_char")) .none .none) (M:jw V 0 "_read_char" V.rc):an V 4 gR :=
 { H.addMeth F M mt (by decide +kernel) 12 with
  rc:=fun as G K h=>by
   obtain⟨j,rfl,h⟩:=h
   obtain⟨rv,G',c,q⟩:=sM H F mt (by decide +kernel) h.1 h.2
   exact (cA j rv G' rfl c q) }
theorem Ee (h:vk G) (X:aU L G rest line) {r:List Nat} {l:Int}:vk (iy L G r l):=by
 have h1:vk (G.set L.s (.lst (hV r))):=h.set trivial
 refine h1.set ?_
 rw [List.length_set]
 have e:=h _ _ X.j
 intro x av hx
 have h2:=e x
 unfold kM at hx h2
 rw [List.lookup_cons] at hx h2
 cases q:x==("lineno":Str) with
 | true=>rw [q] at hx;cases hx;trivial
 | false=>rw [q] at hx h2;exact h2 av hx
theorem Ef (hi:Bi V "iter" (.builtin "iter")) (B:km V 0 "_read_char" V.rc) (H:an V 4 gR) (F:fP V a (aH (lD "get_token")) (aO (lD "get_token")) Ea .none .none):be V 6 (.ref a) ctrGT:=fun as G K h=>by
 obtain⟨L,rest,line,pb,zq,X,hp,h1,h0⟩:=h;rw [zq]
 cases pb with
 | cons x pb =>
  obtain⟨rv,G',c,z⟩:=kE (k:=5) (G:=G) (K:=fun rv G'=>rv=.val (az x)/\G'=G.set L.p (.lst (pb.map .str))) F mu (by decide +kernel) (as:=[.obj L.j]) rfl fun fd o e1 e2 e3=>by
   refine Kh (n:=12) (K:=fun rv G'=>rv=.val (az x)/\G'=G.set L.p (.lst (pb.map .str))) H ?_
   exact aw X.j (bR hp.1 ⟨hp.2,aw X.j (kz hp.1 (bR hp.1 ⟨⟨hp.2,Int.le_refl 0⟩,(aB _ rfl rfl rfl)⟩))⟩)
  obtain⟨rfl,rfl⟩:=z
  exact (ba _ _ c.call (h1 x pb rfl))
 | nil =>
  have hK:=h0 rfl
  generalize hR:dq rest line=R at *
  obtain⟨rv,G',c,z⟩:=kE (k:=5) (G:=G) (K:=fun rv G'=>rv=.val (az (tokS R.1))/\∃ dn,G'=GI L G R.2.1 R.2.2 (.citer L.j dn)) F mu (by decide +kernel) (as:=[.obj L.j]) rfl fun fd o e1 e2 e3=>by
   have hw:(aj gR 12).ex Ea ((aO (lD "get_token")).drop 3) ⟨[("self",.val (.obj L.j)),("token",aE ""),("fiter",.val (.obj G.length))],G++[.citer L.j false]⟩ (dh fun rv G'=>rv=.val (az (tokS R.1))/\∃ dn,G'=GI L G R.2.1 R.2.2 (.citer L.j dn)):=by
    refine kO (iE de) ⟨rest.length+2,?_⟩
    have e:G++[.citer L.j false]=GI L G rest line (.citer L.j false):=by delta GI iy;rw [rz X.s,rz X.j]
    rw [e,show ("":Str)=tokS [] by decide +kernel]
    refine xA (k:=3) rfl _ rest line (Nat.lt_succ_self _) ⟨X,Nat.le_trans (Nat.le_of_eq (Nat.zero_add _)) (Nat.le_trans X.z (by decide)),X.z,X.a⟩ ?_
    rw [hR]
    exact⟨fun ι=>⟨rfl,⟨_,rfl⟩⟩,⟨rfl,⟨_,rfl⟩⟩⟩
   obtain⟨fl,G',hx,hf,hk⟩:=Kh (fd:=fd) H hw
   exact (aF fl G' (fO.cons (vn (st':=⟨[("self",.val (.obj L.j))],G⟩) (n:=12) H (aw X.j (bR hp.1 (am hp.2 rfl rfl)))) (fO.cons (vn (st':=⟨[("self",.val (.obj L.j)),("token",aE "")],G⟩) (n:=12) H ⟨rfl,rfl⟩) (fO.cons (uc (Dw (by decide +kernel) hi rfl X.j rfl B) (cH (by decide +kernel))) hx))) hf hk)
  obtain⟨rfl,dn,rfl⟩:=z
  exact (ba _ _ (cV.drop (G':=iy L G R.2.1 R.2.2) c.call iz (fun h=>Ee h X) trivial) hK)
noncomputable def jy (u:ab) (n:Nat):GObj:=.inst 0 [("lineno",aI 1),("instream",u),("whitespace",az AH),("pushback",.obj n)]
theorem xB {j:Nat} {u:ab} (h:G[j]?=some (.inst 0 [])) (hK:K kF ((G++[GObj.lst []]).set j (jy u G.length))):nu gLx "_netrclex" "__init__" ["self","fp"] [.obj j,u] G K:=by
 have hj:=(List.getElem?_eq_some_iff.mp h).1
 have e:∀ x y z:GObj,(G++[GObj.lst []]).set j (jy u G.length)=(((((G.set j x).set j y).set j z)++[GObj.lst []]).set j (jy u (((G.set j x).set j y).set j z).length)):=fun x y z=>by
  rw [List.set_set,List.set_set,List.length_set,List.set_append_left _ _ hj,List.set_append_left _ _ (by rw [List.length_set];exact hj),List.set_set]
 rw [e] at hK
 refine⟨rfl,aw h (aw (eH h) (aw (eH (eH h)) (aw (gv (eH (eH (eH h)))) hK)))⟩
end
theorem xC (ds:List PyData):pick ds none none (some (-1))=ds.reverse:=by
 delta pick PySem.sliceBounds PySem.sliceRange
 simp only [Option.getD_some]
 have e1:¬ ((-1:Int)>0):=by decide
 simp only [if_neg e1]
 have e2:(if (ds.length:Int)-1>-1 then ((ds.length:Int)-1 - -1 - -1-1) / - -1 else 0).toNat=ds.length:=by
  split
  ·have:((ds.length:Int)-1 - -1 - -1-1)=ds.length+0:=by omega
   rw [this];simp
  ·omega
 rw [e2]
 have key:∀ n,n<=ds.length->((List.range n).map fun k:Nat=>((ds.length:Int)-1+-1*(k:Int)).toNat).filterMap (ds[·]?)=ds.reverse.take n:=by
  intro n
  induction n with
  | zero=>intro _;rfl
  | succ n ih =>
   intro hn
   rw [List.range_succ,List.map_append,List.filterMap_append,ih (by omega)]
   have e3:((ds.length:Int)-1+-1*(n:Int)).toNat=ds.length-1-n:=by omega
   have e4:ds.length-1-n<ds.length:=by omega
   have e5:ds.reverse[n]?=ds[ds.length-1-n]?:=List.getElem?_reverse (by omega)
   rw [List.map_singleton,List.filterMap_cons,e3,List.take_add_one,e5,List.getElem?_eq_getElem e4];rfl
 rw [key _ (Nat.le_refl _),List.take_of_length_le (by rw [List.length_reverse];exact Nat.le_refl _)]
section
variable {V:aD} {G:List GObj} {k:Nat} {a f:Addr} {K:RV->List GObj->Prop} {mN:Str->Option Value}
noncomputable def ctrNewL:Ctr:=fun as G K=>∃ u,as=[u]/\K (.val (.obj G.length)) (G++[jy u (G.length+1),.lst []])
theorem Eg:Internal.Pos (aH (lD "__init__")) ["self","fp"]:=nj fun ι ι ι=>by kernel_rfl
theorem xD (H:an V 2 gLx) (X:bK V 0 mN) (hi:mN "__init__"=some (.ref f)) (F:fP V f (aH (lD "__init__")) (aO (lD "__init__")) (fJ (lD "__init__")) .none .none):be V 5 (.ref (V.cls 0)) ctrNewL:=fun as G K h=>by
 obtain⟨u,zq,hK⟩:=h;rw [zq]
 obtain⟨rv,G',c,z⟩:=jJ H F Eg (by decide +kernel) 12 [.obj G.length,u] (G++[.inst 0 []]) (fun rv G'=>rv=kF/\G'=G++[jy u (G.length+1),.lst []]) (xB de ⟨rfl,by
  rw [List.length_append,List.append_assoc,List.set_append_right _ _ (Nat.le_refl _),Nat.sub_self];rfl⟩)
 obtain⟨rfl,rfl⟩:=z
 obtain⟨o,fd,o1,o2,o3⟩:=F.fn
 exact (ba _ _ (oW X hi (aa o o1 o2) c) hK)
noncomputable def i3 (cs:List Nat) (n:Nat):List GObj:=[.lst (hV cs),.inst 0 [("lineno",aI 1),("instream",.dat .none),("whitespace",az AH),("pushback",.obj (n+2)),("read",.obj (n+3))],.lst [],.clo n,jy (.obj (n+1)) (n+5),.lst []]
noncomputable def xE (g:Nat):Ctr:=fun as G K=>∃ cs:List Nat,as=[az (tokS cs)]/\G[g]?=some (.tab 0)/\cs.length<=100000/\K (.val (.obj (G.length+4))) (G++i3 cs G.length)
noncomputable def gN:Gl:=gLx.addFn "_netrclex" ctrNewL
theorem Eh {cs:List Nat}:(eN (tokS cs)).reverse=hV cs:=by
 delta eN hV tokS
 rw [List.map_reverse];rfl
theorem ap {G l:List GObj} (i:Nat):(G++l)[G.length+i]?=l[i]?:=by rw [List.getElem?_append_right (Nat.le_add_right _ _),Nat.add_sub_cancel_left]
theorem Ei {G l:List GObj} {o:GObj} (i:Nat):(G++l).set (G.length+i) o=G++l.set i o:=by rw [List.set_append_right _ _ (Nat.le_add_right _ _),Nat.add_sub_cancel_left]
theorem xF {G l:List GObj} {j:Nat} {o:GObj} (h:G[j]?=some o):(G++l)[j]?=some o:=by rw [List.getElem?_append_left (List.getElem?_eq_some_iff.mp h).1];exact h
theorem Ej:∀ p∈ix.names,p.2=.free->p.1="signs":=by decide +kernel
theorem Ek {g:Nat} {mg:Value} (H:an V 5 gN) (F:fP V a (aH (bx "_law_lexer")) (ao "_law_lexer") (cS "_law_lexer") .none .none) (M:∀ fd o,V.K a=some o->o.data=.func fd->zJ V 0 fd.code/\∀ L b,(fS fd L b).qual++"<lambda>"=(V.tab 0).qual) (hp:(V.tab 0).pos=nA) (hl:V.lam=⟨py,pz,ix,(V.tab 0).qual⟩) (X:bK V 0 mN) (hr:mN "read"=none) (hb:dE "read"):be V 8 (.ref a) (xE g):=fun as G K h=>by
 obtain⟨cs,zq,hg,hz,hK⟩:=h;rw [zq]
 obtain⟨rv,G',c,z⟩:=kE (k:=7) (G:=G) (K:=fun rv G'=>rv=.val (.obj (G.length+4))/\G'=G++i3 cs G.length) F (gZ (p1:="text") fun ι ι=>by kernel_rfl) (by decide +kernel) (as:=[az (tokS cs)]) rfl fun fd o e1 e2 e3=>by
  refine (cQ (.ret (.obj (G.length+4))) _ ?_ nofun rfl rfl)
  have e2s:(G++[GObj.lst (hV cs)])++[jy (.dat .none) (G.length+2),.lst []]=G++[GObj.lst (hV cs),jy (.dat .none) (G.length+2),.lst []]:=List.append_assoc ..
  have hfin:∀ G3,G3=G++(i3 cs G.length).take 4->fO V 7 fd ((ao "_law_lexer").drop 3) (BH (cS "_law_lexer") "signs") ⟨[("text",aE (tokS cs)),("signs",.val (.obj G.length)),("holder",.val (.obj (G.length+1)))],G3⟩ (.ret (.obj (G.length+4))) (G++i3 cs G.length):=fun G3 e=>by
   have e4:(G++(i3 cs G.length).take 4).length=G.length+4:=by rw [List.length_append];rfl
   rw [e]
   refine Jp (k:=6) (n:=12) H.up (aB _ rfl ?_ ?_)
   ·rw [e4];rfl
   ·show (G++(i3 cs G.length).take 4)++[jy (.obj (G.length+1)) ((G++(i3 cs G.length).take 4).length+1),.lst []]=_
    rw [e4,List.append_assoc];rfl
  refine fO.cons (st1:=⟨[("text",aE (tokS cs)),("signs",.lst (hV cs))],G⟩) (vn (k:=6) (n:=12) H.up (lu (Nat.le_trans hz (by decide)) nofun (Nat.le_trans (Nat.le_of_eq (by rw [List.length_map];rfl)) (Nat.le_trans hz (by decide))) rfl ?_)) (fO.share (y:="signs") rfl (fO.cons (st1:=⟨[("text",aE (tokS cs)),("signs",.val (.obj G.length)),("holder",.val (.obj (G.length+1)))],G++[.lst (hV cs),jy (.dat .none) (G.length+2),.lst []]⟩) (vn (k:=6) (n:=12) H.up (aB _ rfl rfl ?_))
   (Hf (params:=py) (body:=pz) (scope:=ix) (i:=0) (sg:=G.length) (j:=G.length+1) (attrs:=[("lineno",aI 1),("instream",.dat .none),("whitespace",az AH),("pushback",.obj (G.length+2))]) (xF hg) (M fd o e1 e2).1 hp (M fd o e1 e2).2 (fun ι=>rfl) (by decide +kernel) (fun y hy=>Ej _ hy rfl) (by decide +kernel) hl rfl rfl ⟨?_,(aa _ X hr),hb,(show 4<=lim by decide)⟩ (hfin _ ?_))))
  ·show (⟨[("text",aE (tokS cs)),("signs",.lst (pick (eN (tokS cs)) none none (some (-1))))],G⟩:St)=_
   rw [xC,Eh]
  ·show (⟨[("text",aE (tokS cs)),("signs",.val (.obj G.length)),("holder",.val (.obj (G++[GObj.lst (hV cs)]).length))],(G++[GObj.lst (hV cs)])++[jy (.dat .none) ((G++[GObj.lst (hV cs)]).length+1),.lst []]⟩:St)=_
   rw [List.length_append]
   exact congrArg (St.mk _) e2s
  ·exact (xF (ap (l:=[GObj.lst (hV cs),jy (.dat .none) (G.length+2),.lst []]) 1))
  ·rw [List.append_assoc,List.length_append]
   exact Ei 1
 obtain⟨rfl,rfl⟩:=z
 exact (ba _ _ c.call hK)
end
noncomputable def eP (c:Nat):Nat:=if 65<=c&&c<=90 then c+32 else c
noncomputable def rD (c:Nat):Nat:=if 97<=c&&c<=122 then c-32 else c
theorem xG (f:Nat->Nat):∀ l:List Nat,((l.map fun c=>#[f c]).map Array.toList).flatten=l.map f:=by
 intro l
 induction l with
 | nil =>
  exact rfl
 | cons a l ih =>
  exact congrArg (f a::·) (ih)
theorem jl {g:Nat->Nat->List Nat} {f:Nat->Nat} {l:List Nat} (h:∀ i c,l[i]?=some c->g i c=[f c]):(⟨((tokS l).cps.mapIdx fun i c=>(g i c).toArray).flatten⟩:Str)=tokS (l.map f):=by
 have e:((tokS l).cps.mapIdx fun i c=>(g i c).toArray)=(l.map fun c=>#[f c]).toArray:=by
  apply Array.ext'
  rw [Array.toList_mapIdx]
  refine List.ext_getElem (by rw [List.length_mapIdx,List.length_map];rfl) fun i h1 h2=>?_
  rw [List.getElem_mapIdx,List.getElem_map]
  exact congrArg List.toArray (h i _ (List.getElem?_eq_getElem (by rw [List.length_map] at h2;exact h2)))
 rw [e]
 unfold tokS
 congr 1
 apply Array.ext'
 rw [Array.toList_flatten]
 exact xG f l
section
variable {a b l:List Nat} {ls:List (List Nat)} {c:Nat}
theorem kP (h:∀ c∈l,c<128):Txt.lower (tokS l)=tokS (l.map eP):=jl (g:=fun i ι=>Unicode.lowerAt (tokS l).cps i) fun i c hc=>by
 have e:∀ c<128,Unicode.lowerOf c=[eP c]:=by decide +kernel
 have h1:=h c (List.mem_of_getElem? hc)
 unfold Unicode.lowerAt
 rw [show (tokS l).cps[i]?=some c by rw [<- Array.getElem?_toList];exact hc]
 have:(c==931)=false:=beq_false_of_ne (Nat.ne_of_lt (Nat.lt_trans h1 (by decide)))
 simp only [this,Bool.false_and,Bool.false_eq_true,if_false]
 exact e c h1
theorem nG (h:∀ c∈l,c<128):Txt.upper (tokS l)=tokS (l.map rD):=jl (g:=fun ι c=>Unicode.upperOf c) fun i c hc=>by
 have e:∀ c<128,Unicode.upperOf c=[rD c]:=by decide +kernel
 exact e c (h c (List.mem_of_getElem? hc))
theorem bA:tokS a++tokS b=tokS (a++b):=congrArg Str.mk (Array.ext' Array.toList_append)
theorem pE:tokS a=tokS b ↔ a=b:=⟨fun e=>congrArg (fun x:Str=>x.cps.toList) e,fun e=>e▸rfl⟩
theorem pF:(tokS a==tokS b)=(a==b):=by
 cases q:a==b with
 | true=>rw [eq_of_beq q];exact beq_self_eq_true _
 | false=>exact beq_false_of_ne fun e=>ne_of_beq_false q (pE.mp e)
theorem fw:("":Str)=tokS []:=by decide +kernel
theorem dN (h:∀ c∈l,c<128):PyData.strOk (tokS l)=true:=by
 show l.toArray.all (·<0x110000)=true
 rw [List.all_toArray]
 exact List.all_eq_true.mpr fun c hc=>decide_eq_true (Nat.lt_trans (h c hc) (by decide))
theorem rE:∀ (ls:List (List Nat)) (acc:Array Nat),((ls.map tokS).foldl (fun acc p=>acc++(tokS []).cps++p.cps) acc).toList=acc.toList++ls.flatten:=by
 intro ls
 induction ls with
 | nil =>
  intro acc
  exact (List.append_nil _).symm
 | cons l ls ih =>
  intro acc
  rewrite [List.map_cons,List.foldl_cons,ih,Array.toList_append,Array.toList_append,List.flatten_cons,List.append_assoc,List.append_assoc]
  rfl
theorem eQ:Txt.join "" (ls.map tokS)=tokS ls.flatten:=by
 rw [fw]
 cases ls with
 | nil=>rfl
 | cons l ls =>
  have:=rE ls (tokS l).cps
  show (⟨_⟩:Str)=⟨_⟩
  congr 1
  exact Array.ext' this
end
section
variable {es:List DictEntry} {G:List GObj} {K:RV->List GObj->Prop}
noncomputable def nH (f:Int->Bool):Ctr:=fun as G K=>∃ x,as=[aI x]/\K (.val (.dat (.bool (f x)))) G
theorem El:nH (fun x=>x==0) as G K->eE (gB es) "ISEOF" ["x"] as G K:=fun y4015=>k1_2 y4015 fun x e h=>by
 rw [e];exact (am rfl rfl h)
theorem Em:nH (fun x=>decide (x<256)) as G K->eE (gB es) "ISTERMINAL" ["x"] as G K:=fun y4177=>k1_2 y4177 fun x e h=>by
 rw [e];exact⟨rfl,h⟩
theorem AL:nH (fun x=>decide (x>=256)) as G K->eE (gB es) "ISNONTERMINAL" ["x"] as G K:=fun y4340=>k1_2 y4340 fun x e h=>by
 rw [e];exact⟨rfl,h⟩
end
noncomputable def ops:List (List Nat):=[[40],[41],[91],[93],[58],[44],[59],[43],[45],[42],[47],[124],[38],[60],[62],[61],[46],[37],[123],[125],[61,61],[33,61],[60,61],[62,61],[126],[94],[60,60],[62,62],[42,42],[43,61],[45,61],[42,61],[47,61],[37,61],[38,61],[124,61],[94,61],[60,60,61],[62,62,61],[42,42,61],[47,47],[47,47,61],[64],[64,61],[45,62],[46,46,46],[58,61],[33]]
noncomputable def sts (l:List (List Nat)):List PyData:=l.map fun o=>.str (tokS o)
noncomputable def B5:Str:=match uI (bx "_law_operators") with
 | .Call (.Attribute (.Constant (.str x) _ _) _ _) _ _ _=>x
 | _=>""
noncomputable def lt (l:List Nat):List Nat:=l.map (·+97)
noncomputable def H8 (l:List Nat):List PyData:=l.map fun c=>.str (bC (c+97))
noncomputable def nI:Nat->List Nat->Int->List Nat
 | 0,_,_=>[]
 | n+1,l,x=>l.getD (x%((n+1:Nat):Int)).toNat 0::nI n (l.eraseIdx (x%((n+1:Nat):Int)).toNat) (x / ((n+1:Nat):Int))
noncomputable def H9:Nat->List PyData
 | 0=>[]
 | n+1=>.int ((n+1:Nat):Int)::H9 n
noncomputable def dQ (l o:List Nat):List Nat:=l.map fun i=>o.getD i 0
section
variable {es:List DictEntry} {G:List GObj} {K:RV->List GObj->Prop}
theorem mv {α β:Type} {f:α->β}:∀ {l:List α} {i:Nat},(l.map f).eraseIdx i=(l.eraseIdx i).map f
 | [],_=>rfl
 | _::_,0=>rfl
 | a::_,_+1=>congrArg (f a::·) mv
theorem uO:(Txt.words B5).map PyData.str=sts ops:=by
 have e:Txt.words B5=ops.map tokS:=by decide +kernel
 rw [e]
 unfold sts
 rewrite [List.map_map];rfl
theorem En (hK:K (.val (.dat (.list (sts ops)))) G):eE (gB es) "_law_operators" [] [] G K:=by
 rw [<- uO] at hK
 exact (a7 rfl (by decide +kernel) (by decide +kernel) hK)
noncomputable def ρR (x:Int) (l r:List Nat):Rho:=[("x",ag x),("row",aE (tokS (lt r))),("left",.lst (H8 l))]
theorem xH {K:Fl->St->Prop}:∀ (n:Nat) (l r:List Nat) (x:Int),l.length=n->n<=4->r.length+n<=4->(∀ x',K .next ⟨ρR x' [] (r++nI n l x),G⟩) ->
  db (jv (cS "_law_order") false (jx (d8 (ao "_law_order") 1))) ((aj (gB es) 11).ex (cS "_law_order") (b8 (d8 (ao "_law_order") 1))) (H9 n) ⟨ρR x l r,G⟩ K:=by
 intro n
 induction n with
 | zero =>
  intro l r x h _ _ hK
  cases List.eq_nil_of_length_eq_zero h
  have:=hK x
  rw [show r++nI 0 [] x=r from List.append_nil r] at this
  exact this
 | succ n ih =>
  intro l r x h hn hr hK
  have hp:(0:Int)<((n+1:Nat):Int):=Int.ofNat_lt.mpr (Nat.succ_pos n)
  have e1:x.fmod ((n+1:Nat):Int)=x%((n+1:Nat):Int):=Int.fmod_eq_emod_of_nonneg _ (Int.le_of_lt hp)
  have e2:x.fdiv ((n+1:Nat):Int)=x / ((n+1:Nat):Int):=Int.fdiv_eq_ediv_of_nonneg _ (Int.le_of_lt hp)
  have m1:=Int.emod_nonneg x (Int.ne_of_gt hp)
  have m2:=Int.emod_lt_of_pos x hp
  have m3:(x%((n+1:Nat):Int)).toNat<l.length:=by rw [h];exact (Int.toNat_lt m1).mpr m2
  have hb:ay ((n+1:Nat):Int)<=9000:=aV (M:=9000) (Int.le_of_lt hp) (Int.lt_of_le_of_lt (b:=(4:Int)) (Int.ofNat_le.mpr hn) (by decide +kernel))
  refine⟨Int.ne_of_gt hp,?_⟩
  rw [e1]
  refine⟨⟨Nat.le_trans (Nat.le_of_eq (List.length_map _)) (Nat.le_trans (Nat.le_of_eq h) (Nat.le_trans hn (by decide))),m1⟩,.str (bC (l.getD (x%((n+1:Nat):Int)).toNat 0+97)),?_,?_,Int.ne_of_gt hp,hb,?_⟩
  ·unfold H8
   rw [List.getElem?_map,List.getD_eq_getElem?_getD,List.getElem?_eq_getElem m3];rfl
  ·show (tokS (lt r)).length+1<=lim
   rw [aM,lt,List.length_map]
   exact Nat.le_trans (Nat.add_le_add_right (Nat.le_trans (Nat.le_add_right _ _) hr) 1) (by decide)
  ·rw [e2]
   have e3:(H8 l).eraseIdx (x%((n+1:Nat):Int)).toNat=H8 (l.eraseIdx (x%((n+1:Nat):Int)).toNat):=mv
   have e4:tokS (lt r)++bC (l.getD (x%((n+1:Nat):Int)).toNat 0+97)=tokS (lt (r++[l.getD (x%((n+1:Nat):Int)).toNat 0])):=by
    rw [cf,lt,lt,List.map_append];rfl
   have:=ih (l.eraseIdx (x%((n+1:Nat):Int)).toNat) (r++[l.getD (x%((n+1:Nat):Int)).toNat 0]) (x / ((n+1:Nat):Int)) (by rw [List.length_eraseIdx_of_lt m3,h];rfl) (Nat.le_of_succ_le hn) (by rw [List.length_append,List.length_singleton,Nat.add_assoc,Nat.add_comm 1];exact hr) fun x'=>by
    have:=hK x'
    rw [List.append_assoc];exact this
   unfold ρR at this
   rw [<- e3,<- e4] at this
   exact this
noncomputable def bq (x:Int):List Nat:=nI 4 [0,1,2,3] x
theorem Eo {x:Int} (hK:K (.val (az (tokS (lt (bq x))))) G):eE (gB es) "_law_order" ["x"] [aI x] G K:=by
 refine⟨rfl,.inr ⟨rfl,?_⟩⟩
 have:=xH (es:=es) (G:=G) (K:=fun fl st1=>(match fl with
  | .next=>(aj (gB es) 12).ex (cS "_law_order") ((ao "_law_order").drop 2) st1 (dh K)
  | fl=>dh K fl st1)) 4 [0,1,2,3] [] x rfl (Nat.le_refl _) (Nat.le_refl _) fun x'=>hK
 unfold ρR at this
 rw [show tokS (lt [])=("":Str) by decide +kernel] at this
 exact this
theorem i4:∀ i<4,Builtin.Str.occurrences "abcd" (bC (i+97)) 0 4 1=[i]:=by decide +kernel
noncomputable def pG (l:List Nat):Bool:=l.all (·<4)
noncomputable def xI:Expr:=match uI (bx "_law_led") with
 | .Call _ [e] _ _=>e
 | _=>.Constant .none 0 ⟨0,0,0,0⟩
noncomputable def cs (e:Expr):Scope:=match ms e with
 | some x=>x.2.2
 | none=>default
noncomputable def ce (e:Expr):Expr:=match ms e with
 | some x=>x.1
 | none=>.Constant .none 0 ⟨0,0,0,0⟩
noncomputable def ct (e:Expr):Expr:=match ms e with
 | some x=>x.2.1
 | none=>.Constant .none 0 ⟨0,0,0,0⟩
theorem kQ {f:Nat->Nat}:∀ l:List Nat,Txt.join "" (l.map fun c=>bC (f c))=tokS (l.map f):=fun l=>by
 have e1:(l.map fun c=>bC (f c))=(l.map fun c=>[f c]).map tokS:=by rw [List.map_map];rfl
 have e2:(l.map fun c=>[f c]).flatten=l.map f:=by
  induction l with
  | nil=>rfl
  | cons a l ih=>exact congrArg (f a::·) (ih (by rw [List.map_map];rfl))
 rw [e1,eQ,e2]
theorem xJ {o:List Nat} (ho:o.length=4):∀ {l:List Nat} {K:List PyData->St->Prop},pG l=true->K (H8 (dQ l o)) ⟨[("order",aE (tokS (lt o)))],G⟩->dK (jv (cs xI) false (ct xI)) (eB (aj (gB es) 9) (cs xI) []) ((aj (gB es) 9).evD (cs xI) (ce xI)) (eN (tokS (lt l))) ⟨[("order",aE (tokS (lt o)))],G⟩ K:=by
 intro l
 induction l with
 | nil=>exact fun ι h=>h
 | cons i l ih =>
  intro K h hK
  obtain⟨h1,h2⟩:=Bool.and_eq_true_iff.mp h
  have h1:=of_decide_eq_true h1
  have hi:i<(lt o).length:=by rw [lt,List.length_map,ho];exact h1
  refine (aF i ([]) (i4 i h1) (by rw [aM,lt,List.length_map,ho];decide) (aF i (o.getD i 0+97) ?_ ?_ (ih h2 hK)))
  ·exact cJ hi
  ·show (lt o).toArray[i]?=_
   rw [List.getElem?_toArray,lt,List.getElem?_map,List.getD_eq_getElem?_getD,List.getElem?_eq_getElem (by rw [ho];exact h1)];rfl
theorem Ep {r o:List Nat} (hr:pG r=true) (hl:r.length<=4) (ho:o.length=4) (hK:K (.val (az (tokS (lt (dQ r o))))) G):eE (gB es) "_law_led" ["row","order"] [az (tokS (lt r)),az (tokS (lt o))] G K:=by
 have l4:(lt r).length<=4:=by rw [lt,List.length_map];exact hl
 rw [lt,<- kQ] at hK
 refine (am rfl ?_ (xJ ho hr (aB ((dQ r o).map fun c=>bC (c+97)) ?_ ?_ hK)))
 ·show ((lt r).map _).length<=lim
  rw [List.length_map];exact Nat.le_trans l4 (by decide)
 ·rw [List.map_map];rfl
 ·rw [List.map_map,List.length_map]
  have:∀ l:List Nat,(l.map ((fun x:Str=>x.length)∘fun c=>bC (c+97))).sum=l.length:=fun l=>by
   induction l with
   | nil=>rfl
   | cons a l ih=>rw [List.map_cons,List.sum_cons,ih,Nat.add_comm];rfl
  rw [this,dQ,List.length_map]
  exact Nat.le_trans (Nat.add_le_add hl (Nat.mul_le_mul_right _ hl)) (by decide +kernel)
end
noncomputable def nats (l:List Nat):List PyData:=l.map fun n:Nat=>PyData.int n
noncomputable def Ia (es:List DictEntry):Gl:=(gB es).addFn "ISEOF" (nH fun x=>x==0)
noncomputable def eq (f:Nat->Nat) (s:Nat) (x:List Nat×Nat):List Nat×Nat:=bif s==x.2 then x else (x.1++[x.2],f x.2)
noncomputable def cM (f:Nat->Nat) (s:Nat):List Nat×Nat:=eq f s (eq f s (eq f s ([s],f s)))
noncomputable def fy (f:Nat->Nat):List Nat->List Nat->List Nat->List Nat
 | [],_,sizes=>sizes
 | s::l,seen,sizes=>bif seen.any (·==s) then fy f l seen sizes else fy f l (seen++(cM f s).1) (bif s==(cM f s).2 then sizes++[(cM f s).1.length] else sizes)
noncomputable def br (l:List Nat) (i:Nat):Nat:=l.getD i 0
theorem pH {f:Nat->Nat} {s:Nat} {l seen sizes:List Nat}:fy f (s::l) seen sizes=bif seen.any (·==s) then fy f l seen sizes else fy f l (seen++(cM f s).1) (bif s==(cM f s).2 then sizes++[(cM f s).1.length] else sizes):=rfl
noncomputable def iF (l:List Nat):List Nat:=fy (br l) [0,1,2,3] [] []
structure aY (l:List Nat):Prop where
 r:pG l=true
 len:l.length=4
section
variable {es:List DictEntry} {G:List GObj} {l seen sizes ring:List Nat} {s p i t:Nat}
theorem aY.at (h:aY l) (hi:i<4):br l i<4:=by
 unfold br
 rw [List.getD_eq_getElem?_getD,List.getElem?_eq_getElem (by rw [h.len];exact hi)]
 exact of_decide_eq_true (List.all_eq_true.mp h.r _ (List.getElem_mem _))
theorem aY.l4 (h:aY l):(tokS (lt l)).length=4:=by rw [aM,lt,List.length_map,h.len]
theorem aY.sz (h:aY l):(tokS (lt l)).length<=lim:=by rw [h.l4];decide
theorem aY.sq (h:aY l) (hi:i<4):seqIndex? (i:Nat) (tokS (lt l)).length=some i:=by rw [h.l4];exact cJ hi
theorem aY.gt (h:aY l) (hi:i<4):(tokS (lt l)).cps[i]?=some (br l i+97):=by
 show (lt l).toArray[i]?=_
 rw [List.getElem?_toArray,lt,List.getElem?_map,br,List.getD_eq_getElem?_getD,List.getElem?_eq_getElem (by rw [h.len];exact hi)];rfl
theorem pI:∀ l:List Nat,((nats l).any fun d=>PyData.eqv d (.int (s:Int)))=l.any (·==s):=by
 intro l
 induction l with
 | nil =>
  exact rfl
 | cons a l ih =>
  have:PyData.eqv (.int (a:Int)) (.int (s:Int))=(a==s):=by
   show ((a:Int)==(s:Int))=_
   cases q:a==s with
   | true=>rw [eq_of_beq q];exact beq_self_eq_true _
   | false=>exact beq_false_of_ne fun e=>ne_of_beq_false q (Int.ofNat_inj.mp e)
  exact congr (congrArg or this) (ih)
theorem pJ {i:Int} {l:List Nat}:(nats l).all (b9 (.int i))=true:=List.all_eq_true.mpr fun d hd=>by
 obtain⟨n,_,zq⟩:=List.mem_map.mp hd;rw [<- zq];rfl
theorem gc {l:List Nat} {n:Nat}:nats (l++[n])=nats l++[.int n]:=List.map_append
theorem i5 {l m:List Nat}:nats l++nats m=nats (l++m):=(List.map_append ..).symm
theorem Kr:∀ s:Nat,s<4->∀ p:Nat,p<4->((((s:Nat):Int)-(p:Nat))==0)=(s==p):=by decide +kernel
theorem Ib:∀ s:Nat,s<4->∀ p:Nat,p<4->∀ t:Nat,t<3->(Builtin.Int.intBits (((s:Nat):Int)-(p:Nat))+Builtin.Int.intBits (1-((t:Nat):Int).fmod 2*2)<=100000/\(Builtin.Int.intBits (((t:Nat):Int).fmod 2)+Builtin.Int.intBits 2<=100000))/\(((((s:Nat):Int)-(p:Nat))*(1-((t:Nat):Int).fmod 2*2))==0)=(s==p):=by decide +kernel
noncomputable def ρg (l seen sizes:List Nat) (s:Nat) (x:List Nat×Nat):Rho:=[("row",aE (tokS (lt l))),("seen",.lst (nats seen)),("sizes",.lst (nats sizes)),("start",ag s),("place",ag x.2),("ring",.lst (nats x.1))]
noncomputable def ρgt (l seen sizes:List Nat) (s:Nat) (x:List Nat×Nat) (t:Nat):Rho:=[("row",aE (tokS (lt l))),("seen",.lst (nats seen)),("sizes",.lst (nats sizes)),("start",ag s),("place",ag x.2),("ring",.lst (nats x.1)),("turn",ag t)]
noncomputable abbrev FM:Scope:=cS "_law_rings"
noncomputable abbrev LP:List Stmt:=b8 (d8 (ao "_law_rings") 1)
noncomputable abbrev LQ:List Stmt:=FK (d8 LP 0)
noncomputable abbrev Ks:Stmt:=d8 LQ 1
theorem kR {x:List Nat×Nat} (h:aY l) (hx:x.2<4):(eq (br l) s x).2<4:=by
 unfold eq
 cases s==x.2 with
 | true=>exact hx
 | false=>exact h.at hx
theorem uP {k:Nat} {x:List Nat×Nat} {K:Fl->St->Prop} (h:aY l) (hs:s<4) (ht:t<3) (hx:x.2<4) (hl:x.1.length<=100) (hK:K .next ⟨ρgt l seen sizes s (eq (br l) s x) t,G⟩) :
  (aj (Ia es) (k+8)).ex FM (b8 Ks) ⟨ρgt l seen sizes s x t,G⟩ K:=by
 obtain⟨⟨b1,b2⟩,e⟩:=Ib s hs x.2 hx t ht
 refine (a7 (by decide) b2 b1 (aa _ rfl ?_))
 show bO ((((((s:Nat):Int)-(x.2:Nat))*(1-((t:Nat):Int).fmod 2*2))==0)==false) _ _
 rw [e]
 unfold eq at hK
 cases q:s==x.2 with
 | true=>rw [q] at hK;exact hK
 | false =>
  replace hK:K .next ⟨ρgt l seen sizes s (x.1++[x.2],br l x.2) t,G⟩:=by rw [q] at hK;exact hK
  unfold ρgt at hK
  rw [gc] at hK
  exact (am (by unfold nats;rw [List.length_map];exact Nat.le_trans hl (by decide)) h.sz (aF _ _ (h.sq hx) (h.gt hx) (ba _ ([]) (i4 _ (h.at hx)) hK)))
theorem uQ {k:Nat} {K:Fl->St->Prop} (h:aY l) (hs:s<4):∀ {ts:List Nat} {x:List Nat×Nat},(∀ t∈ts,t<3)->x.2<4->x.1.length+ts.length<=100->K .next ⟨ρg l seen sizes s (ts.foldl (fun x ι=>eq (br l) s x) x),G⟩->db (jv FM false (jx Ks)) ((aj (Ia es) (k+8)).ex FM (b8 Ks)) (nats ts) ⟨ρg l seen sizes s x,G⟩ K:=by
 intro ts
 induction ts with
 | nil=>exact fun ι ι ι h=>h
 | cons t ts ih =>
  intro x ht hx hl hK
  refine uP h hs (ht t (.head _)) hx (Nat.le_trans (Nat.le_add_right _ _) hl) (ih (fun t' h'=>ht t' (.tail _ h')) (kR h hx) ?_ hK)
  unfold eq
  cases s==x.2 with
  | true=>exact Nat.le_trans (Nat.add_le_add_left (Nat.le_succ _) _) hl
  | false =>
   show (x.1++[x.2]).length+ts.length<=100
   rw [List.length_append,List.length_singleton,Nat.add_assoc,Nat.add_comm 1];exact hl
noncomputable def ρs (l seen sizes:List Nat):Rho:=[("row",aE (tokS (lt l))),("seen",.lst (nats seen)),("sizes",.lst (nats sizes))]
theorem jm (h:aY l) (hs:s<4):(cM (br l) s).2<4/\(cM (br l) s).1.length<=4:=by
 have g:∀ {x:List Nat×Nat} {n:Nat},x.2<4/\x.1.length<=n->(eq (br l) s x).2<4/\(eq (br l) s x).1.length<=n+1:=fun {x n} hx=>⟨kR h hx.1,by
  unfold eq
  cases s==x.2 with
  | true=>exact Nat.le_succ_of_le hx.2
  | false=>show (x.1++[x.2]).length<=n+1;rw [List.length_append];exact Nat.succ_le_succ hx.2⟩
 exact g (g (g (n:=1) ⟨h.at hs,Nat.le_refl _⟩))
theorem rF {k:Nat} {K:Fl->St->Prop} (h:aY l):∀ {ts seen sizes:List Nat},(∀ t∈ts,t<4)->seen.length+ts.length*4<=100->sizes.length+ts.length<=100->(∀ seen',K .next ⟨ρs l seen' (fy (br l) ts seen sizes),G⟩)->db (jv FM false (jx (d8 (ao "_law_rings") 1))) ((aj (Ia es) (k+10)).ex FM LP) (nats ts) ⟨ρs l seen sizes,G⟩ K:=by
 intro ts
 induction ts with
 | nil=>exact fun ι ι ι h=>h _
 | cons s ts ih =>
  intro seen sizes ht hl1 hl2 hK
  have hs:=ht s (.head _)
  have ht':∀ t∈ts,t<4:=fun t' h'=>ht t' (.tail _ h')
  rw [pH] at hK
  refine⟨pJ,?_⟩
  rw [pI]
  cases q:seen.any (·==s) with
  | true =>
   rw [q] at hK
   exact ih ht' (Nat.le_trans (Nat.add_le_add_left (Nat.mul_le_mul_right 4 (Nat.le_succ _)) _) hl1) (Nat.le_trans (Nat.add_le_add_left (Nat.le_succ _) _) hl2) hK
  | false =>
   rw [q] at hK
   obtain⟨f1,f2⟩:=jm h hs
   refine⟨h.sz,(aF _ _ (h.sq hs) (h.gt hs) (ba _ ([]) (i4 _ (h.at hs)) (.inr (am rfl ?_ ?_))))⟩
   ·exact⟨by decide,by decide⟩
   ·refine uQ (ts:=[0,1,2]) (x:=([s],br l s)) h hs (by decide) (h.at hs) (show 1+3<=100 by decide) ?_
    show (aj (Ia es) (k+9)).ex FM (LQ.drop 2) ⟨ρg l seen sizes s (cM (br l) s),G⟩ _
    generalize cM (br l) s=x at *
    have hn:∀ l:List Nat,(nats l).length=l.length:=fun l=>List.length_map _
    have z1:seen.length+x.1.length<=100:=Nat.le_trans (Nat.add_le_add_left (Nat.le_trans f2 (Nat.le_trans (Nat.le_add_left 4 (ts.length*4)) (Nat.le_of_eq (Nat.succ_mul _ _).symm))) _) hl1
    have z2:(seen++x.1).length+ts.length*4<=100:=by
     rw [List.length_append]
     rw [List.length_cons,Nat.succ_mul] at hl1
     omega
    have z3:sizes.length<=100:=Nat.le_trans (Nat.le_add_right _ _) hl2
    refine⟨by rw [hn,hn];exact Nat.le_trans z1 (by decide),(aa _ rfl ?_)⟩
    show bO ((((s:Int)-(x.2:Nat))==0)==true) _ _
    rw [Kr s hs _ f1]
    cases q2:s==x.2 with
    | true =>
     refine (am (by rw [hn];exact Nat.le_trans f2 (by decide)) (by rw [hn];exact Nat.le_trans z3 (by decide)) ?_)
     have:=ih (seen:=seen++x.1) (sizes:=sizes++[x.1.length]) ht' z2 (by rw [List.length_append,List.length_singleton,Nat.add_assoc,Nat.add_comm 1];exact hl2) fun seen'=>by
      have:=hK seen'
      rw [q2] at this;exact this
     unfold ρs at this
     rw [gc,<- i5,<- hn x.1] at this
     exact this
    | false =>
     have:=ih (seen:=seen++x.1) (sizes:=sizes) ht' z2 (Nat.le_trans (Nat.add_le_add_left (Nat.le_succ _) _) hl2) fun seen'=>by
      have:=hK seen'
      rw [q2] at this;exact this
     unfold ρs at this
     rw [<- i5] at this
     exact this
noncomputable def ctrRg:Ctr:=fun as G K=>∃ l,as=[az (tokS (lt l))]/\aY l/\K (.val (.dat (.list (nats (iF l))))) G
theorem xK {as:List ab} {K:RV->List GObj->Prop}:ctrRg as G K->eE (Ia es) "_law_rings" ["row"] as G K:=fun y10252=>k1_3 y10252 fun l e h hK=>by
 rw [e]
 exact⟨rfl,.inr (am rfl ⟨by decide,by decide⟩ (rF (k:=1) (ts:=[0,1,2,3]) (seen:=[]) (sizes:=[]) h (by decide) (by decide) (by decide) fun seen'=>hK))⟩
end
noncomputable def Ic (es:List DictEntry):Gl:=((gB es).addFn "_digits2int" (nn 2 2)).addFn "_law_rings" ctrRg
noncomputable def uR (w k:Nat):Int:=eG w (1::(List.replicate k 0++[1]))
noncomputable def kS (w:Nat) (sizes:List Nat) (m:Int):Int:=sizes.foldl (fun m s=>m*uR w (s-1)) m
noncomputable def iG (w:Nat) (rows:List (List Nat)) (t:Int):Int:=rows.foldl (fun t l=>t+kS w (iF l) 1) t
noncomputable def nJ (rows:List (List Nat)):List PyData:=rows.map fun l=>.str (tokS (lt l))
noncomputable abbrev Jq:Scope:=cS "_law_total"
noncomputable abbrev toF:Stmt:=d8 (ao "_law_total") 1
noncomputable def Id (s:Stmt):Expr:=match s with
 | .Assign _ (.Tuple (e::_) _ _) _=>e
 | _=>.Constant .none 0 ⟨0,0,0,0⟩
noncomputable abbrev Ie:Expr:=Id (d8 (ao "_law_total") 0)
section
variable {es:List DictEntry} {G:List GObj} {l seen sizes ring:List Nat} {s p i t w:Nat}
theorem xL {k:Nat} (hk:k<4):(uR w k).natAbs<2 ^ (1+(w+1)*5):=by
 refine Nat.lt_of_lt_of_le (mm (n:=w) (M:=1) fun d hd=>?_) (Nat.pow_le_pow_right (by decide) (Nat.add_le_add_left (Nat.mul_le_mul_left _ ?_) _))
 ·rcases List.mem_cons.mp hd with rfl | hd
  ·decide +kernel
  ·rcases List.mem_append.mp hd with hd | hd
   ·rw [(List.mem_replicate.mp hd).2];decide +kernel
   ·rw [List.mem_singleton.mp hd];decide +kernel
 ·rw [List.length_cons,List.length_append,List.length_replicate]
  exact Nat.succ_le_succ hk
theorem kT (h:aY l):(iF l).length<=4/\∀ s∈iF l,0<s/\s<=4:=by
 have g:∀ (ts seen sizes:List Nat),(∀ t∈ts,t<4)->(∀ s∈sizes,0<s/\s<=4)->(fy (br l) ts seen sizes).length<=sizes.length+ts.length/\∀ s∈fy (br l) ts seen sizes,0<s/\s<=4:=by
  intro ts
  induction ts with
  | nil=>exact fun ι ι ι h=>⟨Nat.le_refl _,h⟩
  | cons t ts ih =>
   intro seen sizes ht hs
   have ht':∀ t∈ts,t<4:=fun t' h'=>ht t' (.tail _ h')
   rw [pH]
   cases seen.any (·==t) with
   | true=>exact⟨Nat.le_succ_of_le (ih _ _ ht' hs).1,(ih _ _ ht' hs).2⟩
   | false =>
    have hp:0<(cM (br l) t).1.length:=by
     have g:∀ {x:List Nat×Nat},0<x.1.length->0<(eq (br l) t x).1.length:=fun {x} hx=>by
      unfold eq
      cases t==x.2 with
      | true=>exact hx
      | false=>show 0<(x.1++[x.2]).length;rw [List.length_append];exact Nat.succ_pos _
     exact g (g (g (Nat.succ_pos 0)))
    have hf:=(jm h (ht t (.head _))).2
    cases t==(cM (br l) t).2 with
    | true =>
     have:=ih (seen++(cM (br l) t).1) (sizes++[(cM (br l) t).1.length]) ht' fun s h=>by
      rcases List.mem_append.mp h with h | h
      ·exact hs s h
      ·rw [List.mem_singleton.mp h];exact⟨hp,hf⟩
     refine⟨?_,this.2⟩
     have:=this.1
     rw [List.length_append,List.length_singleton,Nat.add_assoc,Nat.add_comm 1] at this
     exact this
    | false=>exact⟨Nat.le_succ_of_le (ih _ _ ht' hs).1,(ih _ _ ht' hs).2⟩
 exact g [0,1,2,3] [] [] (by decide) nofun
noncomputable def AM (w:Nat):List PyData:=[.int (uR w 0),.int (uR w 1),.int (uR w 2),.int (uR w 3)]
theorem xM {j:Nat} {K:List PyData->St->Prop} (hw:w<=2000) (g2:G[2]?=some (.tab 2)):∀ {ks:List Nat},(∀ k∈ks,k<4)->K (ks.map fun k=>.int (uR w k)) ⟨[("width",ag w)],G⟩ ->
  dK (jv (cs Ie) false (ct Ie)) (eB (aj (Ic es) (j+8)) (cs Ie) []) ((aj (Ic es) (j+8)).evD (cs Ie) (ce Ie)) (nats ks) ⟨[("width",ag w)],G⟩ K:=by
 intro ks
 induction ks generalizing K with
 | nil=>exact fun ι h=>h
 | cons k ks ih =>
  intro h hK
  have hk:=h k (.head _)
  refine (a7 ?_ ?_ ?_ (tP w (1::(List.replicate k 0++[1])) ?_ g2 (Nat.le_trans hw (by decide)) ?_ ?_ (ih (fun k' h'=>h k' (.tail _ h')) hK)))
  ·exact⟨Int.ofNat_le.mpr (Nat.le_trans (Nat.le_of_lt hk) (by decide)),Int.le_trans (by decide) (Int.natCast_nonneg k)⟩
  ·show 1+(List.replicate k (PyData.int 0)).length<=lim
   rw [List.length_replicate];exact Nat.le_trans (Nat.add_le_add_left (Nat.le_of_lt hk) 1) (by decide)
  ·show (PyData.int 1::List.replicate k (PyData.int 0)).length+1<=lim
   rw [List.length_cons,List.length_replicate];exact Nat.le_trans (Nat.add_le_add_right (Nat.succ_le_succ (Nat.le_of_lt hk)) 1) (by decide)
  ·show [ab.dat (.list (PyData.int 1::(List.replicate k (PyData.int 0)++[PyData.int 1]))),aI w]=[ab.dat (.list (PyData.int 1::(List.replicate k (0:Int)++[1]).map PyData.int)),aI w]
   rw [List.map_append,List.map_replicate];rfl
  ·rw [List.length_cons,List.length_append,List.length_replicate]
   exact Nat.le_trans (Nat.succ_le_succ (Nat.succ_le_succ (Nat.le_of_lt hk))) (by decide)
  ·intro x hx
   rcases List.mem_cons.mp hx with rfl | hx
   ·decide +kernel
   ·rcases List.mem_append.mp hx with hx | hx
    ·rw [(List.mem_replicate.mp hx).2];decide +kernel
    ·rw [List.mem_singleton.mp hx];decide +kernel
noncomputable def ρt (rows:List (List Nat)) (w:Nat) (t:Int):Rho:=[("rows",.val (.dat (.list (nJ rows)))),("width",ag w),("total",ag t),("tellings",.lst (AM w))]
noncomputable def ρm (rows:List (List Nat)) (w:Nat) (t:Int) (r:Str) (m:Int):Rho:=[("rows",.val (.dat (.list (nJ rows)))),("width",ag w),("total",ag t),("tellings",.lst (AM w)),("row",aE r),("made",ag m)]
theorem uS {k:Nat} {rows:List (List Nat)} {t:Int} {r:Str} {K:Fl->St->Prop} (hw:w<=2000):∀ {sizes:List Nat} {m:Int} {b:Nat},(∀ s∈sizes,0<s/\s<=4)->ay m<=b->b+sizes.length*12000<=60000->K .next ⟨ρm rows w t r (kS w sizes m),G⟩ ->
  db (jv Jq false (jx (d8 (b8 toF) 1))) ((aj (Ic es) (k+7)).ex Jq (b8 (d8 (b8 toF) 1))) (nats sizes) ⟨ρm rows w t r m,G⟩ K:=by
 intro sizes
 induction sizes with
 | nil=>exact fun ι ι ι h=>h
 | cons s sizes ih =>
  intro m b hs hm hb hK
  obtain⟨h1,h4⟩:=hs s (.head _)
  have hk:s-1<4:=Nat.lt_of_lt_of_le (Nat.sub_lt h1 (by decide)) h4
  have tb:ay (uR w (s-1))<=12000:=jK (Nat.lt_of_lt_of_le (xL (w:=w) hk) (Nat.pow_le_pow_right (by decide) (by omega)))
  have eg:(AM w)[s-1]?=some (.int (uR w (s-1))):=by
   have:∀ k<4,(AM w)[k]?=some (.int (uR w k)):=fun k hk=>match k,hk with
    | 0,_=>rfl
    | 1,_=>rfl
    | 2,_=>rfl
    | 3,_=>rfl
    | k+4,h=>absurd h (Nat.not_lt.mpr (Nat.le_add_left 4 k))
   exact this _ hk
  have ei:((s:Nat):Int)-1=((s-1:Nat):Int):=(Int.ofNat_sub h1).symm
  have mb:ay (m*uR w (s-1))<=b+12000:=jK (by rw [Int.natAbs_mul,Nat.pow_add];exact Nat.mul_lt_mul_of_lt_of_lt (fu hm) (fu tb))
  rw [List.length_cons,Nat.succ_mul] at hb
  refine⟨(show 4<=lim by decide),s-1,_,by rw [ei];exact cJ hk,eg,Nat.le_trans (Nat.add_le_add hm tb) (by omega),ih (fun s' h'=>hs s' (.tail _ h')) mb (by omega) hK⟩
theorem xN {k:Nat} {rows:List (List Nat)} {K:Fl->St->Prop} (hw:w<=2000):∀ {ls:List (List Nat)} {t:Int},(∀ l∈ls,aY l)->K .next ⟨ρt rows w (iG w ls t),G⟩ ->
  db (jv Jq false (jx toF)) ((aj (Ic es) (k+9)).ex Jq (b8 toF)) (nJ ls) ⟨ρt rows w t,G⟩ K:=by
 intro ls
 induction ls with
 | nil=>exact fun ι h=>h
 | cons l ls ih =>
  intro t hl hK
  obtain⟨r1,r2⟩:=kT (hl l (.head _))
  exact (aB l rfl (hl l (.head _)) (uS (b:=1) hw r2 (by decide +kernel) (by omega) (ih (fun l' h'=>hl l' (.tail _ h')) hK)))
noncomputable def ctrTo:Ctr:=fun as G K=>∃ (rows:List (List Nat)) (w:Nat),as=[.dat (.list (nJ rows)),aI w]/\G[2]?=some (.tab 2)/\w<=2000/\(∀ l∈rows,aY l)/\K (rh (iG w rows 0)) G
theorem Er {as:List ab} {K:RV->List GObj->Prop}:ctrTo as G K->eE (Ic es) "_law_total" ["rows","width"] as G K:=fun y8671=>k2_5 y8671 fun rows w e g2 hw hl hK=>by
 rw [e]
 exact (a7 rfl ⟨by decide,by decide⟩ (by decide) (xM (ks:=[0,1,2,3]) hw g2 (by decide) (.inr ⟨rfl,xN hw hl hK⟩)))
end
noncomputable abbrev B6:Scope:=cS "_law_choices"
noncomputable abbrev Jr (i:Nat):Stmt:=d8 (ao "_law_choices") i
noncomputable def pK (s:Stmt):Expr:=match s with
 | .Assign _ e _=>e
 | _=>.Constant .none 0 ⟨0,0,0,0⟩
noncomputable def rG (e:Expr):Expr:=match e with
 | .Call _ (a::_) _ _=>a
 | _=>.Constant .none 0 ⟨0,0,0,0⟩
noncomputable abbrev Ig:Expr:=pK (Jr 1)
noncomputable abbrev Ih:Expr:=ce Ig
noncomputable abbrev Kt:Expr:=rG (ce Ih)
noncomputable def ci (e:Expr):List Expr:=match e with
 | .ListComp _ [g] _ _=>g.ifs
 | _=>[]
noncomputable abbrev cg (r:Wk) (e:Expr) (K:List PyData->St->Prop) (items:List PyData) (st:St):Prop:=dK (jv (cs e) false (ct e)) (eB r (cs e) (ci e)) (r.evD (cs e) (ce e)) items st K
theorem Ii:∀ one:Nat,one<16->∀ j:Nat,j<4->(Builtin.bitAnd ((one:Int).fdiv (2 ^ j)) 1)=((one / 2 ^ j%2:Nat):Int):=by decide +kernel
theorem Ku:∀ i:Nat,i<4->(Builtin.Int.intBits 2:Int)*i<=2 ^ 27:=by decide +kernel
noncomputable def sZ (o:List Nat) (one:Nat) (js:List Nat):List Nat:=(js.filter fun j=>one / 2 ^ j%2 != 0).map fun j=>2 ^ br o j
section
variable {es:List DictEntry} {G:List GObj} {o js:List Nat} {one j k:Nat}
theorem uT {K:List PyData->St->Prop} (ho:aY o) (h1:one<16):∀ {js:List Nat},(∀ j∈js,j<4)->K (nats (sZ o one js)) ⟨[("one",ag one),("order",aE (tokS (lt o)))],G⟩->cg (aj (gB es) (k+4)) Kt K (nats js) ⟨[("one",ag one),("order",aE (tokS (lt o)))],G⟩:=by
 intro js
 induction js generalizing K with
 | nil=>exact fun ι h=>h
 | cons j js ih =>
  intro hj hK
  have h4:=hj j (.head _)
  refine⟨Int.natCast_nonneg _,?_⟩
  show bO (Builtin.bitAnd ((one:Int).fdiv (2 ^ j)) 1 != 0) _ _
  rw [Ii one h1 j h4]
  have e:((((one / 2 ^ j%2:Nat):Int)) != 0)=(one / 2 ^ j%2 != 0):=by
   cases q:one / 2 ^ j%2 with
   | zero=>rfl
   | succ n=>rfl
  rw [e]
  unfold sZ at hK
  rw [List.filter_cons] at hK
  cases q:one / 2 ^ j%2 != 0 with
  | false =>
   rw [q] at hK
   exact ih (fun j' h'=>hj j' (.tail _ h')) hK
  | true =>
   rw [q] at hK
   refine⟨ho.sz,(aF _ _ (ho.sq h4) (ho.gt h4) (cQ _ ([]) (i4 _ (ho.at h4)) (Int.natCast_nonneg _) (Ku _ (ho.at h4)) (ih (fun j' h'=>hj j' (.tail _ h')) ?_)))⟩
   rw [if_pos rfl] at hK
   have e2:(2:Int) ^ (br o j)=((2 ^ br o j:Nat):Int):=bj.symm
   show K (.int ((2:Int) ^ (br o j))::_) _
   rw [e2]
   exact hK
end
noncomputable def s6 (o:List Nat) (one:Nat):Nat:=(sZ o one [0,1,2,3]).sum
noncomputable def dt:List Nat:=[0,1,2,3,4,5,6,7,8,9,10,11,12,13,14,15]
noncomputable def cq (o:List Nat):List Nat:=dt.map (s6 o)
noncomputable def fM (st least:List Nat) (one:Nat):List Nat:=(least.set one (min (br least one) (br least (br st one)))).set (br st one) (min (br least one) (br least (br st one)))
noncomputable def Js (ls:List (List Nat)):List PyData:=ls.map fun l=>.list (nats l)
theorem pL {l:List Nat}:∃ m:List Int,nats l=m.map .int/\m.sum=(l.sum:Nat):=by
 refine (aa (l.map Int.ofNat) (by unfold nats;rw [List.map_map];rfl) ?_)
 induction l with
 | nil=>rfl
 | cons a l ih=>rw [List.map_cons,List.sum_cons,List.sum_cons,ih,Int.natCast_add];rfl
theorem gd {l:List Nat} {i:Nat} (h:i<l.length):(nats l)[i]?=some (.int (br l i:Nat)):=by
 delta nats br
 rw [List.getElem?_map,List.getD_eq_getElem?_getD,List.getElem?_eq_getElem h];rfl
theorem bk {l:List Nat}:(nats l).length=l.length:=List.length_map _
theorem pM {l:List Nat} {i n:Nat}:(nats l).set i (.int (n:Nat))=nats (l.set i n):=(List.map_set ..).symm
theorem AN {a b:Nat}:(if (b:Int)<(a:Int) then (b:Int) else (a:Int))=((min a b:Nat):Int):=by
 rw [Nat.min_def]
 by_cases h:a<=b
 ·rw [if_pos h,if_neg (Int.not_lt.mpr (Int.ofNat_le.mpr h))]
 ·rw [if_neg h,if_pos (Int.ofNat_lt.mpr (Nat.lt_of_not_le h))]
section
variable {es:List DictEntry} {G:List GObj} {o js st least:List Nat} {os sts:List (List Nat)} {one j k:Nat}
theorem xO {K:List PyData->St->Prop} (ho:aY o):∀ {ones:List Nat},(∀ j∈ones,j<16)->K (nats (ones.map (s6 o))) ⟨[("order",aE (tokS (lt o)))],G⟩->cg (aj (gB es) (k+6)) Ih K (nats ones) ⟨[("order",aE (tokS (lt o)))],G⟩:=by
 intro ones
 induction ones generalizing K with
 | nil=>exact fun ι h=>h
 | cons one ones ih =>
  intro hj hK
  obtain⟨m,e1,e2⟩:=pL (l:=sZ o one [0,1,2,3])
  refine (am ⟨by decide,by decide⟩ (by decide) (uT (js:=[0,1,2,3]) ho (hj one (.head _)) (by decide) (aa m e1 ?_)))
  rw [e2]
  exact ih (fun j' h'=>hj j' (.tail _ h')) hK
theorem xP {K:List PyData->St->Prop}:∀ {os:List (List Nat)},(∀ o∈os,aY o)->K (Js (os.map cq)) ⟨[],G⟩->cg (aj (gB es) (k+7)) Ig K (nJ os) ⟨[],G⟩:=by
 intro os
 induction os generalizing K with
 | nil=>exact fun ι h=>h
 | cons o os ih =>
  intro hj hK
  exact (am ⟨by decide,by decide⟩ (by decide) (xO (ones:=dt) (hj o (.head _)) (by decide) (ih (fun j' h'=>hj j' (.tail _ h')) hK)))
noncomputable def Mh (b:Bool) (sts:List (List Nat)):Slot:=bif b then .lst (Js sts) else .val (.dat (.list (Js sts)))
noncomputable def ρc (os:List (List Nat)) (least:List Nat) (b:Bool) (sts:List (List Nat)) (tl:Rho):Rho:=("orders",.val (.dat (.list (nJ os))))::("least",.lst (nats least))::("steps",Mh b sts)::tl
noncomputable abbrev Es:Stmt:=Jr 2
noncomputable abbrev Et:Stmt:=d8 (b8 Es) 0
noncomputable abbrev Ij:Stmt:=d8 (b8 Et) 0
noncomputable def Eu (st:List Nat):Prop:=st.length=16/\∀ i<16,br st i<16
theorem s7:(fM st least one).length=least.length:=by unfold fM;rw [List.length_set,List.length_set]
theorem rH {K:Fl->St->Prop} {tn:Nat} (hs:Eu st):∀ {ones:List Nat} {least:List Nat},least.length=16->(∀ j∈ones,j<16)->K .next ⟨ρc os (ones.foldl (fM st) least) false sts [("turn",ag tn),("step",.val (.dat (.list (nats st))))],G⟩ ->
  db (jv B6 false (jx Ij)) ((aj (gB es) (k+8)).ex B6 (b8 Ij)) (nats ones) ⟨ρc os least false sts [("turn",ag tn),("step",.val (.dat (.list (nats st))))],G⟩ K:=by
 intro ones
 induction ones with
 | nil=>exact fun ι ι h=>h
 | cons one ones ih =>
  intro least hl hj hK
  have h1:=hj one (.head _)
  have h2:=hs.2 one h1
  have nl:(nats least).length=16:=by rw [bk,hl]
  have nst:(nats st).length=16:=by rw [bk,hs.1]
  have sz:(16:Nat)<=lim:=by decide
  refine⟨by rw [nl];exact sz,one,_,by rw [nl];exact cJ h1,gd (by rw [hl];exact h1),by rw [nst];exact sz,one,_,by rw [nst];exact cJ h1,gd (by rw [hs.1];exact h1),by rw [nl];exact sz,br st one,_,by rw [nl];exact cJ h2,gd (by rw [hl];exact h2),⟨Int.natCast_nonneg _,by rw [nl];exact Int.ofNat_lt.mpr h1,by rw [nl];exact sz⟩,by rw [nst];exact sz,one,_,by rw [nst];exact cJ h1,gd (by rw [hs.1];exact h1),⟨Int.natCast_nonneg _,by rw [List.length_set,nl];exact Int.ofNat_lt.mpr h2,by rw [List.length_set,nl];exact sz⟩,?_⟩
  have:=ih (least:=fM st least one) (by rw [s7,hl]) (fun j' h'=>hj j' (.tail _ h')) hK
  unfold ρc fM at this
  rw [<- pM,<- pM,<- AN] at this
  exact this
end
noncomputable def iH (st least:List Nat):List Nat:=dt.foldl (fM st) least
noncomputable def fA:List (List Nat)->List Nat->List Nat
 | [],l=>l
 | st::sts,l=>fA sts (iH st l)
noncomputable def gf (sts:List (List Nat)):Nat->List Nat->List Nat
 | 0,l=>l
 | n+1,l=>gf sts n (fA sts l)
noncomputable def Ew (one:Nat):List Nat:=[0,1,2,3].map fun j=>one / 2 ^ j%2
noncomputable def fB (least:List Nat) (ones:List Nat):List Nat:=(ones.filter fun one=>br least one==one).map fun one=>(Ew one).sum
noncomputable def bG (os:List (List Nat)):List Nat:=[0,1,2,3,4].map fun s=>(fB (gf (os.map cq) 6 dt) dt).countP fun x=>x==s
theorem mw {st least:List Nat}:(iH st least).length=least.length:=by
 have:∀ (l least:List Nat),(l.foldl (fM st) least).length=least.length:=fun l=>by
  induction l with
  | nil=>exact fun ι=>rfl
  | cons a l ih=>exact fun least=>(ih _).trans s7
 exact this _ _
theorem kU:∀ (sts:List (List Nat)) (l:List Nat),(fA sts l).length=l.length:=fun sts=>by
 induction sts with
 | nil=>exact fun ι=>rfl
 | cons st sts ih=>exact fun l=>(ih (iH st l)).trans mw
theorem uU {sts:List (List Nat)}:∀ (n:Nat) (l:List Nat),(gf sts n l).length=l.length:=fun n=>by
 induction n with
 | zero=>exact fun ι=>rfl
 | succ n ih=>exact fun l=>(ih (fA sts l)).trans (kU sts l)
section
variable {es:List DictEntry} {G:List GObj} {o js st least:List Nat} {os sts:List (List Nat)} {one j k:Nat}
theorem pN {K:Fl->St->Prop} {tn:Nat} {sts0:List (List Nat)}:∀ {sts:List (List Nat)} {least:List Nat},least.length=16->(∀ st∈sts,Eu st)->K .next ⟨ρc os (fA sts least) false sts0 [("turn",ag tn)],G⟩ ->
  db (jv B6 false (jx Et)) ((aj (gB es) (k+9)).ex B6 (b8 Et)) (Js sts) ⟨ρc os least false sts0 [("turn",ag tn)],G⟩ K:=by
 intro sts
 induction sts with
 | nil=>exact fun ι ι h=>h
 | cons st sts ih =>
  intro least hl hj hK
  have h1:=ih (least:=iH st least) (mw.trans hl) (fun j' h'=>hj j' (.tail _ h')) hK
  generalize he:iH st least=l2 at h1
  refine⟨⟨by decide,by decide⟩,rH (ones:=dt) (hj st (.head _)) hl (by decide) ?_⟩
  rw [show dt.foldl (fM st) least=l2 from he]
  exact h1
theorem uV {K:Fl->St->Prop} (hs:∀ st∈sts,Eu st):∀ {ts:List Nat} {b:Bool} {least:List Nat},least.length=16->(∀ b,K .next ⟨ρc os (gf sts ts.length least) b sts [],G⟩) ->
  db (jv B6 false (jx Es)) ((aj (gB es) (k+10)).ex B6 (b8 Es)) (nats ts) ⟨ρc os least b sts [],G⟩ K:=by
 intro ts
 induction ts with
 | nil=>exact fun ι h=>h _
 | cons t ts ih =>
  intro b least hl hK
  have h1:=ih (b:=false) (least:=fA sts least) ((kU _ _).trans hl) hK
  generalize he:fA sts least=l2 at h1
  cases b with
  | true=>exact pN hl hs (by rw [he];exact h1)
  | false=>exact pN hl hs (by rw [he];exact h1)
noncomputable abbrev Ik:Expr:=pK (Jr 3)
noncomputable abbrev Kv:Expr:=rG (ce Ik)
noncomputable abbrev Kw:Expr:=match Jr 4 with
 | .Return (some e) _=>e
 | _=>.Constant .none 0 ⟨0,0,0,0⟩
theorem xQ {K:List PyData->St->Prop} (h1:one<16):∀ {js:List Nat},(∀ j∈js,j<4)->K (nats (js.map fun j=>one / 2 ^ j%2)) ⟨[("one",ag one)],G⟩->cg (aj (gB es) (k+4)) Kv K (nats js) ⟨[("one",ag one)],G⟩:=by
 intro js
 induction js generalizing K with
 | nil=>exact fun ι h=>h
 | cons j js ih =>
  intro hj hK
  refine⟨Int.natCast_nonneg _,ih (fun j' h'=>hj j' (.tail _ h')) ?_⟩
  show K (.int (Builtin.bitAnd ((one:Int).fdiv (2 ^ j)) 1)::_) _
  rw [Ii one h1 j (hj j (.head _))]
  exact hK
theorem uW {K:List PyData->St->Prop} (hl:least.length=16):∀ {ones:List Nat},(∀ j∈ones,j<16)->K (nats (fB least ones)) ⟨[("least",.val (.dat (.list (nats least))))],G⟩->cg (aj (gB es) (k+6)) Ik K (nats ones) ⟨[("least",.val (.dat (.list (nats least))))],G⟩:=by
 intro ones
 induction ones generalizing K with
 | nil=>exact fun ι h=>h
 | cons one ones ih =>
  intro hj hK
  have h1:=hj one (.head _)
  refine⟨by rw [bk,hl];decide,(cQ one _ (by rw [bk,hl];exact cJ h1) (gd (by rw [hl];exact h1)) rfl ?_)⟩
  have e:PyData.eqv (.int (br least one:Nat)) (.int (one:Nat))=(br least one==one):=by
   show ((br least one:Int)==(one:Int))=_
   cases q:br least one==one with
   | true=>rw [eq_of_beq q];exact beq_self_eq_true _
   | false=>exact beq_false_of_ne fun e=>ne_of_beq_false q (Int.ofNat_inj.mp e)
  rw [e]
  unfold fB at hK
  rw [List.filter_cons] at hK
  cases q:br least one==one with
  | false =>
   rw [q] at hK
   exact ih (fun j' h'=>hj j' (.tail _ h')) hK
  | true =>
   rw [q,if_pos rfl] at hK
   obtain⟨m,e1,e2⟩:=pL (l:=Ew one)
   refine (am ⟨by decide,by decide⟩ (by decide) (xQ (js:=[0,1,2,3]) h1 (by decide) (aa m e1 ?_)))
   rw [e2]
   exact ih (fun j' h'=>hj j' (.tail _ h')) hK
theorem rI {s:Nat}:∀ l:List Nat,((nats l).countP fun d=>PyData.eqv d (.int (s:Int)))=l.countP fun x=>x==s:=fun l=>by
 unfold nats
 rw [List.countP_map]
 refine List.countP_congr fun a ι=>?_
 have:=pI (s:=s) [a]
 simp only [nats,List.map_cons,List.map_nil,List.any_cons,List.any_nil,Bool.or_false] at this
 show PyData.eqv (.int (a:Int)) (.int (s:Int))=true ↔ _
 rw [this]
theorem xR {K:List PyData->St->Prop} {l:List Nat} (hl:l.length<=16):∀ {ss:List Nat},K (nats (ss.map fun s=>l.countP fun x=>x==s)) ⟨[("sizes",.val (.dat (.list (nats l))))],G⟩->cg (aj (gB es) (k+5)) Kw K (nats ss) ⟨[("sizes",.val (.dat (.list (nats l))))],G⟩:=by
 intro ss
 induction ss generalizing K with
 | nil=>exact fun h=>h
 | cons s ss ih =>
  intro hK
  refine⟨⟨by rw [bk];exact Nat.le_trans hl (by decide),pJ⟩,?_⟩
  show cg _ _ (fun ds st=>K (.int (((nats l).countP fun d=>PyData.eqv d (.int (s:Int))):Nat)::ds) st) _ _
  rw [rI]
  exact ih hK
noncomputable def ctrCh:Ctr:=fun as G K=>∃ os:List (List Nat),as=[.dat (.list (nJ os))]/\os.length<=100/\(∀ o∈os,aY o/\Eu (cq o))/\K (.val (.dat (.list (nats (bG os))))) G
theorem Il {as:List ab} {K:RV->List GObj->Prop} (h:ctrCh as G K):eE (gB es) "_law_choices" ["orders"] as G K:=by
 obtain⟨os,zq,hz,ho,hK⟩:=h;rw [zq]
 refine (a7 rfl ⟨by decide,by decide⟩ ?_ (xP (fun o h=>(ho o h).1) ⟨⟨by decide,by decide⟩,?_⟩))
 ·show (nJ os).length<=lim
  rw [nJ,List.length_map];exact Nat.le_trans hz (by decide)
 ·have h1:=uV (es:=es) (G:=G) (k:=1) (os:=os) (sts:=os.map cq) (b:=true) (ts:=[0,1,2,3,4,5]) (least:=dt) (K:=fun fl st1=>(match fl with
   | .next=>(aj (gB es) 12).ex B6 ((ao "_law_choices").drop 3) st1 (dh K)
   | fl=>dh K fl st1)) (fun st h=>by
    obtain⟨o,h1,zq⟩:=List.mem_map.mp h;rw [<- zq]
    exact (ho o h1).2) rfl fun b=>by
    have hl:(gf (os.map cq) 6 dt).length=16:=uU _ _
    have sl:(fB (gf (os.map cq) 6 dt) dt).length<=16:=by
     delta fB;rw [List.length_map];exact List.length_filter_le _ _
    delta bG at hK
    show (aj (gB es) 12).ex B6 ((ao "_law_choices").drop 3) ⟨ρc os (gf (os.map cq) 6 dt) b (os.map cq) [],G⟩ (dh K)
    generalize gf (os.map cq) 6 dt=L at *
    exact (am ⟨by decide,by decide⟩ (by decide) (uW (ones:=dt) hl (by decide) (am ⟨by decide,by decide⟩ (by decide) (xR (ss:=[0,1,2,3,4]) sl hK))))
  exact h1
end
noncomputable def nK:List (List Nat×Nat):=[([33],54),([33,61],28),([37],24),([37,61],40),([38],19),([38,61],41),([40],7),([41],8),([42],16),([42,42],35),([42,42,61],46),([42,61],38),([43],14),([43,61],36),([44],12),([45],15),([45,61],37),([45,62],51),([46],23),([46,46,46],52),([47],17),([47,47],47),([47,47,61],48),([47,61],39),([58],11),([58,61],53),([59],13),([60],20),([60,60],33),([60,60,61],44),([60,61],29),([61],22),([61,61],27),([62],21),([62,61],30),([62,62],34),([62,62,61],45),([64],49),([64,61],50),([91],9),([93],10),([94],32),([94,61],43),([123],25),([124],18),([124,61],42),([125],26),([126],31)]
noncomputable def tk (z:List Nat):Option Nat:=(nK.find? fun e=>e.1==z).map (·.2)
noncomputable def gQ (es:List DictEntry):Prop:=∀ z:List Nat,(tk z=none/\findBy Value.isStrOf es.toArray (tokS z)=none)\/∃ (n:Nat) (t:Tok),tk z=some n/\findBy Value.isStrOf es.toArray (tokS z)=some (.int (n:Int) t)
theorem gQ.sm {es:List DictEntry} (T:gQ es) (z:List Nat):(findBy Value.isStrOf es.toArray (tokS z)).isSome=(tk z).isSome:=by
 rcases T z with ⟨h1,h2⟩ | ⟨n,t,h1,h2⟩<;>rw [h1,h2]<;>rfl
theorem gQ.get {es:List DictEntry} (T:gQ es) {z:List Nat} {n:Nat} (h:tk z=some n):∃ t,findBy Value.isStrOf es.toArray (tokS z)=some (.int (n:Int) t):=by
 rcases T z with ⟨h1,h2⟩ | ⟨n,t,h1,h2⟩
 ·rw [h1] at h;cases h
 ·rw [h1] at h;cases h;exact⟨t,h2⟩
section
variable {l:List Nat} {a b n i:Nat}
theorem pO {l:List Nat} {lo hi:Option Int} {a k:Nat} (h:Builtin.Str.strSliceIndices lo hi 1 l.length=(List.range k).map fun x=>a+x) (hk:k=l.length->a=0):bJ (tokS l) lo hi none=tokS ((l.drop a).take k):=by
 unfold bJ
 rw [Option.getD_none,aM,h,List.length_map,List.length_range]
 by_cases q:k=l.length
 ·rw [q,hk q,if_pos (by rw [beq_self_eq_true,beq_self_eq_true];rfl),List.drop_zero,List.take_length]
 ·rw [if_neg (by rw [beq_false_of_ne q,Bool.and_false];exact nofun)]
  show tokS (((List.range k).map fun x=>a+x).filterMap (l.toArray[·]?))=_
  exact congrArg tokS (pick_run l.toArray a k)
theorem Ey (h:a<l.length) (hab:a<=b):bJ (tokS l) (some (a:Int)) (some (b:Int)) none=tokS ((l.drop a).take (b-a)):=by
 have e:Builtin.Str.strSliceIndices (some (a:Int)) (some (b:Int)) 1 l.length=(List.range (min b l.length-a)).map fun x=>a+x:=by
  rw [<- sliceRange_one]
  unfold Builtin.Str.strSliceIndices
  have h1:(1:Int)>0:=by decide
  simp only [if_pos h1]
  congr 1
  ·exact (vq a l.length).trans (congrArg Nat.cast (Nat.min_eq_left (Nat.le_of_lt h)))
  ·exact vq b l.length
 rw [pO e (by omega)]
 congr 1
 rw [Nat.min_def]
 split
 ·rfl
 ·rw [List.take_of_length_le (by rw [List.length_drop];exact Nat.le_refl _),List.take_of_length_le (by rw [List.length_drop];omega)]
theorem xS (h:n<=l.length) (hn:0<n):bJ (tokS l) (some (-(n:Int))) none none=tokS (l.drop (l.length-n)):=by
 have e:Builtin.Str.strSliceIndices (some (-(n:Int))) none 1 l.length=(List.range (l.length-(l.length-n))).map fun x=>(l.length-n)+x:=by
  rw [<- sliceRange_one]
  unfold Builtin.Str.strSliceIndices
  have h1:(1:Int)>0:=by decide
  simp only [if_pos h1]
  congr 1
  omega
 rw [pO e (by omega),List.take_of_length_le (by rw [List.length_drop];exact Nat.le_refl _)]
end
noncomputable def i6 (z:List Nat):Bool:=(tk z).isSome||z.length==1
noncomputable def aC (r:List Nat):List Nat:=bif i6 (r.take 3) then r.take 3 else bif i6 (r.take 2) then r.take 2 else r.take 1
noncomputable def pP (c:Nat):Nat:=bif decide (97<=eP c)&&decide (eP c<=100) then 256+(eP c-97) else 255
noncomputable def eS (p:List Nat):Nat:=match tk p with
 | some n=>n
 | none=>match p with
  | []=>255
  | c::_=>pP c
noncomputable def hO:Nat->List Nat->List Nat
 | 0,_=>[]
 | n+1,r=>match r with
  | []=>[]
  | c::r=>eS (aC (c::r))::hO n ((c::r).drop (aC (c::r)).length)
noncomputable abbrev Kx:Scope:=cS "_law_cut"
noncomputable abbrev Jt:Stmt:=d8 (ao "_law_cut") 1
set_option backward.match.sparseCases false in
noncomputable def Ky (e:Expr):Expr:=match e with
 | .Subscript o _ _=>o
 | _=>e
noncomputable abbrev Mi:Expr:=Ky (pK (d8 (b8 Jt) 0))
section
variable {es:List DictEntry} {G:List GObj} {l r p:List Nat} {ps:List (List Nat)} {j k:Nat}
theorem rJ {K:List PyData->St->Prop} (T:gQ es):∀ {ps:List (List Nat)},(∀ p∈ps,p.length<=100)->K (sts (ps.filter i6)) ⟨[],G⟩->cg (aj (gB es) (k+5)) Mi K (sts ps) ⟨[],G⟩:=by
 intro ps
 induction ps generalizing K with
 | nil=>exact fun ι h=>h
 | cons p ps ih =>
  intro hl hK
  have ih:=fun {K}=>ih (K:=K) fun p' h'=>hl p' (.tail _ h')
  show bO (findBy Value.isStrOf es.toArray (tokS p)).isSome _ _
  rw [T.sm]
  unfold i6 at hK
  rw [List.filter_cons] at hK
  cases q:(tk p).isSome with
  | true =>
   rw [q] at hK
   exact ih hK
  | false =>
   refine (am (Nat.le_trans (hl p (.head _)) (by decide)) rfl ?_)
   show bO ((((tokS p).length:Nat):Int)==1) _ _
   have e:((((tokS p).length:Nat):Int)==1)=(p.length==1):=by
    rw [aM]
    cases q:p.length==1 with
    | true=>rw [eq_of_beq q];rfl
    | false=>exact beq_false_of_ne fun e=>ne_of_beq_false q (Int.ofNat_inj.mp e)
   rw [e]
   rw [q,Bool.false_or] at hK
   cases q2:p.length==1 with
   | true=>rw [q2] at hK;exact ih hK
   | false=>rw [q2] at hK;exact ih hK
theorem pQ {c:Nat} {r:List Nat}:∃ t,[(c::r).take 3,(c::r).take 2,(c::r).take 1].filter i6=aC (c::r)::t:=by
 unfold aC
 have e:i6 ((c::r).take 1)=true:=by unfold i6;exact Bool.or_eq_true_iff.mpr (.inr rfl)
 rw [List.filter_cons,List.filter_cons,List.filter_cons,e,List.filter_nil]
 cases i6 ((c::r).take 3) with
 | true=>exact⟨_,rfl⟩
 | false =>
  cases i6 ((c::r).take 2) with
  | true=>exact⟨_,rfl⟩
  | false=>exact⟨_,rfl⟩
theorem mz {c:Nat} {r:List Nat}:0<(aC (c::r)).length/\(aC (c::r)).length<=(c::r).length/\((tk (aC (c::r)))=none->aC (c::r)=[c]):=by
 have g:∀ n,0<n->0<((c::r).take n).length/\((c::r).take n).length<=(c::r).length/\(i6 ((c::r).take n)=true->tk ((c::r).take n)=none->(c::r).take n=[c]):=fun n hn=>by
  refine (am (by rw [List.length_take];exact Nat.lt_min.mpr ⟨hn,Nat.succ_pos _⟩) (by rw [List.length_take];exact Nat.min_le_right _ _) (fun h1 h2=>?_))
  unfold i6 at h1
  rw [h2] at h1
  have h1:((c::r).take n).length=1:=eq_of_beq h1
  obtain⟨n,zq⟩:=Nat.exists_eq_succ_of_ne_zero (Nat.ne_of_gt hn);clear hn h2;subst zq
  rw [List.take_succ_cons,List.length_cons] at h1
  rw [List.take_succ_cons,List.eq_nil_of_length_eq_zero (Nat.succ.inj h1)]
 unfold aC
 cases q:i6 ((c::r).take 3) with
 | true=>exact (am ((g 3 (by decide)).1) ((g 3 (by decide)).2.1) ((g 3 (by decide)).2.2 q))
 | false =>
  cases q2:i6 ((c::r).take 2) with
  | true=>exact (am ((g 2 (by decide)).1) ((g 2 (by decide)).2.1) ((g 2 (by decide)).2.2 q2))
  | false=>exact (am ((g 1 (by decide)).1) ((g 1 (by decide)).2.1) (fun ι=>rfl))
end
section
variable {es:List DictEntry} {G:List GObj} {l r p:List Nat} {ps:List (List Nat)} {j k:Nat}
theorem xT {c:Nat} (h:k<l.length):bJ (tokS l) (some (k:Int)) (some ((k:Int)+(c:Int))) none=tokS ((l.drop k).take c):=by
 (rewrite [<- Int.natCast_add,Ey h (Nat.le_add_right _ _),Nat.add_sub_cancel_left];try with_reducible rfl)
noncomputable def ρu (l:List Nat) (k:Nat) (told:List Nat):Rho:=[("row",aE (tokS l)),("k",ag k),("told",.lst (nats told))]
theorem xU {K:Fl->St->Prop} {told:List Nat} (T:gQ es) (hl:l.length<=1000) (ha:∀ c∈l,c<128) (hk:k<l.length) (ht:told.length<=1000) (hK:∀ ρ,trim (ρu l k told) ρ=ρu l (k+(aC (l.drop k)).length) (told++[eS (aC (l.drop k))])->K .next ⟨ρ,G⟩) :
  (aj (gB es) (j+10)).ex Kx (b8 Jt) ⟨ρu l k told,G⟩ K:=by
 have z:l.length<=lim:=Nat.le_trans hl (by decide)
 have e3:bJ (tokS l) (some (k:Int)) (some ((k:Int)+3)) none=_:=xT (c:=3) hk
 have e2:bJ (tokS l) (some (k:Int)) (some ((k:Int)+2)) none=_:=xT (c:=2) hk
 have eg:(tokS l).cps[k]?=some (l[k]):=by
  show l.toArray[k]?=_
  (rewrite [List.getElem?_toArray,List.getElem?_eq_getElem hk];try with_reducible rfl)
 have ed:l.drop k=l[k]::l.drop (k+1):=List.drop_eq_getElem_cons hk
 have zl:∀ c,(tokS ((l.drop k).take c)).length<=lim:=fun c=>by
  (rewrite [aM,List.length_take,List.length_drop];try with_reducible rfl)
  exact Nat.le_trans (Nat.min_le_right _ _) (Nat.le_trans (Nat.sub_le _ _) z)
 have e1:(l.drop k).take 1=[l[k]]:=by (rewrite [ed];try with_reducible rfl);rfl
 have hp:∀ p∈[(l.drop k).take 3,(l.drop k).take 2,[l[k]]],p.length<=100:=fun p hp=>by
  have g:∀ n,((l.drop k).take n).length<=n:=fun n=>by (rewrite [List.length_take];try with_reducible rfl);exact Nat.min_le_left _ _
  rcases List.mem_cons.mp hp with rfl | hp
  ·exact Nat.le_trans (g 3) (by decide)
  ·rcases List.mem_cons.mp hp with rfl | hp
   ·exact Nat.le_trans (g 2) (by decide)
   ·(rewrite [List.mem_singleton.mp hp];try with_reducible rfl);exact Nat.le_add_left 1 99
 obtain⟨t,hf⟩:=pQ (c:=l[k]) (r:=l.drop (k+1))
 obtain⟨q1,q2,q3⟩:=mz (c:=l[k]) (r:=l.drop (k+1))
 rewrite [<- ed,e1] at hf
 rewrite [<- ed] at q1 q2 q3
 refine Ct nofun (by (rewrite [e3];try with_reducible rfl);exact zl 3) nofun (by (rewrite [e2];try with_reducible rfl);exact zl 2) z (cQ k (l[k]) (cJ hk) eg (show 3<=lim by decide) ?_)
 (rewrite [e3,e2];try with_reducible rfl)
 refine rJ (k:=j+2) T (ps:=[(l.drop k).take 3,(l.drop k).take 2,[l[k]]]) hp ?_
 (rewrite [hf];try with_reducible rfl)
 have tl:(sts (aC (l.drop k)::t)).length<=3:=by
  (rewrite [<- hf,sts,List.length_map];try with_reducible rfl);exact List.length_filter_le _ _
 have pl:(aC (l.drop k)).length<=lim:=Nat.le_trans q2 (by (rewrite [List.length_drop];try with_reducible rfl);exact Nat.le_trans (Nat.sub_le _ _) z)
 have tz:(nats told).length<=lim:=by (rewrite [bk];try with_reducible rfl);exact Nat.le_trans ht (by decide)
 generalize aC (l.drop k)=p at *
 refine⟨Nat.le_trans tl (by decide),aF 0 (.str (tokS p)) (cJ (Nat.succ_pos _)) rfl ?_⟩
 show bO (findBy Value.isStrOf es.toArray (tokS p)).isSome _ _
 (rewrite [T.sm];try with_reducible rfl)
 unfold eS at hK
 cases q:tk p with
 | some n =>
  rewrite [q] at hK
  obtain⟨t,ht'⟩:=T.get q
  refine cQ n t ht' tz pl (hK _ ?_)
  unfold ρu
  (rewrite [gc,Int.natCast_add];try with_reducible rfl);rfl
 | none =>
  rewrite [q] at hK
  have q3:=q3 q
  clear hf q1 q2;subst q3
  have hc:=ha _ (List.getElem_mem hk)
  have lo:Txt.lower (tokS [l[k]])=bC (eP l[k]):=kP (l:=[l[k]]) fun c hc'=>by (rewrite [List.mem_singleton.mp hc'];try with_reducible rfl);exact hc
  generalize l[k]=c at *
  have f1:∀ c<128,dU (bC (eP c)) "abcd"=(decide (97<=eP c)&&decide (eP c<=100)):=by decide +kernel
  replace hK:∀ ρ,trim (ρu l k told) ρ=ρu l (k+1) (told++[pP c])->K .next ⟨ρ,G⟩:=hK
  unfold pP at hK
  have one:(tokS [c]).length<=lim:=(show 1<=lim by decide)
  refine⟨one,?_⟩
  show bO (dU (Txt.lower (tokS [c])) "abcd") _ _
  (rewrite [lo,f1 c hc];try with_reducible rfl)
  cases q4:(decide (97<=eP c)&&decide (eP c<=100)) with
  | true =>
   rewrite [q4] at hK
   obtain⟨q5,q6⟩:=Bool.and_eq_true_iff.mp q4
   have q5:=of_decide_eq_true q5
   have q6:=of_decide_eq_true q6
   have q7:eP c=(eP c-97)+97:=(Nat.sub_add_cancel q5).symm
   refine⟨one,cQ (eP c-97) ([]) ?_ tz pl (hK _ ?_)⟩
   ·(rewrite [lo];try with_reducible rfl)
    conv=>lhs;rw [q7]
    exact i4 _ (by omega)
   ·unfold ρu
    (rewrite [gc,Int.natCast_add];try with_reducible rfl);rfl
  | false =>
   rewrite [q4] at hK
   refine am tz pl (hK _ ?_)
   delta ρu
   (rewrite [gc,Int.natCast_add];try with_reducible rfl);rfl
end
section
variable {es:List DictEntry} {G:List GObj} {l r p:List Nat} {ps:List (List Nat)} {j k:Nat}
theorem xV {K:Fl->St->Prop} (T:gQ es) (hl:l.length<=1000) (ha:∀ c∈l,c<128):∀ (n k:Nat) (told:List Nat),k<=l.length->l.length<k+n->told.length+(l.length-k)<=1000->(∀ k',K .next ⟨ρu l k' (told++hO n (l.drop k)),G⟩) ->
  fg ((aj (gB es) (j+11)).cd Kx (Me Jt)) ((aj (gB es) (j+11)).ex Kx (b8 Jt)) n ⟨ρu l k told,G⟩ K:=by
 intro n
 induction n with
 | zero =>
  exact fun k told h1 h2=>absurd h1 (Nat.not_le_of_lt h2)
 | succ n ih =>
  intro k told h0 h ht hK
  refine⟨Nat.le_trans hl (by decide),?_⟩
  show bO (decide ((k:Int)<((tokS l).length:Nat))) _ _
  by_cases q:k<l.length
  ·rw [decide_eq_true (show (k:Int)<((tokS l).length:Nat) from Int.ofNat_lt.mpr q)]
   refine xU (j:=j+1) T hl ha q (Nat.le_trans (Nat.le_add_right _ _) ht) fun ρ e=>?_
   show fg _ _ n ⟨trim (ρu l k told) ρ,G⟩ K
   rw [e]
   have ed:l.drop k=l[k]::l.drop (k+1):=List.drop_eq_getElem_cons q
   obtain⟨q1,q2,_⟩:=mz (c:=l[k]) (r:=l.drop (k+1))
   rw [<- ed] at q1 q2
   rw [List.length_drop] at q2
   have e2:hO (n+1) (l.drop k)=eS (aC (l.drop k))::hO n (l.drop (k+(aC (l.drop k)).length)):=by
    rw [<- List.drop_drop]
    conv=>lhs;rw [ed]
    show eS (aC (l[k]::l.drop (k+1)))::hO n ((l[k]::l.drop (k+1)).drop (aC (l[k]::l.drop (k+1))).length)=_
    rw [<- ed]
   refine ih _ _ (by omega) (by omega) (by rw [List.length_append,List.length_singleton];omega) fun k'=>?_
   have:=hK k'
   rw [e2] at this
   rw [List.append_assoc];exact this
  ·rw [decide_eq_false (show ¬ (k:Int)<((tokS l).length:Nat) from fun e=>q (Int.ofNat_lt.mp e))]
   have:=hK k
   rw [List.drop_eq_nil_of_le (Nat.le_of_not_lt q)] at this
   rw [show told++hO (n+1) []=told from List.append_nil _] at this
   exact this
noncomputable def ctrCut:Ctr:=fun as G K=>∃ l,as=[az (tokS l)]/\l.length<=1000/\(∀ c∈l,c<128)/\K (.val (.dat (.list (nats (hO (l.length+1) l))))) G
theorem Ez {as:List ab} {K:RV->List GObj->Prop} (T:gQ es) (h:ctrCut as G K):eE (gB es) "_law_cut" ["row"] as G K:=by
 obtain⟨l,zq,hl,ha,hK⟩:=h;rw [zq]
 refine⟨rfl,.inr ⟨rfl,⟨l.length+1,?_⟩⟩⟩
 refine xV (j:=0) (k:=0) (told:=[]) T hl ha _ (Nat.zero_le _) (by omega) (by exact Nat.le_trans (Nat.le_of_eq (Nat.zero_add _)) hl) fun k'=>?_
 exact hK
end
noncomputable def wd (f:Nat->Bool) (l:List Nat):List (List Nat):=l.map fun c=>bif f c then [92,c] else [c]
noncomputable def q0 (w c:Nat):Bool:=(c==34||c==92)||(w==9||w==10)
noncomputable def q2 (c:Nat):Bool:=c==32||c==9||c==13||c==10||c==92
noncomputable def bB (way w:Nat) (l:List Nat):List Nat:=bif way==0 then [34]++(wd (q0 w) l).flatten++[34] else bif way==1 then (wd (fun ι=>true) l).flatten++[w] else (wd q2 l).flatten++[w]
noncomputable abbrev Kz (i:Nat):Stmt:=d8 (ao "_law_spelled") i
noncomputable def EA (s:Stmt):Expr:=match s with
 | .Return (some e) _=>e
 | _=>.Constant .none 0 ⟨0,0,0,0⟩
set_option backward.match.sparseCases false in
noncomputable def EB (e:Expr):Expr:=match e with
 | .BinOp a _ _ _=>a
 | _=>e
noncomputable def EC (e:Expr):Expr:=match e with
 | .BinOp _ _ b _=>b
 | _=>e
noncomputable abbrev KA:Expr:=rG (EC (EB (EA (d8 (FK (Kz 0)) 0))))
noncomputable abbrev KB:Expr:=rG (EB (EA (d8 (FK (Kz 1)) 0)))
noncomputable abbrev KC:Expr:=rG (EB (EA (Kz 2)))
theorem Im:∀ c<128,dU (bC c) "\"\\"=(c==34||c==92):=by decide +kernel
theorem Io:∀ c<128,dU (bC c) "\t\n"=(c==9||c==10):=by decide +kernel
theorem Ip:∀ c<128,dU (bC c) " \t\r\n\\"=q2 c:=by decide +kernel
theorem nM {c:Nat}:("\\":Str)++(⟨#[c]⟩:Str)=tokS [92,c]:=by
 rw [show ("\\":Str)=tokS [92] by decide +kernel]
 exact bA (a:=[92]) (b:=[c])
theorem nN {c:Nat}:("\\":Str).length+(bC c).length<=lim:=by
 rw [show ("\\":Str)=tokS [92] by decide +kernel];exact (show 2<=lim by decide)
section
variable {es:List DictEntry} {G:List GObj} {l:List Nat} {k w:Nat} {K:List PyData->St->Prop}
theorem Mj (hw:w<128):∀ {l:List Nat} {K:List PyData->St->Prop},(∀ c∈l,c<128)->K (sts (wd (q0 w) l)) ⟨[("white",aE (bC w))],G⟩->cg (aj (gB es) (k+5)) KA K (eN (tokS l)) ⟨[("white",aE (bC w))],G⟩:=by
 intro l
 induction l with
 | nil=>exact fun ι h=>h
 | cons c l ih =>
  intro K ha hK
  have hc:=ha c (.head _)
  have ih:=fun {K}=>ih (K:=K) fun d hd=>ha d (.tail _ hd)
  unfold wd q0 at hK
  rw [List.map_cons] at hK
  show bO (dU (bC c) "\"\\") _ _
  rw [Im c hc]
  cases q:(c==34||c==92) with
  | true =>
   rw [q] at hK
   refine⟨nN,?_⟩
   rw [nM]
   exact ih hK
  | false =>
   show bO (dU (bC w) "\t\n") _ _
   rw [Io w hw]
   rw [q,Bool.false_or] at hK
   cases q3:(w==9||w==10) with
   | true =>
    rw [q3] at hK
    refine⟨nN,?_⟩
    rw [nM]
    refine ih ?_
    delta wd q0
    rw [q3];exact hK
   | false =>
    rw [q3] at hK
    refine ih ?_
    delta wd q0
    rw [q3];exact hK
theorem Ml:∀ {l:List Nat} {K:List PyData->St->Prop},K (sts (wd (fun ι=>true) l)) ⟨[],G⟩->cg (aj (gB es) (k+5)) KB K (eN (tokS l)) ⟨[],G⟩:=by
 intro l
 induction l with
 | nil=>exact fun h=>h
 | cons c l ih =>
  intro K hK
  refine⟨nN,?_⟩
  rw [nM]
  exact ih hK
theorem Mm:∀ {l:List Nat} {K:List PyData->St->Prop},(∀ c∈l,c<128)->K (sts (wd q2 l)) ⟨[],G⟩->cg (aj (gB es) (k+5)) KC K (eN (tokS l)) ⟨[],G⟩:=by
 intro l
 induction l with
 | nil=>exact fun ι h=>h
 | cons c l ih =>
  intro K ha hK
  have ih:=fun {K}=>ih (K:=K) fun d hd=>ha d (.tail _ hd)
  unfold wd at hK
  rw [List.map_cons] at hK
  show bO (dU (bC c) " \t\r\n\\") _ _
  rw [Ip c (ha c (.head _))]
  cases q:q2 c with
  | true =>
   rw [q] at hK
   refine⟨nN,?_⟩
   rw [nM]
   exact ih hK
  | false =>
   rw [q] at hK
   exact ih hK
theorem s8:∀ ls:List (List Nat),((ls.map tokS).map (·.length)).sum=ls.flatten.length:=by
 intro ls
 induction ls with
 | nil =>
  exact rfl
 | cons l ls ih =>
  rw [List.map_cons,List.map_cons,List.sum_cons,ih,List.flatten_cons,List.length_append];rfl
theorem xW {f:Nat->Bool}:∀ {l:List Nat},(wd f l).flatten.length<=l.length*2:=by
 intro l
 induction l with
 | nil =>
  exact Nat.le_refl _
 | cons c l ih =>
  have h:=ih
  unfold wd at h ⊢
  rw [List.map_cons,List.flatten_cons,List.length_append,List.length_cons,Nat.succ_mul]
  cases f c with
  | true=>exact Nat.le_trans (Nat.add_le_add_left h 2) (Nat.le_of_eq (Nat.add_comm _ _))
  | false=>exact Nat.le_trans (Nat.add_le_add_left h 1) (by omega)
theorem gw {ls:List (List Nat)}:sts ls=(ls.map tokS).map .str:=by unfold sts;rw [List.map_map];rfl
noncomputable def ctrSp:Ctr:=fun as G K=>∃ (l:List Nat) (way w:Nat),as=[az (tokS l),aI way,az (bC w)]/\l.length<=1000/\(∀ c∈l,c<128)/\w<128/\way<3/\K (.val (az (tokS (bB way w l)))) G
theorem Iq {as:List ab} {K:RV->List GObj->Prop} (h:ctrSp as G K):eE (gB es) "_law_spelled" ["word","way","white"] as G K:=by
 obtain⟨l,way,w,rfl,hl,ha,hw,hy,hK⟩:=h
 have cl:(eN (tokS l)).length<=lim:=Nat.le_trans (Nat.le_of_eq (List.length_map _)) (Nat.le_trans hl (by decide))
 have wl:∀ f,(wd f l).flatten.length<=10000:=fun f=>Nat.le_trans xW (Nat.le_trans (Nat.mul_le_mul_right 2 hl) (by decide))
 have q34:("\"":Str)=tokS [34]:=by decide +kernel
 refine (am rfl rfl ?_)
 have sm:∀ f,(((wd f l).map tokS).map (·.length)).sum+((wd f l).map tokS).length*("":Str).length<=lim:=fun f=>by
  rw [s8,show ("":Str).length=0 by decide +kernel,Nat.mul_zero]
  exact Nat.le_trans (wl f) (by decide)
 have al:∀ f n,(wd f l).flatten.length+n<=10000+n:=fun f n=>Nat.add_le_add_right (wl f) n
 match way,hy with
 | 0,_ =>
  refine⟨cl,Mj hw ha (aB ((wd (q0 w) l).map tokS) gw (sm _) ?_)⟩
  rw [eQ]
  have e:("\"":Str)++tokS (wd (q0 w) l).flatten++"\""=tokS ([34]++(wd (q0 w) l).flatten++[34]):=by rw [q34,bA,bA]
  refine (am ?_ ?_ ?_)
  ·rw [q34,Nat.add_comm];exact Nat.le_trans (al _ 1) (by decide)
  ·rw [q34,bA]
   show ([34]++(wd (q0 w) l).flatten).length+1<=lim
   rw [List.length_append,Nat.add_comm ([34]:List Nat).length];exact Nat.le_trans (al _ 2) (by decide)
  ·show K (.val (az (("\"":Str)++tokS (wd (q0 w) l).flatten++"\""))) G
   rw [e];exact hK
 | 1,_ =>
  refine (am rfl cl (Ml (aB ((wd (fun ι=>true) l).map tokS) gw (sm _) ?_)))
  rw [eQ]
  refine⟨Nat.le_trans (al _ 1) (by decide),?_⟩
  show K (.val (az (tokS (wd (fun ι=>true) l).flatten++bC w))) G
  rw [cf];exact hK
 | 2,_ =>
  refine (am rfl cl (Mm ha (aB ((wd q2 l).map tokS) gw (sm _) ?_)))
  rw [eQ]
  refine⟨Nat.le_trans (al _ 1) (by decide),?_⟩
  show K (.val (az (tokS (wd q2 l).flatten++bC w))) G
  rw [cf];exact hK
end
structure dG where
 row:List Nat
 odd:Bool
 path:List Bool
structure Ms where
 ents:List dG
 ans:List (List Bool)
noncomputable def ac (l:List dG) (i:Nat):dG:=l.getD i ⟨[],false,[]⟩
noncomputable def eI (r:List Nat):List dG->Nat->Option Nat
 | [],_=>none
 | e::l,n=>bif e.row==r then some n else eI r l (n+1)
noncomputable def bz (t:Nat) (b:Bool) (o:List Nat) (x:Ms):Option Ms :=
 match eI (dQ (ac x.ents t).row o) x.ents 0 with
 | some i=>bif (ac x.ents i).path==(ac x.ents t).path++[b] then none else some ⟨x.ents,x.ans++[(ac x.ents i).path]⟩
 | none=>some ⟨x.ents++[⟨dQ (ac x.ents t).row o,t%2==1,(ac x.ents t).path++[b]⟩],x.ans++[(ac x.ents t).path++[b]]⟩
noncomputable def nO (p q:List Nat) (t:Nat) (x:Ms):Option Ms:=bif decide (t<x.ents.length) then (bz t false p x).bind (bz t true q) else some x
noncomputable def iI (p q:List Nat):List Nat->Ms->Option Ms
 | [],x=>some x
 | t::ts,x=>(nO p q t x).bind (iI p q ts)
noncomputable def ms0:Ms:=⟨[⟨[0,1,2,3],true,[]⟩],[]⟩
noncomputable def wo (m n:List Nat) (l:List Bool):List Nat:=(l.map fun b=>(bif b then n else m)++[32]).flatten
noncomputable def nm (e:dG):List Nat:=bif e.odd then lt e.row else (lt e.row).map rD
noncomputable def gD (m n:List Nat) (l:List dG):List PyData:=l.map fun e=>.tuple [.str (tokS (nm e)),.str (tokS (wo m n e.path))]
noncomputable def dR (m n:List Nat) (l:List (List Bool)):List PyData:=l.map fun p=>.str (tokS (wo m n p))
noncomputable def cu (l:List dG):List PyData:=l.map fun e=>.str (tokS (lt e.row))
noncomputable abbrev Ir:Scope:=cS "_law_due"
noncomputable abbrev KD:Stmt:=d8 (ao "_law_due") 1
noncomputable abbrev LR:Stmt:=d8 (FK (d8 (b8 KD) 0)) 0
noncomputable def FN (es:List DictEntry):Gl:=(gB es).addFn "_law_led" fun as G K=>∃ r o,as=[az (tokS (lt r)),az (tokS (lt o))]/\aY r/\aY o/\K (.val (az (tokS (lt (dQ r o))))) G
structure nP (x:Ms):Prop where
 r:∀ e∈x.ents,aY e.row
 n:x.ents.length<=100
 a:x.ans.length<=200
 w:∀ e∈x.ents,e.path.length<=100
section
variable {es:List DictEntry} {G:List GObj} {p q m n o:List Nat} {x y:Ms} {t j k:Nat} {b:Bool}
theorem xX {a b:List Nat}:tokS (lt a)=tokS (lt b) ↔ a=b:=pE.trans ⟨fun e=>(List.map_inj_right fun ι ι e=>Nat.add_right_cancel e).mp e,fun e=>e▸rfl⟩
theorem rK {a b:List Nat}:PyData.eqv (.str (tokS (lt a))) (.str (tokS (lt b)))=(a==b):=by
 show (tokS (lt a)==tokS (lt b))=_
 cases q:a==b with
 | true=>rw [eq_of_beq q];exact beq_self_eq_true _
 | false=>exact beq_false_of_ne fun e=>ne_of_beq_false q (xX.mp e)
theorem aY.asc {l:List Nat} (h:aY l):∀ c∈lt l,c<128:=fun c hc=>by
 obtain⟨i,hi,zq⟩:=List.mem_map.mp hc;rw [<- zq]
 have:=of_decide_eq_true (List.all_eq_true.mp h.r i hi)
 exact Nat.lt_trans (Nat.add_lt_add_right this 97) (by decide)
theorem aY.ok {l:List Nat} (h:aY l):PyData.strOk (tokS (lt l))=true:=dN h.asc
theorem s9 {r:List Nat}:∀ {l:List dG} {n:Nat},((cu l).any fun d=>PyData.eqv d (.str (tokS (lt r))))=(eI r l n).isSome:=by
 intro l
 induction l with
 | nil =>
  intro ι
  exact rfl
 | cons e l ih =>
  intro n
  show (PyData.eqv (.str (tokS (lt e.row))) (.str (tokS (lt r)))||((cu l).any fun d=>PyData.eqv d (.str (tokS (lt r)))))=(bif e.row==r then some n else eI r l (n+1)).isSome
  rw [rK,ih (n:=n+1)]
  cases e.row==r<;>rfl
theorem kW {r:List Nat}:∀ {l:List dG} {n i:Nat},eI r l n=some i->∃ j,i=n+j/\(cu l).findIdx? (fun d=>PyData.eqv d (.str (tokS (lt r))))=some j/\j<l.length/\(ac l j).row=r:=by
 intro l
 induction l with
 | nil =>
  intro ι ι h
  cases h
 | cons e l ih =>
  intro n i h
  replace h:(bif e.row==r then some n else eI r l (n+1))=some i:=h
  have e1:(cu (e::l)).findIdx? (fun d=>PyData.eqv d (.str (tokS (lt r))))=bif e.row==r then some 0 else ((cu l).findIdx? fun d=>PyData.eqv d (.str (tokS (lt r)))).map (·+1):=by
   show (PyData.str (tokS (lt e.row))::cu l).findIdx? _=_
   rw [List.findIdx?_cons,rK]
   cases e.row==r<;>rfl
  rw [e1]
  cases q:e.row==r with
  | true=>rw [q] at h;cases h;exact (hX 0 rfl rfl (Nat.succ_pos _) (eq_of_beq q))
  | false =>
   rw [q] at h
   obtain⟨j,h1,h2,h3,h4⟩:=ih h
   exact (hX (j+1) (by rw [h1,Nat.add_assoc,Nat.add_comm 1]) (by rw [h2];rfl) (Nat.succ_lt_succ h3) h4)
theorem jO {α:Type} {f:dG->α} {l:List dG} {i:Nat} (h:i<l.length):(l.map f)[i]?=some (f (ac l i)):=by
 rw [List.getElem?_map,ac,List.getD_eq_getElem?_getD,List.getElem?_eq_getElem h];rfl
theorem gy {l:List dG} {i:Nat} (h:i<l.length):ac l i∈l:=by
 rw [ac,List.getD_eq_getElem?_getD,List.getElem?_eq_getElem h];exact List.getElem_mem h
theorem ta {l:List Bool}:wo m n (l++[b])=wo m n l++(bif b then n else m)++[32]:=by
 unfold wo
 rw [List.map_append,List.flatten_append,List.append_assoc]
 show _++([((bif b then n else m)++[32])]).flatten=_
 rw [List.flatten_cons,List.flatten_nil,List.append_nil]
noncomputable def ρd (p q m n:List Nat) (x:Ms) (tl:Rho):Rho:=("orders",.val (.dat (.list (nJ [p,q]))))::("marks",.val (.dat (.list (sts [m,n]))))::("answers",.lst (dR m n x.ans))::("due",.lst (gD m n x.ents))::("rows",.lst (cu x.ents))::tl
end
noncomputable def Mk (m:List Nat):Prop:=m.length<=3/\(∀ c∈m,c<128)
section
variable {es:List DictEntry} {G:List GObj} {p q m n o:List Nat} {x y:Ms} {t j k:Nat} {b:Bool}
theorem xY (hm:Mk m) (hn:Mk n):∀ l:List Bool,(wo m n l).length<=l.length*4:=by
 intro l
 induction l with
 | nil =>
  exact Nat.le_refl _
 | cons c l ih =>
  have h:=ih
  unfold wo at h ⊢
  rw [List.map_cons,List.flatten_cons,List.length_append,List.length_append,List.length_cons (as:=l),Nat.succ_mul]
  have:(bif c then n else m).length<=3:=by
   cases c with
   | true=>exact hn.1
   | false=>exact hm.1
  exact Nat.le_trans (Nat.add_le_add (Nat.add_le_add_right this 1) h) (Nat.le_of_eq (Nat.add_comm _ _))
theorem kX {l:List dG} {r:List Nat} (h:∀ e∈l,aY e.row) (hr:aY r):(cu l).all (b9 (.str (tokS (lt r))))=true:=List.all_eq_true.mpr fun d hd=>by
 obtain⟨e,he,zq⟩:=List.mem_map.mp hd;rw [<- zq]
 exact hM hr.ok (h e he).ok
theorem jP {r o:List Nat} (hr:aY r) (ho:aY o):aY (dQ r o):=⟨List.all_eq_true.mpr fun c hc=>by
 obtain⟨i,hi,zq⟩:=List.mem_map.mp hc;rw [<- zq]
 exact decide_eq_true (ho.at (of_decide_eq_true (List.all_eq_true.mp hr.r i hi))),by rw [dQ,List.length_map,hr.len]⟩
theorem pR {K:Fl->St->Prop} (X:nP x) (ht:t<x.ents.length) (ho:aY o) (hm:Mk m) (hn:Mk n) (e:bz t b o x=some y) (hK:∀ w,K .next ⟨ρd p q m n y [("turn",ag t),("order",aE (tokS (lt o))),("mark",aE (tokS (bif b then n else m))),("made",w)],G⟩) :
  (aj (FN es) (k+9)).ex Ir (b8 LR) ⟨ρd p q m n x [("turn",ag t),("order",aE (tokS (lt o))),("mark",aE (tokS (bif b then n else m)))],G⟩ K:=by
 have zl:∀ {α:Type} {f:dG->α},(x.ents.map f).length<=lim:=fun {α f}=>by rw [List.length_map];exact Nat.le_trans X.n (by decide)
 have za:(dR m n x.ans).length<=lim:=by rw [dR,List.length_map];exact Nat.le_trans X.a (by decide)
 have sq:∀ {α:Type} {f:dG->α} {i:Nat},i<x.ents.length->seqIndex? (i:Nat) (x.ents.map f).length=some i:=fun {α f i} h=>by rw [List.length_map];exact cJ h
 have hr:=X.r _ (gy ht)
 have hl:=jP hr ho
 have wl:(wo m n (ac x.ents t).path).length<=400:=Nat.le_trans (xY hm hn _) (Nat.mul_le_mul_right 4 (X.w _ (gy ht)))
 have bl:(bif b then n else m).length<=3:=by
  cases b with
  | true=>exact hn.1
  | false=>exact hm.1
 refine⟨zl,aF t _ (sq ht) (jO ht) (tO _ o rfl hr ho (kX X.r hl) ?_)⟩
 show bO (!((cu x.ents).any fun d=>PyData.eqv d (.str (tokS (lt (dQ (ac x.ents t).row o)))))) _ _
 rw [s9 (n:=0)]
 unfold bz at e
 cases hi:eI (dQ (ac x.ents t).row o) x.ents 0 with
 | some i =>
  obtain⟨j,h1,h2,h3,h4⟩:=kW hi
  rw [Nat.zero_add] at h1
  clear h4;subst h1
  rw [hi] at e
  have e:some (⟨x.ents,x.ans++[(ac x.ents i).path]⟩:Ms)=some y:=by
   revert e
   show (bif _ then none else _)=_->_
   cases (ac x.ents i).path==(ac x.ents t).path++[b] with
   | true=>exact nofun
   | false=>exact id
  cases e
  refine⟨rfl,⟨zl,kX X.r hl⟩,i,h2,zl,i,_,sq h3,jO h3,⟨by decide,by decide⟩,_,rfl,za,?_⟩
  have:=hK (aE (tokS (lt (dQ (ac x.ents t).row o))))
  unfold ρd dR at this
  rw [List.map_append] at this
  exact this
 | none =>
  rw [hi] at e
  cases e
  have nf:(cu x.ents).findIdx? (fun d=>PyData.eqv d (.str (tokS (lt (dQ (ac x.ents t).row o)))))=none:=by
   rw [List.findIdx?_eq_none_iff]
   have:=s9 (r:=dQ (ac x.ents t).row o) (l:=x.ents) (n:=0)
   rw [hi] at this
   intro d hd
   exact Bool.eq_false_iff.mpr fun q=>absurd this (by rw [List.any_eq_true.mpr (aa d hd q)];exact nofun)
  generalize hN:dQ (ac x.ents t).row o=N at *
  have rl:cu x.ents++[.str (tokS (lt N))]=cu (x.ents++[⟨N,t%2==1,(ac x.ents t).path++[b]⟩]):=by
   unfold cu;rw [List.map_append];rfl
  have fin:∀ d:PyData,d=.tuple [.str (tokS (nm ⟨N,t%2==1,(ac x.ents t).path++[b]⟩)),.str (tokS (wo m n ((ac x.ents t).path++[b])))] ->
    (aj (FN es) (k+9)).ex Ir ((b8 LR).drop 2) ⟨("orders",.val (.dat (.list (nJ [p,q]))))::("marks",.val (.dat (.list (sts [m,n]))))::("answers",.lst (dR m n x.ans))::("due",.lst (gD m n x.ents++[d]))::("rows",.lst (cu x.ents++[.str (tokS (lt N))]))::[("turn",ag t),("order",aE (tokS (lt o))),("mark",aE (tokS (bif b then n else m))),("made",aE (tokS (lt N)))],G⟩ K:=by
   rintro _ rfl
   have l1:(cu x.ents++[PyData.str (tokS (lt N))]).length=x.ents.length+1:=by rw [List.length_append,cu,List.length_map];rfl
   have l2:(gD m n x.ents++[PyData.tuple [.str (tokS (nm ⟨N,t%2==1,(ac x.ents t).path++[b]⟩)),.str (tokS (wo m n ((ac x.ents t).path++[b])))]]).length=x.ents.length+1:=by rw [List.length_append,gD,List.length_map];rfl
   have z1:x.ents.length+1<=lim:=Nat.le_trans (Nat.succ_le_succ X.n) (by decide)
   refine⟨rfl,⟨by rw [l1];exact z1,?_⟩,x.ents.length,?_,by rw [l2];exact z1,x.ents.length,.tuple [.str (tokS (nm ⟨N,t%2==1,(ac x.ents t).path++[b]⟩)),.str (tokS (wo m n ((ac x.ents t).path++[b])))],by rw [l2];exact cJ (Nat.lt_succ_self _),?_,⟨by decide,by decide⟩,_,rfl,za,?_⟩
   ·rw [rl]
    refine kX (fun e he=>?_) hl
    rcases List.mem_append.mp he with he | he
    ·exact X.r e he
    ·rw [List.mem_singleton.mp he];exact hl
   ·rw [List.findIdx?_append,nf,cu,List.length_map,List.findIdx?_cons,rK,beq_self_eq_true]
    show (some (0+x.ents.length):Option Nat)=_
    rw [Nat.zero_add]
   ·rw [List.getElem?_append_right (by rw [gD,List.length_map];exact Nat.le_refl _),gD,List.length_map,Nat.sub_self];rfl
   ·have:=hK (aE (tokS (lt N)))
    unfold ρd dR gD at this
    rw [List.map_append,List.map_append,<- rl] at this
    exact this
  have tm:((t:Int).fmod 2 != 0)=(t%2==1):=by
   have e:(t:Int).fmod 2=((t%2:Nat):Int):=(Int.ofNat_fmod t 2).symm
   rw [e]
   rcases Nat.mod_two_eq_zero_or_one t with h | h<;>rw [h]<;>rfl
  have wa:tokS (wo m n (ac x.ents t).path)++tokS (bif b then n else m)++(" ":Str)=tokS (wo m n ((ac x.ents t).path++[b])):=by
   rw [show (" ":Str)=tokS [32] by decide +kernel,bA,bA,ta]
  have wz:(tokS (wo m n (ac x.ents t).path)).length+(tokS (bif b then n else m)).length<=lim/\(tokS (wo m n (ac x.ents t).path)++tokS (bif b then n else m)).length+(" ":Str).length<=lim:=by
   rw [show (" ":Str)=tokS [32] by decide +kernel,bA,aM,aM,aM,aM,List.length_append]
   exact⟨Nat.le_trans (Nat.add_le_add wl bl) (by decide),Nat.le_trans (Nat.add_le_add_right (Nat.add_le_add wl bl) 1) (by decide)⟩
  refine am zl (by decide) ?_
  show bO ((t:Int).fmod 2 != 0) _ _
  rw [tm]
  cases ho:t%2==1 with
  | true =>
   refine⟨zl,t,_,sq ht,jO ht,⟨by decide,by decide⟩,_,rfl,wz.1,wz.2,zl,fin _ ?_⟩
   unfold nm
   rw [ho,wa];rfl
  | false =>
   refine⟨by rw [aM,lt,List.length_map,hl.len];decide,zl,t,_,sq ht,jO ht,⟨by decide,by decide⟩,_,rfl,wz.1,wz.2,zl,fin _ ?_⟩
   delta nm
   rw [ho,wa,nG hl.asc];rfl
end
structure AO (c:Nat) (x:Ms):Prop where
 r:∀ e∈x.ents,aY e.row
 n:x.ents.length<=c+1
 a:x.ans.length<=c
 w:∀ e∈x.ents,e.path.length<=c
section
variable {es:List DictEntry} {G:List GObj} {p q m n o:List Nat} {x y:Ms} {t j k c:Nat} {b:Bool}
theorem AO.ok (h:AO c x) (hc:c<=60):nP x:=⟨h.r,Nat.le_trans h.n (Nat.le_trans (Nat.succ_le_succ hc) (by decide)),Nat.le_trans h.a (Nat.le_trans hc (by decide)),fun e he=>Nat.le_trans (h.w e he) (Nat.le_trans hc (by decide))⟩
theorem AO.step (h:AO c x) (ht:t<x.ents.length) (ho:aY o) (e:bz t b o x=some y):AO (c+1) y/\t<y.ents.length:=by
 unfold bz at e
 cases hi:eI (dQ (ac x.ents t).row o) x.ents 0 with
 | some i =>
  rw [hi] at e
  have e:some (⟨x.ents,x.ans++[(ac x.ents i).path]⟩:Ms)=some y:=by
   revert e
   show (bif _ then none else _)=_->_
   cases (ac x.ents i).path==(ac x.ents t).path++[b] with
   | true=>exact nofun
   | false=>exact id
  cases e
  exact⟨⟨h.r,Nat.le_succ_of_le h.n,by rw [List.length_append];exact Nat.succ_le_succ h.a,fun e he=>Nat.le_succ_of_le (h.w e he)⟩,ht⟩
 | none =>
  rw [hi] at e
  cases e
  have hm:=gy ht
  refine⟨⟨fun e he=>?_,by rw [List.length_append];exact Nat.succ_le_succ h.n,by rw [List.length_append];exact Nat.succ_le_succ h.a,fun e he=>?_⟩,by rw [List.length_append];exact Nat.lt_succ_of_lt ht⟩
  ·rcases List.mem_append.mp he with he | he
   ·exact h.r e he
   ·rw [List.mem_singleton.mp he];exact jP (h.r _ hm) ho
  ·rcases List.mem_append.mp he with he | he
   ·exact Nat.le_succ_of_le (h.w e he)
   ·rw [List.mem_singleton.mp he,List.length_append];exact Nat.succ_le_succ (h.w _ hm)
theorem cw {α β:Type} {o:Option α} {F:α->Option β} {z:β} (h:o.bind F=some z):∃ a,o=some a/\F a=some z:=bF h
structure Tw (p q m n:List Nat):Prop where
 p:aY p
 q:aY q
 m:Mk m
 n:Mk n
theorem xZ {K:Fl->St->Prop} (W:Tw p q m n):∀ {ts:List Nat} {x:Ms} {c:Nat},AO c x->c+ts.length*2<=50->iI p q ts x=some y->K .next ⟨ρd p q m n y [],G⟩ ->
  db (jv Ir false (jx KD)) ((aj (FN es) (k+11)).ex Ir (b8 KD)) (nats ts) ⟨ρd p q m n x [],G⟩ K:=by
 intro ts
 induction ts with
 | nil=>intro x c _ _ e hK;cases e;exact hK
 | cons t ts ih =>
  intro x c h hc e hK
  rw [List.length_cons,Nat.succ_mul] at hc
  obtain⟨x2,e1,e2⟩:=cw e
  unfold nO at e1
  have X:=h.ok (Nat.le_trans (Nat.le_add_right _ _) (Nat.le_trans hc (by decide)))
  have rl:(cu x.ents).length=x.ents.length:=List.length_map _
  refine⟨by rw [rl];exact Nat.le_trans X.n (by decide),?_⟩
  show bO (decide ((t:Int)<((cu x.ents).length:Nat))) _ _
  rw [rl]
  by_cases ht:t<x.ents.length
  ·rw [decide_eq_true ht] at e1
   obtain⟨x1,f1,f2⟩:=cw e1
   obtain⟨B1,t1⟩:=h.step ht W.p f1
   obtain⟨B2,t2⟩:=B1.step t1 W.q f2
   have X1:=B1.ok (by omega)
   rw [decide_eq_true (Int.ofNat_lt.mpr ht)]
   refine⟨rfl,pR (k:=k) (b:=false) X ht W.p W.m W.n f1 fun w=>?_⟩
   refine⟨rfl,pR (k:=k) (b:=true) X1 t1 W.q W.m W.n f2 fun w=>?_⟩
   exact ih B2 (by omega) e2 hK
  ·rw [decide_eq_false ht] at e1
   cases e1
   rw [decide_eq_false fun z=>ht (Int.ofNat_lt.mp z)]
   exact ih h (by omega) e2 hK
noncomputable def pS:List Nat:=[0,1,2,3,4,5,6,7,8,9,10,11,12,13,14,15,16,17,18,19,20,21,22,23]
theorem nQ:AO 0 ms0:=⟨fun e he=>by rw [List.mem_singleton.mp he];exact⟨by decide,rfl⟩,Nat.le_refl _,Nat.le_refl _,fun e he=>by rw [List.mem_singleton.mp he];exact Nat.le_refl _⟩
noncomputable def ctrDu:Ctr:=fun as G K=>∃ p q m n y,as=[.dat (.list (nJ [p,q])),.dat (.list (sts [m,n]))]/\Tw p q m n/\iI p q pS ms0=some y/\K (.val (.dat (.tuple [.list (gD m n y.ents),.list (dR m n y.ans)]))) G
theorem Iu {as:List ab} {K:RV->List GObj->Prop} (h:ctrDu as G K):eE (FN es) "_law_due" ["orders","marks"] as G K:=by
 obtain⟨p,q,m,n,y,zq,W,e,hK⟩:=h;rw [zq]
 have z:ρd p q m n ms0 []=([("orders",.val (.dat (.list (nJ [p,q])))),("marks",.val (.dat (.list (sts [m,n])))),("answers",.lst []),("due",.lst [.tuple [.str "abcd",.str ""]]),("rows",.lst [.str "abcd"])]:Rho):=by
  delta ρd cu gD dR
  rw [show ("abcd":Str)=tokS (lt [0,1,2,3]) by decide +kernel,fw];rfl
 have h1:=xZ (es:=es) (G:=G) (k:=0) (K:=fun fl st1=>(match fl with
  | .next=>(aj (FN es) 12).ex Ir ((ao "_law_due").drop 2) st1 (dh K)
  | fl=>dh K fl st1)) W (ts:=pS) nQ (by decide) e ?_
 ·rw [z] at h1
  exact⟨rfl,.inr (am rfl ⟨by decide,by decide⟩ h1)⟩
 ·exact hK
end
structure TS (L:Lx) (j q:Nat) (rest:List Nat) (line:Int) (pb:List (List Nat)) (items:List (Str×Str)) (G:List GObj):Prop where
 lx:aU L G rest line
 p:G[L.p]?=some (.lst (sts pb))
 h:nv G j q items
 pq:L.p≠q
 ps:L.p≠L.s
 qs:q≠L.s
 t:∀ i<3,G[i]?=some (.tab i)
section
variable {L:Lx} {j q:Nat} {rest:List Nat} {line:Int} {pb pb':List (List Nat)} {items items':List (Str×Str)} {G:List GObj} {p m n o:List Nat} {x y:Ms} {t k c:Nat} {b:Bool}
theorem aU.keep {i:Nat} {ds:List PyData} (X:aU L G rest line) (h:∃ ds,G[i]?=some (.lst ds)) (hi:i≠L.s):aU L (G.set i (.lst ds)) rest line:=by
 obtain⟨ds0,h⟩:=h
 exact⟨aW X.j (bT h X.j nofun),aW X.h (bT h X.h nofun),aW X.c (bT h X.c nofun),aW X.s hi,X.z,X.a⟩
theorem nv.keep {i:Nat} {ds:List PyData} (H:nv G j q items) (h:∃ ds,G[i]?=some (.lst ds)) (hi:i≠q):nv (G.set i (.lst ds)) j q items:=by
 obtain⟨ds0,h⟩:=h
 exact⟨aW H.1 (bT h H.1 nofun),aW H.2 hi⟩
theorem kY {i:Nat} {ds:List PyData} (h:∃ ds,G[i]?=some (.lst ds)) (t:∀ i<3,G[i]?=some (.tab i)):∀ k<3,(G.set i (.lst ds))[k]?=some (.tab k):=fun k hk=>by
 obtain⟨ds0,h⟩:=h
 exact aW (t k hk) (bT h (t k hk) nofun)
theorem TS.setP (T:TS L j q rest line pb items G):TS L j q rest line pb' items (G.set L.p (.lst (sts pb'))) :=
 ⟨T.lx.keep ⟨_,T.p⟩ T.ps,eH T.p,T.h.keep ⟨_,T.p⟩ T.pq,T.pq,T.ps,T.qs,kY ⟨_,T.p⟩ T.t⟩
theorem TS.setQ (T:TS L j q rest line pb items G):TS L j q rest line pb items' (G.set q (.lst (items'.map pr))) :=
 ⟨T.lx.keep ⟨_,T.h.2⟩ T.qs,aW T.p T.pq.symm,⟨aW T.h.1 (bT T.h.2 T.h.1 nofun),eH T.h.2⟩,T.pq,T.ps,T.qs,kY ⟨_,T.h.2⟩ T.t⟩
noncomputable def ctrPush:Ctr:=fun as G K=>∃ (L:Lx) (line:Int) (pb:List (List Nat)) (x:List Nat),as=[.obj L.j,az (tokS x)]/\G[L.j]?=some (.inst 0 (kM line L))/\G[L.p]?=some (.lst (sts pb))/\pb.length<=lim/\K kF (G.set L.p (.lst (sts (pb++[x]))))
noncomputable def ctrGet':Ctr:=fun as G K=>∃ (L:Lx) (rest:List Nat) (line:Int) (pb:List (List Nat)),as=[.obj L.j]/\aU L G rest line/\G[L.p]?=some (.lst (sts pb))/\pb.length<=lim/\(∀ x pb',pb=x::pb'->K (.val (az (tokS x))) (G.set L.p (.lst (sts pb'))))/\(pb=[]->K (.val (az (tokS (dq rest line).1))) (iy L G (dq rest line).2.1 (dq rest line).2.2))
theorem jQ:(sts pb).length=pb.length:=List.length_map _
theorem ED {as:List ab} {K:RV->List GObj->Prop} (h:ctrPush as G K):nu gLx "_netrclex" "push_token" ["self","token"] as G K:=by
 obtain⟨L,line,pb,x,zq,h1,h2,h3,hK⟩:=h;rw [zq]
 refine⟨rfl,aw h1 (kz h2 (bR h2 ⟨by rw [jQ];exact h3,?_⟩))⟩
 unfold sts at hK
 rw [List.map_append] at hK
 exact hK
theorem Iv {as:List ab} {K:RV->List GObj->Prop} (h:ctrGet' as G K):ctrGT as G K:=by
 obtain⟨L,rest,line,pb,zq,h1,h2,h3,h4,h5⟩:=h;rw [zq]
 refine (oj L rest line (pb.map tokS) rfl h1 ⟨by rw [<- gw];exact h2,by rw [<- gw,jQ];exact h3⟩ (fun x pb' e=>?_) (fun e=>h5 ?_))
 ·cases pb with
  | nil=>cases e
  | cons x0 pb0 =>
   clear tail_ih;cases e
   rw [<- gw]
   exact h4 x0 pb0 rfl
 ·cases pb with
  | nil=>rfl
  | cons _ _=>cases e
noncomputable def ctrSet:Ctr:=fun as G K=>∃ (j q:Nat) (n v:Str) (items:List (Str×Str)),as=[.obj j,az n,az v]/\nv G j q items/\px items/\BV n/\cU v=true/\(∀ u,d9 items n=some u->K (.val (az u)) G)/\(d9 items n=none->K (.val (az v)) (G.set q (.lst ((items++[(n,v)]).map pr))))
theorem Iw {as:List ab} {K:RV->List GObj->Prop} (h:ctrSet as G K):nu LM "Headers" "setdefault" ["self","name","value"] as G K:=by
 obtain⟨j,q,n,v,items,zq,h1,h2,h3,h4,h5,h6⟩:=h;rw [zq]
 refine D9 h1 h2 h3 h4 h5 fun e=>?_
 have:=h6 e
 rw [List.map_append] at this
 exact this
noncomputable def ctrAdd':Ctr:=fun as G K=>∃ (j q:Nat) (n v:Str) (items:List (Str×Str)),as=[.obj j,az n,az v]/\nv G j q items/\(items.map pr).length<=lim/\cU n=true/\cU v=true/\v.length<=10000/\K kF (G.set q (.lst ((items++[(n,v)]).map pr)))
theorem Ix {as:List ab} {K:RV->List GObj->Prop} (h:ctrAdd' as G K):ctrAdd as G K:=by
 obtain⟨j,q,n,v,items,zq,h1,h2,h3,h4,h5,h6⟩:=h;rw [zq]
 rw [List.map_append] at h6
 exact (yR j q n v items rfl h1 h2 h3 h4 h5 h6)
noncomputable def ak (m n:List Nat) (l:List dG):List (Str×Str):=l.map fun e=>(tokS (nm e),tokS (wo m n e.path))
noncomputable def fC (m n:List Nat) (l:List dG):List (List Nat):=(l.map fun e=>[lt e.row,wo m n e.path]).flatten
theorem iJ {l:List dG}:(ak m n l).map pr=gD m n l:=by delta ak gD;rw [List.map_map];rfl
theorem gg:∀ c<4,eP (rD (c+97))=c+97/\eP (c+97)=c+97/\bL (c+97)=true/\bL (rD (c+97))=true/\rD (c+97)<128:=by decide +kernel
theorem aY.lows {l:List Nat} (h:aY l):((lt l).map rD).map eP=lt l/\(lt l).map eP=lt l:=by
 have g:∀ f:Nat->Nat,(∀ c<4,f (c+97)=c+97)->(lt l).map f=lt l:=fun f hf=>by
  unfold lt
  rw [List.map_map]
  exact List.map_congr_left fun c hc=>hf c (of_decide_eq_true (List.all_eq_true.mp h.r c hc))
 exact⟨by rw [List.map_map];exact g _ fun c hc=>(gg c hc).1,g _ fun c hc=>(gg c hc).2.1⟩
theorem rL {e:dG} (h:aY e.row):∀ c∈nm e,c<128:=fun c hc=>by
 unfold nm at hc
 cases q:e.odd with
 | true=>rw [q] at hc;exact h.asc c hc
 | false =>
  rw [q] at hc
  obtain⟨d,hd,zq⟩:=List.mem_map.mp hc;rw [<- zq]
  obtain⟨i,hi,zq⟩:=List.mem_map.mp hd;rw [<- zq]
  exact (gg i (of_decide_eq_true (List.all_eq_true.mp h.r i hi))).2.2.2.2
theorem kZ {e:dG} (h:aY e.row):low (tokS (nm e))=tokS (lt e.row):=by
 show Txt.lower _=_
 rw [kP (rL h)]
 unfold nm
 cases e.odd with
 | true=>exact congrArg tokS h.lows.2
 | false=>exact congrArg tokS h.lows.1
theorem pT {e:dG} (h:aY e.row):cU (tokS (nm e))=true:=List.all_eq_true.mpr fun c hc=>by
 replace hc:c∈nm e:=hc
 unfold nm at hc
 cases q:e.odd with
 | true =>
  rw [q] at hc
  obtain⟨i,hi,zq⟩:=List.mem_map.mp hc;clear hc;subst zq
  exact (gg i (of_decide_eq_true (List.all_eq_true.mp h.r i hi))).2.2.1
 | false =>
  rw [q] at hc
  obtain⟨d,hd,zq⟩:=List.mem_map.mp hc;rw [<- zq]
  obtain⟨i,hi,zq⟩:=List.mem_map.mp hd;rw [<- zq]
  exact (gg i (of_decide_eq_true (List.all_eq_true.mp h.r i hi))).2.2.2.1
theorem x7 {e:dG} (h:aY e.row):(nm e).length=4:=by
 unfold nm
 cases e.odd with
 | true=>show (lt e.row).length=4;rw [lt,List.length_map,h.len]
 | false=>show ((lt e.row).map rD).length=4;rw [List.length_map,lt,List.length_map,h.len]
theorem x8 {e:dG} (h:aY e.row):BV (tokS (nm e)):=by
 refine⟨by rw [aM,x7 h];decide,pT h,?_,?_⟩
 ·rw [kZ h]
  have:=pT (e:=⟨e.row,true,[]⟩) h
  exact this
 ·rw [kZ h];exact h.ok
theorem x9 {r:List Nat} {nme:dG} (hn:aY nme.row) (hr:nme.row=r):∀ {l:List dG} {i:Nat},(∀ e∈l,aY e.row)->d9 (ak m n l) (tokS (nm nme))=(eI r l i).map fun k=>tokS (wo m n (ac l (k-i)).path):=by
 intro l
 induction l with
 | nil =>
  intro ι ι
  exact rfl
 | cons e l ih =>
  intro i h
  have ih:=ih (i:=i+1) fun e he=>h e (.tail _ he)
  unfold d9 ak at ih ⊢
  show _=Option.map _ (bif e.row==r then some i else eI r l (i+1))
  rw [List.map_cons,List.find?_cons]
  have e1:(low (tokS (nm e))==low (tokS (nm nme)))=(e.row==r):=by
   rw [kZ (h e (.head _)),kZ hn,hr]
   cases q:e.row==r with
   | true=>rw [eq_of_beq q];exact beq_self_eq_true _
   | false=>exact beq_false_of_ne fun z=>ne_of_beq_false q (xX.mp z)
  rw [e1]
  cases q:e.row==r with
  | true =>
   show _=some (tokS (wo m n (ac (e::l) (i-i)).path))
   rw [Nat.sub_self];rfl
  | false =>
   show Option.map _ (List.find? _ _)=_
   rw [ih]
   cases z:eI r l (i+1) with
   | none=>rfl
   | some k =>
    obtain⟨d,e2,_⟩:=kW z
    show some (tokS (wo m n (ac l (k-(i+1))).path))=some (tokS (wo m n (ac (e::l) (k-i)).path))
    rw [e2,Nat.add_sub_cancel_left,Nat.add_assoc,Nat.add_sub_cancel_left,Nat.add_comm 1];rfl
end
noncomputable def EE (es:List DictEntry):Gl:=(((((FN es).addFn "Headers" ctrNewH).addMe 1 "add_header" ctrAdd').addMe 1 "setdefault" ctrSet).addMe 0 "get_token" ctrGet').addMe 0 "push_token" ctrPush
noncomputable abbrev Iy:Scope:=cS "_law_turns"
noncomputable abbrev KE:Stmt:=d8 (ao "_law_turns") 2
noncomputable abbrev LS:Stmt:=d8 (FK (d8 (b8 KE) 0)) 1
noncomputable def gS (c:Nat):List PyData:=List.replicate c .none
structure yN (m n:List Nat):Prop where
 m1:Mk m
 n1:Mk n
 cm:∀ c∈m,c≠32/\bL c=true
 cn:∀ c∈n,c≠32/\bL c=true
 ne:m≠n
section
variable {es:List DictEntry} {L:Lx} {j q:Nat} {rest:List Nat} {line:Int} {pb pb':List (List Nat)} {items items':List (Str×Str)} {G:List GObj} {p m n o r:List Nat} {x y:Ms} {t k c:Nat} {b:Bool}
theorem AP {A B:List Nat}:∀ {u v:List Nat},(∀ c∈u,c≠32)->(∀ c∈v,c≠32)->u++32::A=v++32::B->u=v/\A=B:=by
 intro u
 induction u with
 | nil =>
  intro v
  cases (v) with
  | nil =>
   intro ι ι h
   exact⟨rfl,(List.cons.inj h).2⟩
  | cons d v =>
   intro ι hv h
   exact absurd (List.cons.inj h).1.symm (hv d (.head _))
 | cons d u ih =>
  intro v
  cases (v) with
  | nil =>
   intro hu ι h
   exact absurd (List.cons.inj h).1 (hu d (.head _))
  | cons e v =>
   intro hu hv h
   obtain⟨h1,h2⟩:=ih (fun c hc=>hu c (.tail _ hc)) (fun c hc=>hv c (.tail _ hc)) (List.cons.inj h).2
   exact⟨by rw [(List.cons.inj h).1,h1],h2⟩
theorem iL {l:List Bool}:wo m n (b::l)=(bif b then n else m)++32::wo m n l:=by
 unfold wo
 rw [List.map_cons,List.flatten_cons,List.append_assoc];rfl
theorem EF (M:yN m n):∀ {a b:List Bool},wo m n a=wo m n b->a=b:=by
 intro a
 induction a with
 | nil =>
  intro b
  cases (b) with
  | nil =>
   intro ι
   exact rfl
  | cons c b =>
   intro h
   rw [iL] at h
   exact absurd (congrArg List.length h) (by rw [List.length_append];exact Nat.ne_of_lt (Nat.lt_of_lt_of_le (Nat.succ_pos _) (Nat.le_add_left _ _)))
 | cons c a ih =>
  intro b
  cases (b) with
  | nil =>
   intro h
   rw [iL] at h
   exact absurd (congrArg List.length h).symm (by rw [List.length_append];exact Nat.ne_of_lt (Nat.lt_of_lt_of_le (Nat.succ_pos _) (Nat.le_add_left _ _)))
  | cons d b =>
   intro h
   rw [iL,iL] at h
   have hs:∀ c:Bool,∀ e∈(bif c then n else m),e≠32:=fun c=>by
    cases c with
    | true=>exact fun e he=>(M.cn e he).1
    | false=>exact fun e he=>(M.cm e he).1
   obtain⟨h1,h2⟩:=AP (hs c) (hs d) h
   have h3:c=d:=by
    cases c with
    | true=>cases d with
     | true=>rfl
     | false=>exact absurd h1.symm M.ne
    | false=>cases d with
     | false=>rfl
     | true=>exact absurd h1 M.ne
   rw [h3,ih h2]
theorem ya {P:Nat->Prop} (hm:∀ c∈m,P c) (hn:∀ c∈n,P c) (h32:P 32):∀ {l:List Bool},∀ c∈wo m n l,P c:=by
 intro l
 induction l with
 | nil =>
  intro ι h
  cases h
 | cons b l ih =>
  intro c h
  rw [iL] at h
  rcases List.mem_append.mp h with h | h
  ·cases b with
   | true=>exact hn c h
   | false=>exact hm c h
  ·rcases List.mem_cons.mp h with rfl | h
   ·exact h32
   ·exact ih c h
theorem pU (M:yN m n) {l:List Bool}:cU (tokS (wo m n l))=true:=List.all_eq_true.mpr fun c hc=>ya (P:=fun c=>bL c=true) (fun c hc=>(M.cm c hc).2) (fun c hc=>(M.cn c hc).2) rfl c hc
theorem tc (M:yN m n) {l:List Bool}:PyData.strOk (tokS (wo m n l))=true:=dN (ya M.m1.2 M.n1.2 (by decide))
noncomputable def ρv (L:Lx) (j:Nat) (p r m n:List Nat) (x:Ms) (c:Nat) (tl:Rho):Rho:=("lexer",.val (.obj L.j))::("orders",.val (.dat (.list (nJ [p,r]))))::("marks",.val (.dat (.list (sts [m,n]))))::("count",ag x.ents.length)::("answers",.lst (dR m n x.ans))::("table",.val (.obj j))::("said",.lst (gS c))::tl
theorem mB (X:nP x):px (ak m n x.ents):=⟨fun p hp=>by
 obtain⟨e,he,zq⟩:=List.mem_map.mp hp;rw [<- zq]
 exact x8 (X.r e he),by rw [iJ,gD,List.length_map];exact Nat.le_trans X.n (by decide)⟩
theorem uX {c:Nat}:gS (c+2)=gS c++[.none,.none]:=by
 unfold gS
 rw [show [PyData.none,.none]=List.replicate 2 PyData.none from rfl,List.replicate_append_replicate]
theorem pV {N:Nat}:seqIndex? (-1) (N+1)=some N:=by
 have e:(-1:Int)+((N+1:Nat):Int)=(N:Nat):=by omega
 unfold seqIndex?
 rw [if_pos (show (-1:Int)<0 by decide),e]
 show (if (decide ((0:Int)<=N)&&decide ((N:Int)<((N+1:Nat):Int)))=true then some (N:Int).toNat else none)=some N
 rw [if_pos (Bool.and_eq_true_iff.mpr ⟨decide_eq_true (Int.natCast_nonneg N),decide_eq_true (Int.ofNat_lt.mpr (Nat.lt_succ_self N))⟩)];rfl
theorem td {K:Fl->St->Prop} (T:TS L j q rest line pb (ak m n x.ents) G) (hp:pb.length<=1000) (X:nP x) (ht:t<x.ents.length) (ho:aY o) (M:yN m n) (e:bz t b o x=some y) (hc:c<=1000)
  (hK:∀ G' c' u v,c'<=c+2->TS L j q rest line (pb++fC m n (y.ents.drop x.ents.length)) (ak m n y.ents) G'->K .next ⟨ρv L j p r m n y c' [("turn",ag t),("word",aE (tokS (wo m n (ac x.ents t).path))),("row",aE (tokS (lt (ac x.ents t).row))),("order",aE (tokS (lt o))),("mark",aE (tokS (bif b then n else m))),("more",u),("made",v)],G'⟩) :
  (aj (EE es) (k+9)).ex Iy (b8 LS) ⟨ρv L j p r m n x c [("turn",ag t),("word",aE (tokS (wo m n (ac x.ents t).path))),("row",aE (tokS (lt (ac x.ents t).row))),("order",aE (tokS (lt o))),("mark",aE (tokS (bif b then n else m)))],G⟩ K:=by
 have hr:=X.r _ (gy ht)
 have hl:=jP hr ho
 have wl:(wo m n (ac x.ents t).path).length<=400:=Nat.le_trans (xY M.m1 M.n1 _) (Nat.mul_le_mul_right 4 (X.w _ (gy ht)))
 have bl:(bif b then n else m).length<=3:=by
  cases b with
  | true=>exact M.n1.1
  | false=>exact M.m1.1
 have za:(dR m n x.ans).length<=lim:=by rw [dR,List.length_map];exact Nat.le_trans X.a (by decide)
 have wa:tokS (wo m n (ac x.ents t).path)++tokS (bif b then n else m)++(" ":Str)=tokS (wo m n ((ac x.ents t).path++[b])):=by
  rw [show (" ":Str)=tokS [32] by decide +kernel,bA,bA,ta]
 have wz:(tokS (wo m n (ac x.ents t).path)).length+(tokS (bif b then n else m)).length<=lim/\(tokS (wo m n (ac x.ents t).path)++tokS (bif b then n else m)).length+(" ":Str).length<=lim:=by
  rw [show (" ":Str)=tokS [32] by decide +kernel,bA,aM,aM,aM,aM,List.length_append]
  exact⟨Nat.le_trans (Nat.add_le_add wl bl) (by decide),Nat.le_trans (Nat.add_le_add_right (Nat.add_le_add wl bl) 1) (by decide)⟩
 have tm:((t:Int).fmod 2 != 0)=(t%2==1):=by
  have e:(t:Int).fmod 2=((t%2:Nat):Int):=(Int.ofNat_fmod t 2).symm
  rw [e]
  rcases Nat.mod_two_eq_zero_or_one t with h | h<;>rw [h]<;>rfl
 generalize hN:dQ (ac x.ents t).row o=N at *
 generalize hW:(ac x.ents t).path++[b]=P at *
 have fi:=x9 (m:=m) (n:=n) (nme:=⟨N,t%2==1,P⟩) hl rfl (i:=0) X.r
 have fd:∀ u,d9 (ak m n x.ents) (tokS (nm ⟨N,t%2==1,P⟩))=some u->∃ i,eI N x.ents 0=some i/\u=tokS (wo m n (ac x.ents i).path):=fun u hu=>by
  rw [fi] at hu
  obtain⟨i,hi,zq⟩:=Option.map_eq_some_iff.mp hu;rw [<- zq]
  exact (aa i hi rfl)
 have fn:d9 (ak m n x.ents) (tokS (nm ⟨N,t%2==1,P⟩))=none->eI N x.ents 0=none:=fun hu=>by
  rw [fi] at hu
  exact Option.map_eq_none_iff.mp hu
 have after:∀ pth G1,((∃ i,eI N x.ents 0=some i/\pth=(ac x.ents i).path/\G1=G)\/(eI N x.ents 0=none/\pth=P/\G1=G.set q (.lst ((ak m n x.ents++[(tokS (nm ⟨N,t%2==1,P⟩),tokS (wo m n P))]).map pr)))) ->
   (aj (EE es) (k+9)).ex Iy ((b8 LS).drop 2) ⟨("lexer",.val (.obj L.j))::("orders",.val (.dat (.list (nJ [p,r]))))::("marks",.val (.dat (.list (sts [m,n]))))::("count",ag x.ents.length)::("answers",.lst (dR m n x.ans++[.str (tokS (wo m n pth))]))::("table",.val (.obj j))::("said",.lst (gS c))::[("turn",ag t),("word",aE (tokS (wo m n (ac x.ents t).path))),("row",aE (tokS (lt (ac x.ents t).row))),("order",aE (tokS (lt o))),("mark",aE (tokS (bif b then n else m))),("more",aE (tokS (wo m n P))),("made",aE (tokS (lt N)))],G1⟩ K:=by
  intro pth G1 h
  have al:(dR m n x.ans++[PyData.str (tokS (wo m n pth))]).length=x.ans.length+1:=by rw [List.length_append,dR,List.length_map];rfl
  have ax:x.ans.length+1<=lim:=Nat.le_trans (Nat.succ_le_succ X.a) (by decide)
  have as:dR m n x.ans++[PyData.str (tokS (wo m n pth))]=dR m n (x.ans++[pth]):=by unfold dR;rw [List.map_append];rfl
  refine⟨by rw [al];exact ax,(cQ x.ans.length (.str (tokS (wo m n pth))) (by rw [al];exact pV) ?_ (hM (tc M) (tc M)) ?_)⟩
  ·rw [List.getElem?_append_right (by rw [dR,List.length_map];exact Nat.le_refl _),dR,List.length_map,Nat.sub_self];rfl
  show bO (tokS (wo m n pth)==tokS (wo m n P)) _ _
  rw [pF]
  unfold bz at e
  rw [hN,hW] at e
  rcases h with ⟨i,hi,rfl,rfl⟩ | ⟨hi,rfl,rfl⟩
  ·rw [hi] at e
   have e:some (⟨x.ents,x.ans++[(ac x.ents i).path]⟩:Ms)=some y/\(ac x.ents i).path≠P:=by
    revert e
    show (bif _ then none else _)=_->_
    cases z:(ac x.ents i).path==P with
    | true=>exact nofun
    | false=>exact fun e=>⟨e,ne_of_beq_false z⟩
   rw [beq_false_of_ne fun z=>e.2 (EF M z)]
   obtain⟨e,_⟩:=e
   cases e
   have:=hK G1 c (aE (tokS (wo m n P))) (aE (tokS (lt N))) (Nat.le_add_right _ _) (by rw [List.drop_length];show TS L j q rest line (pb++[]) _ _;rw [List.append_nil];exact T)
   unfold ρv at this
   rw [<- as] at this
   exact this
  ·rw [hi] at e
   cases e
   rw [beq_self_eq_true]
   have T1:=T.setQ (items':=ak m n x.ents++[(tokS (nm ⟨N,t%2==1,pth⟩),tokS (wo m n pth))])
   have T2:=T1.setP (pb':=pb++[lt N])
   have T3:=T2.setP (pb':=(pb++[lt N])++[wo m n pth])
   have lp:pb.length<=lim:=Nat.le_trans hp (by decide)
   refine aS T1.lx.j (oj L line pb (lt N) rfl T1.lx.j T1.p lp (aS T2.lx.j (qi L line _ (wo m n pth) rfl T2.lx.j T2.p ?_ ?_ ?_)))
   ·rw [List.length_append];exact Nat.le_trans (Nat.add_le_add_right hp 1) (by decide)
   ·show (gS c).length+2<=lim
    rw [gS,List.length_replicate];exact Nat.le_trans (Nat.add_le_add_right hc 2) (by decide)
   ·have:=hK _ (c+2) (aE (tokS (wo m n pth))) (aE (tokS (lt N))) (Nat.le_refl _) (by
     rw [List.drop_left]
     have e1:pb++fC m n [⟨N,t%2==1,pth⟩]=(pb++[lt N])++[wo m n pth]:=by rw [List.append_assoc];rfl
     have e2:ak m n (x.ents++[⟨N,t%2==1,pth⟩])=ak m n x.ents++[(tokS (nm ⟨N,t%2==1,pth⟩),tokS (wo m n pth))]:=List.map_append
     rw [e1,e2]
     exact T3)
    unfold ρv at this
    rw [<- as,List.length_append,Int.natCast_add,uX] at this
    exact this
 refine (tP _ o rfl hr ho wz.1 wz.2 (.inr ⟨rfl,aS T.h.1 ⟨by decide,?_⟩⟩))
 rw [wa,hN]
 show bO ((t:Int).fmod 2 != 0) _ _
 rw [tm]
 cases ho:t%2==1 with
 | true =>
  refine (yR j q (tokS (nm ⟨N,t%2==1,P⟩)) (tokS (wo m n P)) (ak m n x.ents) ?_ T.h (mB X) (x8 (e:=⟨N,t%2==1,P⟩) hl) (pU M) (fun u hu=>?_) (fun hu=>⟨za,after P _ (.inr (am (fn hu) rfl rfl))⟩))
  ·delta nm
   rw [ho];rfl
  ·obtain⟨i,hi,zq⟩:=fd u hu;rw [zq]
   exact⟨za,after _ _ (.inl (aB i hi rfl rfl))⟩
 | false =>
  refine⟨by rw [aM,lt,List.length_map,hl.len];decide,(yR j q (tokS (nm ⟨N,t%2==1,P⟩)) (tokS (wo m n P)) (ak m n x.ents) ?_ T.h (mB X) (x8 (e:=⟨N,t%2==1,P⟩) hl) (pU M) (fun u hu=>?_) (fun hu=>⟨za,after P _ (.inr (am (fn hu) rfl rfl))⟩))⟩
  ·delta nm
   rw [ho,nG hl.asc];rfl
  ·obtain⟨i,hi,zq⟩:=fd u hu;rw [zq]
   exact⟨za,after _ _ (.inl (aB i hi rfl rfl))⟩
end
noncomputable def EG:Nat->Nat->List Nat
 | _,0=>[]
 | t,n+1=>t::EG (t+1) n
section
variable {es:List DictEntry} {L:Lx} {j q:Nat} {rest:List Nat} {line:Int} {pb pb':List (List Nat)} {items items':List (Str×Str)} {G:List GObj} {p m n o r:List Nat} {x y z:Ms} {t k c:Nat} {b:Bool}
theorem pW {l:List dG}:(fC m n l).length=l.length*2:=by
 unfold fC
 induction l with
 | nil=>rfl
 | cons e l ih=>rw [List.map_cons,List.flatten_cons,List.length_append,ih,List.length_cons (as:=l),Nat.succ_mul,Nat.add_comm];rfl
theorem jR (ht:t<x.ents.length) (e:bz t b o x=some y):∃ l,y.ents=x.ents++l:=by
 unfold bz at e
 cases hi:eI (dQ (ac x.ents t).row o) x.ents 0 with
 | some i =>
  rw [hi] at e
  have e:some (⟨x.ents,x.ans++[(ac x.ents i).path]⟩:Ms)=some y:=by
   revert e
   show (bif _ then none else _)=_->_
   cases (ac x.ents i).path==(ac x.ents t).path++[b] with
   | true=>exact nofun
   | false=>exact id
  cases e
  exact⟨[],(List.append_nil _).symm⟩
 | none =>
  rw [hi] at e
  cases e
  exact⟨_,rfl⟩
theorem B7 {d:Nat} (hd:d<=x.ents.length) (h:∃ l,y.ents=x.ents++l):fC m n (x.ents.drop d)++fC m n (y.ents.drop x.ents.length)=fC m n (y.ents.drop d):=by
 obtain⟨l,h⟩:=h
 rw [h,List.drop_left,List.drop_append_of_le_length hd]
 unfold fC
 rw [List.map_append,List.flatten_append]
theorem yb {l:List dG} {i:Nat} {l':List dG} (h:i<l.length):ac (l++l') i=ac l i:=by
 unfold ac
 rw [List.getD_eq_getElem?_getD,List.getD_eq_getElem?_getD,List.getElem?_append_left h]
theorem AQ {K:Fl->St->Prop} (W:Tw p r m n) (M:yN m n):∀ {N t:Nat} {x:Ms} {d c:Nat} {G:List GObj},AO d x->d+N*2<=50->c+N*4<=200->TS L j q rest line (fC m n (x.ents.drop t)) (ak m n x.ents) G->iI p r (EG t N) x=some z ->
  (∀ G' c',c'<=200->TS L j q rest line (fC m n (z.ents.drop (t+N))) (ak m n z.ents) G'->K .next ⟨ρv L j p r m n z c' [],G'⟩) ->
  db (jv Iy false (jx KE)) ((aj (EE es) (k+11)).ex Iy (b8 KE)) (nats (EG t N)) ⟨ρv L j p r m n x c [],G⟩ K:=by
 intro N
 induction N with
 | zero=>intro t x d c G _ _ hc T e hK;cases e;exact hK _ _ (Nat.le_trans (Nat.le_add_right _ _) hc) T
 | succ N ih =>
  intro t x d c G h hd hc T e hK
  rw [Nat.succ_mul] at hd hc
  obtain⟨x3,e1,e2⟩:=cw e
  unfold nO at e1
  have X:=h.ok (Nat.le_trans (Nat.le_add_right _ _) (Nat.le_trans hd (by decide)))
  rw [show t+(N+1)=t+1+N by omega] at hK
  show bO (decide ((t:Int)<(x.ents.length:Nat))) _ _
  by_cases ht:t<x.ents.length
  ·rw [decide_eq_true ht] at e1
   obtain⟨x1,f1,f2⟩:=cw e1
   obtain⟨B1,t1⟩:=h.step ht W.p f1
   obtain⟨B2,t2⟩:=B1.step t1 W.q f2
   have X1:=B1.ok (by omega)
   obtain⟨l1,g1⟩:=jR ht f1
   obtain⟨l2,g2⟩:=jR t1 f2
   have ee:ac x1.ents t=ac x.ents t:=by rw [g1];exact yb ht
   rw [decide_eq_true (Int.ofNat_lt.mpr ht)]
   have ed:x.ents.drop t=ac x.ents t::x.ents.drop (t+1):=by
    rw [List.drop_eq_getElem_cons ht,ac,List.getD_eq_getElem?_getD,List.getElem?_eq_getElem ht];rfl
   rw [ed,show fC m n (ac x.ents t::x.ents.drop (t+1))=lt (ac x.ents t).row::wo m n (ac x.ents t).path::fC m n (x.ents.drop (t+1)) from rfl] at T
   have T1:=T.setP (pb':=wo m n (ac x.ents t).path::fC m n (x.ents.drop (t+1)))
   have T2:=T1.setP (pb':=fC m n (x.ents.drop (t+1)))
   have lp:(fC m n (x.ents.drop (t+1))).length<=200:=by rw [pW,List.length_drop];exact Nat.le_trans (Nat.mul_le_mul_right 2 (Nat.le_trans (Nat.sub_le _ _) X.n)) (by decide)
   refine aS T.lx.j (qi L rest line _ rfl T.lx T.p (Nat.le_trans (Nat.add_le_add_right lp 2) (by decide)) (fun u pb' eu=>?_) nofun)
   cases eu
   refine aS T1.lx.j (qi L rest line _ rfl T1.lx T1.p (Nat.le_trans (Nat.add_le_add_right lp 1) (by decide)) (fun u pb' eu=>?_) nofun)
   cases eu
   refine .inr ⟨rfl,?_⟩
   refine⟨rfl,td (k:=k) (b:=false) T2 (Nat.le_trans lp (by decide)) X ht W.p M f1 (by omega) fun G1 c1 u1 v1 hc1 T3=>?_⟩
   rw [B7 ht ⟨l1,g1⟩] at T3
   have lp1:(fC m n (x1.ents.drop (t+1))).length<=1000:=by rw [pW,List.length_drop];exact Nat.le_trans (Nat.mul_le_mul_right 2 (Nat.le_trans (Nat.sub_le _ _) X1.n)) (by decide)
   rw [<- ee]
   refine⟨rfl,td (k:=k) (b:=true) T3 lp1 X1 t1 W.q M f2 (by omega) fun G2 c2 u2 v2 hc2 T4=>?_⟩
   rw [B7 t1 ⟨l2,g2⟩] at T4
   exact ih B2 (by omega) (by omega) T4 e2 hK
  ·rw [decide_eq_false ht] at e1
   cases e1
   rw [decide_eq_false fun z=>ht (Int.ofNat_lt.mp z)]
   have d0:∀ i,x.ents.length<=i->x.ents.drop i=[]:=fun i hi=>List.drop_eq_nil_of_le hi
   refine ih h (by omega) (by omega) ?_ e2 hK
   rw [d0 _ (by omega)]
   rw [d0 _ (by omega)] at T
   exact T
end
noncomputable def KG (i:Nat) (s:Stmt):Expr:=match s with
 | .Return (some (.Tuple es _ _)) _=>es.getD i (.Constant .none 0 ⟨0,0,0,0⟩)
 | _=>.Constant .none 0 ⟨0,0,0,0⟩
noncomputable abbrev Mo:Expr:=KG 2 (d8 (ao "_law_turns") 3)
noncomputable def ctrTu:Ctr:=fun as G K=>∃ (L:Lx) (rest:List Nat) (line:Int) (p r m n:List Nat) (y:Ms),as=[.obj L.j,.dat (.list (nJ [p,r])),.dat (.list (sts [m,n]))]/\aU L G rest line/\G[L.p]?=some (.lst [])/\L.p≠L.s/\(∀ i<3,G[i]?=some (.tab i))/\Tw p r m n/\yN m n/\iI p r pS ms0=some y /\
 ∀ G',TS L G.length (G.length+1) rest line (fC m n (y.ents.drop 24)) (ak m n y.ents) G'->K (.val (.tup [.inr G.length,.inl (.list (dR m n y.ans)),.inl (.list [])])) G'
section
variable {es:List DictEntry} {L:Lx} {j q:Nat} {rest:List Nat} {line:Int} {G:List GObj} {p m n o r:List Nat} {x y z:Ms} {t k c:Nat} {b:Bool}
theorem uY {K:List PyData->St->Prop}:∀ {c:Nat},K [] ⟨[],G⟩->cg (aj (EE es) (k+5)) Mo K (gS c) ⟨[],G⟩:=by
 intro c
 induction c with
 | zero=>exact fun h=>h
 | succ c ih=>exact fun h=>ih h
theorem Iz {as:List ab} {K:RV->List GObj->Prop} (h:ctrTu as G K):eE (EE es) "_law_turns" ["lexer","orders","marks"] as G K:=by
 obtain⟨L,rest,line,p,r,m,n,y,zq,X,hp,ps,ht,W,M,e,hK⟩:=h;rw [zq]
 have lt_of:∀ {i:Nat} {o:GObj},G[i]?=some o->i<G.length:=fun h=>(List.getElem?_eq_some_iff.mp h).1
 have g2:∀ {i:Nat} {o:GObj} {l:List GObj},G[i]?=some o->(G++l)[i]?=some o:=xF
 have T0:TS L G.length (G.length+1) rest line [] [] (G++[.inst 1 [("_headers",.obj (G.length+1))],.lst []]) :=
  ⟨⟨g2 X.j,g2 X.h,g2 X.c,g2 X.s,X.z,X.a⟩,g2 hp,⟨ap 0,ap 1⟩,Nat.ne_of_lt (Nat.lt_succ_of_lt (lt_of hp)),ps,Nat.ne_of_gt (Nat.lt_succ_of_lt (lt_of X.s)),fun i hi=>g2 (ht i hi)⟩
 have T1:=T0.setQ (items':=[]++[(tokS (lt [0,1,2,3]),tokS [])])
 have T2:=T1.setP (pb':=[]++[lt [0,1,2,3]])
 have T3:=T2.setP (pb':=([]++[lt [0,1,2,3]])++[[]])
 have ea:("abcd":Str)=tokS (lt [0,1,2,3]):=by decide +kernel
 have hl:=AQ (es:=es) (k:=0) (K:=fun fl st1=>(match fl with
  | .next=>(aj (EE es) 12).ex Iy ((ao "_law_turns").drop 3) st1 (dh K)
  | fl=>dh K fl st1)) W M (N:=24) (t:=0) (c:=3) nQ (by decide) (by decide) T3 e fun G' c' hc T=>by
   refine⟨?_,uY (k:=4) (hK G' T)⟩
   show (gS c').length<=lim
   rw [gS,List.length_replicate];exact Nat.le_trans hc (by decide)
 refine (am rfl rfl (.inr ⟨rfl,aS T0.h.1 (yR G.length (G.length+1) (tokS (lt [0,1,2,3])) (tokS []) ([]) ?_ T0.h (by decide) (by decide +kernel) (by decide +kernel) (by decide) (aS T1.lx.j (oj L line ([]) (lt [0,1,2,3]) ?_ T1.lx.j T1.p (by decide) (aS T2.lx.j (qi L line ([]++[lt [0,1,2,3]]) ([]) ?_ T2.lx.j T2.p (by decide) ⟨by decide,by decide⟩ ?_)))))⟩))
 ·rw [<- ea,<- fw];rfl
 ·rw [<- ea];rfl
 ·rw [<- fw];rfl
 ·exact hl
end
noncomputable def ctrOrd:Ctr:=fun as G K=>∃ x,as=[aI x]/\K (.val (az (tokS (lt (bq x))))) G
noncomputable def ctrOps:Ctr:=fun as G K=>as=[]/\K (.val (.dat (.list (sts ops)))) G
noncomputable def ctrDp:Ctr:=fun as G K=>∃ a b:Nat,as=[aI a,aI b]/\0<b/\ay b<=7000/\jL (ay b) a<=256/\G[1]?=some (.tab 1)/\G[2]?=some (.tab 2)/\K (BT ((a:Int) / b) ((a:Int)%b)) G
noncomputable def ctrKeys:Ctr:=fun as G K=>∃ (j q:Nat) (items:List (Str×Str)),as=[.obj j]/\nv G j q items/\(items.map pr).length<=lim/\K (.val (.dat (.list (items.map fun p=>.str p.1)))) G
noncomputable def ctrLen:Ctr:=fun as G K=>∃ (j q:Nat) (items:List (Str×Str)),as=[.obj j]/\nv G j q items/\(items.map pr).length<=lim/\K (rh (items.map pr).length) G
noncomputable abbrev EH:Scope:=cS "law"
noncomputable abbrev jn:List Stmt:=ao "law"
noncomputable abbrev vo (i:Nat):Stmt:=d8 jn i
noncomputable def pA (c:Int):Nat:=(c.fmod 48).toNat
noncomputable def AR:List Int:=[1,5,7,11]
noncomputable def pB (c:Int):Nat:=((c+AR.getD ((c.fdiv 48).fmod 4).toNat 0).fmod 48).toNat
noncomputable def EI:List Nat:=[32,34,92,9,10,35]
noncomputable def lk (c:Int):Nat:=EI.getD ((c.fdiv 192).fmod 6).toNat 0
noncomputable def jo (c:Int):Nat:=(5+(c.fdiv 1152).fmod 1100).toNat
noncomputable def k6 (c:Int):Nat:=(40+(c.fdiv 1267200).fmod 4500).toNat
noncomputable def mC (c:Int):Nat:=2 ^ k6 c+3 ^ (k6 c / 2)
noncomputable def qh (c:Int):Nat:=((c.fdiv 5702400000).fmod (mC c:Int)).toNat
section
variable {es:List DictEntry} {G:List GObj} {K:RV->List GObj->Prop} {c0 c1 c2:Int} {s:List Int} {k:Nat}
theorem fm {x n:Int} (h:0<n):0<=x.fmod n/\x.fmod n<n:=⟨Int.fmod_nonneg_of_pos _ h,Int.fmod_lt_of_pos _ h⟩
theorem AS {x:Int} (h:0<=x):((x.toNat:Nat):Int)=x:=Int.toNat_of_nonneg h
theorem nR {i:Int} {n:Nat} (h:0<=i) (h':i<n):seqIndex? i n=some i.toNat:=by
 unfold seqIndex?
 rw [if_neg (Int.not_lt.mpr h),if_pos (Bool.and_eq_true_iff.mpr ⟨decide_eq_true h,decide_eq_true h'⟩)]
theorem i7 {l u t:Option Int}:∃ m:List Int,pick (s.map .int) l u t=m.map .int:=by
 unfold pick
 generalize sliceRange _ _ _=I
 refine⟨I.filterMap (s[·]?),?_⟩
 induction I with
 | nil=>rfl
 | cons i I ih =>
  rw [List.filterMap_cons,List.filterMap_cons,List.getElem?_map]
  cases s[i]? with
  | none=>exact ih
  | some v=>exact congrArg (PyData.int v::·) ih
noncomputable def zs (l:List Int):List PyData:=l.map .int
noncomputable abbrev k7 (g:Gl) (i:Nat) (st:St) (K:Fl->St->Prop):Prop:=Hy g (aj g 11) EH (vo i) st K
noncomputable def g1 (es:List DictEntry):Gl:=(gB es).addFn "_law_order" ctrOrd
noncomputable def g3 (es:List DictEntry):Gl:=(gB es).addFn "_law_operators" ctrOps
section
variable {K:Fl->St->Prop}
theorem KH (hs:s.length<=100) (h:∀ c0 c1 c2,K .next ⟨[("script",.val (.dat (.list (zs s)))),("cells",.lst (zs [c0,c1,c2]))],G⟩):k7 (gB es) 0 ⟨[("script",.val (.dat (.list (zs s))))],G⟩ K:=by
 have z:(zs s).length<=lim:=by unfold zs;rw [List.length_map];exact Nat.le_trans hs (by decide)
 obtain⟨m0,e0⟩:=i7 (s:=s) (l:=some 0) (u:=none) (t:=some 3)
 obtain⟨m1,e1⟩:=i7 (s:=s) (l:=some 1) (u:=none) (t:=some 3)
 obtain⟨m2,e2⟩:=i7 (s:=s) (l:=some 2) (u:=none) (t:=some 3)
 exact (lu (by decide) rfl nofun z (lv m0 e0 rfl nofun z (lv m1 e1 rfl nofun z (aa m2 e2 (h _ _ _)))))
noncomputable def ρ2 (s:List Int) (c0 c1 c2:Int) (tl:Rho):Rho:=("script",.val (.dat (.list (zs s))))::("cells",.lst (zs [c0,c1,c2]))::("orders",.lst (nJ [bq c0,bq c1]))::tl
theorem KI (h:K .next ⟨ρ2 s c0 c1 c2 [],G⟩):k7 (g1 es) 1 ⟨[("script",.val (.dat (.list (zs s)))),("cells",.lst (zs [c0,c1,c2]))],G⟩ K :=
 (a7 nofun (show 3<=lim by decide) (show 2<=lim by decide) (aa _ rfl (aa _ rfl h)))
theorem AT {i:Int} (h:0<=i/\i<4):(zs [1,5,7,11])[i.toNat]?=some (.int (AR.getD i.toNat 0)):=by
 have g:∀ k<4,(zs [1,5,7,11])[k]?=some (.int (AR.getD k 0)):=fun k hk=>match k,hk with
  | 0,_=>rfl
  | 1,_=>rfl
  | 2,_=>rfl
  | 3,_=>rfl
  | k+4,h=>absurd h (Nat.not_lt.mpr (Nat.le_add_left 4 k))
 exact g _ ((Int.toNat_lt h.1).mpr h.2)
theorem KJ (h:K .next ⟨ρ2 s c0 c1 c2 [("places",.lst (nats [pA c2,pB c2]))],G⟩):k7 (gB es) 2 ⟨ρ2 s c0 c1 c2 [],G⟩ K:=by
 have e1:((pA c2:Nat):Int)=c2.fmod 48:=AS (fm (by decide)).1
 have e2:((pB c2:Nat):Int)=(c2+AR.getD ((c2.fdiv 48).fmod 4).toNat 0).fmod 48:=AS (fm (by decide)).1
 rw [show nats [pA c2,pB c2]=[.int (pA c2:Nat),.int (pB c2:Nat)] from rfl,e1,e2] at h
 exact⟨(show 3<=lim by decide),2,_,rfl,rfl,by decide,(show 3<=lim by decide),2,_,rfl,rfl,(show 3<=lim by decide),2,_,rfl,rfl,by decide,by decide +kernel,by decide,(show 4<=lim by decide),_,_,nR (fm (by decide)).1 (fm (by decide)).2,AT (fm (by decide)),by decide,h⟩
theorem jS:ops.length=48:=by decide
theorem AU {l:List (List Nat)} {i:Nat} (h:i<l.length):(sts l)[i]?=some (.str (tokS (l.getD i []))):=by
 unfold sts
 rw [List.getElem?_map,List.getD_eq_getElem?_getD,List.getElem?_eq_getElem h];rfl
noncomputable abbrev bg (i:Nat):List Nat:=ops.getD i []
theorem EJ {i:Int} (h:0<=i/\i<6):(" \"\\\t\n#":Str).cps[i.toNat]?=some (EI.getD i.toNat 0):=by
 have g:∀ k<6,(" \"\\\t\n#":Str).cps[k]?=some (EI.getD k 0):=by decide +kernel
 exact g _ ((Int.toNat_lt h.1).mpr h.2)
end
end
section
variable {es:List DictEntry} {G:List GObj} {K:Fl->St->Prop} {c0 c1 c2:Int} {s:List Int} {k:Nat}
theorem AV {K:List PyData->St->Prop}:∀ {l:List Nat},(∀ i∈l,i<48)->K (sts (l.map bg)) ⟨[],G⟩->cg (aj (g3 es) (k+5)) (Id (vo 3)) K (nats l) ⟨[],G⟩:=by
 intro l
 induction l generalizing K with
 | nil=>exact fun ι h=>h
 | cons i l ih =>
  intro h hK
  have hi:=h i (.head _)
  refine (am rfl (by rw [jQ,jS];decide) (aF i (.str (tokS (ops.getD i []))) ?_ ?_ ?_))
  ·rw [jQ,jS];exact cJ hi
  ·exact AU (by rw [jS];exact hi)
  ·exact ih (fun j hj=>h j (.tail _ hj)) hK
theorem KK (h:K .next ⟨ρ2 s c0 c1 c2 [("places",.val (.dat (.list (nats [pA c2,pB c2])))),("marks",.lst (sts [bg (pA c2),bg (pB c2)])),("look",aE (bC (lk c2)))],G⟩):k7 (g3 es) 3 ⟨ρ2 s c0 c1 c2 [("places",.lst (nats [pA c2,pB c2]))],G⟩ K:=by
 refine⟨(show 2<=lim by decide),AV (l:=[pA c2,pB c2]) ?_ ?_⟩
 ·intro i hi
  have g:∀ x:Int,(x.fmod 48).toNat<48:=fun x=>(Int.toNat_lt (fm (by decide)).1).mpr (fm (by decide)).2
  rcases List.mem_cons.mp hi with rfl | hi
  ·exact g _
  ·rw [List.mem_singleton.mp hi];exact g _
 ·have sl:(" \"\\\t\n#":Str).length=6:=by decide +kernel
  refine⟨(show 3<=lim by decide),2,_,rfl,rfl,by decide,by decide +kernel,by decide,by rw [sl];decide,_,_,by rw [sl];exact nR (fm (by decide)).1 (fm (by decide)).2,EJ (fm (by decide)),.inl ⟨rfl,h⟩⟩
end
section
variable {es:List DictEntry} {G:List GObj} {K:Fl->St->Prop} {c0 c1 c2 x:Int} {s:List Int} {k:Nat} {o m:List Nat} {l:Nat}
noncomputable def ρX (s:List Int) (c0 c1 c2:Int) (tl:Rho):Rho:=ρ2 s c0 c1 c2 (("places",.val (.dat (.list (nats [pA c2,pB c2]))))::("marks",.lst (sts [bg (pA c2),bg (pB c2)]))::("look",aE (bC (lk c2)))::tl)
theorem yc:((jo c2:Nat):Int)=5+(c2.fdiv 1152).fmod 1100:=AS (Int.add_nonneg (by decide) (fm (by decide)).1)
theorem yd:((k6 c2:Nat):Int)=40+(c2.fdiv 1267200).fmod 4500:=AS (Int.add_nonneg (by decide) (fm (by decide)).1)
theorem nS:5<=jo c2/\jo c2<1105:=by
 have h:=fm (x:=c2.fdiv 1152) (n:=1100) (by decide)
 have e:=yc (c2:=c2)
 omega
theorem rM:40<=k6 c2/\k6 c2<4540:=by
 have h:=fm (x:=c2.fdiv 1267200) (n:=4500) (by decide)
 have e:=yd (c2:=c2)
 omega
theorem KL (h:K .next ⟨ρX s c0 c1 c2 [("size",ag (k6 c2)),("width",ag (jo c2))],G⟩):k7 (gB es) 4 ⟨ρX s c0 c1 c2 [],G⟩ K:=by
 rw [yc,yd] at h
 exact⟨(show 3<=lim by decide),2,_,rfl,rfl,by decide,by decide +kernel,by decide,(show 3<=lim by decide),2,_,rfl,rfl,by decide,by decide +kernel,by decide,.inr ⟨rfl,h⟩⟩
theorem EK:((mC c2:Nat):Int)=2 ^ k6 c2+3 ^ (k6 c2 / 2):=by
 unfold mC
 rw [Int.natCast_add,Int.natCast_pow,Int.natCast_pow];rfl
theorem KM (h:K .next ⟨ρX s c0 c1 c2 [("size",ag (k6 c2)),("width",ag (jo c2)),("share",ag (mC c2))],G⟩):k7 (gB es) 5 ⟨ρX s c0 c1 c2 [("size",ag (k6 c2)),("width",ag (jo c2))],G⟩ K:=by
 rw [EK] at h
 have hs:=(rM (c2:=c2)).2
 have e:((k6 c2:Nat):Int).fdiv 2=((k6 c2 / 2:Nat):Int):=(Int.ofNat_fdiv _ 2).symm
 refine (lu (Int.natCast_nonneg _) ?_ (by decide) (by decide +kernel) ?_)
 ·rw [show (Builtin.Int.intBits 2:Nat)=2 by decide +kernel];omega
 rw [e]
 refine (am (Int.natCast_nonneg _) ?_ h)
 rw [show (Builtin.Int.intBits 3:Nat)=2 by decide +kernel];omega
theorem iM:0<mC c2:=Nat.add_pos_left (Nat.two_pow_pos _) _
theorem ye:((qh c2:Nat):Int)=(c2.fdiv 5702400000).fmod (mC c2:Int):=AS (fm (Int.ofNat_lt.mpr iM)).1
theorem nT:qh c2<mC c2:=Int.ofNat_lt.mp (by rw [ye];exact (fm (Int.ofNat_lt.mpr iM)).2)
noncomputable def ρ6 (s:List Int) (c0 c1 c2:Int) (tl:Rho):Rho:=ρX s c0 c1 c2 (("size",ag (k6 c2))::("width",ag (jo c2))::("share",ag (mC c2))::("rest",ag (qh c2))::tl)
theorem KN (h:K .next ⟨ρ6 s c0 c1 c2 [],G⟩):k7 (gB es) 6 ⟨ρX s c0 c1 c2 [("size",ag (k6 c2)),("width",ag (jo c2)),("share",ag (mC c2))],G⟩ K:=by
 unfold ρ6 at h
 rw [ye] at h
 exact⟨(show 3<=lim by decide),2,_,rfl,rfl,by decide,by decide +kernel,Int.ofNat_ne_zero.mpr (Nat.ne_of_gt iM),h⟩
noncomputable def uZ (x:Int) (j:Nat):Bool:=Builtin.bitAnd ((x.fdiv 24).fdiv (2 ^ j)) 1 != 0
noncomputable def lc (x:Int) (j i:Nat):Nat:=bif uZ x j then rD (i+97) else i+97
noncomputable def c8 (x:Int) (o:List Nat):List Nat:=[lc x 0 (br o 0),lc x 1 (br o 1),lc x 2 (br o 2),lc x 3 (br o 3)]
noncomputable def word (x:Int) (m:List Nat) (l:Nat) (o:List Nat):List Nat:=m++[l]++c8 x o
noncomputable abbrev KO:Expr:=pK (vo 7)
noncomputable abbrev IB:Expr:=rG (EC (ce KO))
theorem yf {K:List PyData->St->Prop}:∀ {ps:List (Nat×Nat)},(∀ p∈ps,p.2<4)->K (ps.map fun p=>.str (bC (lc x p.1 p.2))) ⟨[("x",ag x)],G⟩->dK (jv (cs IB) true (ct IB)) (eB (aj (gB es) (k+6)) (cs IB) []) ((aj (gB es) (k+6)).evD (cs IB) (ce IB)) (ps.map fun p=>.tuple [.int (Int.ofNat p.1),.str (bC (p.2+97))]) ⟨[("x",ag x)],G⟩ K:=by
 intro ps
 induction ps generalizing K with
 | nil=>exact fun ι h=>h
 | cons p ps ih =>
  intro h hK
  have hi:=h p (.head _)
  have ih:=fun {K}=>ih (K:=K) fun p' hp=>h p' (.tail _ hp)
  have up:Txt.upper (bC (p.2+97))=bC (rD (p.2+97)):=nG (l:=[p.2+97]) fun c hc=>by
   rw [List.mem_singleton.mp hc];exact Nat.lt_trans (Nat.add_lt_add_right hi 97) (by decide)
  refine (lu rfl (by decide) (by decide +kernel) (Int.natCast_nonneg _) ?_)
  show bO (uZ x p.1) _ _
  rw [List.map_cons] at hK
  unfold lc at hK
  cases q:uZ x p.1 with
  | true =>
   rw [q] at hK
   refine⟨(show 1<=lim by decide),?_⟩
   rw [up]
   exact ih hK
  | false =>
   rw [q] at hK
   exact ih hK
theorem u7 (h:aY o):o=[br o 0,br o 1,br o 2,br o 3]:=by
 have h1:=h.len
 clear h
 obtain⟨a,o1,zq,h5⟩:=lO h1;clear h1;subst zq
 obtain⟨b,o2,zq,h2⟩:=lO h5;rw [zq]
 obtain⟨c,o3,zq,h3⟩:=lO h2;rw [zq]
 obtain⟨d,o4,zq,h4⟩:=lO h3;rw [zq]
 rw [List.eq_nil_of_length_eq_zero h4]
 rfl
end
section
variable {es:List DictEntry} {G:List GObj} {K:Fl->St->Prop} {c0 c1 c2 x:Int} {s:List Int} {k:Nat} {o m:List Nat} {l:Nat}
noncomputable def ρw (x:Int) (m:List Nat) (l:Nat) (o:List Nat):Rho:=[("look",aE (bC l)),("x",ag x),("mark",aE (tokS m)),("order",aE (tokS (lt o)))]
theorem pX (h:aY o):gI (eN (tokS (lt o)))=[(0,br o 0),(1,br o 1),(2,br o 2),(3,br o 3)].map fun p=>.tuple [.int (Int.ofNat p.1),.str (bC (p.2+97))]:=by
 conv=>lhs;rw [u7 h]
 rfl
theorem pY {K:PyData->St->Prop} (ho:aY o) (hm:m.length<=3) (hK:K (.str (tokS (word x m l o))) ⟨ρw x m l o,G⟩):(aj (gB es) (k+10)).evD (cs KO) (ce KO) ⟨ρw x m l o,G⟩ K:=by
 have e1:tokS m++bC l=tokS (m++[l]):=cf
 have e2:Txt.join "" ((c8 x o).map fun c=>bC (id c))=tokS (c8 x o):=by rw [kQ,List.map_id]
 refine (am (Nat.le_trans (Nat.add_le_add_right hm 1) (by decide)) ?_ ?_)
 ·rw [pX ho];exact (show 4<=lim by decide)
 rw [pX ho]
 refine yf ?_ (aB ((c8 x o).map fun c=>bC (id c)) rfl (show 4+4*("":Str).length<=lim by decide +kernel) ?_)
 ·intro p hp
  rcases List.mem_cons.mp hp with rfl | hp
  ·exact ho.at (by decide)
  rcases List.mem_cons.mp hp with rfl | hp
  ·exact ho.at (by decide)
  rcases List.mem_cons.mp hp with rfl | hp
  ·exact ho.at (by decide)
  rw [List.mem_singleton.mp hp]
  exact ho.at (by decide)
 rw [e2]
 refine⟨?_,?_⟩
 ·rw [e1]
  show (m++[l]).length+4<=lim
  rw [List.length_append]
  exact Nat.le_trans (Nat.add_le_add_right (Nat.add_le_add_right hm 1) 4) (by decide)
 ·show K (.str (tokS m++bC l++tokS (c8 x o))) ⟨ρw x m l o,G⟩
  rw [e1,bA];exact hK
noncomputable def ρ7 (s:List Int) (c0 c1 c2:Int) (tl:Rho):Rho:=("script",.val (.dat (.list (zs s))))::("cells",.val (.dat (.list (zs [c0,c1,c2]))))::("orders",.val (.dat (.list (nJ [bq c0,bq c1]))))::("places",.val (.dat (.list (nats [pA c2,pB c2]))))::("marks",.val (.dat (.list (sts [bg (pA c2),bg (pB c2)]))))::("look",aE (bC (lk c2)))::("size",ag (k6 c2))::("width",ag (jo c2))::("share",ag (mC c2))::("rest",ag (qh c2))::tl
noncomputable def wA (c0 c2:Int):List Nat:=word c0 (bg (pA c2)) (lk c2) (bq c0)
noncomputable def wB (c1 c2:Int):List Nat:=word c1 (bg (pB c2)) (lk c2) (bq c1)
theorem k8:∀ i:Nat,(bg i).length<=3:=fun i=>by
 by_cases h:i<48
 ·have g:∀ i<48,(bg i).length<=3:=by decide
  exact g i h
 ·unfold bg
  rw [List.getD_eq_getElem?_getD,List.getElem?_eq_none (by rw [jS];exact Nat.le_of_not_lt h)];exact Nat.zero_le _
theorem KP (h0:aY (bq c0)) (h1:aY (bq c1)) (h:K .next ⟨ρ7 s c0 c1 c2 [("words",.lst (sts [wA c0 c2,wB c1 c2]))],G⟩):k7 (gB es) 7 ⟨ρ6 s c0 c1 c2 [],G⟩ K :=
 (am (show 2<=lim by decide) rfl (pY h0 (k8 _) ⟨rfl,pY h1 (k8 _) h⟩))
noncomputable def g8 (es:List DictEntry):Gl:=(gB es).addFn "_law_spelled" ctrSp
noncomputable def way (x:Int):Nat:=((x.fdiv 384).fmod 3).toNat
noncomputable def IC:List Nat:=[32,9,13,10]
noncomputable def jT (x:Int):Nat:=IC.getD ((x.fdiv 1152).fmod 4).toNat 0
noncomputable def bU (w:List Nat):Prop:=w.length<=100/\∀ c∈w,c<128
theorem EL {i:Int} (h:0<=i/\i<4):(" \t\r\n":Str).cps[i.toNat]?=some (IC.getD i.toNat 0):=by
 have g:∀ k<4,(" \t\r\n":Str).cps[k]?=some (IC.getD k 0):=by decide +kernel
 exact g _ ((Int.toNat_lt h.1).mpr h.2)
theorem yg:jT x<128:=by
 have g:∀ k<4,IC.getD k 0<128:=by decide
 exact g _ ((Int.toNat_lt (fm (by decide)).1).mpr (fm (by decide)).2)
noncomputable abbrev LT:Expr:=rG (pK (vo 8))
noncomputable def ρy (w:List Nat) (x:Int):Rho:=[("word",aE (tokS w)),("x",ag x)]
theorem yh {K:PyData->St->Prop} {w:List Nat} (hw:bU w) (hK:K (.str (tokS (bB (way x) (jT x) w))) ⟨ρy w x,G⟩):(aj (g8 es) (k+6)).evD (cs LT) (ce LT) ⟨ρy w x,G⟩ K:=by
 have e1:((way x:Nat):Int)=(x.fdiv 384).fmod 3:=AS (fm (by decide)).1
 have sl:(" \t\r\n":Str).length=4:=by decide +kernel
 refine (FR (by decide) (by decide +kernel) (by decide) (by decide) (by decide +kernel) (by decide) (by rw [sl];decide) (aF _ _ (by rw [sl];exact nR (fm (by decide)).1 (fm (by decide)).2) (EL (fm (by decide))) (tR w (way x) (jT x) ?_ (Nat.le_trans hw.1 (by decide)) hw.2 yg ((Int.toNat_lt (fm (by decide)).1).mpr (fm (by decide)).2) hK)))
 rw [e1];rfl
noncomputable def hU (c0 c1 c2:Int):List Nat:=bB (way c0) (jT c0) (wA c0 c2)++bB (way c1) (jT c1) (wB c1 c2)
theorem nU {w y:Nat} {l:List Nat} (h:l.length<=100):(bB y w l).length<=202:=by
 have g:∀ f,(wd f l).flatten.length<=200:=fun f=>Nat.le_trans xW (Nat.mul_le_mul_right 2 h)
 unfold bB
 cases y==0 with
 | true =>
  show ([34]++_++[34]).length<=202
  rw [List.length_append,List.length_append,Nat.add_comm ([34]:List Nat).length]
  exact Nat.add_le_add_right (Nat.add_le_add_right (g _) 1) 1
 | false =>
  cases y==1 with
  | true=>show (_++[w]).length<=202;rw [List.length_append];exact Nat.le_trans (Nat.add_le_add_right (g _) 1) (by decide)
  | false=>show (_++[w]).length<=202;rw [List.length_append];exact Nat.le_trans (Nat.add_le_add_right (g _) 1) (by decide)
theorem KQ (h0:bU (wA c0 c2)) (h1:bU (wB c1 c2)) (h:K .next ⟨ρ7 s c0 c1 c2 [("words",.val (.dat (.list (sts [wA c0 c2,wB c1 c2])))),("text",aE (tokS (hU c0 c1 c2)))],G⟩):k7 (g8 es) 8 ⟨ρ7 s c0 c1 c2 [("words",.lst (sts [wA c0 c2,wB c1 c2]))],G⟩ K:=by
 have ej:Txt.join "" ([bB (way c0) (jT c0) (wA c0 c2),bB (way c1) (jT c1) (wB c1 c2)].map tokS)=tokS (hU c0 c1 c2):=by
  rw [eQ]
  show tokS (_++(_++[]))=_
  rw [List.append_nil];rfl
 have es:=s8 [bB (way c0) (jT c0) (wA c0 c2),bB (way c1) (jT c1) (wB c1 c2)]
 rw [<- ej] at h
 refine (am (show 2<=lim by decide) rfl (yh h0 ⟨rfl,yh h1 (aB ([bB (way c0) (jT c0) (wA c0 c2),bB (way c1) (jT c1) (wB c1 c2)].map tokS) rfl ?_ h)⟩))
 rw [es,show ("":Str).length=0 by decide +kernel,Nat.mul_zero]
 show (_++(_++[])).length<=lim
 rw [List.append_nil,List.length_append]
 exact Nat.le_trans (Nat.add_le_add (nU h0.1) (nU h1.1)) (by decide)
end
structure Sd (k:Nat) (x:PyData):Prop where
 c:x.canLay0=true
 d:x.depth<=k
 e:PyData.eqv x x=true
theorem Sd.all {k:Nat}:∀ {ds:List PyData},(∀ d∈ds,Sd k d)->PyData.canLayAll0 ds=true/\PyData.depthAll ds<=k/\PyData.eqvAll ds ds=true:=by
 intro ds
 induction ds with
 | nil =>
  intro ι
  exact (am (by simp only [PyData.canLayAll0]) (by simp only [PyData.depthAll];exact Nat.zero_le _) (by simp only [PyData.eqvAll]))
 | cons d ds ih =>
  intro h
  obtain⟨h1,h2,h3⟩:=ih fun d hd=>h d (.tail _ hd)
  have h0:=h d (.head _)
  simp only [PyData.canLayAll0,PyData.depthAll,PyData.eqvAll]
  exact (am (Bool.and_eq_true_iff.mpr ⟨h0.c,h1⟩) (Nat.max_le.mpr ⟨h0.d,h2⟩) (Bool.and_eq_true_iff.mpr ⟨h0.e,h3⟩))
theorem Sd.list {k:Nat} {ds:List PyData} (h:∀ d∈ds,Sd k d):Sd (k+1) (.list ds):=by
 obtain⟨h1,h2,h3⟩:=Sd.all h
 exact⟨by simp only [PyData.canLay0];exact h1,by simp only [PyData.depth];exact Nat.succ_le_succ h2,by simp only [PyData.eqv];exact h3⟩
theorem Sd.tuple {k:Nat} {ds:List PyData} (h:∀ d∈ds,Sd k d):Sd (k+1) (.tuple ds):=by
 obtain⟨h1,h2,h3⟩:=Sd.all h
 exact⟨by simp only [PyData.canLay0];exact h1,by simp only [PyData.depth];exact Nat.succ_le_succ h2,by simp only [PyData.eqv];exact h3⟩
theorem Sd.int {i:Int}:Sd 0 (.int i):=⟨by simp only [PyData.canLay0],by simp only [PyData.depth];exact Nat.le_refl _,by simp only [PyData.eqv];exact beq_self_eq_true _⟩
theorem Sd.str {x:Str} (h:PyData.strOk x=true):Sd 0 (.str x):=⟨by simp only [PyData.canLay0];exact h,by simp only [PyData.depth];exact Nat.le_refl _,by simp only [PyData.eqv];exact beq_self_eq_true _⟩
theorem Sd.sh {k:Nat} {d:PyData} (h:Sd k d) (hk:k<=64):shaped d=true:=Bool.and_eq_true_iff.mpr ⟨h.c,decide_eq_true (Nat.le_trans h.d hk)⟩
theorem Sd.cmp {k:Nat} {d:PyData} (h:Sd k d) (hk:k<=64):b9 d d=true:=Bool.and_eq_true_iff.mpr ⟨h.sh hk,h.sh hk⟩
theorem Sd.nats {l:List Nat}:Sd 1 (.list (nats l)):=Sd.list fun d hd=>by
 obtain⟨n,_,zq⟩:=List.mem_map.mp hd;clear hd;subst zq;exact Sd.int
theorem Sd.sts {l:List (List Nat)} (h:∀ w∈l,∀ c∈w,c<128):Sd 1 (.list (sts l)):=Sd.list fun d hd=>by
 obtain⟨w,hw,zq⟩:=List.mem_map.mp hd;clear hd;subst zq;exact Sd.str (dN (h w hw))
noncomputable def eJ (l:List Nat):Int:=(l.map nl).sum
noncomputable def tlW:List Nat:=[10,32,9,13,92,34,35,32,35]
noncomputable def ID (es:List DictEntry):Gl:=(gB es).addFn "_law_lexer" (xE 0)
noncomputable def LU (es:List DictEntry):Gl:=(gB es).addMe 0 "get_token" ctrGet'
noncomputable def LV (es:List DictEntry):Gl:=(gB es).addFn "_law_cut" ctrCut
section
variable {es:List DictEntry} {G:List GObj} {K:Fl->St->Prop} {c0 c1 c2 x:Int} {s:List Int} {k:Nat} {o m:List Nat} {l:Nat}
noncomputable def jp (c0 c1 c2:Int):List Nat:=hU c0 c1 c2++tlW
theorem rN (h0:bU (wA c0 c2)) (h1:bU (wB c1 c2)):(hU c0 c1 c2).length<=404:=by
 unfold hU
 rw [List.length_append]
 exact Nat.add_le_add (nU h0.1) (nU h1.1)
noncomputable def ρ8 (s:List Int) (c0 c1 c2:Int) (tl:Rho):Rho:=ρ7 s c0 c1 c2 (("words",.val (.dat (.list (sts [wA c0 c2,wB c1 c2]))))::("text",aE (tokS (hU c0 c1 c2)))::tl)
theorem KR (h0:bU (wA c0 c2)) (h1:bU (wB c1 c2)) (hg:G[0]?=some (.tab 0)) (h:K .next ⟨ρ8 s c0 c1 c2 [("lexer",.val (.obj (G.length+4)))],G++i3 (jp c0 c1 c2) G.length⟩):k7 (ID es) 9 ⟨ρ8 s c0 c1 c2 [],G⟩ K:=by
 have et:("\n \t\r\\\"# #":Str)=tokS tlW:=by decide +kernel
 have tz:=rN h0 h1
 refine⟨?_,(hX (jp c0 c1 c2) ?_ hg ?_ h)⟩
 ·rw [et]
  exact Nat.le_trans (Nat.add_le_add_right tz 9) (by decide)
 ·show [az (tokS (hU c0 c1 c2)++("\n \t\r\\\"# #":Str))]=_
  rw [et,bA];rfl
 ·unfold jp
  rw [List.length_append];exact Nat.le_trans (Nat.add_le_add_right tz 9) (by decide)
noncomputable def rO (y w:Nat) (l:List Nat):Prop:=∀ r n,dq (bB y w l++r) n=(l,r,n+eJ (bB y w l))
theorem IE {L:Lx} {n:Int} {r:List Nat} (l0:rO (way c0) (jT c0) (wA c0 c2)) (l1:rO (way c1) (jT c1) (wB c1 c2)) (X:aU L G (hU c0 c1 c2++r) n) (hp:G[L.p]?=some (.lst [])) (ps:L.p≠L.s)
  (h:K .next ⟨ρ8 s c0 c1 c2 [("lexer",.val (.obj L.j)),("read",.lst (sts [wA c0 c2,wB c1 c2]))],iy L G r (n+eJ (hU c0 c1 c2))⟩):k7 (LU es) 10 ⟨ρ8 s c0 c1 c2 [("lexer",.val (.obj L.j))],G⟩ K:=by
 have e0:=l0 (bB (way c1) (jT c1) (wB c1 c2)++r) n
 rw [<- List.append_assoc] at e0
 have e1:=l1 r (n+eJ (bB (way c0) (jT c0) (wA c0 c2)))
 have X1:=X.go (r:=bB (way c1) (jT c1) (wB c1 c2)++r) (n:=n+eJ (bB (way c0) (jT c0) (wA c0 c2))) (Nat.le_trans (by unfold hU;rw [List.append_assoc,List.length_append (as:=bB _ _ (wA c0 c2))];exact Nat.le_add_left _ _) X.z) fun c hc=>X.a c (by unfold hU;rw [List.append_assoc];exact List.mem_append_right _ hc)
 have p1:(iy L G (bB (way c1) (jT c1) (wB c1 c2)++r) (n+eJ (bB (way c0) (jT c0) (wA c0 c2))))[L.p]?=some (.lst []):=aW (aW hp ps.symm) (bT X.j hp nofun)
 refine⟨(show 2<=lim by decide),aS X.j (qi L _ n ([]) rfl X hp (by decide) nofun (fun ι=>?_))⟩
 show (fun ι ι=>_) (RV.val (az (tokS (dq (hU c0 c1 c2++r) n).1))) (iy L G (dq (hU c0 c1 c2++r) n).2.1 (dq (hU c0 c1 c2++r) n).2.2)
 delta hU
 rw [e0]
 refine aS X1.j (qi L _ _ ([]) rfl X1 p1 (by decide) nofun (fun ι=>?_))
 rw [e1,sX X.sj]
 have en:n+eJ (bB (way c0) (jT c0) (wA c0 c2))+eJ (bB (way c1) (jT c1) (wB c1 c2))=n+eJ (hU c0 c1 c2):=by
  delta hU eJ
  rw [List.map_append,List.sum_append,Int.add_assoc]
 rw [en]
 exact h
noncomputable def B8 (w:List Nat):List Nat:=hO (w.length+1) w
noncomputable def fE (a b:List Nat):List PyData:=[.list (nats a),.list (nats b)]
noncomputable def ρ10 (s:List Int) (c0 c1 c2:Int) (j:Nat) (tl:Rho):Rho:=ρ8 s c0 c1 c2 (("lexer",.val (.obj j))::("read",.val (.dat (.list (sts [wA c0 c2,wB c1 c2]))))::tl)
theorem IF {j:Nat} (h0:bU (wA c0 c2)) (h1:bU (wB c1 c2)) (h:K .next ⟨ρ10 s c0 c1 c2 j [("symbols",.lst (fE (B8 (wA c0 c2)) (B8 (wB c1 c2))))],G⟩):k7 (LV es) 11 ⟨ρ8 s c0 c1 c2 [("lexer",.val (.obj j)),("read",.lst (sts [wA c0 c2,wB c1 c2]))],G⟩ K :=
 ⟨(show 2<=lim by decide),(hX _ rfl (Nat.le_trans h0.1 (by decide)) h0.2 (hX _ rfl (Nat.le_trans h1.1 (by decide)) h1.2 h))⟩
noncomputable def bY (p:Nat) (o:List Nat):List Nat:=[7+p,255]++o.map (256+·)
noncomputable abbrev KS:Expr:=pK (vo 12)
noncomputable abbrev Mp:Expr:=EC (ce KS)
theorem AW {K:List PyData->St->Prop}:∀ {o:List Nat},pG o=true->K (nats (o.map (256+·))) ⟨[],G⟩->cg (aj (gB es) (k+5)) Mp K (eN (tokS (lt o))) ⟨[],G⟩:=by
 intro o
 induction o generalizing K with
 | nil=>exact fun ι h=>h
 | cons i o ih =>
  intro h hK
  obtain⟨h1,h2⟩:=Bool.and_eq_true_iff.mp h
  refine (ba i ([]) (i4 i (of_decide_eq_true h1)) (ih h2 ?_))
  have e:((256+i:Nat):Int)=256+(i:Int):=Int.natCast_add ..
  rw [List.map_cons,show nats ((256+i)::o.map (256+·))=.int ((256+i:Nat):Int)::nats (o.map (256+·)) from rfl,e] at hK
  exact hK
theorem tf {K:PyData->St->Prop} {p:Nat} (ho:aY o) (hK:K (.list (nats (bY p o))) ⟨[("place",ag p),("order",aE (tokS (lt o)))],G⟩):(aj (gB es) (k+8)).evD (cs KS) (ce KS) ⟨[("place",ag p),("order",aE (tokS (lt o)))],G⟩ K:=by
 have l4:(eN (tokS (lt o))).length=4:=by
  unfold eN
  rw [List.length_map];exact ho.l4
 have e:((7+p:Nat):Int)=7+(p:Int):=Int.natCast_add ..
 refine⟨by rw [l4];decide,AW ho.r ⟨?_,?_⟩⟩
 ·show 2+(nats (o.map (256+·))).length<=lim
  rw [bk,List.length_map,ho.len];decide
 ·unfold bY at hK
  rw [<- i5,show nats [7+p,255]=[.int ((7+p:Nat):Int),.int 255] from rfl,e] at hK
  exact hK
theorem LW {r:Wk} {sc:Scope} {st:St} {K:Bool->St->Prop} (h:K true st):eB r sc [] st K:=h
theorem IG {j:Nat} {d1 d2:List Nat} (h0:aY (bq c0)) (h1:aY (bq c1)) (h:K .next ⟨ρ10 s c0 c1 c2 j [("symbols",.lst (fE d1 d2)),("due",.lst (fE (bY (pA c2) (bq c0)) (bY (pB c2) (bq c1))))],G⟩):k7 (gB es) 12 ⟨ρ10 s c0 c1 c2 j [("symbols",.lst (fE d1 d2))],G⟩ K:=by
 refine (am (show 2<=lim by decide) rfl (LW (fY rfl (tf (p:=pA c2) (o:=bq c0) h0 ?_))))
 refine⟨rfl,LW (fY rfl (tf (p:=pB c2) (o:=bq c1) h1 ?_))⟩
 exact h
end
noncomputable def IH (es:List DictEntry):Gl:=(gB es).addFn "ISNONTERMINAL" (nH fun x=>decide (x>=256))
noncomputable def II (es:List DictEntry):Gl:=(gB es).addFn "ISTERMINAL" (nH fun x=>decide (x<256))
set_option backward.match.sparseCases false in
noncomputable def LX (s:Stmt):Expr:=match s with
 | .If (.Compare a _ _ _) _ _ _=>a
 | _=>.Constant .none 0 ⟨0,0,0,0⟩
noncomputable def LY (s:Stmt):Expr:=match s with
 | .If (.Compare _ _ [b] _) _ _ _=>b
 | _=>.Constant .none 0 ⟨0,0,0,0⟩
section
variable {es:List DictEntry} {G:List GObj} {K:Fl->St->Prop} {c0 c1 c2 x:Int} {s:List Int} {k:Nat} {o m:List Nat} {l:Nat}
structure Mq (c0 c1 c2:Int):Prop where
 a:B8 (wA c0 c2)=bY (pA c2) (bq c0)
 b:B8 (wB c1 c2)=bY (pB c2) (bq c1)
theorem nV {a b:List Nat}:Sd 2 (.list (fE a b)):=Sd.list fun d hd=>by
 rcases List.mem_cons.mp hd with rfl | hd
 ·exact Sd.nats
 ·rw [List.mem_singleton.mp hd];exact Sd.nats
theorem IJ {j:Nat} (h0:bU (wA c0 c2)) (h1:bU (wB c1 c2)) (C:Mq c0 c1 c2) (h:K .next ⟨ρ10 s c0 c1 c2 j [("symbols",.lst (fE (bY (pA c2) (bq c0)) (bY (pB c2) (bq c1)))),("due",.lst (fE (bY (pA c2) (bq c0)) (bY (pB c2) (bq c1))))],G⟩) :
  k7 (gB es) 13 ⟨ρ10 s c0 c1 c2 j [("symbols",.lst (fE (B8 (wA c0 c2)) (B8 (wB c1 c2)))),("due",.lst (fE (bY (pA c2) (bq c0)) (bY (pB c2) (bq c1))))],G⟩ K:=by
 rw [C.a,C.b]
 have s1:Sd 1 (.list (sts [wA c0 c2,wB c1 c2])):=Sd.sts fun w hw=>by
  rcases List.mem_cons.mp hw with rfl | hw
  ·exact h0.2
  ·rw [List.mem_singleton.mp hw];exact h1.2
 have s2:Sd 2 (.list (fE (bY (pA c2) (bq c0)) (bY (pB c2) (bq c1)))):=nV
 refine⟨s1.cmp (by decide),?_⟩
 rw [s1.e]
 refine⟨s2.cmp (by decide),?_⟩
 rw [s2.e]
 exact h
noncomputable abbrev AX:Expr:=LX (vo 14)
noncomputable abbrev EM:Expr:=LY (vo 14)
noncomputable abbrev AY:Expr:=LX (vo 15)
noncomputable abbrev EN:Expr:=LY (vo 15)
theorem Ju {r:Wk} {sc:Scope} {y:Str} {p:PySem.Pos} {el:St->(PyData->St->Prop)->Prop} {d:PyData} {ds:List PyData} {st:St} {K:List PyData->St->Prop} (hk:qQ sc y=true) (h:el ⟨aG st.ρ y (.val (.dat d)),st.G⟩ fun v st3=>dK (jv sc false (.Name y p)) (eB r sc []) el ds ⟨trim st.ρ st3.ρ,st3.G⟩ fun out st4=>K (v::out) st4):dK (jv sc false (.Name y p)) (eB r sc []) el (d::ds) st K:=DF (by rw [hk];rfl) h
theorem u8 {ds:List PyData} {a:Nat} (h:a<=ds.length):pick ds (some (a:Int)) none none=ds.drop a:=by
 unfold pick
 rw [sliceBounds_plain]
 show (sliceRange ((clipAt ds.length (a:Int):Nat):Int) ((ds.length:Nat):Int) 1).filterMap (ds[·]?)=_
 rw [clipAt_nat,sliceRange_one,Nat.min_eq_left h]
 have:=pick_run ds.toArray a (ds.length-a)
 simp only [List.getElem?_toArray] at this
 rw [this,List.take_of_length_le (by rw [List.length_drop];exact Nat.le_refl _)]
theorem IK {K:List PyData->St->Prop}:∀ {l:List Nat},K (nats (l.filter fun n=>decide (256<=n))) ⟨[],G⟩->cg (aj (IH es) (k+5)) (ce AX) K (nats l) ⟨[],G⟩:=by
 intro l
 induction l generalizing K with
 | nil=>exact fun h=>h
 | cons n l ih =>
  intro hK
  refine (aa n rfl ?_)
  show bO (decide ((n:Int)>=256)==true) _ _
  rw [List.filter_cons] at hK
  have e:(decide ((n:Int)>=256)==true)=decide (256<=n):=by
   rw [show ∀ b:Bool,(b==true)=b by decide]
   exact decide_eq_decide.mpr ⟨fun h=>Int.ofNat_le.mp h,fun h=>Int.ofNat_le.mpr h⟩
  rw [e]
  cases q:decide (256<=n) with
  | true=>rw [q] at hK;exact ih hK
  | false=>rw [q] at hK;exact ih hK
theorem IL {K:List PyData->St->Prop}:∀ {l:List Nat},K (nats (l.filter fun n=>decide (n<256))) ⟨[],G⟩->cg (aj (II es) (k+5)) (ce AY) K (nats l) ⟨[],G⟩:=by
 intro l
 induction l generalizing K with
 | nil=>exact fun h=>h
 | cons n l ih =>
  intro hK
  refine (aa n rfl ?_)
  show bO (decide ((n:Int)<256)==true) _ _
  rw [List.filter_cons] at hK
  have e:(decide ((n:Int)<256)==true)=decide (n<256):=by
   rw [show ∀ b:Bool,(b==true)=b by decide]
   exact decide_eq_decide.mpr ⟨fun h=>Int.ofNat_lt.mp h,fun h=>Int.ofNat_lt.mpr h⟩
  rw [e]
  cases q:decide (n<256) with
  | true=>rw [q] at hK;exact ih hK
  | false=>rw [q] at hK;exact ih hK
theorem jU {p:Nat} (h:aY o):(nats (bY p o)).length<=10:=by
 rw [bk,bY,List.length_append,List.length_map,h.len];exact (show 2+4<=10 by decide)
theorem nW {p:Nat} (h:aY o) (hp:p<48):(bY p o).filter (fun n=>decide (256<=n))=o.map (256+·)/\(bY p o).filter (fun n=>decide (n<256))=[7+p,255]/\pick (nats (bY p o)) (some 2) none none=nats (o.map (256+·))/\pick (nats (bY p o)) none (some 2) none=nats [7+p,255]:=by
 have a1:¬ 256<=7+p:=by omega
 have a2:7+p<256:=by omega
 have g:∀ i,256<=256+i/\¬ 256+i<256:=fun i=>by omega
 rw [u7 h]
 refine (a7 ?_ ?_ (u8 (a:=2) (show 2<=6 by decide)) rfl)
 ·delta bY
  simp [List.filter_cons,a1]
 ·delta bY
  simp [List.filter_cons,a2]
noncomputable def ρ13 (s:List Int) (c0 c1 c2:Int) (j:Nat) (tl:Rho):Rho:=ρ10 s c0 c1 c2 j (("symbols",.val (.dat (.list (fE (bY (pA c2) (bq c0)) (bY (pB c2) (bq c1))))))::("due",.val (.dat (.list (fE (bY (pA c2) (bq c0)) (bY (pB c2) (bq c1))))))::tl)
theorem iN:pA c2<48:=(Int.toNat_lt (fm (by decide)).1).mpr (fm (by decide)).2
theorem iO:pB c2<48:=(Int.toNat_lt (fm (by decide)).1).mpr (fm (by decide)).2
noncomputable abbrev lG (l:List Nat):Rho:=[("row",.val (.dat (.list (nats l))))]
theorem EO {K:PyData->St->Prop} {l:List Nat} (z:l.length<=10) (h:K (.list (nats (l.filter fun n=>decide (256<=n)))) ⟨lG l,G⟩):(aj (IH es) (k+6)).evD (cs AX) (ce AX) ⟨lG l,G⟩ K :=
 ⟨by rw [bk];exact Nat.le_trans z (by decide),IK h⟩
theorem EP {K:PyData->St->Prop} {l:List Nat} (z:l.length<=10) (h:K (.list (nats (l.filter fun n=>decide (n<256)))) ⟨lG l,G⟩):(aj (II es) (k+6)).evD (cs AY) (ce AY) ⟨lG l,G⟩ K :=
 ⟨by rw [bk];exact Nat.le_trans z (by decide),IL h⟩
theorem EQ {K:PyData->St->Prop} {l:List Nat} (z:l.length<=10) (h:K (.list (pick (nats l) (some 2) none none)) ⟨lG l,G⟩):(aj (IH es) (k+6)).evD (cs EM) (ce EM) ⟨lG l,G⟩ K :=
 (am nofun (by rw [bk];exact Nat.le_trans z (by decide)) h)
theorem ER {K:PyData->St->Prop} {l:List Nat} (z:l.length<=10) (h:K (.list (pick (nats l) none (some 2) none)) ⟨lG l,G⟩):(aj (II es) (k+6)).evD (cs EN) (ce EN) ⟨lG l,G⟩ K :=
 (am nofun (by rw [bk];exact Nat.le_trans z (by decide)) h)
theorem iP {g:Gl} {e:Expr} {F:List Nat->List PyData} {a b:List Nat} {K:List PyData->St->Prop} (he:∀ {K:PyData->St->Prop} {l:List Nat},l.length<=10->K (.list (F l)) ⟨lG l,G⟩->(aj g (k+6)).evD (cs e) (ce e) ⟨lG l,G⟩ K) (hk:qQ (cs e) "row"=true) (ht:∃ p,ct e=.Name "row" p) (hi:ci e=[]) (za:a.length<=10) (zb:b.length<=10) (h:K [.list (F a),.list (F b)] ⟨[],G⟩):cg (aj g (k+6)) e K (fE a b) ⟨[],G⟩:=by
 obtain⟨p,hp⟩:=ht
 unfold cg
 rw [hp,hi]
 exact Ju hk (he za (Ju hk (he zb h)))
theorem IM {j:Nat} (h0:aY (bq c0)) (h1:aY (bq c1)) (h:K .next ⟨ρ13 s c0 c1 c2 j [],G⟩) :
  k7 (IH es) 14 ⟨ρ10 s c0 c1 c2 j [("symbols",.lst (fE (bY (pA c2) (bq c0)) (bY (pB c2) (bq c1)))),("due",.lst (fE (bY (pA c2) (bq c0)) (bY (pB c2) (bq c1))))],G⟩ K:=by
 have a:=nW h0 (iN (c2:=c2))
 have b:=nW h1 (iO (c2:=c2))
 have za:=jU (p:=pA c2) h0
 have zb:=jU (p:=pB c2) h1
 rw [bk] at za zb
 have sd:=(nV (a:=(bq c0).map (256+·)) (b:=(bq c1).map (256+·)))
 refine⟨(show 2<=lim by decide),iP (e:=AX) (fun z h=>EO z h) (by decide +kernel) ⟨_,rfl⟩ rfl za zb ⟨(show 2<=lim by decide),iP (e:=EM) (fun z h=>EQ z h) (by decide +kernel) ⟨_,rfl⟩ rfl za zb ?_⟩⟩
 rw [a.1,b.1,a.2.2.1,b.2.2.1]
 refine⟨sd.cmp (by decide),?_⟩
 show bO (!PyData.eqv (.list (fE ((bq c0).map (256+·)) ((bq c1).map (256+·)))) (.list (fE ((bq c0).map (256+·)) ((bq c1).map (256+·))))) _ _
 rw [sd.e]
 exact h
theorem IN {j:Nat} (h0:aY (bq c0)) (h1:aY (bq c1)) (h:K .next ⟨ρ13 s c0 c1 c2 j [],G⟩):k7 (II es) 15 ⟨ρ13 s c0 c1 c2 j [],G⟩ K:=by
 have a:=nW h0 (iN (c2:=c2))
 have b:=nW h1 (iO (c2:=c2))
 have za:=jU (p:=pA c2) h0
 have zb:=jU (p:=pB c2) h1
 rw [bk] at za zb
 have sd:=(nV (a:=[7+pA c2,255]) (b:=[7+pB c2,255]))
 refine⟨(show 2<=lim by decide),iP (e:=AY) (fun z h=>EP z h) (by decide +kernel) ⟨_,rfl⟩ rfl za zb ⟨(show 2<=lim by decide),iP (e:=EN) (fun z h=>ER z h) (by decide +kernel) ⟨_,rfl⟩ rfl za zb ?_⟩⟩
 rw [a.2.1,b.2.1,a.2.2.2,b.2.2.2]
 refine⟨sd.cmp (by decide),?_⟩
 show bO (!PyData.eqv (.list (fE [7+pA c2,255] [7+pB c2,255])) (.list (fE [7+pA c2,255] [7+pB c2,255]))) _ _
 rw [sd.e]
 exact h
end
noncomputable def ES (es:List DictEntry):Gl:=(gB es).addFn "_law_turns" ctrTu
noncomputable def LZ (es:List DictEntry):Gl:=(gB es).addFn "_law_due" ctrDu
noncomputable def KT (es:List DictEntry):Gl:=(gB es).addMe 1 "items" ctrItems
noncomputable def KU (es:List DictEntry):Gl:=(KT es).addMe 1 "keys" ctrKeys
noncomputable def KV (i:Nat) (e:Expr):Expr:=match e with
 | .Call _ es _ _=>es.getD i (.Constant .none 0 ⟨0,0,0,0⟩)
 | _=>.Constant .none 0 ⟨0,0,0,0⟩
noncomputable abbrev B9:Expr:=KV 1 (pK (vo 16))
section
variable {es:List DictEntry} {G:List GObj} {K:Fl->St->Prop} {c0 c1 c2 x:Int} {s:List Int} {k:Nat} {o m:List Nat} {l:Nat} {y:Ms} {L:Lx} {rest:List Nat} {line:Int}
theorem ET (h:aY o):(c8 x o).map eP=lt o:=by
 have g:∀ j i,i<4->eP (lc x j i)=i+97:=fun j i hi=>by
  unfold lc
  cases uZ x j with
  | true=>exact (gg i hi).1
  | false=>exact (gg i hi).2.1
 conv=>rhs;rw [u7 h]
 show [_,_,_,_]=[_,_,_,_]
 rw [g 0 _ (h.at (by decide)),g 1 _ (h.at (by decide)),g 2 _ (h.at (by decide)),g 3 _ (h.at (by decide))]
theorem yi (h:aY o):∀ c∈c8 x o,c<128:=by
 have g:∀ j i,i<4->lc x j i<128:=fun j i hi=>by
  unfold lc
  cases uZ x j with
  | true=>exact (gg i hi).2.2.2.2
  | false=>exact Nat.lt_trans (Nat.add_lt_add_right hi 97) (by decide)
 intro c hc
 rcases List.mem_cons.mp hc with rfl | hc
 ·exact g _ _ (h.at (by decide))
 rcases List.mem_cons.mp hc with rfl | hc
 ·exact g _ _ (h.at (by decide))
 rcases List.mem_cons.mp hc with rfl | hc
 ·exact g _ _ (h.at (by decide))
 rw [List.mem_singleton.mp hc]
 exact g _ _ (h.at (by decide))
theorem yj (h:aY o):Txt.lower (bJ (tokS (word x m l o)) (some (-4)) none none)=tokS (lt o):=by
 have e:(word x m l o).length=m.length+5:=by
  delta word
  rw [List.length_append,List.length_append];rfl
 have e2:bJ (tokS (word x m l o)) (some (-((4:Nat):Int))) none none=tokS (c8 x o):=by
  rw [xS (by rw [e];omega) (by decide),e]
  delta word
  rw [show m.length+5-4=(m++[l]).length by rw [List.length_append];rfl,List.drop_left]
 rw [show (-4:Int)=-((4:Nat):Int) from rfl,e2,kP (yi h),ET h]
theorem tj {K:PyData->St->Prop} (h:aY o) (hm:m.length<=3) (hK:K (.str (tokS (lt o))) ⟨[("word",aE (tokS (word x m l o)))],G⟩):(aj (ES es) (k+6)).evD (cs B9) (ce B9) ⟨[("word",aE (tokS (word x m l o)))],G⟩ K:=by
 have z:(bJ (tokS (word x m l o)) (some (-4)) none none).length<=lim:=by
  have e:bJ (tokS (word x m l o)) (some (-((4:Nat):Int))) none none=tokS ((word x m l o).drop ((word x m l o).length-4)):=xS (by delta word;rw [List.length_append,List.length_append];exact Nat.le_add_left _ _) (by decide)
  rw [show (-4:Int)=-((4:Nat):Int) from rfl,e,aM,List.length_drop]
  refine Nat.le_trans (Nat.sub_le _ _) ?_
  delta word
  rw [List.length_append,List.length_append]
  exact Nat.le_trans (Nat.add_le_add_right (Nat.add_le_add_right hm 1) 4) (by decide)
 refine (a7 nofun z z ?_)
 rw [yj h]
 exact hK
structure Mn (c0 c1 c2:Int) (y:Ms):Prop where
 t:Tw (bq c0) (bq c1) (bg (pA c2)) (bg (pB c2))
 k:yN (bg (pA c2)) (bg (pB c2))
 r:iI (bq c0) (bq c1) pS ms0=some y
noncomputable def dL (c2:Int) (y:Ms):List PyData:=gD (bg (pA c2)) (bg (pB c2)) y.ents
noncomputable def aL (c2:Int) (y:Ms):List PyData:=dR (bg (pA c2)) (bg (pB c2)) y.ans
noncomputable def ρ16 (s:List Int) (c0 c1 c2:Int) (j t:Nat) (y:Ms) (tl:Rho):Rho:=ρ13 s c0 c1 c2 j (("table",.val (.obj t))::("answers",.val (.dat (.list (aL c2 y))))::("said",.val (.dat (.list [])))::tl)
theorem IO (H:Mn c0 c1 c2 y) (X:aU L G rest line) (hp:G[L.p]?=some (.lst [])) (ps:L.p≠L.s) (ht:∀ i<3,G[i]?=some (.tab i))
  (h:∀ G',TS L G.length (G.length+1) rest line (fC (bg (pA c2)) (bg (pB c2)) (y.ents.drop 24)) (ak (bg (pA c2)) (bg (pB c2)) y.ents) G'->K .next ⟨ρ16 s c0 c1 c2 L.j G.length y [],G'⟩):k7 (ES es) 16 ⟨ρ13 s c0 c1 c2 L.j [],G⟩ K:=by
 refine⟨(show 2<=lim by decide),Ju (sc:=cs B9) (y:="word") (r:=aj (ES es) 9) (el:=(aj (ES es) 9).evD (cs B9) (ce B9)) (by decide +kernel) (tj H.t.p H.t.m.1 (Ju (sc:=cs B9) (y:="word") (r:=aj (ES es) 9) (el:=(aj (ES es) 9).evD (cs B9) (ce B9)) (by decide +kernel) (tj H.t.q H.t.n.1 ?_)))⟩
 exact (tS L rest line _ _ _ _ (FU y rfl X hp ps ht H.t H.k H.r (fun G' T=>⟨rfl,h G' T⟩)))
noncomputable def ρ17 (s:List Int) (c0 c1 c2:Int) (j t:Nat) (y:Ms) (tl:Rho):Rho:=ρ16 s c0 c1 c2 j t y (("laid",.val (.dat (.list (dL c2 y))))::("firsts",.val (.dat (.list (aL c2 y))))::tl)
theorem IP {j t:Nat} (H:Mn c0 c1 c2 y) (h:K .next ⟨ρ17 s c0 c1 c2 j t y [],G⟩):k7 (LZ es) 17 ⟨ρ16 s c0 c1 c2 j t y [],G⟩ K :=
 (JO _ _ _ _ y rfl H.t H.r rfl h)
theorem IQ {j t q:Nat} {items:List (Str×Str)} (Hd:nv G t q items) (ho:px items) (h:K .next ⟨ρ17 s c0 c1 c2 j t y [],G⟩):k7 (KT es) 18 ⟨ρ17 s c0 c1 c2 j t y [],G⟩ K :=
 aS Hd.1 (oi t q items rfl Hd ho ho.2 h)
end
set_option backward.match.sparseCases false in
noncomputable abbrev Mr (i:Nat):Expr:=match vo 19 with
 | .If (.BoolOp _ es _) _ _ _=>es.getD i (.Constant .none 0 ⟨0,0,0,0⟩)
 | _=>.Constant .none 0 ⟨0,0,0,0⟩
noncomputable def KW (e:Expr):Expr:=match e with
 | .Compare _ _ [b] _=>b
 | _=>e
noncomputable abbrev Mt:Expr:=KW (Mr 3)
noncomputable def AZ (l:List dG):List PyData:=l.map fun e=>.str (tokS (nm e))
noncomputable def KY (es:List DictEntry):Gl:=(({ gB es with fld:=[(0,"lineno")] }:Gl).addFn "_law_total" ctrTo).addMe 1 "keys" ctrKeys
noncomputable abbrev Mu:Expr:=match pK (vo 20) with
 | .Tuple [_,.Call _ (a::_) _ _] _ _=>a
 | e=>e
section
variable {es:List DictEntry} {G:List GObj} {K:Fl->St->Prop} {c0 c1 c2 x:Int} {s:List Int} {k:Nat} {o m n:List Nat} {l:Nat} {y:Ms} {L:Lx} {rest:List Nat} {line:Int}
theorem A0 {K:List PyData->St->Prop}:∀ {l:List dG},K (AZ l) ⟨[],G⟩->cg (aj (KU es) (k+5)) Mt K (gD m n l) ⟨[],G⟩:=by
 intro l
 induction l generalizing K with
 | nil=>exact fun h=>h
 | cons e l ih=>exact fun h=>⟨rfl,ih h⟩
theorem pZ {l:List dG}:((ak m n l).map fun p=>PyData.str p.1)=AZ l:=by delta ak AZ;rw [List.map_map];rfl
theorem IR {l:List dG} (h:∀ e∈l,aY e.row):Sd 1 (.list (AZ l)):=Sd.list fun d hd=>by
 obtain⟨e,he,zq⟩:=List.mem_map.mp hd;rw [<- zq]
 exact Sd.str (dN (rL (h e he)))
theorem EU (M:yN m n) {l:List dG} (h:∀ e∈l,aY e.row):Sd 2 (.list (gD m n l)):=Sd.list fun d hd=>by
 obtain⟨e,he,zq⟩:=List.mem_map.mp hd;rw [<- zq]
 refine Sd.tuple fun d hd=>?_
 rcases List.mem_cons.mp hd with rfl | hd
 ·exact Sd.str (dN (rL (h e he)))
 ·rw [List.mem_singleton.mp hd];exact Sd.str (tc M)
theorem EV (M:yN m n) {l:List (List Bool)}:Sd 1 (.list (dR m n l)):=Sd.list fun d hd=>by
 obtain⟨e,he,zq⟩:=List.mem_map.mp hd;rw [<- zq]
 exact Sd.str (tc M)
theorem EW:Sd 1 (.list []):=Sd.list nofun
theorem IS {j t q:Nat} (H:Mn c0 c1 c2 y) (X:nP y) (Hd:nv G t q (ak (bg (pA c2)) (bg (pB c2)) y.ents)) (h:K .next ⟨ρ17 s c0 c1 c2 j t y [],G⟩):k7 (KU es) 19 ⟨ρ17 s c0 c1 c2 j t y [],G⟩ K:=by
 have ho:=mB (m:=bg (pA c2)) (n:=bg (pB c2)) X
 have z:(dL c2 y).length<=lim:=by unfold dL;rw [<- iJ];exact ho.2
 have sa:Sd 1 (.list (aL c2 y)):=EV H.k
 have sd:Sd 2 (.list (dL c2 y)):=EU H.k X.r
 have sn:=IR X.r
 refine (am (EW.cmp (by decide)) (sa.cmp (by decide)) ?_)
 rw [sa.e]
 refine aS Hd.1 (dy t q _ rfl Hd ho ?_)
 rw [iJ]
 refine⟨sd.cmp (by decide),?_⟩
 show bO (!PyData.eqv (.list (dL c2 y)) (.list (dL c2 y))) _ _
 rw [sd.e]
 refine aS Hd.1 (dy t q _ rfl Hd ho.2 ?_)
 rw [pZ]
 refine⟨z,A0 ⟨sn.cmp (by decide),?_⟩⟩
 show bO (!PyData.eqv (.list (AZ y.ents)) (.list (AZ y.ents))) _ _
 rw [sn.e]
 exact h
end
noncomputable def L1 (es:List DictEntry):Gl:=((gB es).addFn "_divmod_pos" ctrDp).addMe 1 "__len__" ctrLen
section
variable {es:List DictEntry} {G:List GObj} {K:Fl->St->Prop} {c0 c1 c2 x:Int} {s:List Int} {k:Nat} {o m n:List Nat} {l:Nat} {y:Ms} {L:Lx} {rest:List Nat} {line:Int}
theorem yk {K:List PyData->St->Prop}:∀ {l:List dG},(∀ e∈l,aY e.row)->K (nJ (l.map dG.row)) ⟨[],G⟩->cg (aj (KY es) (k+5)) Mu K (AZ l) ⟨[],G⟩:=by
 intro l
 induction l generalizing K with
 | nil=>exact fun ι h=>h
 | cons e l ih =>
  intro h hK
  have he:=h e (.head _)
  refine⟨by rw [aM,x7 he];decide,?_⟩
  rw [show Txt.lower (tokS (nm e))=tokS (lt e.row) from kZ he]
  exact ih (fun e he=>h e (.tail _ he)) hK
noncomputable def A3 (c2:Int) (y:Ms):Int:=iG (jo c2) (y.ents.map dG.row) 0
noncomputable def ρ20 (s:List Int) (c0 c1 c2:Int) (j t:Nat) (y:Ms) (line:Int) (tl:Rho):Rho:=ρ17 s c0 c1 c2 j t y (("total",ag (A3 c2 y))::("line",ag line)::tl)
theorem IT {t q:Nat} (X:nP y) (T:TS L t q rest line [] (ak (bg (pA c2)) (bg (pB c2)) y.ents) G) (h:K .next ⟨ρ20 s c0 c1 c2 L.j t y line [],G⟩):k7 (KY es) 20 ⟨ρ17 s c0 c1 c2 L.j t y [],G⟩ K:=by
 have ho:=mB (m:=bg (pA c2)) (n:=bg (pB c2)) X
 have z:(AZ y.ents).length<=lim:=by unfold AZ;rw [List.length_map];exact Nat.le_trans X.n (by decide)
 refine aw T.lx.j (aS T.h.1 (dy t q _ rfl T.h ho.2 ?_))
 rw [pZ]
 refine⟨z,yk X.r (tO (y.ents.map dG.row) (jo c2) rfl (T.t 2 (by decide)) (Nat.le_trans (Nat.le_of_lt nS.2) (by decide)) (fun l hl=>?_) (.inr ⟨rfl,h⟩))⟩
 obtain⟨e,he,zq⟩:=List.mem_map.mp hl;rw [<- zq]
 exact X.r e he
structure Jv (c2:Int) (y:Ms) (T:Nat):Prop where
 t:A3 c2 y=(T:Nat)
 b:ay (T:Int)<=60000
 n:y.ents.length<=24
 p:0<y.ents.length
theorem k9:mC c2<2 ^ 4541:=by
 have h:=(rM (c2:=c2)).2
 have h1:2 ^ k6 c2<=2 ^ 4539:=Nat.pow_le_pow_right (by decide) (by omega)
 have h2:3 ^ (k6 c2 / 2)<=4 ^ (k6 c2 / 2):=Nat.pow_le_pow_left (by decide) _
 have h3:4 ^ (k6 c2 / 2)=2 ^ (2*(k6 c2 / 2)):=by rw [Nat.pow_mul]
 have h4:2 ^ (2*(k6 c2 / 2))<=2 ^ 4539:=Nat.pow_le_pow_right (by decide) (by omega)
 have h5:(2:Nat) ^ 4541=2 ^ 4539+2 ^ 4539+(2 ^ 4539+2 ^ 4539):=by rw [<- Nat.mul_two,<- Nat.mul_two,<- Nat.pow_succ,<- Nat.pow_succ]
 have h6:0<(2:Nat) ^ 4539:=Nat.two_pow_pos _
 unfold mC
 omega
theorem cN {a M:Nat} (h:a<2 ^ M):ay (a:Int)<=M:=aV (Int.natCast_nonneg _) (by rw [<- bj];exact Int.ofNat_lt.mpr h)
noncomputable def dA (c2:Int) (T:Nat):Nat:=T*mC c2+qh c2
noncomputable def dB (c2:Int) (y:Ms):Nat:=y.ents.length*mC c2
theorem la {T:Nat} (H:Jv c2 y T):0<dB c2 y:=Nat.mul_pos H.p iM
theorem tq {T:Nat} (H:Jv c2 y T):ay (dB c2 y:Int)<=4600:=by
 refine cN ?_
 unfold dB
 have h1:y.ents.length<2 ^ 59:=Nat.lt_of_le_of_lt H.n (by decide)
 rw [show 4600=59+4541 from rfl,Nat.pow_add]
 exact Nat.mul_lt_mul_of_lt_of_lt h1 k9
theorem p9:(y.ents.length:Nat)=((ak m n y.ents).map pr).length:=by rw [iJ,gD,List.length_map]
theorem IU {t q T:Nat} (H:Jv c2 y T) (Hd:nv G t q (ak (bg (pA c2)) (bg (pB c2)) y.ents)) (g1:G[1]?=some (.tab 1)) (g2:G[2]?=some (.tab 2)) (hd:jL (ay (dB c2 y:Int)) (dA c2 T)<=256)
  (h:K .next ⟨ρ20 s c0 c1 c2 L.j t y line [("told",.val (.dat (.tuple [.int ((dA c2 T:Nat) / (dB c2 y:Nat)),.int ((dA c2 T:Nat)%(dB c2 y:Nat))])))],G⟩):k7 (L1 es) 21 ⟨ρ20 s c0 c1 c2 L.j t y line [],G⟩ K:=by
 have il:=p9 (m:=bg (pA c2)) (n:=bg (pB c2)) (y:=y)
 have sb:ay (mC c2:Int)<=4541:=cN k9
 have nb:ay ((y.ents.length:Nat):Int)<=5:=cN (Nat.lt_of_le_of_lt H.n (by decide))
 have ea:((dA c2 T:Nat):Int)=(A3 c2 y)*(mC c2:Nat)+(qh c2:Nat):=by
  unfold dA
  rw [H.t,Int.natCast_add,Int.natCast_mul]
 have eb:((dB c2 y:Nat):Int)=(y.ents.length:Nat)*(mC c2:Nat):=Int.natCast_mul ..
 have li:((ak (bg (pA c2)) (bg (pB c2)) y.ents).map pr).length<=lim:=by rw [<- il];exact Nat.le_trans H.n (by decide)
 have i62:(((ak (bg (pA c2)) (bg (pB c2)) y.ents).map pr).length:Int)<2 ^ 62:=Int.lt_of_le_of_lt (Int.ofNat_le.mpr li) (by decide)
 refine⟨by rw [H.t];exact Nat.le_trans (Nat.add_le_add H.b sb) (by decide),?_⟩
 refine l7 (by show (true&&!fX G t)=false;rw [pd Hd.1];rfl) ?_
 refine aw Hd.1 (tR t q _ rfl Hd li ⟨Int.natCast_nonneg _,i62⟩ ?_ (oh (dA c2 T) (dB c2 y) ?_ (la H) (Nat.le_trans (tq H) (by decide)) hd g1 g2 h))
 ·rw [<- il];exact Nat.le_trans (Nat.add_le_add nb sb) (by decide)
 ·rw [ea,eb,<- il];rfl
end
noncomputable def IV (es:List DictEntry):Gl:=(((((((({ gB es with fld:=[(0,"lineno")] }:Gl).addFn "_divmod_pos" ctrDp).addFn "_int2digits" (nq 1 1)).addFn "_law_choices" ctrCh).addMe 0 "get_token" ctrGet').addMe 1 "__len__" ctrLen).addMe 1 "add_header" ctrAdd').addMe 1 "setdefault" ctrSet).addMe 1 "keys" ctrKeys
section
variable {es:List DictEntry} {G:List GObj} {K:Fl->St->Prop} {c0 c1 c2 x:Int} {s:List Int} {k:Nat} {o m n:List Nat} {l:Nat} {y:Ms} {L:Lx} {rest:List Nat} {line:Int}
theorem EX:∀ l:List Nat,cnt 10 l=eJ l:=by
 intro l
 induction l with
 | nil =>
  exact rfl
 | cons c l ih =>
  rw [cnt_cons,ih]
  delta eJ
  rw [List.map_cons,List.sum_cons]
  congr 1
  delta nl
  by_cases h:c=10
  ·rw [if_pos h,h];rfl
  ·rw [if_neg h,if_neg (by rw [beq_false_of_ne h];exact nofun)]
theorem qa {l:List Nat}:Txt.count (tokS l) ("\n":Str)=eJ l:=by
 rw [show ("\n":Str)=⟨#[10]⟩ by decide +kernel,count_cnt]
 exact EX l
structure lH (c0 c1 c2:Int) (y:Ms) (P:Nat):Prop where
 mn:Mn c0 c1 c2 y
 ok:nP y
 n:y.ents.length<=24
 hd:∃ l,y.ents=ms0.ents++l
 t:A3 c2 y=(y.ents.length*P:Nat)
 pb:ay (P:Int)<=50000
 dd:jL (ay (dB c2 y:Int)) (dA c2 (y.ents.length*P))<=256
 dp:jL (jo c2) P<=256
 c:(dg (jo c2) (jL (jo c2) P) P).map PyData.int=nats (bG [bq c0,bq c1])
 s0:Eu (cq (bq c0))
 s1:Eu (cq (bq c1))
theorem lH.pos {P:Nat} (F:lH c0 c1 c2 y P):0<y.ents.length:=by
 obtain⟨l,e⟩:=F.hd
 rw [e];exact Nat.succ_pos _
theorem lH.tot {P:Nat} (F:lH c0 c1 c2 y P):Jv c2 y (y.ents.length*P):=by
 refine⟨F.t,?_,F.n,F.pos⟩
 have hP:P<2 ^ 50000:=by
  have:=fu F.pb
  rwa [Int.natAbs_natCast] at this
 have hN:y.ents.length<2 ^ 10000:=Nat.lt_of_le_of_lt F.n (Nat.lt_of_lt_of_le (show 24<2 ^ 5 by decide) (Nat.pow_le_pow_right (by decide) (by decide)))
 refine cN (M:=60000) ?_
 rw [show 60000=10000+50000 from rfl,Nat.pow_add]
 exact Nat.mul_lt_mul_of_lt_of_lt hN hP
theorem lH.div {P:Nat} (F:lH c0 c1 c2 y P):((dA c2 (y.ents.length*P):Nat):Int) / (dB c2 y:Nat)=(P:Nat)/\((dA c2 (y.ents.length*P):Nat):Int)%(dB c2 y:Nat)=(qh c2:Nat):=by
 have hb:(0:Int)<(dB c2 y:Nat):=Int.ofNat_lt.mpr (la F.tot)
 refine (Int.ediv_emod_unique hb).mpr (am ?_ (Int.natCast_nonneg _) (Int.ofNat_lt.mpr (Nat.lt_of_lt_of_le nT (Nat.le_mul_of_pos_left _ F.pos))))
 delta dA dB
 rw [<- Int.natCast_mul,<- Int.natCast_add]
 congr 1
 rw [Nat.mul_assoc,Nat.mul_assoc,Nat.mul_comm P,Nat.add_comm]
theorem A4 {P:Nat} (F:lH c0 c1 c2 y P):((qh c2:Nat):Int) / (dB c2 y:Nat)=0/\((qh c2:Nat):Int)%(dB c2 y:Nat)=(qh c2:Nat):=by
 have hb:(0:Int)<(dB c2 y:Nat):=Int.ofNat_lt.mpr (la F.tot)
 refine (Int.ediv_emod_unique hb).mpr (am (by rw [Int.mul_zero,Int.add_zero]) (Int.natCast_nonneg _) (Int.ofNat_lt.mpr (Nat.lt_of_lt_of_le nT (Nat.le_mul_of_pos_left _ F.pos))))
theorem EY {P:Nat} (F:lH c0 c1 c2 y P):jL (ay (dB c2 y:Int)) (qh c2)<=256:=by
 have h1:qh c2<dB c2 y:=Nat.lt_of_lt_of_le nT (Nat.le_mul_of_pos_left _ F.pos)
 have h2:=kJ (la F.tot)
 have h3:ay (qh c2:Int)<=ay (dB c2 y:Int):=cN (Nat.lt_trans h1 h2.2.2)
 unfold jL
 refine Nat.le_trans (Nat.div_le_div_right (c:=ay (dB c2 y:Int)) (show _<=2*ay (dB c2 y:Int) by omega)) ?_
 rw [Nat.mul_div_cancel _ h2.1];decide
noncomputable def ρ21 (s:List Int) (c0 c1 c2:Int) (j t:Nat) (y:Ms) (line:Int) (P:Nat):Rho:=ρ20 s c0 c1 c2 j t y line [("told",.val (.dat (.tuple [.int (P:Nat),.int (qh c2:Nat)])))]
theorem lb {n:Int}:dq tlW n=([34,35],[35],n+1)/\dq [35] n=([35],[],n)/\dq [] n=([],[],n):=by
 refine (am ?_ ?_ rfl)
 ·show (([34,35]:List Nat),([35]:List Nat),n+1+0+0+0+0+0+0+0)=_
  simp only [Int.add_zero]
 ·show (([35]:List Nat),([]:List Nat),n+0)=_
  rw [Int.add_zero]
end
section
variable {es:List DictEntry} {G:List GObj} {K:Fl->St->Prop} {c0 c1 c2 x:Int} {s:List Int} {k:Nat} {o m n:List Nat} {l:Nat} {y:Ms} {L:Lx} {rest:List Nat} {line:Int}
theorem TS.read {j q:Nat} {pb:List (List Nat)} {items:List (Str×Str)} {r:List Nat} {n:Int} (T:TS L j q rest line pb items G) (hz:r.length<=100000) (ha:∀ c∈r,c<128):TS L j q r n pb items (iy L G r n):=by
 have H1:=T.h.keep (ds:=hV r) ⟨_,T.lx.s⟩ T.qs.symm
 have j1:(G.set L.s (.lst (hV r)))[L.j]?=some (.inst 0 (kM line L)):=aW T.lx.j T.lx.sj
 have p1:(G.set L.s (.lst (hV r)))[L.p]?=some (.lst (sts pb)):=aW T.p T.ps.symm
 have t1:=kY (ds:=hV r) ⟨_,T.lx.s⟩ T.t
 exact⟨T.lx.go hz ha,aW p1 (bT j1 p1 nofun),⟨aW H1.1 (bT j1 H1.1 nofun),aW H1.2 (bT j1 H1.2 nofun)⟩,T.pq,T.ps,T.qs,fun i hi=>aW (t1 i hi) (bT j1 (t1 i hi) nofun)⟩
noncomputable abbrev A5 (c2:Int):Str×Str:=("ABCD",tokS (bg (pA c2)))
noncomputable def e0:dG:=⟨[0,1,2,3],true,[]⟩
theorem IW {t q P:Nat} (F:lH c0 c1 c2 y P) (h0:bU (wA c0 c2)) (h1:bU (wB c1 c2)) (T:TS L t q tlW line [] (ak (bg (pA c2)) (bg (pB c2)) y.ents) G) (hl:line=1+eJ (hU c0 c1 c2)) (h:∀ ρ G5,(∀ i<3,G5[i]?=some (.tab i))->K (.ret (.dat (.bool true))) ⟨ρ,G5⟩) :
  k7 (IV es) 22 ⟨ρ21 s c0 c1 c2 L.j t y line P,G⟩ K:=by
 have il:=p9 (m:=bg (pA c2)) (n:=bg (pB c2)) (y:=y)
 have sb:ay (mC c2:Int)<=4541:=cN k9
 have nb:ay ((y.ents.length:Nat):Int)<=5:=cN (Nat.lt_of_le_of_lt F.n (by decide))
 have eb:((dB c2 y:Nat):Int)=(y.ents.length:Nat)*(mC c2:Nat):=Int.natCast_mul ..
 have li:((ak (bg (pA c2)) (bg (pB c2)) y.ents).map pr).length<=lim:=by (rewrite [<- il];try with_reducible rfl);exact Nat.le_trans F.n (by decide)
 have i62:(((ak (bg (pA c2)) (bg (pB c2)) y.ents).map pr).length:Int)<2 ^ 62:=Int.lt_of_le_of_lt (Int.ofNat_le.mpr li) (by decide)
 have rd:=A4 F
 have beqI:∀ i:Int,PyData.eqv (.int i) (.int i)=true:=fun i=>Sd.int.e
 refine⟨⟨by decide,by decide⟩,aB _ rfl rfl ?_⟩
 (rewrite [beqI];try with_reducible rfl)
 refine l7 (by show (true&&!fX G t)=false;(rewrite [pd T.h.1];try with_reducible rfl);rfl) ?_
 refine aw T.h.1 (tR t q _ rfl T.h li ⟨Int.natCast_nonneg _,i62⟩ (by (rewrite [<- il];try with_reducible rfl);exact Nat.le_trans (Nat.add_le_add nb sb) (by decide)) (oh (qh c2) (dB c2 y) ?_ (la F.tot) (Nat.le_trans (tq F.tot) (by decide)) (EY F) (T.t 1 (by decide)) (T.t 2 (by decide)) ?_))
 ·(rewrite [eb,<- il];try with_reducible rfl);rfl
 (rewrite [rd.1,rd.2];try with_reducible rfl)
 refine⟨rfl,?_⟩
 rw [(Sd.tuple (k:=0) (ds:=[.int 0,.int (qh c2:Nat)]) fun d hd=>by
  rcases List.mem_cons.mp hd with rfl | hd
  ·exact Sd.int
  ·(rewrite [List.mem_singleton.mp hd];try with_reducible rfl);exact Sd.int).e]
 refine⟨⟨by decide,by decide⟩,aa _ rfl (tP (jo c2) P rfl (T.t 1 (by decide)) (Nat.lt_of_lt_of_le (by decide) nS.1) (Nat.le_trans (Nat.le_of_lt nS.2) (by decide)) F.dp ?_)⟩
 (rewrite [F.c];try with_reducible rfl)
 refine lv ([bq c0,bq c1]) rfl (show 2<=100 by decide) (fun o ho=>?_) (Sd.nats.cmp (by decide)) ?_
 ·rcases List.mem_cons.mp ho with rfl | ho
  ·exact⟨F.mn.t.p,F.s0⟩
  ·(rewrite [List.mem_singleton.mp ho];try with_reducible rfl);exact⟨F.mn.t.q,F.s1⟩
 (rewrite [Sd.nats.e];try with_reducible rfl)
 have T1:=T.read (r:=[35]) (n:=line+1) (by decide) (by decide)
 have T2:=T1.read (r:=[]) (n:=line+1) (by decide) (by decide)
 have T3:=T2.read (r:=[]) (n:=line+1) (by decide) (by decide)
 refine aS T.lx.j (oj L tlW line ([]) rfl T.lx T.p (by decide) ⟨nofun,fun ι=>?_⟩)
 (rewrite [lb.1];try with_reducible rfl)
 refine aS T1.lx.j (oj L _ (line+1) ([]) rfl T1.lx T1.p (by decide) ⟨nofun,fun ι=>?_⟩)
 (rewrite [lb.2.1];try with_reducible rfl)
 refine aS T2.lx.j (oj L _ (line+1) ([]) rfl T2.lx T2.p (by decide) ⟨nofun,fun ι=>?_⟩)
 (rewrite [lb.2.2];try with_reducible rfl)
 have tz:(tokS (hU c0 c1 c2)).length<=lim:=Nat.le_trans (rN h0 h1) (by decide)
 have el:([.int line,.str (tokS [34,35]),.str (tokS [35]),.str (tokS [])]:List PyData)=[.int (1+Txt.count (tokS (hU c0 c1 c2)) "\n"),.str "\"#",.str "#",.str ""]:=by
  (rewrite [qa,<- hl,show ("\"#":Str)=tokS [34,35] by decide +kernel,show ("#":Str)=tokS [35] by decide +kernel,fw];try with_reducible rfl)
 have sl:Sd 1 (.list [.int line,.str (tokS [34,35]),.str (tokS [35]),.str (tokS [])]):=Sd.list fun d hd=>by
  rcases List.mem_cons.mp hd with rfl | hd
  ·exact Sd.int
  rcases List.mem_cons.mp hd with rfl | hd
  ·exact Sd.str (by decide +kernel)
  rcases List.mem_cons.mp hd with rfl | hd
  ·exact Sd.str (by decide +kernel)
  (rewrite [List.mem_singleton.mp hd];try with_reducible rfl)
  exact Sd.str (by decide +kernel)
 have ec:b9 (.list [.int line,.str (tokS [34,35]),.str (tokS [35]),.str (tokS [])]) (.list [.int (1+Txt.count (tokS (hU c0 c1 c2)) "\n"),.str "\"#",.str "#",.str ""])=true:=by (rewrite [<- el];try with_reducible rfl);exact sl.cmp (by decide)
 have ee:PyData.eqv (.list [.int line,.str (tokS [34,35]),.str (tokS [35]),.str (tokS [])]) (.list [.int (1+Txt.count (tokS (hU c0 c1 c2)) "\n"),.str "\"#",.str "#",.str ""])=true:=by (rewrite [<- el];try with_reducible rfl);exact sl.e
 have e5:PyData.eqv (.int (line+1)) (.int (2+Txt.count (tokS (hU c0 c1 c2)) "\n"))=true:=by
  (rewrite [show 2+Txt.count (tokS (hU c0 c1 c2)) "\n"=line+1 by rw [qa,hl];omega];try with_reducible rfl)
  exact beqI _
 refine am tz ec (fY ee ?_)
 refine aw T3.lx.j (am tz rfl (fY e5 ?_))
 obtain⟨tl,ht⟩:=F.hd
 clear T2 T1 T
 generalize iy L _ [] (line+1)=G3 at *
 have T5:=T3.setQ (items':=ak (bg (pA c2)) (bg (pB c2)) y.ents++[A5 c2])
 have cl:∀ m:List Nat,(∀ c∈m,c≠32/\bL c=true)->cU (tokS m)=true:=fun m h=>List.all_eq_true.mpr fun c hc=>(h c hc).2
 have oA:Kk "ABCD"=true:=by decide +kernel
 have oB:Kk "AbCd"=true:=by decide +kernel
 have l5:((ak (bg (pA c2)) (bg (pB c2)) y.ents++[A5 c2]).map pr).length=y.ents.length+1:=by
  (rewrite [List.map_append,List.length_append,<- il];try with_reducible rfl);rfl
 have z5:y.ents.length+1<=lim:=Nat.le_trans (Nat.succ_le_succ F.n) (by decide)
 have ho:=mB (m:=bg (pA c2)) (n:=bg (pB c2)) F.ok
 have h5:px (ak (bg (pA c2)) (bg (pB c2)) y.ents++[A5 c2]):=⟨fun p hp=>by
  rcases List.mem_append.mp hp with hp | hp
  ·exact ho.1 p hp
  ·(rewrite [List.mem_singleton.mp hp];try with_reducible rfl);exact rt oA,by (rewrite [l5];try with_reducible rfl);exact z5⟩
 have fd:d9 (ak (bg (pA c2)) (bg (pB c2)) y.ents++[A5 c2]) "AbCd"=some (tokS []):=by
  have e:(low (tokS (nm e0))==low "AbCd")=true:=by decide +kernel
  (rewrite [ht];try with_reducible rfl)
  delta d9 ak
  show Option.map _ (List.find? _ ((tokS (nm e0),tokS [])::_))=_
  (rewrite [List.find?_cons,e];try with_reducible rfl);rfl
 have sn:Sd 1 (.list [.none,.str (tokS []),.str "ABCD"]):=Sd.list fun d hd=>by
  rcases List.mem_cons.mp hd with rfl | hd
  ·exact⟨by simp only [PyData.canLay0],by simp only [PyData.depth];exact Nat.le_refl _,by simp only [PyData.eqv]⟩
  rcases List.mem_cons.mp hd with rfl | hd
  ·exact Sd.str (by decide +kernel)
  (rewrite [List.mem_singleton.mp hd];try with_reducible rfl)
  exact Sd.str (by decide +kernel)
 have e6:PyData.eqv (.list [.none,.str (tokS []),.str "ABCD"]) (.list [.none,.str "",.str "ABCD"])=true:=by (rewrite [fw];try with_reducible rfl);exact sn.e
 have c6:b9 (.list [.none,.str (tokS []),.str "ABCD"]) (.list [.none,.str "",.str "ABCD"])=true:=by (rewrite [fw];try with_reducible rfl);exact sn.cmp (by decide)
 refine aS T3.h.1 (⟨(show 2<=lim by decide),aF 0 _ rfl rfl (JN t q ("ABCD") (tokS (bg (pA c2))) _ rfl T3.h li (a7 ((rt oA).c) (cl _ F.mn.k.cm) (Nat.le_trans F.mn.t.m.1 (by decide)) (aS T5.h.1 ⟨(show 2<=lim by decide),1,_,rfl,rfl,t,q,"AbCd",tokS (bg (pB c2)),_,rfl,T5.h,h5,rt oB,cl _ F.mn.k.cn,fun u hu=>?_,fun hu=>?_⟩)))⟩)
 ·rewrite [fd] at hu
  cases hu
  refine aS T5.h.1 (oi t q _ rfl T5.h (by (rewrite [l5];try with_reducible rfl);exact z5) ?_ (cQ y.ents.length (.str "ABCD") ?_ ?_ c6 ?_))
  ·(rewrite [List.length_map,<- List.length_map (f:=pr),l5];try with_reducible rfl);exact z5
  ·(rewrite [List.length_map,<- List.length_map (f:=pr),l5];try with_reducible rfl);exact pV
  ·(rewrite [List.map_append,List.getElem?_append_right (by rw [List.length_map,<- List.length_map (f:=pr),<- il];exact Nat.le_refl _),List.length_map,<- List.length_map (f:=pr),<- il,Nat.sub_self];try with_reducible rfl);rfl
  ·(rewrite [e6];try with_reducible rfl)
   exact h _ _ T5.t
 ·rewrite [fd] at hu;clear ho;cases hu
end
noncomputable def nX:List Nat->List Nat->List Nat
 | [],b=>b
 | x::a,[]=>x::a
 | x::a,y::b=>(x+y)::nX a b
noncomputable def A6 (p:List Nat) (s:Nat):List Nat:=nX p (List.replicate s 0++p)
noncomputable def mD (sizes p:List Nat):List Nat:=sizes.foldl A6 p
noncomputable def u9:List (List Nat)->List Nat->List Nat
 | [],t=>t
 | l::ls,t=>u9 ls (nX t (mD (iF l) [1]))
noncomputable def jz (r:List Nat):Nat:=br r 0+4*br r 1+16*br r 2+64*br r 3
noncomputable def tr (o i:Nat):Nat:=o / 4 ^ i%4
noncomputable def KZ (c:Nat):List Nat:=[tr c 0,tr c 1,tr c 2,tr c 3]
noncomputable def ym (r o:Nat):Nat:=tr o (tr r 0)+4*tr o (tr r 1)+16*tr o (tr r 2)+64*tr o (tr r 3)
noncomputable def bN (b:Bool):Nat:=bif b then 1 else 0
noncomputable def gh:List Bool->Nat
 | []=>1
 | b::l=>2*gh l+bN b
noncomputable def fN (l:List Bool):Nat:=gh l.reverse
noncomputable def code (e:dG):Nat:=jz e.row+256*fN e.path
noncomputable def aJ (l:List Nat):Nat->Nat:=List.rec (motive:=fun ι=>Nat->Nat) (fun ι=>0) (fun x ι ih i=>Nat.rec x (fun j ι=>ih j) i) l
noncomputable def FO (l:List Nat) (r:Nat):Nat:=List.rec (motive:=fun ι=>Nat) 0 (fun e ι ih=>bif Nat.beq (e%256) r then e / 256 else ih) l
noncomputable def Jw (t b o:Nat) (all:List Nat):Option (List Nat):=bif Nat.beq (FO all (ym (aJ all t%256) o)) 0 then some (all++[ym (aJ all t%256) o+256*(2*(aJ all t / 256)+b)]) else bif Nat.beq (FO all (ym (aJ all t%256) o)) (2*(aJ all t / 256)+b) then none else some all
noncomputable def L2 (p q t:Nat) (all:List Nat):Option (List Nat):=bif Nat.blt t all.length then (Jw t 0 p all).bind (Jw t 1 q) else some all
noncomputable def Jx (p q:Nat):List Nat->List Nat->Option (List Nat)
 | [],all=>some all
 | t::ts,all=>(L2 p q t all).bind (Jx p q ts)
section
variable {r o:List Nat} {x y:Ms} {l:List dG} {t i:Nat} {b:Bool}
theorem dw (h:aY r):∀ i<4,tr (jz r) i=br r i:=fun i hi=>by
 have h0:=h.at (i:=0) (by decide)
 have h1:=h.at (i:=1) (by decide)
 have h2:=h.at (i:=2) (by decide)
 have h3:=h.at (i:=3) (by decide)
 delta tr jz
 revert i
 have z:=L9 h0 h1 h2 h3
 exact L8 z.1 z.2.1 z.2.2.1 z.2.2.2
theorem yn (h:aY r):jz r<256:=by
 have h0:=h.at (i:=0) (by decide)
 have h1:=h.at (i:=1) (by decide)
 have h2:=h.at (i:=2) (by decide)
 have h3:=h.at (i:=3) (by decide)
 unfold jz;omega
theorem nY (h:aY r):KZ (jz r)=r:=by
 unfold KZ
 rw [dw h 0 (by decide),dw h 1 (by decide),dw h 2 (by decide),dw h 3 (by decide)]
 exact (u7 h).symm
theorem A7 (h:aY r) (h':aY o) (e:jz r=jz o):r=o:=by rw [<- nY h,e,nY h']
theorem A8 (h:aY r) (h':aY o):Nat.beq (jz r) (jz o)=(r==o):=by
 cases q:r==o with
 | true=>rw [eq_of_beq q];exact Nat.beq_refl _
 | false=>exact Bool.eq_false_iff.mpr fun z=>ne_of_beq_false q (A7 h h' (Nat.eq_of_beq_eq_true z))
theorem A9 (h:aY r) (h':aY o):ym (jz r) (jz o)=jz (dQ r o):=by
 have e:dQ r o=[br o (br r 0),br o (br r 1),br o (br r 2),br o (br r 3)]:=by
  conv=>lhs;rw [u7 h]
  rfl
 unfold ym
 rw [dw h 0 (by decide),dw h 1 (by decide),dw h 2 (by decide),dw h 3 (by decide),dw h' _ (h.at (by decide)),dw h' _ (h.at (by decide)),dw h' _ (h.at (by decide)),dw h' _ (h.at (by decide)),e]
 rfl
theorem i8:∀ l:List Bool,0<gh l:=by
 intro l
 induction l with
 | nil =>
  exact Nat.one_pos
 | cons b l ih =>
  exact Nat.add_pos_left (Nat.mul_pos (by decide) (ih)) _
theorem Ca:bN b<2:=by cases b<;>decide
theorem va:∀ {a b:List Bool},gh a=gh b->a=b:=by
 intro a
 induction a with
 | nil =>
  intro b
  cases (b) with
  | nil =>
   intro ι
   exact rfl
  | cons c b =>
   intro h
   have:=i8 b
   replace h:1=2*gh b+bN c:=h
   omega
 | cons c a ih =>
  intro b
  cases (b) with
  | nil =>
   intro h
   have:=i8 a
   replace h:2*gh a+bN c=1:=h
   omega
  | cons d b =>
   intro h
   have h1:=Ca (b:=c)
   have h2:=Ca (b:=d)
   replace h:2*gh a+bN c=2*gh b+bN d:=h
   have e1:gh a=gh b:=by omega
   have e2:bN c=bN d:=by omega
   have e3:c=d:=by
    cases c<;>cases d<;>first | rfl | cases e2
   rw [e3,ih e1]
theorem vb {l:List Bool}:fN (l++[b])=2*fN l+bN b:=by
 unfold fN
 rw [List.reverse_append];rfl
theorem yo {a c:List Bool}:Nat.beq (fN a) (fN c)=(a==c):=by
 cases q:a==c with
 | true=>rw [eq_of_beq q];exact Nat.beq_refl _
 | false=>exact Bool.eq_false_iff.mpr fun z=>ne_of_beq_false q (by
   have:=va (Nat.eq_of_beq_eq_true z)
   exact List.reverse_inj.mp this)
theorem gj {e:dG} (h:aY e.row):code e%256=jz e.row/\code e / 256=fN e.path:=by
 exact yS (yn h)
theorem tv:∀ {l:List dG} {t:Nat},t<l.length->aJ (l.map code) t=code (ac l t)
 | e::l,0,_=>rfl
 | e::l,t+1,h=>tv (l:=l) (Nat.lt_of_succ_lt_succ h)
theorem Ba (hr:aY r):∀ {l:List dG} {n:Nat},(∀ e∈l,aY e.row)->FO (l.map code) (jz r)=match eI r l n with
  | none=>0
  | some i=>fN (ac l (i-n)).path:=by
 intro l
 induction l with
 | nil =>
  intro ι ι
  exact rfl
 | cons e l ih =>
  intro n h
  have he:=h e (.head _)
  have ih:=ih (n:=n+1) fun e he=>h e (.tail _ he)
  have e1:FO ((e::l).map code) (jz r)=bif Nat.beq (code e%256) (jz r) then code e / 256 else FO (l.map code) (jz r):=rfl
  rw [e1,(gj he).1,A8 he hr,(gj he).2]
  show _=match (bif e.row==r then some n else eI r l (n+1)) with
   | none=>0
   | some i=>fN (ac (e::l) (i-n)).path
  cases q:e.row==r with
  | true =>
   show fN e.path=fN (ac (e::l) (n-n)).path
   rw [Nat.sub_self];rfl
  | false =>
   show FO (l.map code) (jz r)=match eI r l (n+1) with
    | none=>0
    | some i=>fN (ac (e::l) (i-n)).path
   rw [ih]
   cases z:eI r l (n+1) with
   | none=>rfl
   | some i =>
    obtain⟨d,e2,_⟩:=kW z
    show fN (ac l (i-(n+1))).path=fN (ac (e::l) (i-n)).path
    rw [e2,Nat.add_sub_cancel_left,Nat.add_assoc,Nat.add_sub_cancel_left,Nat.add_comm 1];rfl
theorem Cb {z:List Nat} (hx:∀ e∈x.ents,aY e.row) (ht:t<x.ents.length) (ho:aY o) (e:Jw t (bN b) (jz o) (x.ents.map code)=some z):∃ y,bz t b o x=some y/\y.ents.map code=z/\(∀ e∈y.ents,aY e.row)/\x.ents.length<=y.ents.length:=by
 have he:=hx _ (gy ht)
 have hl:=jP he ho
 unfold Jw at e
 rw [tv ht,(gj he).1,(gj he).2,A9 he ho,Ba hl (n:=0) hx,<- vb] at e
 unfold bz
 cases hi:eI (dQ (ac x.ents t).row o) x.ents 0 with
 | none =>
  rw [hi] at e
  cases e
  refine (hX _ rfl ?_ (fun e he=>?_) (by show _<=(x.ents++[_]).length;rw [List.length_append];exact Nat.le_add_right _ _))
  ·show (x.ents++[_]).map code=_
   rw [List.map_append];rfl
  ·rcases List.mem_append.mp he with he | he
   ·exact hx e he
   ·rw [List.mem_singleton.mp he];exact hl
 | some i =>
  rw [hi] at e
  replace e:(bif Nat.beq (fN (ac x.ents (i-0)).path) 0 then some _ else bif Nat.beq (fN (ac x.ents (i-0)).path) (fN ((ac x.ents t).path++[b])) then none else some (x.ents.map code))=some z:=e
  have h0:Nat.beq (fN (ac x.ents (i-0)).path) 0=false:=Bool.eq_false_iff.mpr fun q=>absurd (Nat.eq_of_beq_eq_true q) (Nat.ne_of_gt (i8 _))
  rw [h0,yo,Nat.sub_zero] at e
  cases q:(ac x.ents i).path==(ac x.ents t).path++[b] with
  | true=>rw [q] at e;cases e
  | false =>
   rw [q] at e
   cases e
   refine (hX ⟨x.ents,x.ans++[(ac x.ents i).path]⟩ ?_ rfl hx (Nat.le_refl _))
   show (bif (ac x.ents i).path==(ac x.ents t).path++[b] then none else _)=_
   rw [q];rfl
theorem EZ {p q:List Nat} (hp:aY p) (hq:aY q):∀ {ts:List Nat} {x:Ms} {z:List Nat},(∀ e∈x.ents,aY e.row)->Jx (jz p) (jz q) ts (x.ents.map code)=some z->∃ y,iI p q ts x=some y/\y.ents.map code=z:=by
 intro ts
 induction ts with
 | nil =>
  intro x z ι e
  exact (aa x rfl (by cases e;rfl))
 | cons t ts ih =>
  intro x z hx e
  obtain⟨z1,e1,e2⟩:=cw e
  unfold L2 at e1
  rw [List.length_map] at e1
  by_cases ht:t<x.ents.length
  ·rw [show Nat.blt t x.ents.length=true from Nat.ble_eq_true_of_le ht] at e1
   obtain⟨z2,f1,f2⟩:=cw e1
   obtain⟨y1,g1,g2,g3,g4⟩:=Cb (b:=false) hx ht hp f1
   rw [<- g2] at f2
   obtain⟨y2,k1,k2,k3,k4⟩:=Cb (b:=true) g3 (Nat.lt_of_lt_of_le ht g4) hq f2
   rw [<- k2] at e2
   obtain⟨y3,m1,m2⟩:=ih k3 e2
   refine (aa y3 ?_ m2)
   show Option.bind (bif decide (t<x.ents.length) then (bz t false p x).bind (bz t true q) else some x) _=_
   rw [decide_eq_true ht]
   show Option.bind (Option.bind (bz t false p x) (bz t true q)) _=_
   rw [g1]
   show Option.bind (bz t true q y1) _=_
   rw [k1]
   exact m1
  ·rw [show Nat.blt t x.ents.length=false from Bool.eq_false_iff.mpr fun z=>ht (Nat.le_of_ble_eq_true z)] at e1
   cases e1
   obtain⟨y3,m1,m2⟩:=ih hx e2
   refine (aa y3 ?_ m2)
   show Option.bind (bif decide (t<x.ents.length) then (bz t false p x).bind (bz t true q) else some x) _=_
   rw [decide_eq_false ht]
   exact m1
end
noncomputable def a6 (l:List Nat):Nat:=l.foldr (fun d a=>d+16*a) 0
noncomputable def yq (x i:Nat):Nat:=x / 16 ^ i%16
noncomputable def Bb (a b:Nat):Nat:=bif Nat.ble a b then a else b
noncomputable def Bc (x i v:Nat):Nat:=x+v*16 ^ i-yq x i*16 ^ i
noncomputable def Jy (s x one:Nat):Nat:=Bc (Bc x one (Bb (yq x one) (yq x (yq s one)))) (yq s one) (Bb (yq x one) (yq x (yq s one)))
noncomputable def E0 (s x:Nat):List Nat->Nat
 | []=>x
 | i::l=>E0 s (Jy s x i) l
noncomputable def IX (is:List Nat) (s t:Nat):Nat->Nat->Nat
 | 0,x=>x
 | n+1,x=>IX is s t n (E0 t (E0 s x is) is)
noncomputable def tg (is s t:List Nat):Nat->List Nat->List Nat
 | 0,l=>l
 | n+1,l=>tg is s t n (is.foldl (fM t) (is.foldl (fM s) l))
noncomputable def Bd (x:Nat):List Nat:=[0,1,2,3,4].map fun k=>((dt.filter fun one=>Nat.beq (yq x one) one).map fun one=>(Ew one).sum).countP fun z=>z==k
section
variable {l st least:List Nat} {i v one:Nat}
theorem i9:∀ {l:List Nat} {i:Nat},(∀ d∈l,d<16)->i<l.length->yq (a6 l) i=br l i
 | d::l,0,h,_=>by
  have:=h d (.head _)
  show (d+16*a6 l) / 1%16=d
  rw [Nat.div_one];exact (yS this).1
 | d::l,i+1,h,hi=>by
  have:=h d (.head _)
  have ih:=i9 (l:=l) (i:=i) (fun e he=>h e (.tail _ he)) (Nat.lt_of_succ_lt_succ hi)
  show (d+16*a6 l) / 16 ^ (i+1)%16=br l i
  rw [Nat.pow_succ,Nat.mul_comm (16 ^ i) 16,<- Nat.div_div_eq_div_mul,show (d+16*a6 l) / 16=a6 l from (yS this).2]
  exact ih
theorem tw:∀ {l:List Nat} {i:Nat},i<l.length->a6 (l.set i v)+br l i*16 ^ i=a6 l+v*16 ^ i
 | d::l,0,_=>by
  show v+16*a6 l+d*1=d+16*a6 l+v*1
  omega
 | d::l,i+1,hi=>by
  have ih:=tw (l:=l) (i:=i) (Nat.lt_of_succ_lt_succ hi)
  show d+16*a6 (l.set i v)+br l i*16 ^ (i+1)=d+16*a6 l+v*16 ^ (i+1)
  rw [Nat.pow_succ,<- Nat.mul_assoc,<- Nat.mul_assoc]
  omega
theorem tx (h:∀ d∈l,d<16) (hi:i<l.length):Bc (a6 l) i v=a6 (l.set i v):=by
 unfold Bc
 rw [i9 h hi,<- tw hi,Nat.add_sub_cancel]
theorem E1 {a b:Nat}:Bb a b=min a b:=by
 unfold Bb
 rw [Nat.min_def]
 by_cases h:a<=b
 ·rw [if_pos h,Nat.ble_eq_true_of_le h];rfl
 ·rw [if_neg h,Bool.eq_false_iff.mpr fun z=>h (Nat.le_of_ble_eq_true z)];rfl
structure lI (l:List Nat):Prop where
 len:l.length=16
 lt:∀ d∈l,d<16
theorem lI.at (h:lI l) (hi:i<16):br l i<16:=by
 unfold br
 rw [List.getD_eq_getElem?_getD,List.getElem?_eq_getElem (by rw [h.len];exact hi)]
 exact h.lt _ (List.getElem_mem _)
theorem lI.set (h:lI l) (hv:v<16):lI (l.set i v):=⟨by rw [List.length_set,h.len],fun d hd=>by
 rcases List.mem_or_eq_of_mem_set hd with hd | rfl
 ·exact h.lt d hd
 ·exact hv⟩
theorem E3 (h:lI least) (hs:lI st) (h1:one<16):Jy (a6 st) (a6 least) one=a6 (fM st least one)/\lI (fM st least one):=by
 have h2:=hs.at h1
 have m:min (br least one) (br least (br st one))<16:=Nat.lt_of_le_of_lt (Nat.min_le_left _ _) (h.at h1)
 have k:=h.set (i:=one) m
 delta Jy fM
 rw [i9 hs.lt (by rw [hs.len];exact h1),i9 h.lt (by rw [h.len];exact h1),i9 h.lt (by rw [h.len];exact h2),E1,tx h.lt (by rw [h.len];exact h1),tx k.lt (by rw [k.len];exact h2)]
 exact⟨rfl,k.set m⟩
theorem yr (hs:lI st):∀ {is:List Nat} {least:List Nat},(∀ i∈is,i<16)->lI least->E0 (a6 st) (a6 least) is=a6 (is.foldl (fM st) least)/\lI (is.foldl (fM st) least):=by
 intro is
 induction is with
 | nil =>
  intro ι ι h
  exact⟨rfl,h⟩
 | cons i is ih =>
  intro least hi h
  obtain⟨e,k⟩:=E3 h hs (hi i (.head _))
  have:=ih (fun j hj=>hi j (.tail _ hj)) k
  show E0 _ (Jy _ _ i) is=_/\_
  rw [e];exact this
theorem Mv {s t l:List Nat}:fA [s,t] l=iH t (iH s l):=rfl
theorem E4 {is s t:List Nat} (hi:∀ i∈is,i<16) (hs:lI s) (ht:lI t):∀ (n:Nat) (least:List Nat),lI least->IX is (a6 s) (a6 t) n (a6 least)=a6 (tg is s t n least)/\lI (tg is s t n least):=by
 intro n
 induction n with
 | zero=>exact fun ι h=>⟨rfl,h⟩
 | succ n ih =>
  intro least h
  obtain⟨e1,k1⟩:=yr hs hi h
  obtain⟨e2,k2⟩:=yr ht hi k1
  show IX is _ _ n (E0 _ (E0 _ _ is) is)=a6 (tg is s t n _)/\lI (tg is s t n _)
  rw [e1,e2]
  exact ih _ k2
theorem Be {is s t l:List Nat} {n:Nat}:tg is s t (n+1) l=tg is s t n (is.foldl (fM t) (is.foldl (fM s) l)):=rfl
theorem mE {is l:List Nat} (h:dt=is):iH st l=is.foldl (fM st) l:=by subst h;unfold iH;rfl
theorem yt {is s t:List Nat} (h:dt=is):∀ (n:Nat) (l:List Nat),gf [s,t] n l=tg is s t n l:=by
 intro n
 induction n with
 | zero=>exact fun ι=>rfl
 | succ n ih =>
  intro l
  have u:gf [s,t] (n+1) l=gf [s,t] n (fA [s,t] l):=rfl
  rw [u,Mv,mE h,mE h,Be]
  exact ih _
theorem yv {A is:List Nat} (k:lI A) (hi:∀ i∈is,i<16):(is.filter fun one=>Nat.beq (yq (a6 A) one) one)=is.filter fun one=>br A one==one:=by
 refine List.filter_congr fun i hi'=>?_
 rw [i9 k.lt (by rw [k.len];exact hi i hi')]
 cases q:br A i==i with
 | true=>rw [eq_of_beq q];exact Nat.beq_refl _
 | false=>exact Bool.eq_false_iff.mpr fun z=>ne_of_beq_false q (Nat.eq_of_beq_eq_true z)
theorem IY {A is:List Nat} (h:dt=is) (k:lI A) (hi:∀ i∈is,i<16):([0,1,2,3,4].map fun s=>(fB A dt).countP fun x=>x==s)=Bd (a6 A):=by
 delta Bd fB
 rw [h,yv k hi]
theorem E5 {p q:List Nat} (hs:lI (cq p)) (ht:lI (cq q)):bG [p,q]=Bd (IX dt (a6 (cq p)) (a6 (cq q)) 6 (a6 dt)):=by
 have t16:∀ i∈dt,i<16:=by decide
 obtain⟨e,k⟩:=E4 t16 hs ht 6 dt ⟨rfl,by decide⟩
 rw [e,<- IY rfl k t16,<- yt rfl]
 unfold bG
 rfl
end
noncomputable def ja:List Nat:=[228,225,210,147,216,201,198,135,156,141,78,75,180,177,114,99,120,57,54,39,108,45,30,27]
noncomputable def jb:List Nat:=[18364758544493064720,18297203519274627360,18152560703022715200,17863200012815733120,18355225778678027280,18282904370552071200,18147794320115196480,17858433629908214400,18336085189344794640,18263763781218838560,18119083436115347520,17848863335241598080,18364683486789906960,18297128461571469600,18152448116467978560,17863162483964154240,18355113192123290640,18282773019571545120,18147662969134670400,17858377336630846080,18336047660493215760,18263707487941470240,18119064671689558080,17848844570815808640]
noncomputable def yO (c:Nat):Nat:=80576832696027955821174602855069086613682511855587885728793402012433983444275994649382436126433711923155492550779044180680419276547873001253180809684918597779094881712585112830470312403419046604578081472512 / 8 ^ c%8
noncomputable def K0 (c:Nat):List Nat:=bif Nat.beq (yO c) 1 then [1,4,6,4,1] else bif Nat.beq (yO c) 2 then [1,2,2,2,1] else bif Nat.beq (yO c) 3 then [1,0,2,0,1] else bif Nat.beq (yO c) 4 then [1,1,0,1,1] else [1,0,0,0,1]
noncomputable def Bf:List Nat->List Nat->List Nat
 | [],t=>t
 | c::z,t=>Bf z (nX t (K0 (c%256)))
noncomputable def E6 (z ch:List Nat):Bool:=Nat.ble z.length 24&&z.all (fun c=>!Nat.beq (yO (c%256)) 0)&&(Bf z []==ch.map (z.length*·))&&ch.all (fun c=>Nat.blt c 32)&&!Nat.beq (ch.getD 4 0) 0
noncomputable def jq (p sp q sq:Nat):Bool:=match Jx p q pS [484] with
 | none=>false
 | some z=>E6 z (Bd (IX dt sp sq 6 18364758544493064720))
theorem Mw:∀ j<24,jq 228 18364758544493064720 (aJ ja j) (aJ jb j)=true:=by decide +kernel
theorem Mx:∀ j<24,jq 225 18297203519274627360 (aJ ja j) (aJ jb j)=true:=by decide +kernel
theorem My:∀ j<24,jq 210 18152560703022715200 (aJ ja j) (aJ jb j)=true:=by decide +kernel
theorem Mz:∀ j<24,jq 147 17863200012815733120 (aJ ja j) (aJ jb j)=true:=by decide +kernel
theorem MA:∀ j<24,jq 216 18355225778678027280 (aJ ja j) (aJ jb j)=true:=by decide +kernel
theorem MB:∀ j<24,jq 201 18282904370552071200 (aJ ja j) (aJ jb j)=true:=by decide +kernel
theorem MD:∀ j<24,jq 198 18147794320115196480 (aJ ja j) (aJ jb j)=true:=by decide +kernel
theorem ME:∀ j<24,jq 135 17858433629908214400 (aJ ja j) (aJ jb j)=true:=by decide +kernel
theorem MF:∀ j<24,jq 156 18336085189344794640 (aJ ja j) (aJ jb j)=true:=by decide +kernel
theorem MG:∀ j<24,jq 141 18263763781218838560 (aJ ja j) (aJ jb j)=true:=by decide +kernel
theorem K4:∀ j<24,jq 78 18119083436115347520 (aJ ja j) (aJ jb j)=true:=by decide +kernel
theorem K5:∀ j<24,jq 75 17848863335241598080 (aJ ja j) (aJ jb j)=true:=by decide +kernel
theorem K6:∀ j<24,jq 180 18364683486789906960 (aJ ja j) (aJ jb j)=true:=by decide +kernel
theorem K7:∀ j<24,jq 177 18297128461571469600 (aJ ja j) (aJ jb j)=true:=by decide +kernel
theorem K8:∀ j<24,jq 114 18152448116467978560 (aJ ja j) (aJ jb j)=true:=by decide +kernel
theorem K9:∀ j<24,jq 99 17863162483964154240 (aJ ja j) (aJ jb j)=true:=by decide +kernel
theorem La:∀ j<24,jq 120 18355113192123290640 (aJ ja j) (aJ jb j)=true:=by decide +kernel
theorem Lb:∀ j<24,jq 57 18282773019571545120 (aJ ja j) (aJ jb j)=true:=by decide +kernel
theorem Lc:∀ j<24,jq 54 18147662969134670400 (aJ ja j) (aJ jb j)=true:=by decide +kernel
theorem Ld:∀ j<24,jq 39 17858377336630846080 (aJ ja j) (aJ jb j)=true:=by decide +kernel
theorem Lf:∀ j<24,jq 108 18336047660493215760 (aJ ja j) (aJ jb j)=true:=by decide +kernel
theorem Lg:∀ j<24,jq 45 18263707487941470240 (aJ ja j) (aJ jb j)=true:=by decide +kernel
theorem Lh:∀ j<24,jq 30 18119064671689558080 (aJ ja j) (aJ jb j)=true:=by decide +kernel
theorem Li:∀ j<24,jq 27 17848844570815808640 (aJ ja j) (aJ jb j)=true:=by decide +kernel
theorem E7:∀ i<24,∀ j<24,jq (aJ ja i) (aJ jb i) (aJ ja j) (aJ jb j)=true:=by
 intro i hi j hj
 match i,hi with
 | 0,_=>exact Mw j hj
 | 1,_=>exact Mx j hj
 | 2,_=>exact My j hj
 | 3,_=>exact Mz j hj
 | 4,_=>exact MA j hj
 | 5,_=>exact MB j hj
 | 6,_=>exact MD j hj
 | 7,_=>exact ME j hj
 | 8,_=>exact MF j hj
 | 9,_=>exact MG j hj
 | 10,_=>exact K4 j hj
 | 11,_=>exact K5 j hj
 | 12,_=>exact K6 j hj
 | 13,_=>exact K7 j hj
 | 14,_=>exact K8 j hj
 | 15,_=>exact K9 j hj
 | 16,_=>exact La j hj
 | 17,_=>exact Lb j hj
 | 18,_=>exact Lc j hj
 | 19,_=>exact Ld j hj
 | 20,_=>exact Lf j hj
 | 21,_=>exact Lg j hj
 | 22,_=>exact Lh j hj
 | 23,_=>exact Li j hj
 | i+24,h=>exact absurd h (Nat.not_lt.mpr (Nat.le_add_left 24 i))
theorem nZ {n:Nat} {l:List Nat} {x y:Int} (h:x%((n+1:Nat):Int)=y%((n+1:Nat):Int)) (k:∀ l,nI n l (x / ((n+1:Nat):Int))=nI n l (y / ((n+1:Nat):Int))):nI (n+1) l x=nI (n+1) l y:=by
 show l.getD (x%((n+1:Nat):Int)).toNat 0::nI n _ _=_
 rw [k,h];rfl
theorem jV (x:Int):bq x=bq (((x%24).toNat:Nat):Int):=by
 rw [AS (Int.emod_nonneg _ (by decide))]
 have ha:x%24 / ((3+1:Nat):Int)=x / ((3+1:Nat):Int)%6:=by omega
 have hb:x / ((3+1:Nat):Int)%6 / ((2+1:Nat):Int)=x / ((3+1:Nat):Int) / ((2+1:Nat):Int)%2:=by omega
 refine nZ (n:=3) (Int.emod_emod_of_dvd _ (by decide)).symm fun l=>?_
 rw [ha]
 refine nZ (n:=2) (Int.emod_emod_of_dvd _ (by decide)).symm fun l=>?_
 rw [hb]
 exact nZ (n:=1) (Int.emod_emod_of_dvd _ (by decide)).symm fun l=>nZ (n:=0) ((Int.emod_one _).trans (Int.emod_one _).symm) fun l=>rfl
theorem gk (x:Int):(x%24).toNat<24:=(Int.toNat_lt (Int.emod_nonneg _ (by decide))).mpr (Int.emod_lt_of_pos _ (by decide))
theorem gz (x:Int):aY (bq x):=by
 rw [jV]
 have g:∀ i<24,pG (bq ((i:Nat):Int))=true/\(bq ((i:Nat):Int)).length=4:=by decide +kernel
 obtain⟨h1,h2⟩:=g _ (gk x)
 exact⟨h1,h2⟩
theorem iQ (x:Int):lI (cq (bq x)):=by
 rw [jV]
 have g:∀ i<24,(cq (bq ((i:Nat):Int))).length=16/\(cq (bq ((i:Nat):Int))).all (fun d=>decide (d<16))=true:=by decide +kernel
 obtain⟨h1,h2⟩:=g _ (gk x)
 exact⟨h1,fun d hd=>of_decide_eq_true (List.all_eq_true.mp h2 d hd)⟩
theorem tA (x:Int):Eu (cq (bq x)):=⟨(iQ x).len,fun i hi=>(iQ x).at hi⟩
noncomputable def fQ (X:Nat):List Nat->Nat
 | []=>0
 | c::p=>c+X*fQ X p
section
variable {p q:List Nat} {x y:Ms} {w X N c:Nat} {b:Bool}
theorem E8 {p q:List Nat} (hp:aY p) (hq:aY q):∀ {ts:List Nat} {x:Ms} {d:Nat},AO d x->d+ts.length*2<=50->iI p q ts x=some y->nP y/\∃ l,y.ents=x.ents++l:=by
 intro ts
 induction ts with
 | nil =>
  intro x d h hd e
  cases e;exact⟨h.ok (Nat.le_trans (Nat.le_add_right _ _) (Nat.le_trans hd (by decide))),⟨[],(List.append_nil _).symm⟩⟩
 | cons t ts ih =>
  intro x d h hd e
  rewrite [List.length_cons,Nat.succ_mul] at hd
  obtain⟨x2,e1,e2⟩:=cw e
  unfold nO at e1
  by_cases ht:t<x.ents.length
  ·rewrite [decide_eq_true ht] at e1
   obtain⟨x1,f1,f2⟩:=cw e1
   obtain⟨B1,t1⟩:=h.step ht hp f1
   obtain⟨B2,t2⟩:=B1.step t1 hq f2
   obtain⟨l1,g1⟩:=jR ht f1
   obtain⟨l2,g2⟩:=jR t1 f2
   obtain⟨k,l3,g3⟩:=ih B2 (by omega) e2
   exact⟨k,⟨l1++(l2++l3),by rw [g3,g2,g1,List.append_assoc,List.append_assoc]⟩⟩
  ·rewrite [decide_eq_false ht] at e1
   cases e1
   exact ih h (by omega) e2
theorem tB:∀ {a b:List Nat},fQ X (nX a b)=fQ X a+fQ X b:=by
 intro a
 induction a with
 | nil =>
  intro b
  exact (Nat.zero_add _).symm
 | cons x a ih =>
  intro b
  cases (b) with
  | nil =>
   exact rfl
  | cons y b =>
   show x+y+X*fQ X (nX a b)=x+X*fQ X a+(y+X*fQ X b)
   rw [ih,Nat.mul_add];omega
theorem yw {p:List Nat}:∀ s,fQ X (List.replicate s 0++p)=X ^ s*fQ X p:=by
 intro s
 induction s with
 | zero =>
  exact (Nat.one_mul _).symm
 | succ s ih =>
  show 0+X*fQ X (List.replicate s 0++p)=_
  rw [ih,Nat.zero_add,Nat.pow_succ,Nat.mul_comm (X ^ s) X,Nat.mul_assoc]
theorem E9 {p:List Nat} {s:Nat}:fQ X (A6 p s)=fQ X p*(1+X ^ s):=by
 unfold A6
 rw [tB,yw,Nat.mul_add,Nat.mul_one,Nat.mul_comm (X ^ s)]
theorem vc {n:Nat}:∀ k,eG n (List.replicate k 0)=0:=by
 intro k
 induction k with
 | zero =>
  exact rfl
 | succ k ih =>
  show 0+2 ^ n*eG n (List.replicate k 0)=0
  rw [ih,Int.mul_zero];rfl
theorem Fa {s:Nat} (h:0<s):uR w (s-1)=((1+(2 ^ w) ^ s:Nat):Int):=by
 obtain⟨k,zq⟩:=Nat.exists_eq_succ_of_ne_zero (Nat.ne_of_gt h);rw [zq]
 show 1+2 ^ w*eG w (List.replicate k 0++[1])=_
 rw [kG,vc,List.length_replicate,Int.zero_add]
 show 1+2 ^ w*(2 ^ (k*w)*(1+2 ^ w*0))=_
 rw [Int.mul_zero,Int.add_zero,Int.mul_one,<- Int.pow_add,Int.natCast_add,<- Nat.pow_mul,Int.natCast_pow,Nat.mul_succ,Nat.add_comm (w*k),Nat.mul_comm w k];rfl
theorem Bg:∀ {sizes p:List Nat},(∀ s∈sizes,0<s)->kS w sizes (fQ (2 ^ w) p:Nat)=(fQ (2 ^ w) (mD sizes p):Nat):=by
 intro sizes
 induction sizes with
 | nil =>
  intro ι ι
  exact rfl
 | cons s sizes ih =>
  intro p h
  show kS w sizes ((fQ (2 ^ w) p:Nat)*uR w (s-1))=(fQ (2 ^ w) (mD sizes (A6 p s)):Nat)
  rw [<- ih fun s hs=>h s (.tail _ hs),E9,Fa (h s (.head _)),<- Int.natCast_mul]
theorem Fb:∀ {ls:List (List Nat)} {t:List Nat},(∀ l∈ls,aY l)->iG w ls (fQ (2 ^ w) t:Nat)=(fQ (2 ^ w) (u9 ls t):Nat):=by
 intro ls
 induction ls with
 | nil =>
  intro ι ι
  exact rfl
 | cons l ls ih =>
  intro t h
  show iG w ls ((fQ (2 ^ w) t:Nat)+kS w (iF l) 1)=(fQ (2 ^ w) (u9 ls (nX t (mD (iF l) [1]))):Nat)
  have e1:(1:Int)=(fQ (2 ^ w) [1]:Nat):=by
   show (1:Int)=((1+2 ^ w*0:Nat):Int)
   rw [Nat.mul_zero];rfl
  rw [<- ih fun l hl=>h l (.tail _ hl),tB,e1,Bg fun s hs=>((kT (h l (.head _))).2 s hs).1,<- Int.natCast_add]
theorem Bh:∀ l:List Nat,fQ X (l.map (N*·))=N*fQ X l:=by
 intro l
 induction l with
 | nil =>
  exact rfl
 | cons c l ih =>
  show N*c+X*fQ X (l.map (N*·))=N*(c+X*fQ X l)
  rw [ih,Nat.mul_add,Nat.mul_left_comm]
theorem IZ:∀ {l:List Nat},(∀ c∈l,c<2 ^ w)->fQ (2 ^ w) l<2 ^ (l.length*w):=by
 intro l
 induction l with
 | nil =>
  intro ι
  show 0<_;exact Nat.two_pow_pos _
 | cons c l ih =>
  intro h
  have ih:=ih fun d hd=>h d (.tail _ hd)
  have hc:=h c (.head _)
  show c+2 ^ w*fQ (2 ^ w) l<2 ^ ((l.length+1)*w)
  rw [Nat.succ_mul,Nat.add_comm,Nat.pow_add]
  have:=Nat.mul_le_mul_left (2 ^ w) (Nat.succ_le_of_lt ih)
  rewrite [Nat.mul_succ] at this
  rw [Nat.mul_comm (2 ^ (l.length*w))]
  omega
theorem I1:∀ {l:List Nat},(∀ c∈l,c<2 ^ w)->(dg w l.length (fQ (2 ^ w) l)).map PyData.int=nats l:=by
 intro l
 induction l with
 | nil =>
  intro ι
  exact rfl
 | cons c l ih =>
  intro h
  have hc:=h c (.head _)
  have e1:(c+2 ^ w*fQ (2 ^ w) l)%2 ^ w=c:=by rw [Nat.add_mul_mod_self_left,Nat.mod_eq_of_lt hc]
  have e2:(c+2 ^ w*fQ (2 ^ w) l) / 2 ^ w=fQ (2 ^ w) l:=by rw [Nat.add_mul_div_left _ _ (Nat.two_pow_pos w),Nat.div_eq_of_lt hc,Nat.zero_add]
  show PyData.int (((c+2 ^ w*fQ (2 ^ w) l)%2 ^ w:Nat):Int)::(dg w l.length ((c+2 ^ w*fQ (2 ^ w) l) / 2 ^ w)).map PyData.int=_
  rw [e1,e2,ih fun d hd=>h d (.tail _ hd)];rfl
theorem Fc:∀ c<256,Nat.beq (yO c) 0=false->K0 c=mD (iF (KZ c)) [1]:=by decide +kernel
theorem Bj:∀ {l:List dG} {t:List Nat},(∀ e∈l,aY e.row)->(l.map code).all (fun c=>!Nat.beq (yO (c%256)) 0)=true->Bf (l.map code) t=u9 (l.map dG.row) t:=by
 intro l
 induction l with
 | nil =>
  intro ι ι ι
  exact rfl
 | cons e l ih =>
  intro t h ha
  have he:=h e (.head _)
  obtain⟨a1,a2⟩:=Bool.and_eq_true_iff.mp ha
  have a1:Nat.beq (yO (code e%256)) 0=false:=by
   cases z:Nat.beq (yO (code e%256)) 0 with
   | false=>rfl
   | true =>
    replace a1:(!Nat.beq (yO (code e%256)) 0)=true:=a1
    rewrite [z] at a1;exact nomatch a1
  show Bf (l.map code) (nX t (K0 (code e%256)))=u9 (l.map dG.row) (nX t (mD (iF e.row) [1]))
  rewrite [(gj he).1] at a1 ⊢
  rw [Fc _ (yn he) a1,nY he]
  exact ih (fun e he=>h e (.tail _ he)) a2
structure Lj (p q:List Nat) (y:Ms):Prop where
 r:iI p q pS ms0=some y
 ok:nP y
 hd:∃ l,y.ents=ms0.ents++l
 n:y.ents.length<=24
 t:u9 (y.ents.map dG.row) []=(bG [p,q]).map (y.ents.length*·)
 c:∀ c∈bG [p,q],c<32
 h:(bG [p,q]).getD 4 0≠0
theorem Lk (x0 x1:Int):∃ y,Lj (bq x0) (bq x1) y:=by
 have g:∀ i<24,jz (bq ((i:Nat):Int))=aJ ja i/\a6 (cq (bq ((i:Nat):Int)))=aJ jb i:=by decide +kernel
 have ck:=E7 _ (gk x0) _ (gk x1)
 rewrite [<- (g _ (gk x0)).1,<- (g _ (gk x0)).2,<- (g _ (gk x1)).1,<- (g _ (gk x1)).2,<- jV,<- jV] at ck
 have hp:=gz x0
 have hq:=gz x1
 have ec:=E5 (iQ x0) (iQ x1)
 rewrite [show a6 dt=18364758544493064720 by decide +kernel] at ec
 unfold jq at ck
 rewrite [<- ec] at ck
 cases hz:Jx (jz (bq x0)) (jz (bq x1)) pS [484] with
 | none=>rewrite [hz] at ck;exact nomatch ck
 | some z =>
  rewrite [hz] at ck
  obtain⟨y,h1,h2⟩:=EZ hp hq (ts:=pS) (x:=ms0) (z:=z) nQ.r hz
  clear hz;subst h2
  replace ck:E6 (y.ents.map code) (bG [bq x0,bq x1])=true:=ck
  delta E6 at ck
  rewrite [List.length_map] at ck
  obtain⟨ck,k5⟩:=Bool.and_eq_true_iff.mp ck
  obtain⟨ck,k4⟩:=Bool.and_eq_true_iff.mp ck
  obtain⟨ck,k3⟩:=Bool.and_eq_true_iff.mp ck
  obtain⟨k1,k2⟩:=Bool.and_eq_true_iff.mp ck
  obtain⟨ok,hd⟩:=E8 hp hq nQ (by decide) h1
  refine⟨y,h1,ok,hd,Nat.le_of_ble_eq_true k1,?_,fun c hc=>Nat.le_of_ble_eq_true (List.all_eq_true.mp k4 c hc),fun z=>?_⟩
  ·rw [<- Bj ok.r k2];exact eq_of_beq k3
  ·rewrite [z] at k5;exact nomatch k5
end
section
variable {en f:Nat->Bool} {l r t m o:List Nat} {n:Int} {z w c a:Nat} {x:Int}
theorem fF {a b:List Nat}:eJ (a++b)=eJ a+eJ b:=by
 unfold eJ
 rw [List.map_append,List.sum_append]
theorem cO {c:Nat} {b:List Nat}:eJ (c::b)=nl c+eJ b:=by
 unfold eJ
 rw [List.map_cons,List.sum_cons]
theorem Bk (hz:en z=true):jk en (z::r) n t=(t,r,n+nl z,true):=by
 cases r with
 | nil=>show (bif en z then _ else _)=_;rw [hz];rfl
 | cons _ _=>show (bif en z then _ else _)=_;rw [hz];rfl
theorem rP (h92:en 92=false) (hz:en z=true):∀ {l t:List Nat} {n:Int},(∀ c∈l,f c=false->en c=false/\(c==92)=false)->jk en ((wd f l).flatten++z::r) n t=(t++l,r,n+eJ (wd f l).flatten+nl z,true):=by
 intro l
 induction l with
 | nil =>
  intro t n ι
  show jk en (z::r) n t=(t++[],r,n+0+nl z,true)
  rw [Bk hz,List.append_nil,Int.add_zero]
 | cons c l ih =>
  intro t n h
  have ih:=fun {t n}=>ih (t:=t) (n:=n) fun d hd=>h d (.tail _ hd)
  have e0:wd f (c::l)=(bif f c then [92,c] else [c])::wd f l:=rfl
  rw [e0,List.flatten_cons]
  cases q:f c with
  | true =>
   show (bif en 92 then _ else bif 92==92 then jk en ((wd f l).flatten++z::r) (n+nl 92+nl c) (t++[c]) else _)=_
   rw [h92]
   show jk en ((wd f l).flatten++z::r) (n+nl 92+nl c) (t++[c])=(t++c::l,r,n+eJ ([92,c]++(wd f l).flatten)+nl z,true)
   rw [ih,List.append_assoc,fF,cO,cO]
   show (t++c::l,r,n+nl 92+nl c+eJ (wd f l).flatten+nl z,true)=(t++c::l,r,n+(nl 92+(nl c+0)+eJ (wd f l).flatten)+nl z,true)
   congr 3
   omega
  | false =>
   obtain⟨h1,h2⟩:=h c (.head _) q
   have e1:jk en (c::((wd f l).flatten++z::r)) n t=bif en c then (t,((wd f l).flatten++z::r),n+nl c,true) else bif c==92 then (match (wd f l).flatten++z::r with
    | []=>(t,[],n+nl c,false)
    | d::r'=>jk en r' (n+nl c+nl d) (t++[d])) else jk en ((wd f l).flatten++z::r) (n+nl c) (t++[c]):=by
    cases (wd f l).flatten++z::r<;>rfl
   show jk en (c::((wd f l).flatten++z::r)) n t=(t++c::l,r,n+eJ ([c]++(wd f l).flatten)+nl z,true)
   rw [e1,h1,h2]
   show jk en ((wd f l).flatten++z::r) (n+nl c) (t++[c])=_
   rw [ih,List.append_assoc,fF,cO]
   show (t++c::l,r,n+nl c+eJ (wd f l).flatten+nl z,true)=(t++c::l,r,n+(nl c+0+eJ (wd f l).flatten)+nl z,true)
   congr 3
   omega
structure L3 (a:Nat):Prop where
 w:cK a=false
 q:rA a=false
 b:(a==92)=false
theorem rQ {c:Nat} (h:cK c=false):dq (c::r) n=((rB c r (n+nl c)).1,(rB c r (n+nl c)).2.1,(rB c r (n+nl c)).2.2.1):=by
 show (bif cK c then _ else _)=_
 rw [h];rfl
theorem Ll:rO 0 w l:=fun r n=>by
 show dq ([34]++(wd (q0 w) l).flatten++[34]++r) n=_
 rw [List.append_assoc,List.append_assoc]
 show dq (34::((wd (q0 w) l).flatten++(34::r))) n=_
 rw [rQ rfl]
 have e:=rP (en:=rA) (f:=q0 w) (z:=34) (r:=r) (l:=l) (t:=[]) (n:=n+nl 34) rfl rfl fun c hc hf=>by
  unfold q0 at hf
  obtain⟨h1,h2⟩:=Bool.or_eq_false_iff.mp (Bool.or_eq_false_iff.mp hf).1
  exact⟨h1,h2⟩
 show ((jk rA ((wd (q0 w) l).flatten++(34::r)) (n+nl 34) []).1,(jk rA _ (n+nl 34) []).2.1,(jk rA _ (n+nl 34) []).2.2.1)=_
 rw [e]
 show (l,r,n+nl 34+eJ (wd (q0 w) l).flatten+nl 34)=(l,r,n+eJ ([34]++(wd (q0 w) l).flatten++[34]))
 rw [fF,fF,cO,show eJ []=0 from rfl]
 congr 2
 omega
theorem Lm (hw:cK w=true):rO 1 w (a::l):=fun r n=>by
 show dq ((wd (fun ι=>true) (a::l)).flatten++[w]++r) n=_
 rw [List.append_assoc]
 show dq (92::a::((wd (fun ι=>true) l).flatten++(w::r))) n=_
 rw [rQ rfl]
 have e:=rP (en:=cK) (f:=fun ι=>true) (z:=w) (r:=r) (l:=l) (t:=[a]) (n:=n+nl 92+nl a) rfl hw fun c hc hf=>by cases hf
 show ((jk cK ((wd (fun ι=>true) l).flatten++(w::r)) (n+nl 92+nl a) [a]).1,(jk cK _ (n+nl 92+nl a) [a]).2.1,(jk cK _ (n+nl 92+nl a) [a]).2.2.1)=_
 rw [e]
 show (a::l,r,n+nl 92+nl a+eJ (wd (fun ι=>true) l).flatten+nl w)=(a::l,r,n+eJ (([92,a]++(wd (fun ι=>true) l).flatten)++[w]))
 rw [fF,fF,cO,cO,cO,show eJ []=0 from rfl]
 congr 2
 omega
theorem Ln (hw:cK w=true) (h:L3 a):rO 2 w (a::l):=fun r n=>by
 have ha:q2 a=false:=by
  have h1:=h.w
  have h2:=h.b
  unfold cK at h1
  unfold q2
  simp only [Bool.or_eq_false_iff] at h1 ⊢
  exact⟨⟨⟨⟨h1.2,h1.1.1.2⟩,h1.1.2⟩,h1.1.1.1⟩,h2⟩
 have e0:(wd q2 (a::l)).flatten=a::(wd q2 l).flatten:=by
  show ((bif q2 a then [92,a] else [a])++(wd q2 l).flatten)=_
  rw [ha];rfl
 show dq ((wd q2 (a::l)).flatten++[w]++r) n=(_,_,n+eJ ((wd q2 (a::l)).flatten++[w]))
 rw [List.append_assoc,e0]
 show dq (a::((wd q2 l).flatten++(w::r))) n=_
 rw [rQ h.w]
 have e:=rP (en:=cK) (f:=q2) (z:=w) (r:=r) (l:=l) (t:=[a]) (n:=n+nl a) rfl hw fun c hc hf=>by
  unfold q2 at hf
  simp only [Bool.or_eq_false_iff] at hf
  delta cK
  simp only [Bool.or_eq_false_iff]
  exact⟨⟨⟨⟨hf.1.2,hf.1.1.1.2⟩,hf.1.1.2⟩,hf.1.1.1.1⟩,hf.2⟩
 have eh:rB a ((wd q2 l).flatten++(w::r)) (n+nl a)=jk cK ((wd q2 l).flatten++(w::r)) (n+nl a) [a]:=by
  delta rB
  rw [h.q,h.b];rfl
 rw [eh,e]
 show (a::l,r,n+nl a+eJ (wd q2 l).flatten+nl w)=(a::l,r,n+eJ ((a::(wd q2 l).flatten)++[w]))
 rw [fF,cO,cO,show eJ []=0 from rfl]
 congr 2
 omega
theorem Cc:cK (jT x)=true:=by
 have g:∀ k<4,cK (IC.getD k 0)=true:=by decide
 exact g _ ((Int.toNat_lt (fm (by decide)).1).mpr (fm (by decide)).2)
theorem Bl (h:L3 a):rO (way x) (jT x) (a::l):=by
 have hy:way x<3:=(Int.toNat_lt (fm (by decide)).1).mpr (fm (by decide)).2
 generalize way x=y at *
 match y,hy with
 | 0,_=>exact Ll
 | 1,_=>exact Lm Cc
 | 2,_=>exact Ln Cc h
end
noncomputable def jc (c:Nat):Bool:=(33<=c&&c<=47&&c != 34&&c != 35&&c != 36&&c != 39)||(58<=c&&c<=64&&c != 63)||c==91||c==93||c==94||(123<=c&&c<=126)
section
variable {l r t m o z:List Nat} {w c a p i j:Nat} {x c0 c1 c2:Int}
theorem Fd (h:tk z≠none):z.all jc=true:=by
 have g:nK.all (fun e=>e.1.all jc)=true:=by decide +kernel
 unfold tk at h
 cases q:nK.find? fun e=>e.1==z with
 | none=>rw [q] at h;exact absurd rfl h
 | some e =>
  have h1:=List.find?_some q
  have h2:=List.mem_of_find?_eq_some q
  rw [<- eq_of_beq h1]
  exact List.all_eq_true.mp g e h2
theorem tC (h:∃ c∈z,jc c=false):tk z=none:=by
 obtain⟨c,hc,h⟩:=h
 cases q:tk z with
 | none=>rfl
 | some v =>
  have:=List.all_eq_true.mp (Fd (z:=z) (by rw [q];exact nofun)) c hc
  rw [h] at this;cases this
theorem gm:∀ p<48,tk (bg p)=some (7+p)/\(bg p).all (fun c=>decide (c<128)&&c != 32&&bL c&&jc c)=true/\(bg p≠[]/\(cK ((bg p).getD 0 0)||rA ((bg p).getD 0 0)||(bg p).getD 0 0==92)=false):=by decide +kernel
theorem yx (h:jc c=false):aC (c::r)=[c]:=by
 have g:∀ n,n≠1->i6 ((c::r).take (n+1))=(r.length==0||n==0)\/True:=fun ι ι=>.inr trivial
 have k:∀ n,0<n->i6 ((c::r).take n)=true->(c::r).take n=[c]:=fun n hn hp=>by
  obtain⟨n,zq⟩:=Nat.exists_eq_succ_of_ne_zero (Nat.ne_of_gt hn);clear hn;subst zq
  unfold i6 at hp
  rw [tC (aa c (by rw [List.take_succ_cons];exact .head _) h)] at hp
  have hp:((c::r).take (n+1)).length=1:=eq_of_beq hp
  rw [List.take_succ_cons,List.length_cons] at hp
  rw [List.take_succ_cons,List.eq_nil_of_length_eq_zero (Nat.succ.inj hp)]
 unfold aC
 cases q:i6 ((c::r).take 3) with
 | true=>exact k 3 (by decide) q
 | false =>
  cases q2:i6 ((c::r).take 2) with
  | true=>exact k 2 (by decide) q2
  | false=>rfl
theorem yy {v:Nat} (hm:tk m=some v) (h:jc c=false) (hl:m.length<=3) (h0:m≠[]):aC (m++c::r)=m:=by
 have no:∀ z:List Nat,c∈z->2<=z.length->i6 z=false:=fun z hc hz=>by
  unfold i6
  rw [tC (aa c hc h)]
  exact beq_false_of_ne fun e=>by omega
 have yes:i6 m=true:=by unfold i6;rw [hm];rfl
 match m,hl,h0 with
 | [a],_,_ =>
  unfold aC
  rw [show i6 (([a]++c::r).take 3)=false from no _ (by show c∈a::c::r.take 1;exact .tail _ (.head _)) (by show 2<=(r.take 1).length+1+1;omega),show i6 (([a]++c::r).take 2)=false from no _ (by show c∈[a,c];exact .tail _ (.head _)) (Nat.le_refl 2)]
  rfl
 | [a,b],_,_ =>
  delta aC
  rw [show i6 (([a,b]++c::r).take 3)=false from no _ (by show c∈[a,b,c];exact .tail _ (.tail _ (.head _))) (by show 2<=3;decide),show i6 (([a,b]++c::r).take 2)=true from yes]
  rfl
 | [a,b,d],_,_ =>
  delta aC
  rw [show i6 (([a,b,d]++c::r).take 3)=true from yes]
  rfl
theorem yz:∀ i<4,(jc (i+97)=false/\jc (rD (i+97))=false)/\(tk [i+97]=none/\tk [rD (i+97)]=none)/\pP (i+97)=256+i/\pP (rD (i+97))=256+i:=by decide +kernel
theorem qb:∀ k<6,jc (EI.getD k 0)=false/\tk [EI.getD k 0]=none/\pP (EI.getD k 0)=255/\EI.getD k 0<128:=by decide +kernel
theorem Fe (hi:i<4):jc (lc x j i)=false/\eS [lc x j i]=256+i:=by
 obtain⟨⟨a1,a2⟩,⟨b1,b2⟩,d1,d2⟩:=yz i hi
 delta lc eS
 cases uZ x j with
 | true=>exact⟨a2,by show (match tk [rD (i+97)] with | some n=>n | none=>pP (rD (i+97)))=_;rw [b2];exact d2⟩
 | false=>exact⟨a1,by show (match tk [i+97] with | some n=>n | none=>pP (i+97))=_;rw [b1];exact d1⟩
theorem ld {n:Nat} (h:jc c=false):hO (n+1) (c::r)=eS [c]::hO n r:=by
 show eS (aC (c::r))::hO n ((c::r).drop (aC (c::r)).length)=_
 rw [yx h];rfl
set_option tactic.hygienic true in
theorem Ff {n:Nat} (hp:p<48) (h:jc c=false):hO (n+1) (bg p++c::r)=(7+p)::hO n (c::r):=by
 obtain⟨h1,_,h3,_⟩:=gm p hp
 have hl:=k8 p
 generalize bg p=m at *
 have e:=yy (r:=r) h1 h hl h3
 cases m with
 | nil=>exact absurd rfl h3
 | cons a m =>
  show eS (aC ((a::m)++c::r))::hO n (((a::m)++c::r).drop (aC ((a::m)++c::r)).length)=_
  rw [e,List.drop_left]
  congr 1
  unfold eS
  rw [h1]
theorem qc (hp:p<48) (h:aY o):B8 (word x (bg p) (lk c2) o)=bY p o:=by
 have hk:((c2.fdiv 192).fmod 6).toNat<6:=(Int.toNat_lt (fm (by decide)).1).mpr (fm (by decide)).2
 obtain⟨k1,k2,k3,_⟩:=qb _ hk
 have ev:eS [lk c2]=255:=by
  delta eS lk
  rw [k2];exact k3
 replace k1:jc (lk c2)=false:=k1
 have el:(word x (bg p) (lk c2) o).length=(bg p).length+5:=by
  unfold word
  rw [List.length_append,List.length_append];rfl
 have e:word x (bg p) (lk c2) o=bg p++lk c2::c8 x o:=by unfold word;rw [List.append_assoc];rfl
 unfold B8
 rw [el,e,Ff hp k1]
 unfold c8
 have v:=fun j i hi=>Fe (x:=x) (j:=j) (i:=i) hi
 rw [ld k1,ev,ld (v 0 _ (h.at (by decide))).1,ld (v 1 _ (h.at (by decide))).1,ld (v 2 _ (h.at (by decide))).1,ld (v 3 _ (h.at (by decide))).1,(v 0 _ (h.at (by decide))).2,(v 1 _ (h.at (by decide))).2,(v 2 _ (h.at (by decide))).2,(v 3 _ (h.at (by decide))).2]
 unfold bY
 conv=>rhs;rw [u7 h]
 have z:∀ k,hO k []=[]:=fun k=>by cases k<;>rfl
 rw [z];rfl
theorem tD (hp:p<48) (h:aY o):bU (word x (bg p) (lk c2) o):=by
 have hk:((c2.fdiv 192).fmod 6).toNat<6:=(Int.toNat_lt (fm (by decide)).1).mpr (fm (by decide)).2
 obtain⟨_,_,_,k4⟩:=qb _ hk
 have hl:=k8 p
 obtain⟨_,h2,_⟩:=gm p hp
 refine⟨?_,fun c hc=>?_⟩
 ·unfold word
  rw [List.length_append,List.length_append]
  exact Nat.le_trans (Nat.add_le_add_right (Nat.add_le_add_right hl 1) 4) (by decide)
 ·rcases List.mem_append.mp hc with hc | hc
  ·rcases List.mem_append.mp hc with hc | hc
   ·have:=List.all_eq_true.mp h2 c hc
    simp only [Bool.and_eq_true,decide_eq_true_eq] at this
    exact this.1.1.1
   ·rw [List.mem_singleton.mp hc];exact k4
  ·exact yi h c hc
theorem qd (hp:p<48):rO (way x) (jT x) (word c0 (bg p) (lk c2) o):=by
 obtain⟨_,_,h3,h4⟩:=gm p hp
 unfold word
 generalize bg p=m at *
 cases m with
 | nil=>exact absurd rfl h3
 | cons a m =>
  obtain⟨h5,h6⟩:=Bool.or_eq_false_iff.mp h4
  obtain⟨h7,h8⟩:=Bool.or_eq_false_iff.mp h5
  exact Bl ⟨h7,h8,h6⟩
theorem tE (hp:p<48):Mk (bg p):=⟨k8 p,fun c hc=>by
 have:=List.all_eq_true.mp (gm p hp).2.1 c hc
 simp only [Bool.and_eq_true,decide_eq_true_eq] at this
 exact this.1.1.1⟩
theorem I2 (hp:p<48):∀ c∈bg p,c≠32/\bL c=true:=fun c hc=>by
 have:=List.all_eq_true.mp (gm p hp).2.1 c hc
 simp only [Bool.and_eq_true,decide_eq_true_eq,bne_iff_ne] at this
 exact⟨this.1.1.2,this.1.2⟩
theorem MH:pA c2≠pB c2:=by
 have h:=fm (x:=c2.fdiv 48) (n:=4) (by decide)
 have hk:((c2.fdiv 48).fmod 4).toNat<4:=(Int.toNat_lt h.1).mpr h.2
 have g:∀ k<4,AR.getD k 0=1\/AR.getD k 0=5\/AR.getD k 0=7\/AR.getD k 0=11:=by decide
 have gs:=g _ hk
 have e1:((pA c2:Nat):Int)=c2.fmod 48:=AS (fm (by decide)).1
 have e2:((pB c2:Nat):Int)=(c2+AR.getD ((c2.fdiv 48).fmod 4).toNat 0).fmod 48:=AS (fm (by decide)).1
 rw [Int.fmod_eq_emod_of_nonneg _ (by decide)] at e1 e2
 intro e
 rw [e] at e1
 rcases gs with h | h | h | h<;>rw [h] at e2<;>omega
theorem Bm:∀ i<48,∀ j<48,bg i=bg j->i=j:=by
 have g:∀ i<48,ops.findIdx (·==bg i)=i:=by decide +kernel
 intro i hi j hj e
 rw [<- g i hi,e,g j hj]
theorem Fg:yN (bg (pA c2)) (bg (pB c2)):=⟨tE iN,tE iO,I2 iN,I2 iO,fun e=>MH (Bm _ iN _ iO e)⟩
theorem I3:Tw (bq c0) (bq c1) (bg (pA c2)) (bg (pB c2)):=⟨gz _,gz _,tE iN,tE iO⟩
theorem I4 {X:Nat} {a b c d e:Nat} (he:e≠0):X ^ 4<=fQ X [a,b,c,d,e]:=by
 have e1:1<=e:=Nat.pos_of_ne_zero he
 have m:∀ {u v:Nat},u<=v->X*u<=X*v:=fun h=>Nat.mul_le_mul_left X h
 show X ^ 4<=a+X*(b+X*(c+X*(d+X*(e+X*0))))
 have h:=Nat.le_trans (m (Nat.le_trans (m (Nat.le_trans (m (Nat.le_trans (m (Nat.le_trans e1 (Nat.le_add_right e (X*0)))) (Nat.le_add_left _ d))) (Nat.le_add_left _ c))) (Nat.le_add_left _ b))) (Nat.le_add_left _ a)
 rw [Nat.mul_one] at h
 exact Nat.le_trans (Nat.le_of_eq (by rw [Nat.pow_succ,Nat.pow_succ,Nat.pow_succ,Nat.pow_succ,Nat.pow_zero,Nat.one_mul,Nat.mul_assoc,Nat.mul_assoc])) h
theorem tF {a M:Nat} (h:2 ^ M<=a):M<ay (a:Int):=by
 refine Nat.lt_of_not_le fun q=>?_
 have:=fu q
 rw [Int.natAbs_natCast] at this
 exact absurd this (Nat.not_lt.mpr h)
theorem Lo (c0 c1 c2:Int):∃ y P,lH c0 c1 c2 y P:=by
 obtain⟨y,g⟩:=Lk c0 c1
 obtain⟨w5,w9⟩:=nS (c2:=c2)
 have hw:∀ c∈bG [bq c0,bq c1],c<2 ^ jo c2:=fun c hc=>Nat.lt_of_lt_of_le (g.c c hc) (show 2 ^ 5<=2 ^ jo c2 from Nat.pow_le_pow_right (by decide) w5)
 have h4:=g.h
 have e5:(bG [bq c0,bq c1]).length=5:=rfl
 have lt5:=IZ (w:=jo c2) hw
 have dg5:=I1 (w:=jo c2) hw
 have te:=Fb (w:=jo c2) (ls:=y.ents.map dG.row) (t:=[]) fun l hl=>by
  obtain⟨e,he,zq⟩:=List.mem_map.mp hl;rw [<- zq]
  exact g.ok.r e he
 rw [g.t,Bh] at te
 have ge4:(2 ^ jo c2) ^ 4<=fQ (2 ^ jo c2) (bG [bq c0,bq c1]):=by
  generalize bG [bq c0,bq c1]=C at *
  clear lt5 dg5 te
  obtain⟨_,C1,rfl,f1⟩:=lO e5
  obtain⟨_,C2,rfl,f2⟩:=lO f1
  obtain⟨_,C3,rfl,f3⟩:=lO f2
  obtain⟨_,C4,rfl,f4⟩:=lO f3
  obtain⟨_,C5,zq,f5⟩:=lO f4;clear f4 f3 f2 f1 hw e5;subst zq
  rw [List.eq_nil_of_length_eq_zero f5]
  exact I4 h4
 rw [e5] at lt5 dg5
 generalize fQ (2 ^ jo c2) (bG [bq c0,bq c1])=P at *
 rw [<- Nat.pow_mul] at ge4
 have b1:=tF ge4
 have b2:ay (P:Int)<=5*jo c2:=cN lt5
 have dg:jL (jo c2) P=5:=by
  unfold jL
  refine Nat.div_eq_of_lt_le ?_ ?_
  ·omega
  ·omega
 have sl:=rM (c2:=c2)
 have F1:ay ((P:Nat):Int)<=50000:=by omega
 refine (mF y P ⟨⟨I3,Fg,g.r⟩,g.ok,g.n,g.hd,te,F1,?_,by rw [dg];decide,by rw [dg];exact dg5,tA _,tA _⟩)
 obtain⟨l0,hl0⟩:=g.hd
 have np:0<y.ents.length:=by rw [hl0];exact Nat.succ_pos _
 have d0:0<dB c2 y:=Nat.mul_pos np iM
 have d1:2 ^ 40<=dB c2 y:=by
  refine Nat.le_trans (Nat.le_trans (Nat.pow_le_pow_right (show 0<2 by decide) sl.1) (Nat.le_add_right (2 ^ k6 c2) (3 ^ (k6 c2 / 2)))) ?_
  exact Nat.le_mul_of_pos_left _ np
 have d2:=tF d1
 have d3:=kJ d0
 have d4:dA c2 (y.ents.length*P)<2 ^ (5*jo c2+ay (dB c2 y:Int)):=by
  have h1:dA c2 (y.ents.length*P)<(P+1)*dB c2 y:=by
   delta dA dB
   have:=Nat.lt_of_lt_of_le (nT (c2:=c2)) (Nat.le_mul_of_pos_left (mC c2) np)
   rw [Nat.succ_mul,Nat.mul_comm y.ents.length P,Nat.mul_assoc]
   omega
  rw [Nat.pow_add]
  exact Nat.lt_of_lt_of_le h1 (Nat.mul_le_mul (Nat.succ_le_of_lt lt5) (Nat.le_of_lt d3.2.2))
 have d5:=cN d4
 unfold jL
 generalize ay (dB c2 y:Int)=n at *
 refine Nat.le_of_lt_succ ((Nat.div_lt_iff_lt_mul (by omega)).mpr ?_)
 have:257*41<=257*n:=Nat.mul_le_mul_left _ d2
 omega
end
section
variable {V:aD} {k:Nat} {g:Gl} {fd:FuncData} {s:Stmt} {ss:List Stmt} {st:St} {fl:Fl} {Q:St->Prop} {R:List GObj->Prop} {es:List DictEntry}
theorem dS (H:an V k g) (h:Hy g (aj g 11) EH s st fun fl st1=>fl=.next/\Q st1) (f:∀ st1,Q st1->∃ G',fO V (k+1) fd ss EH st1 fl G'/\R G'):∃ G',fO V (k+1) fd (s::ss) EH st fl G'/\R G' :=
 sL (d7 H 11) H h fun fl1 st1 h1 q=>by
  obtain⟨rfl,q⟩:=q
  obtain⟨G',h2,h3⟩:=f st1 q
  exact (aa G' (fO.cons h1 h2) h3)
structure Ce (V:aD) (k:Nat) (es:List DictEntry):Prop where
 gb:an V k (gB es)
 a1:an V k (g1 es)
 a3:an V k (g3 es)
 a8:an V k (g8 es)
 a9:an V k (ID es)
 a10:an V k (LU es)
 a11:an V k (LV es)
 a14:an V k (IH es)
 a15:an V k (II es)
 a16:an V k (ES es)
 a17:an V k (LZ es)
 a18:an V k (KT es)
 a19:an V k (KU es)
 a20:an V k (KY es)
 a21:an V k (L1 es)
 a22:an V k (IV es)
noncomputable def G0:List GObj:=[.tab 0,.tab 1,.tab 2]
noncomputable def L0:Lx:=⟨7,4,8,5,6,3⟩
theorem rR {f:Nat->Bool} {l:List Nat} (h:∀ c∈l,c<128):∀ c∈(wd f l).flatten,c<128:=fun c hc=>by
 obtain⟨z,hz,hc⟩:=List.mem_flatten.mp hc
 obtain⟨d,hd,zq⟩:=List.mem_map.mp hz;clear hz;subst zq
 cases q:f d with
 | true =>
  rw [q] at hc
  rcases List.mem_cons.mp hc with rfl | hc
  ·decide
  ·rw [List.mem_singleton.mp hc];exact h d hd
 | false=>rw [q] at hc;rw [List.mem_singleton.mp hc];exact h d hd
theorem yA {y w:Nat} {l:List Nat} (hw:w<128) (h:∀ c∈l,c<128):∀ c∈bB y w l,c<128:=by
 have g:∀ (a b:List Nat),(∀ c∈a,c<128)->(∀ c∈b,c<128)->∀ c∈a++b,c<128:=fun a b ha hb c hc=>(List.mem_append.mp hc).elim (ha c) (hb c)
 have o:∀ z,z<128->∀ c∈[z],c<128:=fun z hz c hc=>by rw [List.mem_singleton.mp hc];exact hz
 unfold bB
 cases y==0 with
 | true=>exact g _ _ (g _ _ (o 34 (by decide)) (rR h)) (o 34 (by decide))
 | false =>
  cases y==1 with
  | true=>exact g _ _ (rR h) (o w hw)
  | false=>exact g _ _ (rR h) (o w hw)
theorem Bn (H:Ce V k es) {sc:List Int} (hs:sc.length<=100):∃ G',fO V (k+1) fd jn EH ⟨[("script",.val (.dat (.list (zs sc))))],G0⟩ (.ret (.dat (.bool true))) G'/\∀ i<3,G'[i]?=some (.tab i):=by
 refine dS (Q:=fun st1=>∃ c0 c1 c2,st1=⟨[("script",.val (.dat (.list (zs sc)))),("cells",.lst (zs [c0,c1,c2]))],G0⟩) (ss:=jn.drop 1) H.gb (KH hs fun c0 c1 c2=>⟨rfl,(yP c0 c1 c2 rfl)⟩) ?_
 rintro _ ⟨c0,c1,c2,rfl⟩
 have r0:=gz c0
 have r1:=gz c1
 have w0:bU (wA c0 c2):=tD iN r0
 have w1:bU (wB c1 c2):=tD iO r1
 obtain⟨y,P,F⟩:=Lo c0 c1 c2
 refine dS (Q:=fun st1=>st1=_) (ss:=jn.drop 2) H.a1 (KI ⟨rfl,rfl⟩) ?_
 rintro _ rfl
 refine dS (Q:=fun st1=>st1=_) (ss:=jn.drop 3) H.gb (KJ ⟨rfl,rfl⟩) ?_
 rintro _ rfl
 refine dS (Q:=fun st1=>st1=_) (ss:=jn.drop 4) H.a3 (KK ⟨rfl,rfl⟩) ?_
 rintro _ rfl
 refine dS (Q:=fun st1=>st1=_) (ss:=jn.drop 5) H.gb (KL ⟨rfl,rfl⟩) ?_
 rintro _ rfl
 refine dS (Q:=fun st1=>st1=_) (ss:=jn.drop 6) H.gb (KM ⟨rfl,rfl⟩) ?_
 rintro _ rfl
 refine dS (Q:=fun st1=>st1=_) (ss:=jn.drop 7) H.gb (KN ⟨rfl,rfl⟩) ?_
 rintro _ rfl
 refine dS (Q:=fun st1=>st1=_) (ss:=jn.drop 8) H.gb (KP r0 r1 ⟨rfl,rfl⟩) ?_
 rintro _ rfl
 refine dS (Q:=fun st1=>st1=_) (ss:=jn.drop 9) H.a8 (KQ w0 w1 ⟨rfl,rfl⟩) ?_
 rintro _ rfl
 refine dS (Q:=fun st1=>st1=⟨ρ8 sc c0 c1 c2 [("lexer",.val (.obj L0.j))],G0++i3 (jp c0 c1 c2) 3⟩) (ss:=jn.drop 10) H.a9 (KR w0 w1 rfl ⟨rfl,rfl⟩) ?_
 rintro _ rfl
 have tz:=rN w0 w1
 have X:aU L0 (G0++i3 (jp c0 c1 c2) 3) (hU c0 c1 c2++tlW) 1:=⟨rfl,rfl,rfl,rfl,by rw [List.length_append];exact Nat.le_trans (Nat.add_le_add_right tz 9) (by decide),fun c hc=>by
  rcases List.mem_append.mp hc with hc | hc
  ·rcases List.mem_append.mp hc with hc | hc
   ·exact yA yg w0.2 c hc
   ·exact yA yg w1.2 c hc
  ·have g:∀ c∈tlW,c<128:=by decide
   exact g c hc⟩
 have ps:L0.p≠L0.s:=by decide
 refine dS (Q:=fun st1=>st1=_) (ss:=jn.drop 11) H.a10 (IE (L:=L0) (n:=1) (r:=tlW) (qd iN) (qd iO) X rfl ps ⟨rfl,rfl⟩) ?_
 rintro _ rfl
 have X2:=X.go (r:=tlW) (n:=1+eJ (hU c0 c1 c2)) (by decide) (by decide)
 have hp:(iy L0 (G0++i3 (jp c0 c1 c2) 3) tlW (1+eJ (hU c0 c1 c2)))[L0.p]?=some (.lst []):=rfl
 have ht:∀ i<3,(iy L0 (G0++i3 (jp c0 c1 c2) 3) tlW (1+eJ (hU c0 c1 c2)))[i]?=some (.tab i):=fun i hi=>match i,hi with
  | 0,_=>rfl
  | 1,_=>rfl
  | 2,_=>rfl
  | i+3,h=>absurd h (Nat.not_lt.mpr (Nat.le_add_left 3 i))
 generalize iy L0 (G0++i3 (jp c0 c1 c2) 3) tlW (1+eJ (hU c0 c1 c2))=G at *
 refine dS (Q:=fun st1=>st1=_) (ss:=jn.drop 12) H.a11 (IF w0 w1 ⟨rfl,rfl⟩) ?_
 rintro _ rfl
 refine dS (Q:=fun st1=>st1=_) (ss:=jn.drop 13) H.gb (IG r0 r1 ⟨rfl,rfl⟩) ?_
 rintro _ rfl
 refine dS (Q:=fun st1=>st1=_) (ss:=jn.drop 14) H.gb (IJ w0 w1 ⟨qc iN r0,qc iO r1⟩ ⟨rfl,rfl⟩) ?_
 rintro _ rfl
 refine dS (Q:=fun st1=>st1=_) (ss:=jn.drop 15) H.a14 (IM r0 r1 ⟨rfl,rfl⟩) ?_
 rintro _ rfl
 refine dS (Q:=fun st1=>st1=_) (ss:=jn.drop 16) H.a15 (IN r0 r1 ⟨rfl,rfl⟩) ?_
 rintro _ rfl
 refine dS (Q:=fun st1=>∃ G',TS L0 G.length (G.length+1) tlW (1+eJ (hU c0 c1 c2)) (fC (bg (pA c2)) (bg (pB c2)) (y.ents.drop 24)) (ak (bg (pA c2)) (bg (pB c2)) y.ents) G'/\st1=⟨ρ16 sc c0 c1 c2 L0.j G.length y [],G'⟩) (ss:=jn.drop 17) H.a16 (IO F.mn X2 hp ps ht fun G' T=>⟨rfl,(aa G' T rfl)⟩) ?_
 rintro _ ⟨G',T,rfl⟩
 rw [List.drop_eq_nil_of_le F.n] at T
 have ho:=mB (m:=bg (pA c2)) (n:=bg (pB c2)) F.ok
 refine dS (Q:=fun st1=>st1=_) (ss:=jn.drop 18) H.a17 (IP F.mn ⟨rfl,rfl⟩) ?_
 rintro _ rfl
 refine dS (Q:=fun st1=>st1=_) (ss:=jn.drop 19) H.a18 (IQ T.h ho ⟨rfl,rfl⟩) ?_
 rintro _ rfl
 refine dS (Q:=fun st1=>st1=_) (ss:=jn.drop 20) H.a19 (IS F.mn F.ok T.h ⟨rfl,rfl⟩) ?_
 rintro _ rfl
 refine dS (Q:=fun st1=>st1=_) (ss:=jn.drop 21) H.a20 (IT F.ok T ⟨rfl,rfl⟩) ?_
 rintro _ rfl
 refine dS (Q:=fun st1=>st1=⟨ρ21 sc c0 c1 c2 L0.j G.length y (1+eJ (hU c0 c1 c2)) P,G'⟩) (ss:=jn.drop 22) H.a21 (IU F.tot T.h (T.t 1 (by decide)) (T.t 2 (by decide)) F.dd ⟨rfl,by rw [F.div.1,F.div.2];rfl⟩) ?_
 rintro _ rfl
 exact sL (d7 H.a22 11) H.a22 (IW (K:=fun fl st=>fl=.ret (.dat (.bool true))/\∀ i<3,st.G[i]?=some (.tab i)) F w0 w1 T rfl fun ι ι h5=>⟨rfl,h5⟩) fun fl1 st1 h1 q=>by
  obtain⟨rfl,q⟩:=q
  exact (aa _ (Ex.F (oK h1)) q)
end
theorem be.weak {V:aD} {k:Nat} {v:Value} {φ ψ:Ctr} (c:be V k v φ) (h:∀ as G K,ψ as G K->φ as G K):be V k v ψ:=fun as G K z=>c as G K (h as G K z)
theorem be.le {V:aD} {k j:Nat} {v:Value} {φ:Ctr} (c:be V k v φ) (h:k<=j):be V j v φ:=by
 induction h with
 | refl=>exact c
 | step _ ih=>exact ih.up
noncomputable abbrev yB (V:aD) (f:Str):Prop:=∃ a,V.mg f=some (.ref a)/\fP V a (aH (bx f)) (ao f) (cS f) .none .none
noncomputable abbrev fG (V:aD) (cl:Nat) (c f:Str) (a:Addr):Prop:=fP V a (aH (Ay c f)) (aO (Ay c f)) (fJ (Ay c f)) .none .none/\jw V cl f a
structure Jz (V:aD) (es:List DictEntry):Prop where
 hd:HX V
 it:Bi V "iter" (.builtin "iter")
 tb:∃ a n,V.mg "EXACT_TOKEN_TYPES"=some (.ref a)/\V.K a=some { cls:=.type "dict",data:=.dict es.toArray n }/\(a==sysModules)=false/\∀ e∈es,∃ x t,e.key=.str x t/\e.hash=PyData.keyHash V.w.params x
 tk:gQ es
 v1:∃ t,V.mg "_DIV_LIMIT"=some (.int 4000 t)
 v2:∃ t,V.mg "NT_OFFSET"=some (.int 256 t)
 v3:∃ t,V.mg "ENDMARKER"=some (.int 0 t)
 fn:∀ f∈([("_div2n1n":Str),"_div3n2n","_divmod_pos","ISEOF","ISTERMINAL","ISNONTERMINAL","_law_operators","_law_cut","_law_spelled","_law_order","_law_led","_law_turns","_law_due","_law_rings","_law_total","_law_choices"]:List Str),yB V f
 i2:∃ a,V.mg "_int2digits"=some (.ref a)/\fP V a (aH (bx "_int2digits")) (ao "_int2digits") (cS "_int2digits") .none .none/\uH V a 1 "inner" (mr (d8 (ao "_int2digits") 1))
 d2:∃ a,V.mg "_digits2int"=some (.ref a)/\fP V a (aH (bx "_digits2int")) (ao "_digits2int") (cS "_digits2int") .none .none/\uH V a 2 "inner" (pu "_digits2int")
 lx:∃ a,V.mg "_law_lexer"=some (.ref a)/\fP V a (aH (bx "_law_lexer")) (ao "_law_lexer") (cS "_law_lexer") .none .none/\(∀ fd o,V.K a=some o->o.data=.func fd->zJ V 0 fd.code/\∀ L b,(fS fd L b).qual++"<lambda>"=(V.tab 0).qual)
 lp:(V.tab 0).pos=nA
 ll:V.lam=⟨py,pz,ix,(V.tab 0).qual⟩
 cl0:∃ mN f,bK V 0 mN/\mN "__init__"=some (.ref f)/\mN "read"=none/\fP V f (aH (lD "__init__")) (aO (lD "__init__")) (fJ (lD "__init__")) .none .none
 cl1:∃ mN f,bK V 1 mN/\mN "__init__"=some (.ref f)/\fP V f (aH (hD "__init__")) (aO (hD "__init__")) (fJ (hD "__init__")) (.ref 170) .none
 g0:V.mg "_netrclex"=some (.ref (V.cls 0))
 g1:V.mg "Headers"=some (.ref (V.cls 1))
 k0:bQ V (.ref (V.cls 0))
 k1:bQ V (.ref (V.cls 1))
 f0:∀ p∈gLx.fld,∃ mN,bK V p.1 mN/\mN p.2=none/\dE p.2
 f1:∀ p∈gH.fld,∃ mN,bK V p.1 mN/\mN p.2=none/\dE p.2
 nr:dE "read"
 rc:fP V V.rc (aH (lD "_read_char")) (aO (lD "_read_char")) (fJ (lD "_read_char")) .none .none/\jw V 0 "_read_char" V.rc/\km V 0 "_read_char" V.rc
 gt:∃ a,fG V 0 "_netrclex" "get_token" a
 pt:∃ a,fG V 0 "_netrclex" "push_token" a
 cv:∃ a,fG V 1 "Headers" "_convert_string_type" a
 ge:∃ a m,fP V a (aH (hD "get")) (aO (hD "get")) (fJ (hD "get")) (.ref 225) .none/\jw V 1 "get" a/\V.K 225=some (gO m)
 n1:∃ m,V.K 170=some (gO m)
 ln:∃ a,fG V 1 "Headers" "__len__" a
 ke:∃ a,fG V 1 "Headers" "keys" a
 im:∃ a,fG V 1 "Headers" "items" a
 sd:∃ a,fG V 1 "Headers" "setdefault" a
 ad:∃ a,fG V 1 "Headers" "add_header" a
section
variable {V:aD} {es:List DictEntry} {k:Nat}
theorem bh (O:Jz V es):an V k (gB es):=by
 have vr:∀ {n:Int} {t:Tok},∀ γ B,VR γ B (.int n t) (aI n):=fun γ B=>Rd.int _ _
 obtain⟨t1,h1⟩:=O.v1
 obtain⟨t2,h2⟩:=O.v2
 obtain⟨t3,h3⟩:=O.v3
 refine { dM O.hd.base.bi O.hd.base.rf with val:=fun x av h=>?_,tbl:=fun x z h=>?_ }
 ·rcases lookup_cons h with ⟨rfl,rfl⟩ | h
  ·exact (aa _ (.inl h1) vr)
  rcases lookup_cons h with ⟨rfl,rfl⟩ | h
  ·exact (aa _ (.inl h2) vr)
  rcases lookup_cons h with ⟨rfl,rfl⟩ | h
  ·exact (aa _ (.inl h3) vr)
  ·exact dc h
 ·rcases lookup_cons h with ⟨rfl,rfl⟩ | h
  ·exact O.tb
  ·exact dc h
end
noncomputable def FC (V:aD) (k:Nat) (f:Str) (φ:Ctr):Prop:=∃ v,V.mg f=some v/\bQ V v/\be V k v φ
noncomputable def MC (V:aD) (k cl:Nat) (f:Str) (φ:Ctr):Prop:=∃ a,jw V cl f a/\be V k (.ref a) φ
section
variable {V:aD} {es:List DictEntry} {k j cl:Nat} {g:Gl} {f c:Str} {ps:List Str} {φ:Ctr}
theorem FC.le (h:FC V j f φ) (hk:j<=k):FC V k f φ:=k1_3 h fun v h1 h2 h3=>(aB v h1 h2 (h3.le hk))
theorem MC.le (h:MC V j cl f φ) (hk:j<=k):MC V k cl f φ:=k1_2 h fun v h1 h3=>(aa v h1 (h3.le hk))
theorem an.fc (H:an V k g) (h:FC V k f φ):an V k (g.addFn f φ):=by
 obtain⟨v,h1,h2,h3⟩:=h
 exact H.addFn h1 h2 h3
theorem an.mc (H:an V k g) (h:MC V k cl f φ):an V k (g.addMe cl f φ):=by
 obtain⟨v,h1,h3⟩:=h
 exact H.addMe h1 h3
theorem df (H:an V j g) (F:yB V f) (hp:Internal.Pos (aH (bx f)) ps) (hs:bS (cS f) ps=true) (w:∀ as G K,φ as G K->eE g f ps as G K):FC V (j+2) f φ:=by
 obtain⟨a,h1,h2⟩:=F
 exact (aB _ h1 h2.keep ((jJ H h2 hp hs 12).weak w))
theorem tG (H:an V j g) (F:∃ a,fG V cl c f a) (hp:Internal.Pos (aH (Ay c f)) ps) (hs:bS (fJ (Ay c f)) ps=true) (w:∀ as G K,φ as G K->nu g c f ps as G K):MC V (j+2) cl f φ:=by
 obtain⟨a,h1,h2⟩:=F
 exact (aa _ h2 ((jJ H h1 hp hs 12).weak w))
section
variable (O:Jz V es)
include O
theorem I5:FC V 2 "ISEOF" (nH fun x=>x==0):=df (bh (k:=0) O) (O.fn _ (by decide +kernel)) (gZ fun ι ι=>by kernel_rfl) (by decide +kernel) fun ι ι ι h=>El h
theorem I6:FC V 2 "ISTERMINAL" (nH fun x=>decide (x<256)):=df (bh (k:=0) O) (O.fn _ (by decide +kernel)) (gZ fun ι ι=>by kernel_rfl) (by decide +kernel) fun ι ι ι h=>Em h
theorem Fh:FC V 2 "ISNONTERMINAL" (nH fun x=>decide (x>=256)):=df (bh (k:=0) O) (O.fn _ (by decide +kernel)) (gZ fun ι ι=>by kernel_rfl) (by decide +kernel) fun ι ι ι h=>AL h
theorem I7:FC V 2 "_law_operators" ctrOps:=df (bh (k:=0) O) (O.fn _ (by decide +kernel)) (ps:=[]) (Pos.of fun vs hl fd=>by cases List.eq_nil_of_length_eq_zero hl;kernel_rfl) (by decide +kernel) fun ι ι ι h=>by
 obtain⟨zq,h⟩:=h;rw [zq];exact En h
theorem I8:FC V 2 "_law_order" ctrOrd:=df (bh (k:=0) O) (O.fn _ (by decide +kernel)) (ps:=["x"]) (gZ fun ι ι=>by kernel_rfl) (by decide +kernel) fun ι ι ι h=>by
 obtain⟨x,zq,h⟩:=h;rw [zq];exact Eo h
theorem Cf:FC V 2 "_law_led" (fun as G K=>∃ r o,as=[az (tokS (lt r)),az (tokS (lt o))]/\aY r/\aY o/\K (.val (az (tokS (lt (dQ r o))))) G):=df (bh (k:=0) O) (O.fn _ (by decide +kernel)) (ps:=["row","order"]) (nj fun ι ι ι=>by kernel_rfl) (by decide +kernel) fun ι ι ι h=>by
 obtain⟨r,o,zq,h1,h2,h⟩:=h;rw [zq];exact Ep h1.r (Nat.le_of_eq h1.len) h2.len h
theorem I9:FC V 2 "_law_cut" ctrCut:=df (bh (k:=0) O) (O.fn _ (by decide +kernel)) (gZ fun ι ι=>by kernel_rfl) (by decide +kernel) fun ι ι ι h=>Ez O.tk h
theorem Lp:FC V 2 "_law_spelled" ctrSp:=df (bh (k:=0) O) (O.fn _ (by decide +kernel)) (w7 fun ι ι ι ι=>by kernel_rfl) (by decide +kernel) fun ι ι ι h=>Iq h
theorem Lq:FC V 2 "_law_choices" ctrCh:=df (bh (k:=0) O) (O.fn _ (by decide +kernel)) (gZ fun ι ι=>by kernel_rfl) (by decide +kernel) fun ι ι ι h=>Il h
theorem Ja:FC V 4 "_law_due" ctrDu:=df ((bh O).fc (Cf O)) (O.fn _ (by decide +kernel)) (nj fun ι ι ι=>by kernel_rfl) (by decide +kernel) fun ι ι ι h=>Iu h
theorem Lr:FC V 4 "_law_rings" ctrRg:=df ((bh O).fc (I5 O)) (O.fn _ (by decide +kernel)) (gZ fun ι ι=>by kernel_rfl) (by decide +kernel) fun ι ι ι h=>xK h
theorem Cg:FC V 20 "_digits2int" (nn 2 2):=by
 obtain⟨a,h1,h2,h3⟩:=O.d2
 exact (aB _ h1 h2.keep (At h2 h3 O.hd.base))
theorem Ch:FC V 20 "_int2digits" (nq 1 1):=by
 obtain⟨a,h1,h2,h3⟩:=O.i2
 exact (aB _ h1 h2.keep (Aw h2 h3 O.hd.base))
theorem Jb:FC V 22 "_law_total" ctrTo:=df (((bh O).fc (Cg O)).fc ((Lr O).le (by decide))) (O.fn _ (by decide +kernel)) (nj fun ι ι ι=>by kernel_rfl) (by decide +kernel) fun ι ι ι h=>Er h
theorem yC:FC V 22 "_divmod_pos" ctrDp:=by
 have p3:Internal.Pos (aH (bx "_div2n1n")) ["a","b","n"]:=w7 fun ι ι ι ι=>by kernel_rfl
 have s3:bS (cS "_div2n1n") ["a","b","n"]=true:=by decide +kernel
 have d1:an V 2 (HF es):=(bh O).fc (df (bh (k:=0) O) (O.fn _ (by decide +kernel)) p3 s3 fun ι ι ι h=>h)
 have d2:an V 4 (DY es):=d1.up.up.fc (df d1 (O.fn _ (by decide +kernel)) (Pos.of fun vs hl fd=>by
  obtain⟨_,v1,zq,h1⟩:=lO hl;rw [zq]
  obtain⟨_,v2,zq,h2⟩:=lO h1;rw [zq]
  obtain⟨_,v3,zq,h3⟩:=lO h2;rw [zq]
  obtain⟨_,v4,zq,h4⟩:=lO h3;rw [zq]
  obtain⟨_,v5,zq,h5⟩:=lO h4;rw [zq]
  obtain⟨_,v6,zq,h6⟩:=lO h5;rw [zq]
  rw [List.eq_nil_of_length_eq_zero h6]
  kernel_rfl) (by decide +kernel) fun ι ι ι h=>h)
 have d3:an V 6 (LI es):=d2.up.up.fc (df d2 (O.fn _ (by decide +kernel)) p3 s3 fun ι ι ι h=>h)
 have dP:an V 20 (gP es):=((d3.le (by decide)).fc (Ch O)).fc (Cg O)
 exact df dP (O.fn _ (by decide +kernel)) (ps:=["a","b"]) (nj fun ι ι ι=>by kernel_rfl) (by decide +kernel) fun ι ι ι h=>by
  obtain⟨a,b,zq,h1,h2,h3,h4,h5,h⟩:=h;rw [zq]
  exact HW h1 h2 h3 h4 h5 h
theorem lj:an V 5 gH:=by
 obtain⟨a,h1,h2⟩:=O.cv
 refine { dM O.hd.base.bi O.hd.base.rf with mkw:=fun cl n φ h=>?_,fld:=O.f1 }
 rcases po h with ⟨rfl,rfl,rfl⟩ | h
 ·exact (aa a h2 (xi O.hd h1))
 ·exact ni h
theorem Jc:MC V 7 1 "get" ctrGet:=by
 obtain⟨a,m,h1,h2,h3⟩:=O.ge
 exact (aa a h2 (AA (lj O) h1 h3))
theorem tH:MC V 7 1 "items" ctrItems:=by
 obtain⟨a,h1,h2⟩:=O.im
 exact (aa a h2 (uM (lj O) h1))
theorem Ci:MC V 7 1 "add_header" ctrAdd':=by
 obtain⟨a,h1,h2⟩:=O.ad
 exact (aa a h2 ((AD (lj O) h1).weak fun ι ι ι h=>Ix h))
theorem rS:MC V 7 1 "keys" ctrKeys:=tG (lj O) O.ke (ps:=["self"]) (gZ fun ι ι=>by kernel_rfl) (by decide +kernel) fun ι ι ι h=>by
 obtain⟨j,q,items,zq,h1,h2,h⟩:=h;rw [zq];exact AB h1 h2 h
theorem Cj:MC V 7 1 "__len__" ctrLen:=tG (lj O) O.ln (ps:=["self"]) (gZ fun ι ι=>by kernel_rfl) (by decide +kernel) fun ι ι ι h=>by
 obtain⟨j,q,items,zq,h1,h2,h⟩:=h;rw [zq];exact Az h1 h2 h
theorem Ck:MC V 9 1 "setdefault" ctrSet:=tG ((lj O).up.up.mc (Jc O)) O.sd (w7 fun ι ι ι ι=>by kernel_rfl) (by decide +kernel) fun ι ι ι h=>Iw h
theorem Jd:FC V 8 "Headers" ctrNewH:=by
 obtain⟨mN,f,X,hi,F⟩:=O.cl1
 obtain⟨m,hm⟩:=O.n1
 exact (aB _ O.g1 O.k1 (xn O.hd (lj O) X hi F hm))
theorem jW:an V 2 gLx:=Ed O.hd.base ⟨_,O.ll⟩ O.f0
theorem Fi:MC V 6 0 "get_token" ctrGet':=by
 obtain⟨a,h1,h2⟩:=O.gt
 exact (aa a h2 ((Ef O.it O.rc.2.2 (H7 (jW O) O.rc.1 O.rc.2.1) h1).weak fun ι ι ι h=>Iv h))
theorem Fj:MC V 4 0 "push_token" ctrPush:=tG (jW O) O.pt (nj fun ι ι ι=>by kernel_rfl) (by decide +kernel) fun ι ι ι h=>ED h
theorem Fk:FC V 5 "_netrclex" ctrNewL:=by
 obtain⟨mN,f,X,hi,_,F⟩:=O.cl0
 exact (aB _ O.g0 O.k0 (xD (jW O) X hi F))
theorem Ls:FC V 8 "_law_lexer" (xE 0):=by
 obtain⟨a,h1,h2,h3⟩:=O.lx
 obtain⟨mN,f,X,hi,hr,F⟩:=O.cl0
 exact (aB _ h1 h2.keep (Ek (mg:=.none) (((jW O).le (by decide)).fc (Fk O)) h2 h3 O.lp O.ll X hr O.nr))
theorem Lu:FC V 11 "_law_turns" ctrTu:=by
 have h:an V 9 (EE es):=((((((bh O).fc ((Cf O).le (by decide))).fc ((Jd O).le (by decide))).mc ((Ci O).le (by decide))).mc (Ck O)).mc ((Fi O).le (by decide))).mc ((Fj O).le (by decide))
 exact df h (O.fn _ (by decide +kernel)) (w7 fun ι ι ι ι=>by kernel_rfl) (by decide +kernel) fun ι ι ι h=>Iz h
theorem Fm:Ce V 22 es:=by
 have gl:an V 22 ({ gB es with fld:=[(0,"lineno")] }:Gl):={ bh O with fld:=fun p hp=>O.f0 p (by rw [List.mem_singleton.mp hp];exact .head _) }
 exact⟨bh O,(bh O).fc ((I8 O).le (by decide)),(bh O).fc ((I7 O).le (by decide)),(bh O).fc ((Lp O).le (by decide)),(bh O).fc ((Ls O).le (by decide)),(bh O).mc ((Fi O).le (by decide)),(bh O).fc ((I9 O).le (by decide)),(bh O).fc ((Fh O).le (by decide)),(bh O).fc ((I6 O).le (by decide)),(bh O).fc ((Lu O).le (by decide)),(bh O).fc ((Ja O).le (by decide)),(bh O).mc ((tH O).le (by decide)),((bh O).mc ((tH O).le (by decide))).mc ((rS O).le (by decide)),(gl.fc (Jb O)).mc ((rS O).le (by decide)),((bh O).fc (yC O)).mc ((Cj O).le (by decide)),
  ((((((((gl.fc (yC O)).fc ((Ch O).le (by decide))).fc ((Lq O).le (by decide))).mc ((Fi O).le (by decide))).mc ((Cj O).le (by decide))).mc ((Ci O).le (by decide))).mc ((Ck O).le (by decide))).mc ((rS O).le (by decide)))⟩
end
end
theorem yD {V:aD} {es:List DictEntry} {a:Addr} (O:Jz V es) (F:fP V a (aH (bx "law")) jn EH .none .none) {l:List Int} (hs:l.length<=100):∃ G',bp V 24 a [.dat (.list (zs l))] [] G0 (.val (.dat (.bool true))) G'/\∀ i<3,G'[i]?=some (.tab i):=by
 obtain⟨rv,G',c,rfl,t⟩:=kE (k:=23) (G:=G0) (K:=fun rv G'=>rv=.val (.dat (.bool true))/\∀ i<3,G'[i]?=some (.tab i)) F (gZ (p1:="script") fun ι ι=>by kernel_rfl) (by decide +kernel) (as:=[.dat (.list (zs l))]) rfl fun fd o e1 e2 e3=>by
  obtain⟨G',h,t⟩:=Bn (fd:=fd) (Fm O) hs
  exact (cQ _ G' h nofun rfl t)
 exact (aa G' c t)
noncomputable abbrev KF (H:Frag):PM:=fun a=>H.lookup a
noncomputable def JA:Data->Option FuncData
 | .func fd=>some fd
 | _=>none
noncomputable def L4:Data->Option (Array Value)
 | .fields vs=>some vs
 | _=>none
noncomputable def JB:Data->Option (Array DictEntry)
 | .dict es _=>some es
 | _=>none
noncomputable def Lv:Value->Option Str
 | .str q _=>some q
 | _=>none
noncomputable def L6:Value->Option Addr
 | .ref c=>some c
 | _=>none
theorem Fn {d:Data} {fd:FuncData} (h:JA d=some fd):d=.func fd:=by
 cases d<;>first | cases h;done | exact congrArg _ (Option.some.inj h)
theorem Fo {d:Data} {vs:Array Value} (h:L4 d=some vs):d=.fields vs:=by
 cases d<;>first | cases h;done | exact congrArg _ (Option.some.inj h)
theorem Fp {d:Data} {es:Array DictEntry} (h:JB d=some es):∃ ep,d=.dict es ep:=by
 cases d<;>first | cases h;done | exact⟨_,congrArg (Data.dict · _) (Option.some.inj h)⟩
theorem yE {v:Value} {q:Str} (h:Lv v=some q):∃ t,v=.str q t:=by
 cases v<;>first | cases h;done | exact⟨_,congrArg (Value.str · _) (Option.some.inj h)⟩
theorem Fq {v:Value} {c:Addr} (h:L6 v=some c):v=.ref c:=by
 cases v<;>first | cases h;done | exact congrArg _ (Option.some.inj h)
noncomputable def gp (H:Frag) (a:Addr):FuncData:=((H.lookup a).bind fun o=>JA o.data).getD default
noncomputable def Fr (H:Frag) (a:Addr):Bool:=((H.lookup a).bind fun o=>(JA o.data).bind fun fd=>(L6 fd.code).bind fun c=>(H.lookup c).bind fun (oc:Obj)=>(L4 oc.data).bind fun vs=>(vs[1]?).bind fun v=>(Lv v).bind fun q =>
 some (fd.closure.isEmpty&&fd.globals==mainGlobals&&fd.builtins==builtinsNs&&o.cls==.type "function"&&fd.kwdefaults==.none&&q==fd.qualname))==some true
noncomputable abbrev Fs:Type:=Arguments×FuncBody×Scope×Value
noncomputable def Je (fd:FuncData):Fs:=(fd.params,fd.body,fd.scope,fd.defaults)
noncomputable def Cl (d:Option (Arguments×List Stmt×Scope)) (dV:Value):Fs:=(aH d,.stmts (aO d),fJ d,dV)
theorem tI {H:Frag} {a:Addr} {o:Obj} {fd:FuncData} (h:H.lookup a=some o) (hd:o.data=.func fd):gp H a=fd:=by
 delta gp;rw [h]
 show (JA o.data).getD default=fd
 rw [hd];rfl
theorem Ft {V:aD} {H:Frag} {a:Addr} {d:Option (Arguments×List Stmt×Scope)} {dV:Value} (hK:Le (KF H) V.K) (h1:Fr H a=true) (h2:Je (gp H a)=Cl d dV):fP V a (aH d) (aO d) (fJ d) dV .none:=by
 obtain⟨o,ho,h⟩:=bF (eq_of_beq h1)
 obtain⟨fd,hd,h⟩:=bF h
 obtain⟨c,hc,h⟩:=bF h
 obtain⟨oc,hoc,h⟩:=bF h
 obtain⟨vs,hvs,h⟩:=bF h
 obtain⟨v,hv,h⟩:=bF h
 obtain⟨q,hq,h⟩:=bF h
 have h:=Option.some.inj h
 clear h1
 simp only [Bool.and_eq_true,beq_iff_eq] at h
 obtain⟨⟨⟨⟨⟨e1,e2⟩,e3⟩,e4⟩,e5⟩,e6⟩:=h
 have hd:=Fn hd
 rw [tI ho hd] at h2
 obtain⟨q1,h2⟩:=Prod.mk.inj h2
 obtain⟨q2,h2⟩:=Prod.mk.inj h2
 obtain⟨q3,q4⟩:=Prod.mk.inj h2
 obtain⟨t,ht⟩:=yE hq
 refine⟨fd,o,hK _ _ ho,e4,hd,q1,q2,q3,by simpa using e1,e2,e3,q4,e5,aa c (Fq hc) (cA oc vs t (hK _ _ hoc) (Fo hvs) (by rw [hv,ht,e6]))⟩
noncomputable def aX (H:Frag) (a:Addr):Array DictEntry:=((H.lookup a).bind fun o=>JB o.data).getD #[]
noncomputable def rU (H:Frag) (a:Addr):Bool:=((H.lookup a).bind fun o=>(JB o.data).bind fun es=>some (es.all fun e=>(Lv e.key).isSome))==some true
theorem yF {H:Frag} {a:Addr} (h:rU H a=true):∃ o,H.lookup a=some o/\vv o (nsFind (aX H a)):=by
 obtain⟨o,ho,h2⟩:=bF (eq_of_beq h)
 clear h
 obtain⟨es,he,h2⟩:=bF h2
 obtain⟨ep,hd⟩:=Fp he
 refine (aa o ho (aF es ep hd (fun e he=>?_) (fun x=>?_)))
 ·have:=(Array.all_eq_true_iff_forall_mem.mp (Option.some.inj h2)) e he
  obtain⟨q,hq⟩:=Option.isSome_iff_exists.mp this
  obtain⟨t,ht⟩:=yE hq
  exact (mF q t ht)
 ·delta aX;rw [ho]
  show _=nsFind ((JB o.data).getD #[]) x
  rw [he];rfl
theorem aN {α β:Type} {l:List α} {f g:α->β} {i:Nat} {a:α} (h:l.map f=l.map g) (hi:l[i]?=some a):f a=g a:=by
 have:=congrArg (·[i]?) h
 simp only [List.getElem?_map,hi,Option.map_some] at this
 exact Option.some.inj this
theorem gA {α:Type} {l:List α} {f:α->Bool} {i:Nat} {a:α} (h:l.all f=true) (hi:l[i]?=some a):f a=true :=
 List.all_eq_true.mp h a (List.mem_of_getElem? hi)
section
open PySem.Builtin PySem.Builtin.Re
noncomputable def Fu:Value->Tok
 | .str _ t=>t
 | .int _ t=>t
 | _=>0
noncomputable def Fv (P:PySem.Params) (p:(List Nat×Nat)×DictEntry):DictEntry:=⟨PyData.keyHash P (tokS p.1.1),.str (tokS p.1.1) (Fu p.2.key),.int (p.1.2:Int) (Fu p.2.val)⟩
theorem Cn {P:PySem.Params} (z:List Nat):∀ (l:List (List Nat×Nat)) (m:List DictEntry),l.length<=m.length->(l.find? (fun e=>e.1==z)=none/\((l.zip m).map (Fv P)).find? (fun e=>Value.isStrOf (tokS z) e.key)=none)\/∃ (y:List Nat) (n:Nat) (e:DictEntry) (t:Tok),l.find? (fun e=>e.1==z)=some (y,n)/\((l.zip m).map (Fv P)).find? (fun e=>Value.isStrOf (tokS z) e.key)=some e/\e.val=.int (n:Int) t
 | [],_,_=>.inl ⟨rfl,rfl⟩
 | p::l,[],h=>absurd h (Nat.not_succ_le_zero _)
 | (y,n)::l,e::m,h=>by
  have e1:Value.isStrOf (tokS z) (Fv P ((y,n),e)).key=(y==z):=pF
  rw [List.zip_cons_cons,List.map_cons,List.find?_cons,List.find?_cons,e1]
  cases q:y==z with
  | true=>exact .inr (FW y n (Fv P ((y,n),e)) (Fu e.val) rfl rfl rfl)
  | false=>exact Cn z l m (Nat.le_of_succ_le_succ h)
theorem Fw {P:PySem.Params} {es m:List DictEntry} (h:es=(nK.zip m).map (Fv P)) (hl:nK.length<=m.length):gQ es:=fun z=>by
 delta tk findBy
 rw [List.find?_toArray]
 rcases Cn (P:=P) z nK m hl with ⟨h1,h2⟩ | ⟨y,n,e,t,h1,h2,h3⟩
 ·refine .inl ⟨by rw [h1];rfl,?_⟩
  rw [h,h2];rfl
 ·refine .inr (ba n t (by rw [h1];rfl) ?_)
  rw [h,h2,Option.map_some,h3]
theorem Bo {P:PySem.Params} {es m:List DictEntry} (h:es=(nK.zip m).map (Fv P)):∀ e∈es,∃ x t,e.key=.str x t/\e.hash=PyData.keyHash P x:=fun e he=>by
 rw [h] at he
 obtain⟨p,_,zq⟩:=List.mem_map.mp he;rw [<- zq]
 exact (ba _ _ rfl rfl)
noncomputable def Co:List (Addr×Option (Arguments×List Stmt×Scope)×Value):=[(45,bx "_div2n1n",.none),(52,bx "_div3n2n",.none),(73,bx "_divmod_pos",.none),(139,bx "ISEOF",.none),(125,bx "ISTERMINAL",.none),(132,bx "ISNONTERMINAL",.none),(303,bx "_law_operators",.none),(308,bx "_law_cut",.none),(313,bx "_law_spelled",.none),(320,bx "_law_order",.none),(325,bx "_law_led",.none),(330,bx "_law_turns",.none),(337,bx "_law_due",.none),(344,bx "_law_rings",.none),(349,bx "_law_total",.none),(354,bx "_law_choices",.none),
 (59,bx "_int2digits",.none),(66,bx "_digits2int",.none),(296,bx "_law_lexer",.none),(359,bx "law",.none),
 (87,lD "__init__",.none),(94,lD "_read_char",.none),(101,lD "get_token",.none),(108,lD "push_token",.none),
 (177,hD "__init__",.ref 170),(184,hD "_convert_string_type",.none),(232,hD "get",.ref 225),(191,hD "__len__",.none),(237,hD "keys",.none),(249,hD "items",.none),(275,hD "setdefault",.none),(282,hD "add_header",.none)]
noncomputable def JC:List (Str×Addr):=[("_div2n1n",45),("_div3n2n",52),("_divmod_pos",73),("ISEOF",139),("ISTERMINAL",125),("ISNONTERMINAL",132),("_law_operators",303),("_law_cut",308),("_law_spelled",313),("_law_order",320),("_law_led",325),("_law_turns",330),("_law_due",337),("_law_rings",344),("_law_total",349),("_law_choices",354),("_int2digits",59),("_digits2int",66),("_law_lexer",296),("law",359),
 ("_netrclex",111),("Headers",285),("EXACT_TOKEN_TYPES",116),("_name_disallowed_re",149),("_value_disallowed_re",154),("__builtins__",4)]
noncomputable def Lw:List (Str×Int×Tok):=[("_DIV_LIMIT",4000,291),("NT_OFFSET",256,521),("ENDMARKER",0,423)]
noncomputable def FP:List (Str×Value):=jG++([("iter",.builtin "iter"),("type",.type "type"),("str",.type "str")]:List (Str×Value))
noncomputable def JD:List (Addr×Str×Addr):=[(110,"__init__",87),(110,"_read_char",94),(110,"get_token",101),(110,"push_token",108),(284,"__init__",177),(284,"_convert_string_type",184),(284,"get",232),(284,"__len__",191),(284,"keys",237),(284,"items",249),(284,"setdefault",275),(284,"add_header",282)]
noncomputable def L7:List (Addr×Str):=[(110,"__getattribute__"),(110,"__getattr__"),(110,"__setattr__"),(284,"__getattribute__"),(284,"__getattr__"),(284,"__setattr__"),(110,"lineno"),(110,"instream"),(110,"whitespace"),(110,"pushback"),(110,"read"),(284,"_headers")]
noncomputable abbrev Fx (nm:Str) (C N:Addr) (a b:Tok):Obj:=excClassObj nm nm C N [.type "object"] [.type "object"] true [] [] false none none none none (some (.str nm a)) (some (.str nm b)) (some (.bool true)) "object.__new__"
structure tJ (prog:Program) (P:PySem.Params) (H:Frag):Prop where
 fn1:Co.all (fun t=>Fr H t.1)=true
 fn2:Co.map (fun t=>Je (gp H t.1))=Co.map fun t=>Cl t.2.1 t.2.2
 mg:JC.map (fun p=>nsFind (aX H 3) p.1)=JC.map fun p=>some (.ref p.2)
 vi:Lw.map (fun p=>nsFind (aX H 3) p.1)=Lw.map fun p=>some (.int p.2.1 p.2.2)
 bi:FP.map (fun p=>nsFind (aX H 3) p.1)=FP.map fun ι=>none
 dk:[(3:Addr),110,284].all (rU H)=true
 c0:H.lookup 111=some (Fx "_netrclex" 111 110 363 371)
 c1:H.lookup 285=some (Fx "Headers" 285 284 747 755)
 me:JD.map (fun p=>nsFind (aX H p.1) p.2.1)=JD.map fun p=>some (.ref p.2.2)
 no:L7.map (fun p=>nsFind (aX H p.1) p.2)=L7.map fun ι=>none
 d0:H.lookup 225=some (gO 0)
 d1:H.lookup 170=some (gO 0)
 co:(codeHdIn H 58 54&&codeHdIn H 65 61&&codeHdIn H 295 291)=true
 cd:[(59:Addr),66,296].map (fun a=>((gp H a).code,(gp H a).qualname))=([(.ref 58,"_int2digits"),(.ref 65,"_digits2int"),(.ref 295,"_law_lexer")]:List (Value×Str))
 b1:findIn H (.ref 111) "__getattribute__"=some (some (.builtin "object.__getattribute__"))
 b2:findIn H (.ref 111) "__getattr__"=some none
 b3:typeIn H (.ref 94)=some (.type "function")
 b4:hasDictIn H 111=true
 b5:findIn H (.ref 111) "_read_char"=some (some (.ref 94))
 b6:specialIn H (.ref 94) "__get__"=some (some (.builtin "function.__get__"))
 b7:takesIn H (.ref 94)=some false
 rn:∀ x t,PySem.W.peek H ⟨prog,P⟩ (reTarget "re.Pattern.search" "search" ⟨[.ref 149,.str x t],[]⟩)=some ⟨.ref 149,.str x t,cE,x.cps,0,0,min 0 x.cps.size,min (2 ^ 63-1) x.cps.size⟩
 rv:∀ x t,PySem.W.peek H ⟨prog,P⟩ (reTarget "re.Pattern.search" "search" ⟨[.ref 154,.str x t],[]⟩)=some ⟨.ref 154,.str x t,bZ,x.cps,0,0,min 0 x.cps.size,min (2 ^ 63-1) x.cps.size⟩
 rc:[(149:Addr),154].map (fun a=>(H.lookup a).map fun o=>(o.cls,o.dict))=([some (.type "re.Pattern",none),some (.type "re.Pattern",none)]:List (Option (Value×Option Addr)))
 tb:H.lookup 116=some { cls:=.type "dict",data:=.dict (aX H 116) 48 }
 tk:(aX H 116).toList=(nK.zip (aX H 116).toList).map (Fv P)
 tl:(aX H 116).size=48
end
section
open PySem.Builtin PySem.Builtin.Re
structure VH (V:aD) (H:Frag):Prop where
 k:Le (KF H) V.K
 mg:∀ x,V.mg x=nsFind (aX H 3) x
 mb:∀ x:Str,x≠"__name__"->V.mb x=bootBuiltins x
 c0:V.cls 0=111
 c1:V.cls 1=285
 t0:V.tab 0=⟨291,nA,"_law_lexer.<locals>.<lambda>"⟩
 t1:V.tab 1=⟨54,mr (d8 (ao "_int2digits") 1),"_int2digits.<locals>.inner"⟩
 t2:V.tab 2=⟨61,pu "_digits2int","_digits2int.<locals>.inner"⟩
 lam:V.lam=⟨py,pz,ix,"_law_lexer.<locals>.<lambda>"⟩
 rc:V.rc=94
 bm:∃ ob,V.K 4=some ob/\ob.cls=.type "module"/\ob.dict=some builtinsNs/\ob.data=.plain
theorem vd:dE "lineno":=by unfold dE;rw [typeLookup_type,builtinLookup_eq_fast];kernel_rfl
theorem qe:dE "instream":=by unfold dE;rw [typeLookup_type,builtinLookup_eq_fast];kernel_rfl
theorem lJ:dE "whitespace":=by unfold dE;rw [typeLookup_type,builtinLookup_eq_fast];kernel_rfl
theorem qf:dE "pushback":=by unfold dE;rw [typeLookup_type,builtinLookup_eq_fast];kernel_rfl
theorem tK:dE "read":=by unfold dE;rw [typeLookup_type,builtinLookup_eq_fast];kernel_rfl
theorem rV:dE "_headers":=by unfold dE;rw [typeLookup_type,builtinLookup_eq_fast];kernel_rfl
theorem n7:dE "_read_char":=by unfold dE;rw [typeLookup_type,builtinLookup_eq_fast];kernel_rfl
theorem n8:dE "get_token":=by unfold dE;rw [typeLookup_type,builtinLookup_eq_fast];kernel_rfl
theorem lK:dE "push_token":=by unfold dE;rw [typeLookup_type,builtinLookup_eq_fast];kernel_rfl
theorem fH:dE "_convert_string_type":=by unfold dE;rw [typeLookup_type,builtinLookup_eq_fast];kernel_rfl
theorem Fy:dE "get":=by unfold dE;rw [typeLookup_type,builtinLookup_eq_fast];kernel_rfl
theorem Bp:dE "keys":=by unfold dE;rw [typeLookup_type,builtinLookup_eq_fast];kernel_rfl
theorem yG:dE "items":=by unfold dE;rw [typeLookup_type,builtinLookup_eq_fast];kernel_rfl
theorem lM:dE "setdefault":=by unfold dE;rw [typeLookup_type,builtinLookup_eq_fast];kernel_rfl
theorem lN:dE "add_header":=by unfold dE;rw [typeLookup_type,builtinLookup_eq_fast];kernel_rfl
theorem Fz:dE "__len__":=by unfold dE;rw [typeLookup_type,builtinLookup_eq_fast];kernel_rfl
theorem Jf:FP.map (fun p=>bootBuiltins p.1)=FP.map fun p=>some p.2:=by kernel_rfl
theorem Jg:(FP.all fun p=>p.1 != "__name__")=true:=by kernel_rfl
section
variable {V:aD} {H:Frag} (S:VH V H) (h:tJ V.prog V.w.params H)
include S h
theorem cz {i:Nat} {a:Addr} {d:Option (Arguments×List Stmt×Scope)} {dV:Value} (e:Co[i]?=some (a,d,dV)):fP V a (aH d) (aO d) (fJ d) dV .none:=by
 have h1:=gA h.fn1 e
 have h2:=aN h.fn2 e
 exact Ft S.k h1 h2
theorem gq {i:Nat} {a:Addr} {x:Str} (e:JC[i]?=some (x,a)):V.mg x=some (.ref a):=(S.mg x).trans (aN h.mg e)
theorem yH {i:Nat} {n:Int} {t:Tok} {x:Str} (e:Lw[i]?=some (x,n,t)):∃ t,V.mg x=some (.int n t):=⟨t,(S.mg x).trans (aN h.vi e)⟩
theorem tL {p:Str×Value} (e:p∈FP):Bi V p.1 p.2 :=
 ⟨(S.mg _).trans (List.map_inj_left.mp h.bi p e),(S.mb _ (by simpa using List.all_eq_true.mp Jg p e)).trans (List.map_inj_left.mp Jf p e)⟩
theorem yI {c:Nat} {C N:Addr} {nm:Str} {a b:Tok} (hc:V.cls c=C) (ho:H.lookup C=some (Fx nm C N a b)) (hd:rU H N=true) (n1:nsFind (aX H N) "__getattribute__"=none) (n2:nsFind (aX H N) "__getattr__"=none) (n3:nsFind (aX H N) "__setattr__"=none):bK V c (nsFind (aX H N)):=by
 obtain⟨o,e1,e2⟩:=yF hd
 exact⟨⟨N,⟨(tS _ _ _ _ _ _ _ (yQ _ _ _ _ _ (by rw [hc];exact S.k _ _ ho))),o,S.k _ _ e1,e2⟩⟩,n1,n2,n3⟩
theorem qg:bK V 0 (nsFind (aX H 110)):=yI S h S.c0 h.c0 (gA h.dk (i:=1) rfl) (aN h.no (i:=0) rfl) (aN h.no (i:=1) rfl) (aN h.no (i:=2) rfl)
theorem Bq:bK V 1 (nsFind (aX H 284)):=yI S h S.c1 h.c1 (gA h.dk (i:=2) rfl) (aN h.no (i:=3) rfl) (aN h.no (i:=4) rfl) (aN h.no (i:=5) rfl)
theorem Cp {cl:Nat} {N f:Addr} {x:Str} {args:Arguments} {b:List Stmt} {sc:Scope} {dV:Value} (X:bK V cl (nsFind (aX H N))) (F:fP V f args b sc dV .none) (hm:nsFind (aX H N) x=some (.ref f)) (nb:dE x):jw V cl x f:=by
 obtain⟨fd,o,h1,h2,h3,_⟩:=F.ex
 exact⟨_,o,fd,_,X,hm,h1,h2,h3,nb⟩
theorem m0 {i j:Nat} {a:Addr} {x:Str} {d:Option (Arguments×List Stmt×Scope)} {dV:Value} (e:Co[i]?=some (a,d,dV)) (e':JD[j]?=some (110,x,a)) (nb:dE x):jw V 0 x a:=Cp S h (qg S h) (cz S h e) (aN h.me e') nb
theorem m1 {i j:Nat} {a:Addr} {x:Str} {d:Option (Arguments×List Stmt×Scope)} {dV:Value} (e:Co[i]?=some (a,d,dV)) (e':JD[j]?=some (284,x,a)) (nb:dE x):jw V 1 x a:=Cp S h (Bq S h) (cz S h e) (aN h.me e') nb
theorem Cq {i:Nat} {c T:Addr} {fd:FuncData} (hc:fd.code=.ref c) (ht:(V.tab i).at_=T) (hT:mainGlobals≠T) (hh:codeHdIn H c T=true):zJ V i fd.code:=by
 obtain⟨ob,b1,b2,b3,b4⟩:=S.bm
 exact⟨(oh 4 ob (gq S h (i:=25) rfl) (by decide) (by decide) b1 b2 b3 b4),(aa c hc (fun hp i=>by rw [ht];exact codeHd_of_K (fun a o e=>i _ _ (S.k _ _ e)) hh)),by rw [ht];exact hT⟩
theorem Cr {a:Addr} {fd:FuncData} {o:Obj} (hk:Fr H a=true) (h1:V.K a=some o) (h2:o.data=.func fd):fd=gp H a:=by
 obtain⟨o',ho,_⟩:=bF (eq_of_beq hk)
 rw [S.k _ _ ho] at h1
 cases h1
 exact (tI ho h2).symm
theorem Cs {r:Addr} {code:Array Nat} (hc:code=cE\/code=bZ) (h1:(H.lookup r).map (fun o=>(o.cls,o.dict))=some (.type "re.Pattern",none)) (h2:∀ x t,PySem.W.peek H ⟨V.prog,V.w.params⟩ (reTarget "re.Pattern.search" "search" ⟨[.ref r,.str x t],[]⟩)=some ⟨.ref r,.str x t,code,x.cps,0,0,min 0 x.cps.size,min (2 ^ 63-1) x.cps.size⟩):Hb V r:=by
 obtain⟨ro,e1,e2⟩:=Option.map_eq_some_iff.mp h1
 obtain⟨e2,e3⟩:=Prod.mk.inj e2
 exact⟨H,ro,code,S.k,e1,e2,e3,hc,h2⟩
theorem bV (i:Nat) {f:Str} {a:Addr} (e:JC[i]?=some (f,a)) (e':Co[i]?=some (a,bx f,.none)):yB V f:=(aa a (gq S h e) (cz S h e'))
end
end
section
open PySem.Builtin PySem.Builtin.Re
section
variable {V:aD} {H:Frag} (S:VH V H) (h:tJ V.prog V.w.params H)
include S h
theorem tM {i:Nat} {a c T:Addr} {q nm:Str} {d:Option (Arguments×List Stmt×Scope)} {p:PySem.Pos} (j:Nat) (e:Co[j]?=some (a,d,.none)) (hcd:((gp H a).code,(gp H a).qualname)=((.ref c,q):Value×Str)) (ht:(V.tab i).at_=T) (hT:mainGlobals≠T) (hh:codeHdIn H c T=true) (hp:(V.tab i).pos=p) (hq:(V.tab i).qual=q++(".<locals>.":Str)++nm)
  (hg:∀ fd L b,fd.scope=fJ d->(fS fd L b).kindOf nm≠some .globalExplicit):uH V a i nm p :=
 ⟨fun fd o h1 h2=>by
  have hk:=gA h.fn1 e
  have zq:=Cr S h hk h1 h2;clear h2;subst zq
  obtain⟨q1,q2⟩:=Prod.mk.inj hcd
  refine⟨Cq S h q1 ht hT hh,fun L b=>?_⟩
  have hs:(gp H a).scope=fJ d:=(congrArg (fun x:Fs=>x.2.2.1) (aN h.fn2 e))
  unfold qualnameIn
  rw [if_neg (fun z=>hg _ L b hs (eq_of_beq z)),hq,<- q2];rfl,hp⟩
theorem tN:codeHdIn H 58 54=true/\codeHdIn H 65 61=true/\codeHdIn H 295 291=true:=by
 obtain⟨h1,h2⟩:=Bool.and_eq_true_iff.mp h.co
 obtain⟨h1,h3⟩:=Bool.and_eq_true_iff.mp h1
 exact (am h1 h3 h2)
theorem yJ:((gp H 59).code,(gp H 59).qualname)=((.ref 58,"_int2digits"):Value×Str)/\((gp H 66).code,(gp H 66).qualname)=((.ref 65,"_digits2int"):Value×Str)/\((gp H 296).code,(gp H 296).qualname)=((.ref 295,"_law_lexer"):Value×Str):=by
 have e:=h.cd
 obtain⟨e1,e⟩:=List.cons.inj e
 obtain⟨e2,e⟩:=List.cons.inj e
 exact (am e1 e2 ((List.cons.inj e).1))
theorem FA:HX V:=by
 obtain⟨o,fd,e1,_,e2⟩:=(cz S h (i:=21) rfl).fn
 obtain⟨c1,e⟩:=List.cons.inj h.rc
 obtain⟨c2,_⟩:=List.cons.inj e
 exact⟨⟨fun p hp=>tL S h (List.mem_append_left _ hp),o,fd,by rw [S.rc];exact e1,e2⟩,tL S h (p:=("type",.type "type")) (List.mem_append_right _ (.tail _ (.head _))),tL S h (p:=("str",.type "str")) (List.mem_append_right _ (.tail _ (.tail _ (.head _)))),
  (aa 149 (gq S h (i:=23) rfl) (Cs S h (.inl rfl) c1 h.rn)),(aa 154 (gq S h (i:=24) rfl) (Cs S h (.inr rfl) c2 h.rv))⟩
theorem ve {N:Addr} {cl:Nat} {x:Str} (X:bK V cl (nsFind (aX H N))) (hn:nsFind (aX H N) x=none) (nb:dE x):∃ mN,bK V cl mN/\mN x=none/\dE x:=(aB _ X hn nb)
theorem yK:km V 0 "_read_char" V.rc:=by
 rw [S.rc]
 refine⟨H,S.k,?_,?_,h.b3,fun od hl=>?_⟩
 ·rw [S.c0];exact h.b1
 ·rw [S.c0];exact h.b2
 ·rw [S.c0];exact findObj_fn h.b4 h.b5 h.b6 h.b7 (by decide +kernel) hl
theorem Jh:∃ a,V.mg "_law_lexer"=some (.ref a)/\fP V a (aH (bx "_law_lexer")) (ao "_law_lexer") (cS "_law_lexer") .none .none/\(∀ fd o,V.K a=some o->o.data=.func fd->zJ V 0 fd.code/\∀ L b,(fS fd L b).qual++"<lambda>"=(V.tab 0).qual) :=
 (aB 296 (gq S h (i:=18) rfl) (cz S h (i:=18) rfl) (fun fd o h1 h2=>by
  have hk:=gA h.fn1 (i:=18) rfl
  have zq:=Cr S h hk h1 h2;clear h2;subst zq
  obtain⟨q1,q2⟩:=Prod.mk.inj (yJ S h).2.2
  refine⟨Cq S h q1 (by rw [S.t0]) (by decide) (tN S h).2.2,fun L b=>?_⟩
  show ((gp H 296).qualname++(".<locals>.":Str))++"<lambda>"=_
  rw [q2,S.t0];kernel_rfl))
theorem FD:Jz V (aX H 116).toList where
 hd:=FA S h
 it:=tL S h (p:=("iter",.builtin "iter")) (List.mem_append_right _ (.head _))
 tb:=(cQ 116 48 (gq S h (i:=22) rfl) (by rw [Array.toArray_toList];exact S.k _ _ h.tb) (by decide +kernel) (Bo h.tk))
 tk:=Fw h.tk (Nat.le_of_eq ((by decide +kernel:nK.length=48).trans (h.tl.symm.trans Array.length_toList.symm)))
 v1:=yH S h (i:=0) rfl
 v2:=yH S h (i:=1) rfl
 v3:=yH S h (i:=2) rfl
 fn:=fun f hf=>by
  iterate 15
   rcases List.mem_cons.mp hf with rfl | hf
   rotate_left
  all_goals try cases List.mem_singleton.mp hf
  exact bV S h 15 rfl rfl
  exact bV S h 0 rfl rfl
  exact bV S h 1 rfl rfl
  exact bV S h 2 rfl rfl
  exact bV S h 3 rfl rfl
  exact bV S h 4 rfl rfl
  exact bV S h 5 rfl rfl
  exact bV S h 6 rfl rfl
  exact bV S h 7 rfl rfl
  exact bV S h 8 rfl rfl
  exact bV S h 9 rfl rfl
  exact bV S h 10 rfl rfl
  exact bV S h 11 rfl rfl
  exact bV S h 12 rfl rfl
  exact bV S h 13 rfl rfl
  exact bV S h 14 rfl rfl
 i2:=(aB 59 (gq S h (i:=16) rfl) (cz S h (i:=16) rfl) (tM S h 16 rfl (yJ S h).1 (by rw [S.t1]) (by decide) (tN S h).1 (by rw [S.t1]) (by rw [S.t1];kernel_rfl) fun fd L b e=>by
  show fd.scope.names.lookup _≠_
  rw [e];decide +kernel))
 d2:=(aB 66 (gq S h (i:=17) rfl) (cz S h (i:=17) rfl) (tM S h 17 rfl (yJ S h).2.1 (by rw [S.t2]) (by decide) (tN S h).2.1 (by rw [S.t2]) (by rw [S.t2];kernel_rfl) fun fd L b e=>by
  show fd.scope.names.lookup _≠_
  rw [e];decide +kernel))
 lx:=Jh S h
 lp:=by rw [S.t0]
 ll:=by rw [S.lam,S.t0]
 cl0:=(cQ _ 87 (qg S h) (aN h.me (i:=0) rfl) (aN h.no (i:=10) rfl) (cz S h (i:=20) rfl))
 cl1:=(aF _ 177 (Bq S h) (aN h.me (i:=4) rfl) (cz S h (i:=24) rfl))
 g0:=by rw [S.c0];exact gq S h (i:=20) rfl
 g1:=by rw [S.c1];exact gq S h (i:=21) rfl
 k0:=oX (qg S h)
 k1:=oX (Bq S h)
 f0:=fun p hp=>by
  rcases List.mem_cons.mp hp with rfl | hp
  ·exact ve S h (qg S h) (aN h.no (i:=6) rfl) vd
  rcases List.mem_cons.mp hp with rfl | hp
  ·exact ve S h (qg S h) (aN h.no (i:=7) rfl) qe
  rcases List.mem_cons.mp hp with rfl | hp
  ·exact ve S h (qg S h) (aN h.no (i:=8) rfl) lJ
  rcases List.mem_cons.mp hp with rfl | hp
  ·exact ve S h (qg S h) (aN h.no (i:=9) rfl) qf
  cases List.mem_singleton.mp hp
  exact ve S h (qg S h) (aN h.no (i:=10) rfl) tK
 f1:=fun p hp=>by
  cases List.mem_singleton.mp hp
  exact ve S h (Bq S h) (aN h.no (i:=11) rfl) rV
 nr:=tK
 rc:=(am (by rw [S.rc];exact cz S h (i:=21) rfl) (by rw [S.rc];exact m0 S h (i:=21) (j:=1) rfl rfl n7) (yK S h))
 gt:=(aa 101 (cz S h (i:=22) rfl) (m0 S h (i:=22) (j:=2) rfl rfl n8))
 pt:=(aa 108 (cz S h (i:=23) rfl) (m0 S h (i:=23) (j:=3) rfl rfl lK))
 cv:=(aa 184 (cz S h (i:=25) rfl) (m1 S h (i:=25) (j:=5) rfl rfl fH))
 ge:=(aF 232 0 (cz S h (i:=26) rfl) (m1 S h (i:=26) (j:=6) rfl rfl Fy) (S.k _ _ h.d0))
 n1:=⟨0,S.k _ _ h.d1⟩
 ln:=(aa 191 (cz S h (i:=27) rfl) (m1 S h (i:=27) (j:=7) rfl rfl Fz))
 ke:=(aa 237 (cz S h (i:=28) rfl) (m1 S h (i:=28) (j:=8) rfl rfl Bp))
 im:=(aa 249 (cz S h (i:=29) rfl) (m1 S h (i:=29) (j:=9) rfl rfl yG))
 sd:=(aa 275 (cz S h (i:=30) rfl) (m1 S h (i:=30) (j:=10) rfl rfl lM))
 ad:=(aa 282 (cz S h (i:=31) rfl) (m1 S h (i:=31) (j:=11) rfl rfl lN))
theorem Br:fP V 359 (aH (bx "law")) jn EH .none .none:=cz S h (i:=19) rfl
theorem FE {l:List Int} (hs:l.length<=100):∃ G',bp V 24 359 [.dat (.list (zs l))] [] G0 (.val (.dat (.bool true))) G'/\∀ i<3,G'[i]?=some (.tab i):=yD (FD S h) (Br S h) hs
end
end
noncomputable def Ji (i:Nat):F8:=if i=0 then ⟨291,nA,"_law_lexer.<locals>.<lambda>"⟩ else if i=1 then ⟨54,mr (d8 (ao "_int2digits") 1),"_int2digits.<locals>.inner"⟩ else ⟨61,pu "_digits2int","_digits2int.<locals>.inner"⟩
noncomputable def FF (prog:Program) (w:World) (mg mb:Str->Option Value) (H:Frag) (ob:Obj):aD:=⟨prog,w,mg,mb,put (KF H) 4 ob,fun c=>if c=0 then 111 else 285,Ji,⟨py,pz,ix,"_law_lexer.<locals>.<lambda>"⟩,94,[]⟩
noncomputable def jA (a:Addr):Option Nat:=if a=291 then some 0 else if a=54 then some 1 else if a=61 then some 2 else none
theorem eU {a:Addr} {k:Nat} (h:jA a=some k):(k=0/\a=291)\/(k=1/\a=54)\/(k=2/\a=61):=by
 unfold jA at h
 split at h
 ·cases h;exact .inl ⟨rfl,‹_›⟩
 split at h
 ·cases h;exact .inr (.inl ⟨rfl,‹_›⟩)
 split at h
 ·cases h;exact .inr (.inr ⟨rfl,‹_›⟩)
 ·cases h
noncomputable def B0 (s:Shared):PM:=fun a=>if jA a=none then s.heap.get? a else none
noncomputable def w0 (s:Shared):W:=⟨[291,54,61],jA,emp,B0 s,emp,fun ι=>none,s⟩
theorem Jj {s:Shared} {a:Addr} {o:Obj} (h:B0 s a=some o):s.heap.get? a=some o:=by
 unfold B0 at h
 split at h
 ·exact h
 ·cases h
theorem lm {s:Shared} {a:Addr} {o:Obj} (h:s.heap.get? a=some o) (n:jA a=none):B0 s a=some o:=(if_pos n).trans h
theorem Jk {s:Shared} {a:Addr} {o:Obj} (hT:∀ P∈[(291:Addr),54,61],s.heap.get? P=some (tabObj #[])) (h:s.heap.get? a=some o) (n:o.cls≠.none):B0 s a=some o:=lm h (by
 cases q:jA a with
 | none=>rfl
 | some k =>
  have e:s.heap.get? a=some (tabObj #[]):=hT a (by rcases eU q with ⟨_,rfl⟩ | ⟨_,rfl⟩ | ⟨_,rfl⟩<;>decide)
  rw [h] at e;clear h q;cases e;exact absurd rfl n)
theorem MI {s:Shared} (hT:∀ P∈[(291:Addr),54,61],s.heap.get? P=some (tabObj #[])):Ok (w0 s) :=
 ⟨fun ι ι e=>(nomatch e),fun ι ι=>Jj,fun ι ι e=>(nomatch e),fun ι=>.inl rfl,fun ι=>.inl rfl,fun ι=>.inr rfl,fun a h=>by
  cases q:jA a with
  | none=>exact absurd q h
  | some k=>exact (a7 ⟨_,hT a (by rcases eU q with ⟨_,rfl⟩ | ⟨_,rfl⟩ | ⟨_,rfl⟩<;>decide)⟩ rfl (if_neg h) rfl)⟩
section
variable {prog:Program} {w:World} {mg mb:Str->Option Value} {H:Frag} {p:Program} {loose:List Str} {mean mean':ExcName->Option Value} {s:Shared}
theorem MJ (T:Top p loose mean mg mb s.heap) (X:H.In s.heap) (h:tJ prog w.params H):∃ ob,s.heap.get? 4=some ob/\VH (FF prog w mg mb H ob) H:=by
 obtain⟨o3,e3,es,ep,e4,_,e5⟩:=yF (gA h.dk (i:=0) rfl)
 obtain⟨o,es',ep',g1,g2,_,g3⟩:=T.g
 have q:=X _ _ e3
 have q':s.heap.get? 3=some o:=g1
 rw [q'] at q;clear e3;cases q
 rw [e4] at g2;cases g2
 have hm:∀ x,mg x=nsFind (aX H 3) x:=fun x=>(g3 x).symm.trans (e5 x)
 obtain⟨bm,ob,b1,_,b2,b3⟩:=T.bmain
 have b4:mg "__builtins__"=some (.ref 4):=(hm _).trans (aN h.mg (i:=25) rfl)
 rw [b4] at b1;clear a_1;cases b1
 refine (aa ob b2 ⟨fun a x e=>?_,hm,T.builtins,rfl,rfl,rfl,rfl,rfl,rfl,rfl,(aa ob (aK (KF H) 4 ob) b3)⟩)
 show put (KF H) 4 ob a=some x
 by_cases z:a=4
 ·subst z
  have:=X _ _ e
  rw [b2] at this;clear e;cases this
  exact aK (KF H) 4 _
 ·exact (dH z).trans e
theorem bs0 (T:Top p loose mean mg mb s.heap) (X:H.In s.heap) (hT:∀ P∈[(291:Addr),54,61],s.heap.get? P=some (tabObj #[])) (hn:[(291:Addr),54,61].map (fun a=>H.lookup a)=[none,none,none]) {ob:Obj} (e4:s.heap.get? 4=some ob):Bs (FF prog w mg mb H ob) (w0 s) G0:=by
 refine⟨MI hT,⟨?_,?_,?_,fun a o e=>?_⟩,⟨fun k a e=>(nomatch e),rfl,fun k ob e=>?_⟩⟩
 ·obtain⟨o,h1,h2⟩:=mG T.g
  exact (aa o (lm h1 (by decide)) h2)
 ·obtain⟨o,h1,h2⟩:=mG T.b
  exact (aa o (lm h1 (by decide)) h2)
 ·obtain⟨mc,h1,h3⟩:=T.nolimit
  obtain⟨o,h1,h2⟩:=mG h1
  exact (aF o mc (lm h1 (by decide)) h2 h3)
 ·rcases jX e with ⟨rfl,rfl⟩ | ⟨_,e⟩
  ·exact lm e4 (by decide)
  ·refine lm (X _ _ e) ?_
   cases q:jA a with
   | none=>rfl
   | some k =>
    obtain⟨e1,z⟩:=List.cons.inj hn
    obtain⟨e2,z⟩:=List.cons.inj z
    have e5:H.lookup 61=none:=(List.cons.inj z).1
    have e1:H.lookup 291=none:=e1
    have e2:H.lookup 54=none:=e2
    have e':H.lookup a=some o:=e
    rcases eU q with ⟨_,rfl⟩ | ⟨_,rfl⟩ | ⟨_,rfl⟩
    ·rw [e1] at e';cases e'
    ·rw [e2] at e';clear e;cases e'
    ·rw [e5] at e';clear e;cases e'
 ·match k,e with
  | 0,e=>cases e;exact (hX 291 rfl rfl rfl (.inl (hT _ (by decide))))
  | 1,e=>cases e;exact (hX 54 rfl rfl rfl (.inl (hT _ (by decide))))
  | 2,e=>cases e;exact (hX 61 rfl rfl rfl (.inl (hT _ (by decide))))
theorem Jl:dz 24 callerA:=⟨by decide +kernel,by decide +kernel,rfl⟩
theorem Ly {V:aD} {w':W} {G':List GObj} (b:Bs V w' G') (n:Nx (w0 s) w') (ht:V.tab=Ji) (hG:∀ i<3,G'[i]?=some (.tab i)) (hT:∀ P∈[(291:Addr),54,61],s.heap.get? P=some (tabObj #[])) (hc:∀ P∈[(291:Addr),54,61],isCodeTable s.heap P):OldK s.heap w'.s.heap:=by
 have grown:∀ a k,jA a=some k->a∈[(291:Addr),54,61]/\∃ ps,w'.s.heap.get? a=some (tabObj ps):=fun a k q=>by
  have m:a∈[(291:Addr),54,61]:=by rcases eU q with ⟨_,rfl⟩ | ⟨_,rfl⟩ | ⟨_,rfl⟩<;>decide
  have g:k<3/\(w0 s).γ[k]?=some a:=by rcases eU q with ⟨rfl,rfl⟩ | ⟨rfl,rfl⟩ | ⟨rfl,rfl⟩<;>exact⟨by decide,rfl⟩
  obtain⟨a',h1,h2⟩:=b.ob.at_ k _ (hG k g.1)
  rw [n.g _ _ g.2] at h1;cases h1
  rcases h2.2.2 with h | ⟨c,h,_⟩
  ·exact⟨m,⟨_,h⟩⟩
  ·exact⟨m,⟨_,h⟩⟩
 have keep:∀ a o,jA a=none->s.heap.get? a=some o->w'.s.heap.get? a=some o:=fun a o q e=>b.ok.b _ _ (n.b _ _ (lm e q))
 refine⟨fun a o e=>?_,fun a o e=>?_⟩
 ·cases q:jA a with
  | none=>exact .inl (keep a o q e)
  | some k =>
   obtain⟨m,ps,h⟩:=grown a k q
   rw [hT a m] at e;cases e
   exact .inr (.inl (am (hc a m) rfl (ba (#[]) ps rfl (by rw [Array.empty_append];exact h))))
 ·cases q:jA a with
  | none=>exact⟨o,keep a o q e⟩
  | some k =>
   obtain⟨m,ps,h⟩:=grown a k q
   exact⟨_,h⟩
theorem Jm {P:PySem.Params} {h:Heap} {B:PM} {l:List Int}:∀ {vs:List Value},WellAll P h vs (ofPys (l.map PyData.int))->cP B vs (zs l):=by
 induction l with
 | nil =>
  intro vs x
  have x:WellAll P h vs []:=x
  clear x;cases x
  exact .nil
 | cons i l ih =>
  intro vs x
  have x:WellAll P h vs (.int i::ofPys (l.map PyData.int)):=x
  cases x with
  | cons a b =>
   clear x;cases a
   exact .cons (.int _ _) (ih b)
theorem Bu {c:ClaimW} {cl:Str->Option Addr} {l:List Int} {a:Addr} (T:Top p loose mean mg mb s.heap) (X:H.In s.heap) (h:tJ prog w.params H) (hn:[(291:Addr),54,61].map (fun a=>H.lookup a)=[none,none,none])
  (hT8:∀ P∈[(291:Addr),61,54],s.heap.get? P=some (tabObj #[])) (hg:s.gens=#[]) {fa:Addr} (hm:mg "law"=some (.ref fa)) (hl:¬ (63:Int)<l.length) (hv:Well w.params s.heap (.ref a) (ofPy (.list (l.map .int))))
  (c1:∀ cls,c.raises [ofPy (.list (l.map .int))] cls=false) (c2:c.post [ofPy (.list (l.map .int))] (.bool true) [ofPy (.list (l.map .int))]=true) :
  wpAny (model prog w) callerA (call (.ref fa) [.ref a]) (fun v s'=>GoodWG c cl mean' [ofPy (.list (l.map .int))] s (.ok (.ret v)) s') (fun e s'=>GoodWG c cl mean' [ofPy (.list (l.map .int))] s (.error e) s') s:=by
 have hT:∀ P∈[(291:Addr),54,61],s.heap.get? P=some (tabObj #[]):=fun P hP=>hT8 P (by
  rcases List.mem_cons.mp hP with rfl | hP
  ·exact .head _
  rcases List.mem_cons.mp hP with rfl | hP
  ·exact .tail _ (.tail _ (.head _))
  ·cases List.mem_singleton.mp hP;exact .tail _ (.head _))
 obtain⟨ob,e4,VV⟩:=MJ T X h
 have b:=bs0 (prog:=prog) (w:=w) T X hT hn e4
 obtain⟨G',C,hG⟩:=FE (V:=FF prog w mg mb H ob) VV h (l:=l) (by omega)
 have:fa=359:=by
  have q:=gq VV h (i:=19) rfl
  have q':mg "law"=some (.ref 359):=q
  rw [hm] at q';clear hm;cases q';rfl
 clear hm;subst this
 obtain⟨hc1,hc2,hc3⟩:=(show codeHdIn H 58 54=true/\codeHdIn H 65 61=true/\codeHdIn H 295 291=true from tN VV h)
 have hct:∀ P∈[(291:Addr),54,61],isCodeTable s.heap P:=fun P hP=>by
  rcases List.mem_cons.mp hP with rfl | hP
  ·exact ((codeHd_of_K X hc3).tab (hT _ (by decide))).isCodeTable
  rcases List.mem_cons.mp hP with rfl | hP
  ·exact ((codeHd_of_K X hc1).tab (hT _ (by decide))).isCodeTable
  cases List.mem_singleton.mp hP
  exact ((codeHd_of_K X hc2).tab (hT _ (by decide))).isCodeTable
 have hv:Well w.params s.heap (.ref a) (.list (ofPys (l.map .int))):=hv
 cases hv with
 | @list _ vs _ e r =>
 have av:qm (w0 s).γ (w0 s).B [.ref a] [.dat (.list (zs l))]:=.cons (Rd.lst (n:=0) (Jk hT e nofun) (Jm r)) .nil
 exact C.call callerA (w0 s) [.ref a] [] Jl b av .nil _ _ fun u w' n y9934=>k0_4 y9934 fun b' ι ι x=>by
  obtain rfl:u=.bool true:=Rd.isBool x
  obtain⟨h1,tk,e1⟩:=n.s
  have eo:w'.s.os=s.os:=by rw [e1];rfl
  have eg:w'.s.gens=#[]:=by rw [e1];exact hg
  exact (a7 (.inl (oi _ (.bool true) ([]) rfl c1 (.bool true) c2 (fun ι=>⟨.nil,fun ι h=>nomatch h⟩))) (Ly b' n rfl hG hT hct) eo (.of_eq eg))
end
end
end Mine.Internal
namespace Mine
open Internal
section
local macro_rules (kind := Lean.Parser.Command.declaration)
  | s=>if s.getPos?.isNone then Lean.Macro.throwUnsupported else pure (s.rewriteBottomUp fun x=>x.setInfo .none)
namespace all
theorem tw17053130121481772103:True:=⟨⟩
theorem tw18109914907201487196:True:=⟨⟩
theorem tw16949009020806574942:True:=⟨⟩
theorem tw4631590275013254457:True:=⟨⟩
theorem tw10156424416328317940:True:=⟨⟩
theorem tw15158558636265767147:True:=⟨⟩
theorem tw13900070722340429276:True:=⟨⟩
theorem tw4031193125303016004:True:=⟨⟩
theorem tw17800948086707717751:True:=⟨⟩
theorem tw5247617807198155932:True:=⟨⟩
theorem tw397829171339713761:True:=⟨⟩
theorem tw4818641064637329869:True:=⟨⟩
theorem tw6742200501135914891:True:=⟨⟩
theorem tw16644902639655322133:True:=⟨⟩
theorem tw17292822351017121783:True:=⟨⟩
theorem tw18441473437031201941:True:=⟨⟩
theorem tw10407399669362838719:True:=⟨⟩
theorem tw17024970853492131554:True:=⟨⟩
theorem tw3357559941945735724:True:=⟨⟩
theorem tw16424727738075169484:True:=⟨⟩
theorem tw9385597778382524922:True:=⟨⟩
theorem tw14549113301119539810:True:=⟨⟩
theorem tw5002070824922625533:True:=⟨⟩
theorem tw12512054102949984058:True:=⟨⟩
theorem tw4244794441018138637:True:=⟨⟩
theorem tw9600454056292803967:True:=⟨⟩
theorem tw2781266215992413790:True:=⟨⟩
theorem tw17360653242477243975:True:=⟨⟩
theorem tw15671812041987572844:True:=⟨⟩
theorem tw12248520049373816357:True:=⟨⟩
theorem tw7546461858588002845:True:=⟨⟩
theorem tw5044639097624668846:True:=⟨⟩
theorem tw7317653850160689691:True:=⟨⟩
theorem tw17523770736405063376:True:=⟨⟩
theorem tw6946980451890315270:True:=⟨⟩
theorem tw16183010546200382306:True:=⟨⟩
theorem tw8486705261324164726:True:=⟨⟩
theorem tw15618092478124507917:True:=⟨⟩
theorem tw8968355716326206664:True:=⟨⟩
theorem tw1081408078033650336:True:=⟨⟩
theorem tw15242674970999812785:True:=⟨⟩
theorem tw13596499734656872166:True:=⟨⟩
theorem tw3630066180865283129:True:=⟨⟩
theorem tw18422150028754028023:True:=⟨⟩
theorem tw3282140407130366615:True:=⟨⟩
theorem tw1290094970999489009:True:=⟨⟩
theorem tw5718967094426423161:True:=⟨⟩
theorem tw15248031165874397040:True:=⟨⟩
theorem tw5615151462926910227:True:=⟨⟩
theorem tw4613487602407358717:True:=⟨⟩
theorem tw8285129875186350235:True:=⟨⟩
theorem tw5213130599944360801:True:=⟨⟩
theorem tw2690882624139800689:True:=⟨⟩
theorem tw16665526110328478529:True:=⟨⟩
theorem tw4831860214510110302:True:=⟨⟩
theorem tw13098716769926991806:True:=⟨⟩
theorem tw10677670038743541358:True:=⟨⟩
theorem tw10323370424266482742:True:=⟨⟩
theorem tw2286941943676669977:True:=⟨⟩
theorem tw3586251380002802234:True:=⟨⟩
theorem tw13215351417096909983:True:=⟨⟩
theorem tw4726450323565452186:True:=⟨⟩
theorem tw888978351763286717:True:=⟨⟩
theorem tw18058516629519361111:True:=⟨⟩
theorem tw7072849832022388479:True:=⟨⟩
theorem tw795402444562892265:True:=⟨⟩
theorem tw2997595627926355555:True:=⟨⟩
theorem tw15778654729900951400:True:=⟨⟩
theorem tw12381699962588209086:True:=⟨⟩
theorem tw15849158762323818722:True:=⟨⟩
theorem tw29985565223642888:True:=⟨⟩
theorem tw18440353960458814819:True:=⟨⟩
theorem tw5191467471856622273:True:=⟨⟩
theorem tw14832718209330476552:True:=⟨⟩
theorem tw10649901628825759099:True:=⟨⟩
theorem tw16779862611959906862:True:=⟨⟩
theorem tw16740921855470316824:True:=⟨⟩
theorem tw9111709882147129655:True:=⟨⟩
theorem tw10921597071642053482:True:=⟨⟩
theorem tw10696458614491829572:True:=⟨⟩
theorem tw6836359950869179439:True:=⟨⟩
theorem tw16592893570014863828:True:=⟨⟩
theorem tw9833964599435250050:True:=⟨⟩
theorem tw11961059351148515626:True:=⟨⟩
theorem tw15298119835317213847:True:=⟨⟩
theorem tw11951307492845570281:True:=⟨⟩
theorem tw16857469709051444266:True:=⟨⟩
theorem tw5675193095830314289:True:=⟨⟩
theorem tw5727973534668710794:True:=⟨⟩
theorem tw10393596885623623503:True:=⟨⟩
theorem tw8678582069086723682:True:=⟨⟩
theorem tw2531900633515307401:True:=⟨⟩
theorem tw5815207240830897808:True:=⟨⟩
theorem tw14044709251442629906:True:=⟨⟩
theorem tw13113687655016186724:True:=⟨⟩
theorem tw13057232943065969744:True:=⟨⟩
theorem tw201708328148552895:True:=⟨⟩
theorem tw4302931102428780990:True:=⟨⟩
theorem tw16339503202031470875:True:=⟨⟩
theorem tw8749193726656077916:True:=⟨⟩
theorem tw10389294372677164839:True:=⟨⟩
theorem tw18120535436291149196:True:=⟨⟩
theorem tw9496632788025766839:True:=⟨⟩
theorem tw9609096358927944886:True:=⟨⟩
theorem tw898707613593260451:True:=⟨⟩
theorem tw12428716410969305734:True:=⟨⟩
theorem tw7855422573467142813:True:=⟨⟩
theorem tw7888970235439995493:True:=⟨⟩
theorem tw17468886310826310451:True:=⟨⟩
theorem tw11736780227944870738:True:=⟨⟩
theorem tw11230645906715702508:True:=⟨⟩
theorem tw2638793534194840904:True:=⟨⟩
theorem tw1172340538976468734:True:=⟨⟩
theorem tw15651733941924773997:True:=⟨⟩
theorem tw5463181917568680212:True:=⟨⟩
theorem tw5362506446432344171:True:=⟨⟩
theorem tw11091474679367250208:True:=⟨⟩
theorem tw12447178028490564450:True:=⟨⟩
theorem tw11139934685464864865:True:=⟨⟩
theorem tw17447734377096445370:True:=⟨⟩
theorem tw5439016543574858206:True:=⟨⟩
theorem tw2842816785644039571:True:=⟨⟩
theorem tw2000609977361463965:True:=⟨⟩
theorem tw14832659646925512398:True:=⟨⟩
theorem tw9642480246203547912:True:=⟨⟩
theorem tw11931918283646908614:True:=⟨⟩
theorem tw9397017562490477109:True:=⟨⟩
theorem tw15059917014629022394:True:=⟨⟩
theorem tw4927947371108770993:True:=⟨⟩
theorem tw5657931515703916248:True:=⟨⟩
theorem tw7205895575636617080:True:=⟨⟩
theorem tw13135058765949404771:True:=⟨⟩
theorem tw15968848678202421516:True:=⟨⟩
theorem tw1088589479996732829:True:=⟨⟩
theorem tw9022205114861038860:True:=⟨⟩
theorem tw9764797518255496921:True:=⟨⟩
theorem tw8316665608867782698:True:=⟨⟩
theorem tw16694476904998839863:True:=⟨⟩
theorem tw11051709101105081487:True:=⟨⟩
theorem tw13370487131934946175:True:=⟨⟩
theorem tw1323426155142419162:True:=⟨⟩
theorem tw5007245332940595331:True:=⟨⟩
theorem tw14421808642430287336:True:=⟨⟩
theorem tw232827808551559825:True:=⟨⟩
theorem tw2479237469882504799:True:=⟨⟩
theorem tw9285670843845949155:True:=⟨⟩
theorem tw348646849450171363:True:=⟨⟩
theorem tw5884965284304258897:True:=⟨⟩
theorem tw16747629065405408630:True:=⟨⟩
theorem tw11084693905056812178:True:=⟨⟩
theorem tw15670805634923389295:True:=⟨⟩
theorem tw15014361466247048854:True:=⟨⟩
theorem tw9133701021851612117:True:=⟨⟩
theorem tw525001674005675781:True:=⟨⟩
theorem tw3298683737301795645:True:=⟨⟩
theorem tw8111057081096800836:True:=⟨⟩
theorem tw6853843781069519680:True:=⟨⟩
theorem tw1352723322627576488:True:=⟨⟩
theorem tw16573077582942348641:True:=⟨⟩
theorem tw18291108133853008933:True:=⟨⟩
theorem tw11221979260853534587:True:=⟨⟩
theorem tw2412950195513398651:True:=⟨⟩
theorem tw14822214895437561417:True:=⟨⟩
theorem tw1238725946784135233:True:=⟨⟩
theorem tw8203446524507428889:True:=⟨⟩
theorem tw18369841484834026144:True:=⟨⟩
theorem tw14883968960377749705:True:=⟨⟩
theorem tw15145278206449419223:True:=⟨⟩
theorem tw9448091282758670523:True:=⟨⟩
theorem tw1734884918528286522:True:=⟨⟩
theorem tw11375281295658956675:True:=⟨⟩
theorem tw5641124861440336686:True:=⟨⟩
theorem tw11990357761064164650:True:=⟨⟩
theorem tw13283931332471535325:True:=⟨⟩
theorem tw10600613889749566790:True:=⟨⟩
theorem tw11573567738276184859:True:=⟨⟩
theorem tw11889664893073431171:True:=⟨⟩
theorem tw18124843273605240230:True:=⟨⟩
theorem tw15575253945988166476:True:=⟨⟩
theorem tw6223034424235540279:True:=⟨⟩
theorem tw5747321363474778693:True:=⟨⟩
theorem tw4569177814739866521:True:=⟨⟩
theorem tw17740860788197283744:True:=⟨⟩
theorem tw4965207536615798822:True:=⟨⟩
theorem tw12267468486907949403:True:=⟨⟩
theorem tw3140866203998610647:True:=⟨⟩
theorem tw8013882960148741844:True:=⟨⟩
theorem tw4722931859811370693:True:=⟨⟩
theorem tw17136824421941296089:True:=⟨⟩
theorem tw1717485560449817402:True:=⟨⟩
theorem tw4814944892674192296:True:=⟨⟩
theorem tw5888963250497168203:True:=⟨⟩
theorem tw11928815663860865973:True:=⟨⟩
theorem tw7918374967389245632:True:=⟨⟩
theorem tw14970210157437980911:True:=⟨⟩
theorem tw7657994479303150727:True:=⟨⟩
theorem tw3108443244893856389:True:=⟨⟩
theorem tw11533779600810293282:True:=⟨⟩
theorem tw3185962312253278316:True:=⟨⟩
theorem tw3390864358609898268:True:=⟨⟩
theorem tw1585303152785439333:True:=⟨⟩
theorem tw15902913901339227234:True:=⟨⟩
theorem tw282994513109133150:True:=⟨⟩
theorem tw17260577670642009320:True:=⟨⟩
theorem tw16876236935048986776:True:=⟨⟩
theorem tw9241353231930656577:True:=⟨⟩
theorem tw11120492362615346026:True:=⟨⟩
theorem tw3832104259330054055:True:=⟨⟩
theorem tw17103938086974590038:True:=⟨⟩
theorem tw11446199593928302625:True:=⟨⟩
theorem tw11157473214024333158:True:=⟨⟩
theorem tw5187159431361770467:True:=⟨⟩
theorem tw4645612490112672357:True:=⟨⟩
theorem tw1327343985113690801:True:=⟨⟩
theorem tw11273133048781285286:True:=⟨⟩
theorem tw7848317997028865603:True:=⟨⟩
theorem tw8096221689764760052:True:=⟨⟩
theorem tw3804168243799541492:True:=⟨⟩
theorem tw1075291646940621582:True:=⟨⟩
theorem tw13132907815185506690:True:=⟨⟩
theorem tw561872325786274548:True:=⟨⟩
theorem tw12304872625307995750:True:=⟨⟩
theorem tw18173421399050582061:True:=⟨⟩
theorem tw200952908838891698:True:=⟨⟩
theorem tw15198316981687975854:True:=⟨⟩
theorem tw11242623580682996947:True:=⟨⟩
theorem tw7778630667622746703:True:=⟨⟩
theorem tw4049413732980777947:True:=⟨⟩
theorem tw12985212532813657682:True:=⟨⟩
theorem tw14099800850047386279:True:=⟨⟩
theorem tw1668396487359607927:True:=⟨⟩
theorem tw8166991320080258738:True:=⟨⟩
theorem tw9900696922168193843:True:=⟨⟩
theorem tw6176105912117767087:True:=⟨⟩
theorem tw12580110897883145167:True:=⟨⟩
theorem tw14274756557212989909:True:=⟨⟩
theorem tw8728704332973717658:True:=⟨⟩
theorem tw17368901067910498557:True:=⟨⟩
theorem tw6178583632892115015:True:=⟨⟩
theorem tw5440085390276978291:True:=⟨⟩
theorem tw2972125363121769464:True:=⟨⟩
theorem tw15081044799308232511:True:=⟨⟩
theorem tw14523845485542788104:True:=⟨⟩
theorem tw15541118713287057729:True:=⟨⟩
theorem tw1790479274321110595:True:=⟨⟩
theorem tw5870148494974776200:True:=⟨⟩
theorem tw4382491568596388571:True:=⟨⟩
theorem tw8401958774316805891:True:=⟨⟩
theorem tw6709162374183513252:True:=⟨⟩
theorem tw18003279642469066050:True:=⟨⟩
theorem tw2020152571437148077:True:=⟨⟩
theorem tw10535025515247681545:True:=⟨⟩
theorem tw6004053308635427456:True:=⟨⟩
theorem tw7686242042924871683:True:=⟨⟩
theorem tw10793110673356363552:True:=⟨⟩
theorem tw8146785798897364014:True:=⟨⟩
theorem tw2054712967208431000:True:=⟨⟩
theorem tw6717767316833874322:True:=⟨⟩
theorem tw6860577389561355601:True:=⟨⟩
theorem tw785864177541677141:True:=⟨⟩
theorem tw4786962568827011835:True:=⟨⟩
theorem tw4350801690150286559:True:=⟨⟩
theorem tw15519761934197397234:True:=⟨⟩
theorem tw8543756510809834644:True:=⟨⟩
theorem tw2406872565856053176:True:=⟨⟩
theorem tw3138800457800853586:True:=⟨⟩
theorem tw3949192924188805160:True:=⟨⟩
theorem tw16985871876413990642:True:=⟨⟩
theorem tw9976896545867408452:True:=⟨⟩
theorem tw8670540905479144303:True:=⟨⟩
theorem tw1758426702102747128:True:=⟨⟩
theorem tw1216898108829112853:True:=⟨⟩
theorem tw4983024317834737482:True:=⟨⟩
theorem tw12540455083557110006:True:=⟨⟩
theorem tw11885461396599844685:True:=⟨⟩
theorem tw6674347012523051200:True:=⟨⟩
theorem tw5217560924200664910:True:=⟨⟩
theorem tw7159026401054745538:True:=⟨⟩
theorem tw11116879363250112325:True:=⟨⟩
theorem tw6888782338466086140:True:=⟨⟩
theorem tw5689438673786977140:True:=⟨⟩
theorem tw14648276583578725374:True:=⟨⟩
theorem tw7785168158365692624:True:=⟨⟩
theorem tw3737605839529819480:True:=⟨⟩
theorem tw10130366669087276332:True:=⟨⟩
theorem tw6849123771955923804:True:=⟨⟩
theorem tw6405578165278201989:True:=⟨⟩
theorem tw12784588452913835247:True:=⟨⟩
theorem tw12981892083367582941:True:=⟨⟩
theorem tw1298631472846954095:True:=⟨⟩
theorem tw1963270939698246839:True:=⟨⟩
theorem tw18433669859833586122:True:=⟨⟩
theorem tw14737169218283336635:True:=⟨⟩
theorem tw5615934883764171431:True:=⟨⟩
theorem tw16788233547135642414:True:=⟨⟩
theorem tw18074533905802821072:True:=⟨⟩
theorem tw11784725038316003381:True:=⟨⟩
theorem tw7654578318931278690:True:=⟨⟩
theorem tw3477183460249832127:True:=⟨⟩
theorem tw5854907428364158380:True:=⟨⟩
theorem tw10277526245819850656:True:=⟨⟩
theorem tw15284455985751111415:True:=⟨⟩
theorem tw10148431198443102740:True:=⟨⟩
theorem tw5103420120806187630:True:=⟨⟩
theorem tw10942295900298899174:True:=⟨⟩
theorem tw17106608494224303150:True:=⟨⟩
theorem tw3662855561962882218:True:=⟨⟩
theorem tw14849280956162755979:True:=⟨⟩
theorem tw3153289441736887298:True:=⟨⟩
theorem tw13270532327374429287:True:=⟨⟩
theorem tw7899379758991183832:True:=⟨⟩
theorem tw16288533217561068507:True:=⟨⟩
theorem tw11448872678469705673:True:=⟨⟩
theorem tw766856551031688912:True:=⟨⟩
theorem tw4795962037751489161:True:=⟨⟩
theorem tw11563076530477234726:True:=⟨⟩
theorem tw17899929404969355535:True:=⟨⟩
theorem tw596421839371371174:True:=⟨⟩
theorem tw15305453227285626446:True:=⟨⟩
theorem tw12819504698909858696:True:=⟨⟩
theorem tw14204109254541194217:True:=⟨⟩
theorem tw12180536567876656950:True:=⟨⟩
theorem tw7779866328928976063:True:=⟨⟩
theorem tw14539000326390715668:True:=⟨⟩
theorem tw3849640880644552707:True:=⟨⟩
theorem tw6393532188824929214:True:=⟨⟩
theorem tw18118164260907729349:True:=⟨⟩
theorem tw80721349811472939:True:=⟨⟩
theorem tw8486076525276431931:True:=⟨⟩
theorem tw14081932915414352519:True:=⟨⟩
theorem tw18343157571677020557:True:=⟨⟩
theorem tw5646013916729498261:True:=⟨⟩
theorem tw4801688742562958406:True:=⟨⟩
theorem tw7238125184777875665:True:=⟨⟩
theorem tw10331167273965929257:True:=⟨⟩
theorem tw4835796080096327916:True:=⟨⟩
theorem tw549974085012918235:True:=⟨⟩
theorem tw14899674885815798178:True:=⟨⟩
theorem tw100579137028481972:True:=⟨⟩
theorem tw17353201519887301079:True:=⟨⟩
theorem tw17394647144938102915:True:=⟨⟩
theorem tw12254430714555821875:True:=⟨⟩
theorem tw7824222052329908659:True:=⟨⟩
theorem tw2543849888741498996:True:=⟨⟩
theorem tw76700771618905059:True:=⟨⟩
theorem tw2013830700403712203:True:=⟨⟩
theorem tw11536899603342547138:True:=⟨⟩
theorem tw1985402699469526011:True:=⟨⟩
theorem tw9163178095015654352:True:=⟨⟩
theorem tw14984247238865676675:True:=⟨⟩
theorem tw636524550079685631:True:=⟨⟩
theorem tw11233980580357369505:True:=⟨⟩
theorem tw10705108097460422218:True:=⟨⟩
theorem tw3165661143165402847:True:=⟨⟩
theorem tw9305783451064888827:True:=⟨⟩
theorem tw13607757164722159089:True:=⟨⟩
theorem tw15076152544538823220:True:=⟨⟩
theorem tw16136937179128050694:True:=⟨⟩
theorem tw7619113539625694710:True:=⟨⟩
theorem tw3855190133869164905:True:=⟨⟩
theorem tw8026366407565007962:True:=⟨⟩
theorem tw10073190252686323273:True:=⟨⟩
theorem tw13930999109560414629:True:=⟨⟩
theorem tw125183967897747985:True:=⟨⟩
theorem tw14444207656584330654:True:=⟨⟩
theorem tw6656463916972431421:True:=⟨⟩
theorem tw4907521953547317329:True:=⟨⟩
theorem tw10034031380863371641:True:=⟨⟩
theorem tw3527972740633252992:True:=⟨⟩
theorem tw14420213329864412023:True:=⟨⟩
theorem tw12803817524326497440:True:=⟨⟩
theorem tw6900727353157573822:True:=⟨⟩
theorem tw18094267598192979275:True:=⟨⟩
theorem tw2366535826993118143:True:=⟨⟩
theorem tw18068929663759586442:True:=⟨⟩
theorem tw5931688323066260514:True:=⟨⟩
theorem tw12892600551074114502:True:=⟨⟩
theorem tw17314943208353570444:True:=⟨⟩
theorem tw11757652711159077200:True:=⟨⟩
theorem tw17133528431856770972:True:=⟨⟩
theorem tw17772726858579744284:True:=⟨⟩
theorem tw14106571916235994328:True:=⟨⟩
theorem tw5103548895888603802:True:=⟨⟩
theorem tw17469454598705902373:True:=⟨⟩
theorem tw14953325984322379511:True:=⟨⟩
theorem tw7272270352196073673:True:=⟨⟩
theorem tw4899250830898163692:True:=⟨⟩
theorem tw2711446468545577505:True:=⟨⟩
theorem tw5555718599999811639:True:=⟨⟩
theorem tw14839960761635216755:True:=⟨⟩
theorem tw5221675337516389627:True:=⟨⟩
theorem tw14124840197023413450:True:=⟨⟩
theorem tw10252965763247687682:True:=⟨⟩
theorem tw7916160540357663616:True:=⟨⟩
theorem tw4544264296663088324:True:=⟨⟩
theorem tw11333907896045031016:True:=⟨⟩
theorem tw200202858802481044:True:=⟨⟩
theorem tw3468823194966119755:True:=⟨⟩
theorem tw12028550053918628185:True:=⟨⟩
theorem tw14288127532215574351:True:=⟨⟩
theorem tw10856765595117590405:True:=⟨⟩
theorem tw2496985677507960046:True:=⟨⟩
theorem tw8593244855664925795:True:=⟨⟩
theorem tw7514489123796633772:True:=⟨⟩
theorem tw16576222957257545530:True:=⟨⟩
theorem tw4258606087713283508:True:=⟨⟩
theorem tw5750698986362780913:True:=⟨⟩
theorem tw15888951733556516598:True:=⟨⟩
theorem tw6648324312943424196:True:=⟨⟩
theorem tw16447172759540358135:True:=⟨⟩
theorem tw4241227540667249002:True:=⟨⟩
theorem tw15105651507014581045:True:=⟨⟩
theorem tw9526568234960664165:True:=⟨⟩
theorem tw407466490171300439:True:=⟨⟩
theorem tw2891402810631288588:True:=⟨⟩
theorem tw13288577186741363895:True:=⟨⟩
theorem tw4716985721665009587:True:=⟨⟩
theorem tw14929683446248860828:True:=⟨⟩
theorem tw15451204947285891726:True:=⟨⟩
theorem tw15393178847056368160:True:=⟨⟩
theorem tw306535358961565008:True:=⟨⟩
theorem tw1973140245219671491:True:=⟨⟩
theorem tw9514876090768664877:True:=⟨⟩
theorem tw15766547542915688834:True:=⟨⟩
theorem tw1604050991321148793:True:=⟨⟩
theorem tw11931136993785318394:True:=⟨⟩
theorem tw8857914048673524507:True:=⟨⟩
theorem tw6635522753158126860:True:=⟨⟩
theorem tw5919330448614353153:True:=⟨⟩
theorem tw8322597137079436277:True:=⟨⟩
theorem tw11118535126725785944:True:=⟨⟩
theorem tw17590515576409907731:True:=⟨⟩
theorem tw12162639055027808687:True:=⟨⟩
theorem tw5781126440621211168:True:=⟨⟩
theorem tw1694654335647164047:True:=⟨⟩
theorem tw7193976414177721783:True:=⟨⟩
theorem tw13027540482245733427:True:=⟨⟩
theorem tw3440317332850252569:True:=⟨⟩
theorem tw10316705163991428254:True:=⟨⟩
theorem tw10640303290150162726:True:=⟨⟩
theorem tw7395723980069397352:True:=⟨⟩
theorem tw4634341240264483431:True:=⟨⟩
theorem tw12588980310967471357:True:=⟨⟩
theorem tw15151187641303801864:True:=⟨⟩
theorem tw9099960808112739735:True:=⟨⟩
theorem tw6719982252746284739:True:=⟨⟩
theorem tw4942582282674782268:True:=⟨⟩
theorem tw17259241986408110582:True:=⟨⟩
theorem tw497388943360791162:True:=⟨⟩
theorem tw15097909243742831393:True:=⟨⟩
theorem tw9351078540693612215:True:=⟨⟩
theorem tw11904431243951574334:True:=⟨⟩
theorem tw13100642850353945058:True:=⟨⟩
theorem tw6516363680345034613:True:=⟨⟩
theorem tw12221947951091446842:True:=⟨⟩
theorem tw4561188658046838414:True:=⟨⟩
theorem tw1639981616727947583:True:=⟨⟩
theorem tw16739083755425606968:True:=⟨⟩
theorem tw8909644736058714228:True:=⟨⟩
theorem tw10416409784342031977:True:=⟨⟩
theorem tw17558465517493045558:True:=⟨⟩
theorem tw17590853549461521226:True:=⟨⟩
theorem tw8820459466428253018:True:=⟨⟩
theorem tw9844501786611167853:True:=⟨⟩
theorem tw11093295523969242068:True:=⟨⟩
theorem tw18433079168191953831:True:=⟨⟩
theorem tw14074921412963316263:True:=⟨⟩
theorem tw1992558074764385606:True:=⟨⟩
theorem tw44263415142174766:True:=⟨⟩
theorem tw11169558830825096451:True:=⟨⟩
theorem tw10773934983489079739:True:=⟨⟩
theorem tw7234240908195146063:True:=⟨⟩
theorem tw4847766330237268548:True:=⟨⟩
theorem tw12630049722712302456:True:=⟨⟩
theorem tw16365017325966626545:True:=⟨⟩
end all
end
theorem all:PySem.Challenge.rw_wf0108_02.Holds:=by
  w_on
  o_law
  k_head
  (case hw => w_witness2)
  k_fill
  intro w s₀ s₁ mg mb G Y fa o pm cd doc dV kV ho hd hcd hD hmg hg args vals as hpre hlay hrd hwl hlo
  have KX := km_in_of Y
  km_tabs Y
  refine Ground.open G ?_
  intro T B D TE TW
  clear B D TE TW G Y ho hd hcd hD
  wrow_args hpre hlay hrd hwl hlo
  refine Bu T KX ⟨by kernel_rfl,by kernel_rfl,by kernel_rfl,by kernel_rfl,by kernel_rfl,by kernel_rfl,by kernel_rfl,by kernel_rfl,by kernel_rfl,by kernel_rfl,by kernel_rfl,by kernel_rfl,by kernel_rfl,by kernel_rfl,by kernel_rfl,by kernel_rfl,by kernel_rfl,by kernel_rfl,by kernel_rfl,by kernel_rfl,by kernel_rfl,fun x t=>by kernel_rfl,fun x t=>by kernel_rfl,by kernel_rfl,by kernel_rfl,by kernel_rfl,by kernel_rfl⟩ (by kernel_rfl) hT8 hg hmg (by assumption) (by assumption) ?_ ?_
  . exact raisesW_false (by wrow_none_raised)
  . wrow_post
end Mine
theorem PySem.Challenge.cw_wf0108_02_holds : PySem.Challenge.rw_wf0108_02.Holds :=
  Mine.all
